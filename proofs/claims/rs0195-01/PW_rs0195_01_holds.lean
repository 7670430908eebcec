import PyProof.Rows.All
import Wide.All
import OpenK.AllK
import Wide.FinOn
import PySem.Challenge.RW_rs0195_01
set_option maxRecDepth 100000
set_option genInjectivity false
set_option genSizeOf false
set_option genCtorIdx false
set_option Elab.async false
set_option hygiene false
set_option compiler.extract_closed false
set_option bootstrap.genMatcherCode false
open PySem.Challenge renaming pw_rs0195_01 → PW
open List renaming mem_cons → mc, not_mem_nil → nn, map_cons → mp, map_nil → mn, mem_singleton → ms, cons_append → ca, mem_append → mpp, length_append → lap, mem_map_of_mem → mmm
open Int renaming ofNat → zN
open Nat renaming le_trans → nT, le_add_right → lU, le_refl → nR
noncomputable section
namespace Mine
open PySem PySem.Spec PySem.Calls PyProof.Rows PySem.W PySem.W.X
open Sem(wp)
theorem fz{α:Type}{P:α→Prop}:∀x∈([]:List α),P x:=fun _ h=>nomatch h
theorem fc{α:Type}{P:α→Prop}{a:α}{l:List α}(h:P a)(t:∀x∈l,P x):∀x∈a::l,P x:=fun x hx=>by
 cases hx with
 | head=>exact h
 | tail _ h'=>exact t x h'
theorem Z0{α:Type}{a:α}{l:List α}:a∈a::l:=.head _
theorem Z1{α:Type}{a b:α}{l:List α}:b∈a::b::l:=.tail _ Z0
theorem Z2{α:Type}{a b c:α}{l:List α}:c∈a::b::c::l:=.tail _ Z1
theorem Z3{α:Type}{a b c d:α}{l:List α}:d∈a::b::c::d::l:=.tail _ Z2
theorem Z4{α:Type}{a b c d e:α}{l:List α}:e∈a::b::c::d::e::l:=.tail _ Z3
theorem Z5{α:Type}{a b c d e f:α}{l:List α}:f∈a::b::c::d::e::f::l:=.tail _ Z4
theorem Z6{α:Type}{a b c d e f g:α}{l:List α}:g∈a::b::c::d::e::f::g::l:=.tail _ Z5
theorem Qd{a m k n:Nat}(h:a+m<n:=by assumption)(q:Nat.ble k m=true:=by rfl):a+k<n:=Nat.lt_of_le_of_lt (Nat.add_le_add_left (Nat.le_of_ble_eq_true q) a) h
theorem Qr{a:Nat}:a≤a:=Nat.le_refl a
theorem Qs{a b:Nat}:a≤a+b:=Nat.le_add_right a b
theorem Ql{a b k:Nat}(h:k≤a:=by assumption):k≤a+b:=Nat.le_trans h (Nat.le_add_right _ _)
theorem Qa{a i j:Nat}(q:Nat.beq i j=false:=by rfl):a+i≠a+j:=fun h=>Nat.ne_of_beq_eq_false q (Nat.add_left_cancel h)
theorem Qb{a i:Nat}(q:Nat.beq i 0=false:=by rfl):a+i≠a:=Qa (j:=0) q
theorem Qe{a i:Nat}(q:Nat.beq 0 i=false:=by rfl):a≠a+i:=Qa (i:=0) q
theorem Qf{a i j:Nat}(q:Nat.ble i j=true:=by rfl):a+i≤a+j:=Nat.add_le_add_left (Nat.le_of_ble_eq_true q) a
theorem Qg{a i j:Nat}(q:Nat.blt i j=true:=by rfl):a+i<a+j:=Nat.add_lt_add_left (Nat.le_of_ble_eq_true q) a
theorem RE{X Z Y:Nat}(q:X≤Z)(h:Z≤Y:=by with_reducible assumption):X≤Y:=Nat.le_trans q h
theorem RB{X Z Y:Nat}(q:X≤Z)(h:Z<Y:=by with_reducible assumption):X≤Y:=Nat.le_of_lt (Nat.lt_of_le_of_lt q h)
theorem RC{X Z Y:Nat}(q:X≤Z)(h:Z<Y:=by with_reducible assumption):X<Y:=Nat.lt_of_le_of_lt q h
theorem RD{X Z Y:Nat}(q:X<Z)(h:Z≤Y:=by with_reducible assumption):X<Y:=Nat.lt_of_lt_of_le q h
theorem RF{X Y m:Nat}(q:X≤Y):X≤Y+m:=Nat.le_trans q (Nat.le_add_right Y m)
theorem RG{X Y m:Nat}(q:X≤Y)(w:Nat.blt 0 m=true:=by rfl):X<Y+m:=Nat.lt_of_le_of_lt q (Nat.lt_add_of_pos_right (Nat.le_of_ble_eq_true w))
theorem RO{a b j k m n:Nat}(h:b≤a+j:=by with_reducible assumption)(h':a+m<n:=by with_reducible assumption)(q:Nat.ble (j+k) m=true:=by rfl):b+k<n:=Nat.lt_of_le_of_lt (Nat.le_trans (Nat.add_le_add_right h k) (by rw[Nat.add_assoc]; exact Nat.add_le_add_left (Nat.le_of_ble_eq_true q) a)) h'
theorem nmq{x:Nat}{l:List Nat}(h:∀y∈l,x≠y):x∉l:=fun z=>h x z rfl
theorem pc{α:Type}{R:α→α→Prop}{a:α}{l:List α}(h:∀b∈l,R a b)(t:l.Pairwise R):(a::l).Pairwise R:=.cons h t
theorem kA:Value.type "frame"≠.type "tuple":=by simp
theorem kB:Value.type "list"≠.type "tuple":=by simp
theorem kC:Value.type "frame"≠.type "list":=by simp
theorem kD:Value.type "tuple"≠.type "list":=by simp
theorem kE:Value.type "frame"≠.type "code":=by simp
theorem kF:Value.type "list"≠.type "code":=by simp
theorem kG:Value.type "tuple"≠.type "code":=by simp
theorem kH:Value.type "range_iterator"≠.type "tuple":=by simp
theorem kI:Value.type "cell"≠.type "tuple":=by simp
theorem kJ:Value.type "dict"≠.type "tuple":=by simp
theorem Oc{o o':Obj}(h:some o=some o')(q:o.cls≠o'.cls):False:=q (congrArg Obj.cls (Option.some.inj h))
theorem mf{α:Type}{a b:α}{l:List α}:a∈b::l↔b=a∨a∈l:=⟨fun h=>(mc.mp h).imp Eq.symm id,fun h=>mc.mpr (h.imp Eq.symm id)⟩
theorem mg{α:Type}{a b:α}:a∈[b]↔b=a:=⟨fun h=>(ms.mp h).symm,fun h=>ms.mpr h.symm⟩
noncomputable abbrev denZ:Code→Sem Fin:=PySem.W.ZFast.zw11892475500146522536 PySem.W.ZFast.tableZ
theorem denZ_eq(c:Code):denote table c=denZ c:=by
 show denote table c=PySem.W.ZFast.zw11892475500146522536 PySem.W.ZFast.tableZ c
 rw[PySem.W.ZFast.tableZ_eq,PySem.W.ZFast.ze11892475500146522536]
noncomputable abbrev bindArgsZ:FuncData→Args→Sem (List (Str×Value)):=PySem.W.ZFast.zw9782568553167038054
noncomputable abbrev newEnvZ(a:Scope)(b:Addr)(c:List (Str×Addr))(d:List (Str×Value))(e:Str)(f:Option Addr)(g:Value)(h:Option Env)(i:Addr):Sem Env:=PySem.W.ZFast.zw11113344188204177931 a b c d e f g h i
noncomputable abbrev fieldZ:=PySem.W.ZFast.zw6609576154772507232
noncomputable abbrev nsGetZ:Addr→Str→Sem (Option Value):=PySem.W.ZFast.zw13143150168775219229
noncomputable def enterM:Sem Unit:=do
 match ←nsGet cStatics "sys.recursionlimit" with
 | none=>pure ()
 | some _=>unsupported "recursion.limit"
noncomputable def callTailM(self:Addr)(fd:FuncData)(args:Args)(compiled:Str):Sem Fin:=do
 let bs ←bindArgs fd args
 let env ←newFunctionEnv fd.scope fd.globals fd.closure bs (compiled++".<locals>.") (some self) fd.code none fd.builtins
 enterM
 again (match fd.body with|.stmts b=>.func b env|.expr e=>.expr e env)
noncomputable def callFnM(self:Addr)(fd:FuncData)(args:Args):Sem Fin:=match fd.code with
 | .none=>callTailM self fd args fd.qualname
 | c=>do match ←field c 1 with
  | .str q _=>callTailM self fd args q
  | _=>callTailM self fd args fd.qualname
noncomputable def enterZ:Sem Unit:=PySem.W.R.bindR (nsGetZ cStatics {cps:={toList:=[115,121,115,46,114,101,99,117,114,115,105,111,110,108,105,109,105,116]}}) fun r=>match r with
 | none=>.pure ()
 | some _=>.unsupported "recursion.limit"
noncomputable def callTail(self:Addr)(fd:FuncData)(args:Args)(compiled:Str):Sem Fin :=
 PySem.W.R.bindR (bindArgsZ fd args) fun bs=>PySem.W.R.bindR (newEnvZ fd.scope fd.globals fd.closure bs (compiled++{cps:={toList:=[46,60,108,111,99,97,108,115,62,46]}}) (some self) fd.code none fd.builtins) fun env=>PySem.W.R.bindR enterZ fun _ =>
  .pure (.again (match fd.body with|.stmts b=>.func b env|.expr e=>.expr e env))
noncomputable def callFn(self:Addr)(fd:FuncData)(args:Args):Sem Fin:=match fd.code with
 | .none=>callTail self fd args fd.qualname
 | c=>PySem.W.R.bindR (fieldZ c 1) fun r=>match r with
  | .str q _=>callTail self fd args q
  | _=>callTail self fd args fd.qualname
noncomputable def cw:Code→Nat
 | .builtin ..=>1000
 | _=>1
structure Ent where
 rv:Option Value
 c:Code
 k:Result→Sem Fin
 g:Bool
 l:List Value
inductive Md where
 | own (κ:List Ent)
 | gen (κ:List Ent)
structure Eff where
 c:Code
 pre:List (Addr×Obj)
 upd:Option (Addr×Obj)
 new:List Obj
 r:Result
 dt:Nat
 n:Nat
 t:Nat
inductive H where
 | b|m (i:Nat)|s|f|z
 | g (i:Nat)
 | v (v:Value)
 | e (pre:List Nat) (upd:Option (Nat×Obj)) (new:List Obj) (r:Result) (dt:Nat)
noncomputable def hx1(k:Nat):H:=match Nat.beq k 1 with
 | true=>.b
 | false=>match Nat.beq k 2 with
  | true=>.s
  | false=>match Nat.beq k 3 with
   | true=>.z
   | false=>.m (Nat.sub k 4)
noncomputable def hxr(f:Nat):Nat→List H→List H:=Nat.rec (fun _ l=>l) (fun _ r n l=>match Nat.beq n 0 with
 | true=>l
 | false=>hx1 (Nat.mod n 16)::r (Nat.div n 16) l) f
noncomputable def Hx(n:Nat)(l:List H):List H:=hxr 300 n l
noncomputable def H.i(p:List Nat)(r:Value)(d:Nat):H:=.e p none [] (.ok (.ret r)) d
noncomputable def H.u(p:List Nat)(k:Nat)(o:Obj)(r:Value)(d:Nat):H:=.e p (some (k,o)) [] (.ok (.ret r)) d
noncomputable abbrev PL:=List (Nat×Addr×Obj)
noncomputable abbrev rt(v:Value):Result:=.ok (.ret v)
noncomputable def Y0:=0x2247272777444455555552525
noncomputable def Y1:=0x7272777446888882626664444
noncomputable def Y2:=0x344ece2c2cec6ddddd2626662244b9b2929b96262666224462626664422
noncomputable def Y3:=0x44444a88788282888788282888788282882727776
noncomputable def Y4:=0x6664444
noncomputable def Y5:=0x42144441
noncomputable def Y6:=0x344224
noncomputable def Y7:=0x44444977677272777677272777677272772626665
noncomputable def Y8:=0x314444525255541
noncomputable def Y9:=0x8884429292999
noncomputable def Y10:=0x666442229292999
noncomputable def Y11:=0x66444422
noncomputable def Y12:=0x41155544
noncomputable def Y13:=0x77224224
noncomputable def Y14:=0xbbb9989929292aaa2a2
noncomputable def Y15:=0xc5ccaa7aa2a2a2bbb2b2
noncomputable def Y16:=0x52525554
noncomputable def Y17:=0x3424244
noncomputable def Y18:=0x8827272777
noncomputable def Y19:=0x314525255541
noncomputable def Y20:=0x372626642
noncomputable def Y21:=0x422222241142
noncomputable def Y22:=0x44466216666661
noncomputable def Y23:=0x161666697757727277757727277757727277252555
noncomputable def Y24:=0x398882828882828822221155
noncomputable def Y25:=0x398882828882828822221144
noncomputable def Y26:=0x372525544422442
noncomputable def Y27:=0x9998282888c651ccaaaaaaa2a2a2bbb2b2
noncomputable def Y28:=0x317272777c4
noncomputable def Y29:=0x44444497767727277767727277767727277262666
noncomputable def Y30:=0x2525255542424447712242424447224242444721777777771
noncomputable def Y31:=0x315554242444512242424445224242444521555555551
noncomputable def Y32:=0x4666644444a8858828288858828288858828288252555
noncomputable def Y33:=0x315424244451424224242444222115112155551
noncomputable def Y34:=0x61122424244466666a887882828887882828887882828827277766424224242444222116112166666666661
noncomputable def Y35:=0x315555424244451224242444555559776772727776772727776772727726266655424224242444222115112155555555551
noncomputable def Y36:=0x315177bbbd9989929292aaa2a2
noncomputable def Y37:=0x72727775444444b9989929299989929299989929299989929299282888
noncomputable def Y38:=0x3ccceaa7aa2a2a2bbb2b2
noncomputable def U0:Str:=⟨⟨[119,97,121,115]⟩⟩
noncomputable def U1:Str:=⟨⟨[116,101,120,116]⟩⟩
noncomputable def U2:Str:=⟨⟨[114,101,115,116]⟩⟩
noncomputable def U3:Str:=⟨⟨[110,101,116]⟩⟩
noncomputable def U4:Str:=⟨⟨[97,95,100,105,103,105,116,115]⟩⟩
noncomputable def U5:Str:=⟨⟨[112,111,105,110,116,115]⟩⟩
noncomputable def U6:Str:=⟨⟨[99,104,111,115,101,110]⟩⟩
noncomputable def U7:Str:=⟨⟨[115,101,101,110]⟩⟩
noncomputable def U8:Str:=⟨⟨[112,97,105,114,115]⟩⟩
noncomputable def U9:Str:=⟨⟨[116,114,101,101,115]⟩⟩
noncomputable def U10:Str:=⟨⟨[102,108,111,119,115]⟩⟩
noncomputable def U11:Str:=⟨⟨[113,95,100,105,103,105,116,115]⟩⟩
noncomputable def U12:Str:=⟨⟨[112,111,105,110,116]⟩⟩
noncomputable def U13:Str:=⟨⟨[105,110,110,101,114]⟩⟩
noncomputable def U14:Str:=⟨⟨[109,105,100]⟩⟩
noncomputable def U15:Str:=⟨⟨[115,104,105,102,116]⟩⟩
noncomputable def U16:Str:=⟨⟨[115,116,97,114,116]⟩⟩
noncomputable def U17:Str:=⟨⟨[115,121,109,98,111,108,115]⟩⟩
noncomputable def U18:Str:=⟨⟨[112,108,97,99,101]⟩⟩
noncomputable def U19:Str:=⟨⟨[112,97,114,116]⟩⟩
noncomputable def U20:Str:=⟨⟨[116,111,108,100]⟩⟩
noncomputable def U21:Str:=⟨⟨[114,101,115,116,115]⟩⟩
noncomputable def U22:Str:=⟨⟨[114,111,119]⟩⟩
noncomputable def U23:Str:=⟨⟨[100,114,97,119,110]⟩⟩
noncomputable def U24:Str:=⟨⟨[111,104,109,115]⟩⟩
noncomputable def U25:Str:=⟨⟨[115,105,122,101]⟩⟩
structure Acc where
 xs:List Nat
 ys:List Nat
 vs:List (Value×Value)
 es:List Eff
noncomputable abbrev Mem1:=List (Addr×Obj)
inductive Out where
 | ret (r:Result) (M:Mem1) (j i:Nat) (acc:Acc)
 | stop (c':Code) (c:Code) (md:Md) (k:Result→Sem Fin) (g:Bool) (l:List Value) (M:Mem1) (j i:Nat) (acc:Acc)
 | again (c':Code) (md:Md) (M:Mem1) (j i:Nat) (acc:Acc)
 | yld (v:Value) (l:List Value) (k:Resume→Sem Fin) (c:Code) (κ:List Ent) (M:Mem1) (j i:Nat) (acc:Acc)
 | held (c:Code) (md:Md) (t:Sem Fin) (M:Mem1) (j i:Nat) (acc:Acc)
 | need (what:Nat) (a:Nat) (c':Code) (c:Code) (md:Md) (t:Sem Fin) (M:Mem1) (j i:Nat)
 | bad (n:Nat) (a:Nat) (w:String)
structure Stat where
 prog:Program
 w:World
 kt:Nat→Option Obj
 n:Nat
 t₀:Nat
 dp:Nat
noncomputable abbrev K:=Mem1→Nat→Nat→Acc→List H→Out
noncomputable abbrev Cont:=Code→Md→Sem Fin→K
noncomputable def wts:List Ent→Nat
 | []=>0
 | e::κ=>wts κ+cw e.c
noncomputable def nth:Mem1→Nat→Option (Addr×Obj)
 | [],_=>none
 | p::_,0=>some p
 | _::l,n+1=>nth l n
noncomputable def put:Mem1→Nat→Obj→Mem1
 | [],_,_=>[]
 | p::l,0,o=>(p.1,o)::l
 | p::l,n+1,o=>p::put l n o
noncomputable def nths(M:Mem1):List Nat→Option Mem1
 | []=>some []
 | i::r=>(nth M i).bind fun p=>(nths M r).map (p::·)
noncomputable def adds(n:Nat):Nat→List Obj→Mem1→Mem1×Nat
 | j,[],M=>(M,j)
 | j,o::r,M=>adds n (Nat.succ j) r (M++[(n+j,o)])
noncomputable def pushRv(ih:Cont)(r:Result)(e:Ent)(κ:Md):K:=match e.rv with
 | none=>ih e.c κ (e.k r)
 | some v'=>match r with
  | .ok f=>match f with
   | .ret v=>fun M j i acc=>ih e.c κ (e.k (.ok (.ret v'))) M j i ⟨acc.xs,acc.ys,(v,v')::acc.vs,acc.es⟩
   | _=>fun _ _ _ _ _=>.bad 51 0 ""
  | .error _=>fun _ _ _ _ _=>.bad 52 0 ""
noncomputable def retR(ih:Cont)(r:Result)(md:Md):K:=match md with
 | .own κ=>match κ with
  | []=>fun M j i acc _=>.ret r M j i acc
  | p::κ=>pushRv ih r p (.own κ)
 | .gen κ=>match κ with
  | []=>fun M j i acc _=>.ret r M j i acc
  | p::κ=>pushRv ih r p (.gen κ)
noncomputable def pushE(md:Md)(e:Ent):Md:=match md with
 | .own κ=>.own (e::κ)
 | .gen κ=>.gen (e::κ)
noncomputable abbrev og{α:Type}(o:Option α)(n:Nat)(f:α→Out):Out:=match o with
 | some x=>f x
 | none=>.bad n 0 ""
noncomputable abbrev bg(b:Bool)(n:Nat)(x:Out):Out:=match b with
 | true=>x
 | false=>.bad n 0 ""
noncomputable abbrev bf(b:Bool)(n:Nat)(x:Out):Out:=match b with
 | true=>.bad n 0 ""
 | false=>x
noncomputable abbrev fnD(d:Data):Option {fd:FuncData // d=.func fd}:=match d with
 | .func fd=>some ⟨fd,rfl⟩
 | _=>none
noncomputable abbrev callee(c:Code):Option {p:Addr×Args // c=.call (.ref p.1) p.2}:=match c with
 | .call fv args=>match fv with
  | .ref a=>some ⟨(a,args),rfl⟩
  | _=>none
 | _=>none
noncomputable abbrev ownOf(md:Md):Option (List Ent):=match md with
 | .own κ=>some κ
 | .gen _=>none
noncomputable def loadR(S:Stat)(k:Obj→K)(a:Nat)(nd:Mem1→Nat→Nat→Out):K:=fun M j i acc hs=>match hs with
  | []=>nd M j i
  | h::hs=>match h with
   | .b=>og (S.kt a) 1 fun o=>k o M j i acc hs
   | .m x=>og (nth M x) 2 fun p=>k p.2 M j i ⟨a::acc.xs,p.1::acc.ys,acc.vs,acc.es⟩ hs
   | _=>.bad 24 a ""
noncomputable def effR(S:Stat)(ih:Result→K)(c':Code)(pre:List Nat)(upd:Option (Nat×Obj))(new:List Obj)(r:Result)(dt:Nat):K:=fun M j i acc hs =>
 og (nths M pre) 41 fun ps=>match upd with
  | none=>match adds S.n j new M with
   | (M',j')=>ih r M' j' (i+dt) ⟨acc.xs,acc.ys,acc.vs,⟨c',ps,none,new,r,dt,S.n+j,S.t₀+i⟩::acc.es⟩ hs
  | some u=>og (nth M u.1) 42 fun q=>bf u.2.isFreed 43 (match adds S.n j new (put M u.1 u.2)with
   | (M',j')=>ih r M' j' (i+dt) ⟨acc.xs,acc.ys,acc.vs,⟨c',q::ps,some (q.1,u.2),new,r,dt,S.n+j,S.t₀+i⟩::acc.es⟩ hs)
noncomputable def newOk:List Obj→Bool
 | []=>true
 | o::r=>cond o.isFreed false (newOk r)
noncomputable abbrev fnB(S:Stat)(ih:Cont)(c:Code)(md:Md)(k:Result→Sem Fin)(g:Bool)(l:List Value)(fd:FuncData)(a:Addr)(args:Args):K:=fun M j i acc hs =>
 bf fd.scope.isGenerator 37 (bf fd.scope.isCoroutine 37 (og (ownOf md) 46 fun κ=>bg (Nat.ble (wts κ+cw c+1) S.dp) 47 (ih (.call (.ref a) args) (.own (⟨none,c,k,g,l⟩::κ)) (callFn a fd args) M j i acc hs)))
noncomputable def callR(S:Stat)(ih:Cont)(c:Code)(md:Md)(c':Code)(hd:Option Value)(g:Bool)(l:List Value)(k:Result→Sem Fin)(nd:Mem1→Nat→Nat→Out):K:=match hd with
 | some _=>fun _ _ _ _ _=>.bad 29 0 ""
 | none=>fun M j i acc hs=>match hs with
  | []=>nd M j i
  | h::hs=>match h with
   | .s=>ih c' (pushE md ⟨none,c,k,g,l⟩) (denZ c') M j i acc hs
   | .v v=>ih c' (pushE md ⟨some v,c,k,g,l⟩) (denZ c') M j i acc hs
   | .z=>.stop c' c md k g l M j i acc
   | .e pre upd new r dt=>bg (newOk new) 44 (effR S (fun r=>ih c md (k r)) c' pre upd new r dt M j i acc hs)
   | .f=>og (callee c') 34 fun p=>og (S.kt p.1.1) 35 fun ob=>og (fnD ob.data) 36 fun fd=>fnB S ih c md k g l fd.1 p.1.1 p.1.2 M j i acc hs
   | .g x=>og (callee c') 34 fun p=>og (nth M x) 35 fun q=>og (fnD q.2.data) 36 fun fd=>fnB S ih c md k g l fd.1 p.1.1 p.1.2 M j i ⟨p.1.1::acc.xs,q.1::acc.ys,acc.vs,acc.es⟩ hs
   | _=>.bad 30 0 ""
noncomputable def stepR(S:Stat)(ih:Cont)(c:Code)(md:Md)(t:Sem Fin):K:=match t with
 | .pure fin=>match fin with
  | .done f=>retR ih (.ok f) md
  | .again c'=>fun M j i acc hs=>match hs with
   | []=>.need 3 0 c' c md t M j i
   | h::hs=>match h with
    | .s=>bg c'.quiet 38 (ih c' md (denZ c') M j i acc hs)
    | .z=>bg c'.quiet 38 (.again c' md M j i acc)
    | _=>.bad 23 0 ""
 | .raise e=>retR ih (.error e) md
 | .rule _ k=>ih c md (k ())
 | .at _ k=>ih c md (k ())
 | .point _ k=>ih c md (k ())
 | .ask k=>ih c md (k ⟨S.prog,S.w.params⟩)
 | .load a q k=>fun M j i acc hs=>match hs with
  | []=>loadR S (fun o=>ih c md (k o)) a (.need 1 a default c md (.load a q k)) M j i acc []
  | h::hs=>match h with
   | .z=>.held c md (.load a q k) M j i acc
   | h=>loadR S (fun o=>ih c md (k o)) a (.need 1 a default c md (.load a q k)) M j i acc (h::hs)
 | .loadIfAlive a k=>loadR S (fun o=>ih c md (k (some o))) a (.need 1 a default c md t)
 | .alloc o k=>fun M j i acc hs=>bf o.isFreed 25 (ih c md (k (S.n+j)) (M++[(S.n+j,o)]) (Nat.succ j) i acc hs)
 | .update a _ f k=>fun M j i acc hs=>match hs with
  | []=>.need 2 a default c md t M j i
  | h::hs=>match h with
   | .m x=>og (nth M x) 3 fun p=>bf (f p.2).isFreed 26 (ih c md (k ()) (put M x (f p.2)) j i ⟨a::acc.xs,p.1::acc.ys,acc.vs,acc.es⟩ hs)
   | _=>.bad 27 a ""
 | .fresh k=>fun M j i acc hs=>ih c md (k (S.t₀+i)) M j (Nat.succ i) acc hs
 | .handled own k=>match own with
  | false=>ih c md (k none)
  | true=>fun _ _ _ _ _=>.bad 28 0 ""
 | .call c' hd g l k=>callR S ih c md c' hd g l k (.need 0 0 c' c md t)
 | .yield v gd l k=>fun M j i acc _=>match md with
  | .own _=>.bad 31 0 ""
  | .gen κ=>match gd with
   | true=>.bad 32 0 ""
   | false=>bf (κ.any (·.g)) 45 (.yld v l k c κ M j i acc)
 | .stack k=>fun M j i acc hs=>match hs with
  | []=>.need 4 0 default c md t M j i
  | h::_=>match h with
   | .z=>.held c md (.stack k) M j i acc
   | _=>.bad 49 0 ""
 | .newGen c' k=>fun M j i acc hs=>match hs with
  | []=>.bad 48 0 ""
  | h::_=>match h with
   | .z=>.held c md (.newGen c' k) M j i acc
   | _=>.bad 48 0 ""
 | .unsupported w=>fun _ _ _ _ _=>.bad 99 0 w
 | _=>fun _ _ _ _ _=>.bad 33 0 ""
noncomputable def runR(S:Stat)(n:Nat):Cont:=Nat.rec (fun _ _ _ _ _ _ _ _=>.bad 40 0 "") (fun _ ih=>stepR S ih) n
noncomputable abbrev acc0:Acc:=⟨[],[],[],[]⟩
noncomputable def startT(S:Stat)(c:Code)(md:Md)(t:Sem Fin)(M:Mem1)(hs:List H):Out:=runR S 1000000 c md t M 0 0 acc0 hs
noncomputable def startC(S:Stat)(c:Code)(md:Md)(M:Mem1)(hs:List H):Out:=startT S c md (denZ c) M hs
noncomputable def startF(S:Stat)(fa:Addr)(args:Args)(M:Mem1)(hs:List H):Out:=og (S.kt fa) 60 fun ob=>og (fnD ob.data) 61 fun fd=>bf fd.1.scope.isGenerator 62 (bf fd.1.scope.isCoroutine 62 (startT S (.call (.ref fa) args) (.own []) (callFn fa fd.1 args) M hs))
noncomputable def startH(S:Stat)(x:Nat)(args:Args)(M:Mem1)(hs:List H):Out:=og (nth M x) 60 fun p=>og (fnD p.2.data) 61 fun fd=>bf fd.1.scope.isGenerator 62 (bf fd.1.scope.isCoroutine 62 (startT S (.call (.ref p.1) args) (.own []) (callFn p.1 fd.1 args) M hs))
noncomputable def startG(S:Stat)(fa:Addr)(args:Args)(M:Mem1)(hs:List H):Out:=og (S.kt fa) 60 fun ob=>og (fnD ob.data) 61 fun fd=>bg fd.1.scope.isGenerator 62 (bf fd.1.scope.isCoroutine 62 (startT S (.call (.ref fa) args) (.own []) (callFn fa fd.1 args) M hs))
local macro_rules |`(tactic|infer_instance)=>`(tactic|first|with_reducible assumption|exact Qr|exact Qs|exact Qf|exact Qg|exact RO|((first|refine RE ?_|refine RB ?_|refine RC ?_|refine RD ?_|refine RF ?_|refine RG ?_|refine And.intro ?_ ?_)<;>infer_instance)|(refine Nat.ne_of_lt ?_;infer_instance)|(refine Nat.ne_of_gt ?_;infer_instance))
local macro_rules |`(tactic|omega)=>`(tactic|first|assumption|exact Qd|exact Ql|exact Qa|exact Qb|exact Qe|infer_instance|lia)
local macro_rules |`(tactic|trivial)=>`(tactic|(repeat' (first|exact List.Pairwise.nil|refine List.Pairwise.cons ?_ ?_|refine fc ?_ ?_|exact fz|omega)))
theorem strZ:("sys.recursionlimit":Str)={cps:={toList:=[115,121,115,46,114,101,99,117,114,115,105,111,110,108,105,109,105,116]}}:=by decide +kernel
theorem locZ:(".<locals>.":Str)={cps:={toList:=[46,60,108,111,99,97,108,115,62,46]}}:=by decide +kernel
theorem enterZ_eq:enterM=enterZ:=by
 unfold enterM enterZ
 rw[show @nsGet=nsGetZ from PySem.W.ZFast.ze13143150168775219229,strZ]
 show Sem.bind _ _=_
 rw[PySem.W.R.bindR_eq]
 rfl
theorem callTail_eq(a:Addr)(fd:FuncData)(args:Args)(x:Str):callTailM a fd args x=callTail a fd args x:=by
 unfold callTailM callTail
 rw[enterZ_eq,show @bindArgs=bindArgsZ from PySem.W.ZFast.ze9782568553167038054,locZ,PySem.W.ZFast.ze11113344188204177931,←PySem.W.R.bindR_eq]
 rfl
theorem callFn_eq(a:Addr)(fd:FuncData)(args:Args):callFnM a fd args=callFn a fd args:=by
 unfold callFnM callFn
 rw[PySem.W.ZFast.ze6609576154772507232,←PySem.W.R.bindR_eq]
 split
 ·exact callTail_eq ..
 ·refine congrArg (Sem.bind _) (funext fun r=>?_)
  split<;>exact callTail_eq ..
section
variable{M:Model}{Γ:PySem.Ctx}{A:Around}
theorem wp_enter{Q:Unit→Pos→Shared→Prop}{E:Value→Pos→Shared→Prop}{p:Pos}{s:Shared}(hΓ:Γ.In A)(hd:A.depth<recursionLimit)
  (h:wp M Γ (nsGet cStatics "sys.recursionlimit") (fun r p' s'=>r=none∧Q () p' s') E p s):wp M Γ enterFrame Q E p s:=by
 have hsum:((((Γ.code,p)::Γ.below).map (·.1)).map (·.frames)).sum+((((Γ.code,p)::Γ.below).map (·.1)).filter Code.isCreation).length<recursionLimit:=by
  have hge:=frameCount_ge ((Γ.code,p)::Γ.below)
  rw[frameCount_cons]at hge
  have:=hΓ.2.1
  omega
 have hlt:¬((((Γ.code,p)::Γ.below).map (·.1)).map (·.frames)).sum ≥ recursionLimit:=by omega
 have hlt':¬((((Γ.code,p)::Γ.below).map (·.1)).map (·.frames)).sum+((((Γ.code,p)::Γ.below).map (·.1)).filter Code.isCreation).length ≥ recursionLimit:=by omega
 delta enterFrame
 rw[Sem.wp_bind']
 show wp M Γ (currentRecursionLimit>>=_) _ _ p s
 delta currentRecursionLimit
 rw[Sem.wp_bind',Sem.wp_bind']
 show wp M Γ (nsGet cStatics "sys.recursionlimit") _ _ p s
 refine Sem.wp_mono M Γ _ (fun r p' s' hr=>?_) (fun _ _ _ x=>x) p s h
 obtain⟨rfl,hq⟩:=hr
 show wp M Γ (if nearTheLimitUnderAClaim (((Γ.code,p)::Γ.below).map (·.1)) (((((Γ.code,p)::Γ.below).map (·.1)).map (·.frames)).sum+((((Γ.code,p)::Γ.below).map (·.1)).filter Code.isCreation).length) recursionLimit=true then _ else _) _ _ p' s'
 rw[if_neg (by rw[not_nearTheLimit hΓ hd]; exact Bool.false_ne_true)]
 show wp M Γ (if((((Γ.code,p)::Γ.below).map (·.1)).map (·.frames)).sum ≥ recursionLimit then _ else _) _ _ p' s'
 rw[if_neg hlt]
 show wp M Γ (if((((Γ.code,p)::Γ.below).map (·.1)).map (·.frames)).sum+((((Γ.code,p)::Γ.below).map (·.1)).filter Code.isCreation).length ≥ recursionLimit then _ else _) _ _ p' s'
 rw[if_neg hlt']; exact hq
theorem wp_enterM{Q:Unit→Pos→Shared→Prop}{E:Value→Pos→Shared→Prop}{p:Pos}{s:Shared}(hΓ:Γ.In A)(hd:A.depth<recursionLimit)
  (h:wp M Γ enterM Q E p s):wp M Γ enterFrame Q E p s:=by
 refine wp_enter hΓ hd ?_
 unfold enterM at h
 rw[Sem.wp_bind']at h
 refine Sem.wp_mono M Γ _ (fun r p' s' hr=>?_) (fun _ _ _ x=>x) p s h
 cases r with
 | none=>exact⟨rfl,by simpa using hr⟩
 | some v=>exact absurd hr (by simp[unsupported])
theorem wp_callTail{Q:PySem.Fin→Pos→Shared→Prop}{E:Value→Pos→Shared→Prop}{p:Pos}{s:Shared}(hΓ:Γ.In A)(hd:A.depth<recursionLimit)
  {a:Addr} {fd:FuncData} {args:Args} {x:Str} (h:wp M Γ (callTailM a fd args x) Q E p s) :
  wp M Γ (do
   let bs ←bindArgs fd args
   let env ←newFunctionEnv fd.scope fd.globals fd.closure bs (x++".<locals>.") (some a) fd.code none fd.builtins
   enterFrame
   again (match fd.body with|.stmts b=>.func b env|.expr e=>.expr e env)) Q E p s:=by
 unfold callTailM at h
 rw[Sem.wp_bind']at h ⊢
 refine Sem.wp_mono M Γ _ (fun bs p' s' hb=>?_) (fun _ _ _ x=>x) p s h
 rw[Sem.wp_bind']at hb ⊢
 refine Sem.wp_mono M Γ _ (fun env p'' s'' he=>?_) (fun _ _ _ x=>x) p' s' hb
 rw[Sem.wp_bind']at he ⊢
 exact wp_enterM hΓ hd he
theorem vstr{α:Type}{X Y:Str→Sem α}{Q:α→Pos→Shared→Prop}{E:Value→Pos→Shared→Prop}{p:Pos}{s:Shared}(key:∀x p s,wp M Γ (X x) Q E p s→wp M Γ (Y x) Q E p s){d:Str}{c:Value}
  (h:wp M Γ (do
   match ←field c 1 with
   | .str q _=>X q
   | _=>X d) Q E p s) :
  wp M Γ (do
   match ←field c 1 with
   | .str q _=>Y q
   | _=>Y d) Q E p s:=by
 rw[Sem.wp_bind']at h ⊢
 refine Sem.wp_mono M Γ _ (fun r p' s' hr=>?_) (fun _ _ _ x=>x) p s h
 cases r with
 | str q t=>exact key _ _ _ hr
 | _=>exact key _ _ _ hr
noncomputable abbrev cfY(a:Addr)(fd:FuncData)(args:Args)(x:Str):Sem PySem.Fin:=do
 let bs ←bindArgs fd args
 let env ←newFunctionEnv fd.scope fd.globals fd.closure bs (x++".<locals>.") (some a) fd.code none fd.builtins
 enterFrame
 let code:Code:=match fd.body with
  | .stmts b=>.func b env
  | .expr e=>.expr e env
 match fd.scope.isGenerator,fd.scope.isCoroutine with
 | false,false=>again code
 | true,false=>ret (←newGenerator code fd.name fd.qualname)
 | false,true=>ret (←newCoroutine code fd.name fd.qualname)
 | true,true=>ret (←newAsyncGenerator code fd.name fd.qualname)
theorem cKey{Q:PySem.Fin→Pos→Shared→Prop}{E:Value→Pos→Shared→Prop}(hΓ:Γ.In A)(hd:A.depth<recursionLimit)
  {a:Addr} {fd:FuncData} {args:Args} (hg:fd.scope.isGenerator=false) (hc:fd.scope.isCoroutine=false) :
  ∀x p s,wp M Γ (callTailM a fd args x) Q E p s→wp M Γ (cfY a fd args x) Q E p s:=fun x p s h=>by
 unfold cfY
 rw[hg,hc]
 exact wp_callTail hΓ hd h
theorem wp_callFn{Q:PySem.Fin→Pos→Shared→Prop}{E:Value→Pos→Shared→Prop}{p:Pos}{s:Shared}(hΓ:Γ.In A)(hd:A.depth<recursionLimit)
  {a:Addr} {fd:FuncData} {args:Args} (hg:fd.scope.isGenerator=false) (hc:fd.scope.isCoroutine=false) (h:wp M Γ (callFnM a fd args) Q E p s) :
  wp M Γ (callFunction a fd args) Q E p s:=by
 obtain⟨f1,f2,f3,f4,f5,f6,f7,f8,f9,f10,f11,f12,code,f14,f15⟩:=fd
 cases code with
 | none=>exact cKey hΓ hd hg hc _ _ _ h
 | _=>exact vstr (X:=callTailM a _ args) (Y:=cfY a _ args) (cKey hΓ hd hg hc) h
end
theorem dle{c:Prop}[Decidable c]{a:c→Nat}{b:¬c→Nat}{k:Nat}(h1:∀h,a h≤k)(h2:∀h,b h≤k):dite c a b≤k:=by
 split
 ·exact h1 _
 ·exact h2 _
theorem ile{c:Prop}[Decidable c]{k:Nat}:(if c then k else 0)≤k:=dle (fun _=>nR _) (fun _=>Nat.zero_le _)
theorem fr_le(id:String)(args:Args):(Code.builtin id args).frames≤3:=by
 unfold Code.frames Code.frames.match_1
 dsimp only
 iterate 12 (try (refine dle (fun h=>?_) (fun _=>?_); (subst h; decide)))
 exact nT ile (by decide)
theorem fr_le3(c:Code):c.frames≤3:=by
 cases c with
 | builtin id args=>exact fr_le id args
 | _=>first|exact Nat.le_of_ble_eq_true rfl|exact nT (ile (k:=1)) (by decide)
theorem cw_le(c:Code):c.weight≤cw c:=by
 cases c with
 | builtin id args =>
  exact nT (Nat.add_le_add (Nat.add_le_add (Nat.add_le_add (fr_le id args) ile) ile) ile) (by decide:3+1+1+300≤1000)
 | _=>first|exact nR 1|exact ile (k:=1)|exact Nat.zero_le 1
structure Tgt where
 A₀:Around
 R₀:Result→Shared→Prop
 P₀:End→Shared→Prop
 h₀:Heap
 K:List Addr
 g:Array GenState
 d:Drawn
 os:OsState
noncomputable def pushes(h:Heap):List Obj→Heap
 | []=>h
 | o::r=>pushes (h.push o) r
noncomputable def Eff.heap(e:Eff)(h:Heap):Heap:=pushes (match e.upd with|none=>h|some u=>h.update u.1 (fun _=>u.2)) e.new
noncomputable def Eff.Ok(prog:Program)(w:World)(e:Eff):Prop :=
 ∀(A:Around) (s:Shared) (R:Result→Shared→Prop),A.handled=none→(∀p∈e.pre,s.heap.get? p.1=some p.2)→s.heap.objs.size=e.n→s.toks=e.t →
  R e.r {s with heap:=e.heap s.heap,toks:=s.toks+e.dt}→codeAny (model prog w) A e.c R s
structure Acc.Ok(prog:Program)(w:World)(a:Acc):Prop where
 adr:a.xs=a.ys
 val:∀p∈a.vs,p.1=p.2
 eff:∀e∈a.es,e.Ok prog w
structure RepR(S:Stat)(T:Tgt)(h:Heap)(M:Mem1)(j:Nat):Prop where
 size:h.objs.size=S.n+j
 own:∀p∈M,h.get? p.1=some p.2
 nd:(M.map (·.1)).Nodup
 off:∀p∈M,S.kt p.1=none
 keep:∀a o,T.h₀.get? a=some o→(∀p∈M,p.1≠a)→h.get? a=some o
 hi:∀p∈M,S.n≤p.1∨p.1∈T.K
structure Stat.Ok(S:Stat)(T:Tgt):Prop where
 kt:∀a o,S.kt a=some o→T.h₀.get? a=some o
 low:∀a o,S.kt a=some o→a<S.n
 hd:T.A₀.handled=none
 dp:T.A₀.depth+S.dp<recursionLimit
noncomputable def ar(A₀:Around):List Ent→Around
 | []=>A₀
 | e::κ=>(ar A₀ κ).under e.c
noncomputable def er(prog:Program)(w:World)(A₀:Around)(R₀:Result→Shared→Prop):List Ent→Result→Shared→Prop
 | []=>R₀
 | e::κ=>postR prog w (ar A₀ κ) e.c (postC prog w (ar A₀ κ) (er prog w A₀ R₀ κ)) (postE (er prog w A₀ R₀ κ)) e.k
inductive Bears:List Ent→List Frame→Prop
 | nil:Bears [] []
 | cons {e:Ent} {κ:List Ent} {fs:List Frame} (p:Pos):Bears κ fs→Bears (e::κ) (.ret e.k none e.g e.l e.c p []::fs)
noncomputable def Means1(S:Stat)(T:Tgt)(c:Code)(md:Md)(t:Sem PySem.Fin)(s:Shared):Prop:=match md with
 | .own κ=>wpOwn (model S.prog S.w) (ar T.A₀ κ) c t (postC S.prog S.w (ar T.A₀ κ) (er S.prog S.w T.A₀ T.R₀ κ)) (postE (er S.prog S.w T.A₀ T.R₀ κ)) s
 | .gen κ=>∀fs,Bears κ fs→SegX (model S.prog S.w) T.A₀ c t fs s T.P₀
noncomputable def Post(S:Stat)(T:Tgt)(gen:Bool):Out→Prop
 | .ret r M j i acc=>acc.Ok S.prog S.w∧∀h,RepR S T h M j→(match gen with|false=>T.R₀ r ⟨h,T.g,T.d,S.t₀+i,T.os⟩|true=>T.P₀ (.ret r) ⟨h,T.g,T.d,S.t₀+i,T.os⟩)
 | .stop c' c md k g l M j i acc=>acc.Ok S.prog S.w∧∀h,RepR S T h M j→Means1 S T c md (.call c' none g l k) ⟨h,T.g,T.d,S.t₀+i,T.os⟩
 | .again c' md M j i acc=>acc.Ok S.prog S.w∧∀h,RepR S T h M j→Means1 S T c' md (denote table c') ⟨h,T.g,T.d,S.t₀+i,T.os⟩
 | .yld v l k c κ M j i acc=>acc.Ok S.prog S.w∧∀h p fs,RepR S T h M j→Bears κ fs→T.P₀ (.susp v false l k c p fs) ⟨h,T.g,T.d,S.t₀+i,T.os⟩
 | .held c md t M j i acc=>acc.Ok S.prog S.w∧∀h,RepR S T h M j→Means1 S T c md t ⟨h,T.g,T.d,S.t₀+i,T.os⟩
 | .need ..=>False
 | .bad ..=>False
noncomputable def Md.isGen:Md→Bool
 | .own _=>false
 | .gen _=>true
noncomputable abbrev Snd(S:Stat)(T:Tgt)(ih:Cont):Prop:=∀c md t M j i acc hs,Post S T md.isGen (ih c md t M j i acc hs)→acc.Ok S.prog S.w∧∀h,RepR S T h M j→Means1 S T c md t ⟨h,T.g,T.d,S.t₀+i,T.os⟩
section
variable{S:Stat}{T:Tgt}
theorem nth_mem{M:Mem1}:∀{x:Nat} {p:Addr×Obj},nth M x=some p→p∈M:=by
 induction M with
 | nil=>intro x p h; cases x<;>cases h
 | cons q M ih =>
  intro x p h
  cases x with
  | zero =>
   have:q=p:=Option.some.inj h
   rw[this]; exact .head _
  | succ x=>exact .tail _ (ih (x:=x) h)
theorem put_keys{M:Mem1}:∀{x:Nat} {o:Obj},(put M x o).map (·.1)=M.map (·.1):=by
 induction M with
 | nil=>intro x o; cases x<;>rfl
 | cons q M ih =>
  intro x o
  cases x with
  | zero=>rfl
  | succ x =>
   show q.1::(put M x o).map (·.1)=_
   rw[ih]; rfl
theorem put_mem{M:Mem1}{o:Obj}{p:Addr×Obj}:∀{x:Nat},nth M x=some p→(M.map (·.1)).Nodup→∀q∈put M x o,q=(p.1,o)∨(q∈M∧q.1≠p.1):=by
 induction M with
 | nil=>intro x h; cases x<;>cases h
 | cons a M ih =>
  intro x h nd q hq
  rw[mp,List.nodup_cons]at nd
  cases x with
  | zero =>
   have:a=p:=Option.some.inj h
   subst this
   rcases mc.mp hq with rfl|hq
   ·exact .inl rfl
   ·exact .inr ⟨.tail _ hq,fun e=>nd.1 (e▸mmm hq)⟩
  | succ x =>
   have hm:=nth_mem (M:=M) (x:=x) h
   rcases mc.mp hq with rfl|hq
   ·exact .inr ⟨.head _,fun e=>nd.1 (by have e':q.1=p.1:=e; rw[e']; exact mmm hm)⟩
   ·rcases ih (x:=x) h nd.2 q hq with h1|h1
    ·exact .inl h1
    ·exact .inr ⟨.tail _ h1.1,h1.2⟩
theorem nths_mem:∀{M:Mem1} {xs:List Nat} {ps:Mem1},nths M xs=some ps→∀p∈ps,p∈M
 | _,[],_,h,p,hp=>by cases h; cases hp
 | M,x::xs,ps,h,p,hp=>by
  obtain⟨q,hq,h⟩:=Option.bind_eq_some_iff.mp (show(nth M x).bind (fun p=>(nths M xs).map (p::·))=some ps from h)
  obtain⟨qs,hqs,e⟩:=Option.map_eq_some_iff.mp h
  rw[←e]at hp
  cases hp with
  | head=>exact nth_mem hq
  | tail _ hp=>exact nths_mem hqs p hp
theorem RepR.alloc(O:S.Ok T){h:Heap}{M:Mem1}{j:Nat}(D:RepR S T h M j){o:Obj}(hf:o.isFreed=false):RepR S T (h.push o) (M++[(S.n+j,o)]) (Nat.succ j):=by
 have hne:∀p∈M,p.1≠S.n+j:=fun p hp=>Nat.ne_of_lt (D.size▸Heap.lt_size (D.own p hp))
 refine⟨by rw[Heap.size_push,D.size]; rfl,fun p hp=>?_,?_,fun p hp=>?_,fun a o' e q=>?_,fun p hp=>?_⟩
 ·rcases mpp.mp hp with hp|hp
  ·exact Heap.get?_push_of_some _ (D.own p hp)
  ·rw[mg]at hp
   subst hp
   rw[←D.size]; exact Heap.get?_push_size _ hf
 ·rw[List.map_append,List.nodup_append]
  refine⟨D.nd,by simp,fun a ha b hb=>?_⟩
  obtain⟨p,hp,rfl⟩:=List.mem_map.mp ha
  simp only[mp,mn,mg]at hb
  subst hb
  exact hne p hp
 ·rcases mpp.mp hp with hp|hp
  ·exact D.off p hp
  ·rw[mg]at hp
   subst hp
   cases q:S.kt (S.n+j)with
   | none=>rfl
   | some o'=>exact absurd (O.low _ _ q) (by omega)
 ·exact Heap.get?_push_of_some _ (D.keep a o' e fun p hp=>q p (mpp.mpr (.inl hp)))
 ·rcases mpp.mp hp with hp|hp
  ·exact D.hi p hp
  ·rw[mg]at hp
   subst hp
   exact .inl (lU ..)
theorem RepR.update{h:Heap}{M:Mem1}{j:Nat}(D:RepR S T h M j){x:Nat}{p:Addr×Obj}{f:Obj→Obj}(hx:nth M x=some p)(hf:(f p.2).isFreed=false):
  RepR S T (h.update p.1 f) (put M x (f p.2)) j:=by
 have hm:=nth_mem hx
 have hp:=D.own p hm
 have hs:Heap.SameBut p.1 h (h.update p.1 f):=Heap.SameBut.update ..
 have ge:(h.update p.1 f).get? p.1=some (f p.2):=by first|exact Heap.get?_update_self f hp hf|exact Heap.get?_update_self _ hp hf
 refine⟨by rw[hs.1,D.size],fun q hq=>?_,by rw[put_keys]; exact D.nd,fun q hq=>?_,fun a o' e q=>?_,fun q hq=>?_⟩
 ·rcases put_mem hx D.nd q hq with rfl|⟨h1,h2⟩
  ·exact ge
  ·exact(hs.2 _ h2).trans (D.own q h1)
 ·rcases put_mem hx D.nd q hq with rfl|⟨h1,h2⟩
  ·exact D.off p hm
  ·exact D.off q h1
 ·have keys:∀q∈M,q.1≠a:=fun y hy=>by
   have:y.1∈(put M x (f p.2)).map (·.1):=by rw[put_keys]; exact mmm hy
   obtain⟨z,hz,hz'⟩:=List.mem_map.mp this
   rw[←hz']; exact q z hz
  exact(hs.2 a (Ne.symm (keys p hm))).trans (D.keep a o' e keys)
 ·rcases put_mem hx D.nd q hq with rfl|⟨h1,h2⟩
  ·exact D.hi p hm
  ·exact D.hi q h1
theorem RepR.adds(O:S.Ok T){new:List Obj}:∀{h:Heap} {M:Mem1} {j:Nat},RepR S T h M j→newOk new=true→RepR S T (pushes h new) (Mine.adds S.n j new M).1 (Mine.adds S.n j new M).2:=by
 induction new with
 | nil=>intro _ _ _ D _; exact D
 | cons o r ih =>
  intro h M j D hn
  have hn:cond o.isFreed false (newOk r)=true:=hn
  cases hf:o.isFreed with
  | true=>rw[hf]at hn; cases hn
  | false=>rw[hf]at hn; exact ih (RepR.alloc O D hf) hn
theorem ar_depth(A₀:Around):∀κ:List Ent,(ar A₀ κ).depth≤A₀.depth+wts κ
 | []=>nR _
 | e::κ=>by
  have:=ar_depth A₀ κ
  have h2:=cw_le e.c
  show(ar A₀ κ).depth+e.c.weight≤A₀.depth+(wts κ+cw e.c)
  omega
theorem ar_handled(A₀:Around):∀κ:List Ent,(ar A₀ κ).handled=A₀.handled
 | []=>rfl
 | _::κ=>ar_handled A₀ κ
theorem bears_marks:∀{κ:List Ent} {fs:List Frame},Bears κ fs→(marksOver fs (none,none)).1=none∧(marksOver fs (none,none)).2=none
 | _,_,.nil=>⟨rfl,rfl⟩
 | _,_,.cons _ b=>by
  have:=bears_marks b
  simp only[marksOver,List.foldr_cons]at this ⊢
  generalize List.foldr Frame.marks (none,none) _=x at this ⊢
  obtain⟨x1,x2⟩:=x
  obtain⟨rfl,rfl⟩:=this
  exact⟨rfl,rfl⟩
end
section
variable{S:Stat}{T:Tgt}
theorem pushRv_sound{ih:Cont}(IH:Snd S T ih){r:Result}{e:Ent}{κ:Md}{M:Mem1}{j i:Nat}{acc:Acc}{hs:List H}(H:Post S T κ.isGen (pushRv ih r e κ M j i acc hs)):
  acc.Ok S.prog S.w∧∀h,RepR S T h M j→Means1 S T e.c κ (e.k r) ⟨h,T.g,T.d,S.t₀+i,T.os⟩:=by
 obtain⟨rv,c,k,g,l⟩:=e
 cases rv with
 | none=>exact IH _ _ _ _ _ _ _ _ H
 | some v' =>
  cases r with
  | error e=>cases H
  | ok f =>
   cases f with
   | ret v =>
    obtain⟨A,z⟩:=IH _ _ _ _ _ _ _ _ H
    have e1:v=v':=A.val (v,v') Z0
    subst e1
    exact⟨⟨A.adr,fun p hp=>A.val p (.tail _ hp),A.eff⟩,z⟩
   | _=>cases H
theorem retR_sound{ih:Cont}(IH:Snd S T ih){r:Result}{c:Code}{md:Md}{t:Sem PySem.Fin}(ht:t=leafOf r){M:Mem1}{j i:Nat}{acc:Acc}{hs:List H}(H:Post S T md.isGen (retR ih r md M j i acc hs)):
  acc.Ok S.prog S.w∧∀h,RepR S T h M j→Means1 S T c md t ⟨h,T.g,T.d,S.t₀+i,T.os⟩:=by
 subst ht
 cases md with
 | own κ =>
  cases κ with
  | nil =>
   refine⟨H.1,fun h D=>?_⟩
   have z:=H.2 h D
   cases r with
   | ok f=>exact y_pure _ _ _ _ _ _ _ _ _ (y_done _ _ _ _ _ _ z)
   | error e=>exact y_raise _ _ _ _ _ _ _ _ _ (y_err _ _ _ z)
  | cons e κ =>
   obtain⟨A,z⟩:=pushRv_sound IH (κ:=.own κ) H
   refine⟨A,fun h D=>?_⟩
   have z:=z h D
   cases r with
   | ok f=>exact y_pure _ _ _ _ _ _ _ _ _ (y_done _ _ _ _ _ _ z)
   | error e=>exact y_raise _ _ _ _ _ _ _ _ _ (y_err _ _ _ z)
 | gen κ =>
  cases κ with
  | nil =>
   refine⟨H.1,fun h D fs b=>?_⟩
   cases b
   exact s_end _ _ _ _ _ _ r _ rfl (H.2 h D)
  | cons e κ =>
   obtain⟨A,z⟩:=pushRv_sound IH (κ:=.gen κ) H
   refine⟨A,fun h D fs b=>?_⟩
   cases b with
   | cons p b=>exact s_pop _ _ _ _ _ _ _ r _ rfl _ _ _ _ _ _ _ (z h D _ b)
theorem load_means{c:Code}{md:Md}{a:Addr}{q:Option Value}{k:Obj→Sem PySem.Fin}{o:Obj}{h:Heap}{i:Nat}(ho:h.get? a=some o)
  (z:Means1 S T c md (k o) ⟨h,T.g,T.d,S.t₀+i,T.os⟩):Means1 S T c md (.load a q k) ⟨h,T.g,T.d,S.t₀+i,T.os⟩:=by
 cases md with
 | own κ=>exact y_load _ _ _ _ _ _ _ _ _ _ _ _ _ _ _ _ ho z
 | gen κ=>exact fun fs b=>s_load _ _ _ _ _ _ _ _ _ _ _ _ _ _ _ ho (z fs b)
theorem alive_means{c:Code}{md:Md}{a:Addr}{k:Option Obj→Sem PySem.Fin}{o:Obj}{h:Heap}{i:Nat}(ho:h.get? a=some o)
  (z:Means1 S T c md (k (some o)) ⟨h,T.g,T.d,S.t₀+i,T.os⟩):Means1 S T c md (.loadIfAlive a k) ⟨h,T.g,T.d,S.t₀+i,T.os⟩:=by
 cases md with
 | own κ=>exact y_alive _ _ _ _ _ _ _ _ _ _ _ _ _ _ _ ho z
 | gen κ=>exact fun fs b=>s_alive _ _ _ _ _ _ _ _ _ _ _ _ _ _ ho (z fs b)
theorem RepR.base(O:S.Ok T){h:Heap}{M:Mem1}{j:Nat}(D:RepR S T h M j){a:Addr}{o:Obj}(e:S.kt a=some o):h.get? a=some o :=
 D.keep a o (O.kt a o e) fun p hp x=>by
  have:=D.off p hp
  rw[x,e]at this; cases this
theorem og_inv{α:Type}{o:Option α}{n:Nat}{f:α→Out}{gn:Bool}(H:Post S T gn (og o n f)):∃x,o=some x∧Post S T gn (f x):=by
 cases o with
 | none=>cases H
 | some x=>exact⟨x,rfl,H⟩
theorem bg_inv{b:Bool}{n:Nat}{x:Out}{gn:Bool}(H:Post S T gn (bg b n x)):b=true∧Post S T gn x:=by
 cases b with
 | false=>cases H
 | true=>exact⟨rfl,H⟩
theorem bf_inv{b:Bool}{n:Nat}{x:Out}{gn:Bool}(H:Post S T gn (bf b n x)):b=false∧Post S T gn x:=by
 cases b with
 | true=>cases H
 | false=>exact⟨rfl,H⟩
theorem ownOf_eq{κ:List Ent}:∀{md:Md},ownOf md=some κ→md=.own κ:=by
 intro md h
 cases md with
 | own κ=>cases h; rfl
 | gen κ=>cases h
theorem loadR_sound(O:S.Ok T){kk:Obj→K}{W:Obj→Shared→Prop}{gn:Bool}(IH:∀o M j i acc hs,Post S T gn (kk o M j i acc hs)→acc.Ok S.prog S.w∧∀h,RepR S T h M j→W o ⟨h,T.g,T.d,S.t₀+i,T.os⟩)
  {a:Nat} {nd:Mem1→Nat→Nat→Out} (hnd:∀M j i,¬Post S T gn (nd M j i)) {M:Mem1} {j i:Nat} {acc:Acc} {hs:List H} (H:Post S T gn (loadR S kk a nd M j i acc hs)) :
  acc.Ok S.prog S.w∧∀h,RepR S T h M j→∃o,h.get? a=some o∧W o ⟨h,T.g,T.d,S.t₀+i,T.os⟩:=by
 cases hs with
 | nil=>exact absurd H (hnd _ _ _)
 | cons hd hs =>
  cases hd with
  | b =>
   obtain⟨o,e,H⟩:=og_inv H
   obtain⟨A,z⟩:=IH _ _ _ _ _ _ H
   exact⟨A,fun h D=>⟨o,D.base O e,z h D⟩⟩
  | m x =>
   obtain⟨p,e,H⟩:=og_inv H
   obtain⟨A,z⟩:=IH _ _ _ _ _ _ H
   have e1:a::acc.xs=p.1::acc.ys:=A.adr
   obtain⟨e2,e3⟩:=List.cons.inj e1
   exact⟨⟨e3,A.val,A.eff⟩,fun h D=>⟨p.2,e2▸D.own p (nth_mem e),z h D⟩⟩
  | _=>cases H
theorem call_means{c:Code}{md:Md}{c':Code}{g:Bool}{l:List Value}{k:Result→Sem PySem.Fin}{rv:Option Value}{s:Shared}
  (z:Means1 S T c' (pushE md ⟨rv,c,k,g,l⟩) (denote table c') s):Means1 S T c md (.call c' none g l k) s:=by
 cases md with
 | own κ=>exact y_call _ _ _ _ _ _ _ _ _ _ _ _ _ (by intro h; cases h) (y_code _ _ _ _ _ _ z)
 | gen κ=>exact fun fs b=>s_call _ _ _ _ _ _ _ _ _ _ _ _ fun p=>z _ (.cons p b)
theorem eff_means(O:S.Ok T){c:Code}{md:Md}{e:Eff}{g:Bool}{l:List Value}{k:Result→Sem PySem.Fin}{s:Shared}(ok:e.Ok S.prog S.w)(hp:∀p∈e.pre,s.heap.get? p.1=some p.2)(hn:s.heap.objs.size=e.n)(ht:s.toks=e.t)
  (z:Means1 S T c md (k e.r) {s with heap:=e.heap s.heap,toks:=s.toks+e.dt}):Means1 S T c md (.call e.c none g l k) s:=by
 cases md with
 | own κ =>
  refine y_call _ _ _ _ _ _ _ _ _ _ _ _ _ (by intro h; cases h) (ok _ _ _ ?_ hp hn ht z)
  show(ar T.A₀ κ).handled=none
  rw[ar_handled,O.hd]
 | gen κ =>
  intro fs b
  refine s_cmd _ _ _ _ _ _ (m:=Sem.call e.c none g l .pure) (k:=k) (x_call (ok _ _ _ ?_ hp hn ht ?_) (by intro h; cases h))
  ·show(marksOver fs (T.A₀.handled,T.A₀.handled)).1=none
   rw[O.hd]
   exact(bears_marks b).1
  ·exact wpAny_pure (z fs b)
end
section
variable{S:Stat}{T:Tgt}
theorem pushE_gen(md:Md)(e:Ent):(pushE md e).isGen=md.isGen:=by cases md<;>rfl
theorem effR_sound(O:S.Ok T){ih:Result→K}{c:Code}{md:Md}{c':Code}{g:Bool}{l:List Value}{k:Result→Sem PySem.Fin}
  (IH:∀r M j i acc hs,Post S T md.isGen (ih r M j i acc hs)→acc.Ok S.prog S.w∧∀h,RepR S T h M j→Means1 S T c md (k r) ⟨h,T.g,T.d,S.t₀+i,T.os⟩)
  {pre:List Nat} {upd:Option (Nat×Obj)} {new:List Obj} {r:Result} {dt:Nat} (hnew:newOk new=true) {M:Mem1} {j i:Nat} {acc:Acc} {hs:List H}
  (H:Post S T md.isGen (effR S ih c' pre upd new r dt M j i acc hs)) :
  acc.Ok S.prog S.w∧∀h,RepR S T h M j→Means1 S T c md (.call c' none g l k) ⟨h,T.g,T.d,S.t₀+i,T.os⟩:=by
 obtain⟨ps,e1,H⟩:=og_inv H
 cases upd with
 | none =>
  obtain⟨A,z⟩:=IH _ _ _ _ _ _ H
  have ok:=A.eff _ Z0
  refine⟨⟨A.adr,A.val,fun e he=>A.eff e (.tail _ he)⟩,fun h D=>?_⟩
  have D':=D.adds O hnew
  have z:=z _ D'
  refine eff_means O ok (fun p hp=>D.own p (nths_mem e1 p hp)) D.size rfl ?_
  show Means1 S T c md (k r) ⟨pushes h new,T.g,T.d,S.t₀+i+dt,T.os⟩
  rw[Nat.add_assoc]; exact z
 | some u =>
  obtain⟨q,e2,H⟩:=og_inv H
  obtain⟨e3,H⟩:=bf_inv H
  obtain⟨A,z⟩:=IH _ _ _ _ _ _ H
  have ok:=A.eff _ Z0
  refine⟨⟨A.adr,A.val,fun e he=>A.eff e (.tail _ he)⟩,fun h D=>?_⟩
  have D':=(D.update (f:=fun _=>u.2) e2 e3).adds O hnew
  have z:=z _ D'
  refine eff_means O ok (fun p hp=>?_) D.size rfl ?_
  ·rcases mc.mp hp with rfl|hp
   ·exact D.own p (nth_mem e2)
   ·exact D.own p (nths_mem e1 p hp)
  ·show Means1 S T c md (k r) ⟨pushes (h.update q.1 fun _=>u.2) new,T.g,T.d,S.t₀+i+dt,T.os⟩
   rw[Nat.add_assoc]; exact z
theorem load_fn{M:Model}{Γ:PySem.Ctx}{A:Around}{Q:PySem.Fin→Pos→Shared→Prop}{E:Value→Pos→Shared→Prop}{p:Pos}{s:Shared}{a:Addr}{args:Args}{ob:Obj}{fd:FuncData}(hΓ:Γ.In A)(hd:A.depth<recursionLimit)(e1:s.heap.get? a=some ob)(e2:ob.data=.func fd)
  (e3:fd.scope.isGenerator=false) (e4:fd.scope.isCoroutine=false) (zz:wp M Γ (callFn a fd args) Q E p s):wp M Γ (denote table (.call (.ref a) args)) Q E p s:=by
 show wp _ Γ (PySem.load a>>=_) _ _ p _
 rw[Sem.wp_bind']
 refine(Sem.wp_load_of _ Γ _ p _ e1 _).mpr ?_
 rw[e2]
 rw[←callFn_eq]at zz
 exact wp_callFn hΓ hd e3 e4 zz
theorem in_of{Γ:PySem.Ctx}{A:Around}{c:Code}(hc:Γ.code=c)(hΓ:Γ.Below A):Γ.In (A.under c):=by
 have:=hΓ.in
 rwa [hc]at this
theorem fn_means(O:S.Ok T){c:Code}{κ:List Ent}{a:Addr}{args:Args}{g:Bool}{l:List Value}{k:Result→Sem PySem.Fin}{ob:Obj}{fd:FuncData}{s:Shared}(e1:s.heap.get? a=some ob)(e2:ob.data=.func fd)
  (e3:fd.scope.isGenerator=false) (e4:fd.scope.isCoroutine=false) (e5:Nat.ble (wts κ+cw c+1) S.dp=true)
  (zz:Means1 S T (.call (.ref a) args) (.own (⟨none,c,k,g,l⟩::κ)) (callFn a fd args) s):Means1 S T c (.own κ) (.call (.call (.ref a) args) none g l k) s:=by
 refine y_call _ _ _ _ _ _ _ _ _ _ _ _ _ (by intro h; cases h) (y_code _ _ _ _ _ _ ?_)
 show wpOwn (model S.prog S.w) ((ar T.A₀ κ).under c) (.call (.ref a) args) (denote table (.call (.ref a) args)) _ _ _
 intro Γ p hc hΓ
 have zz:=zz Γ p hc hΓ
 refine load_fn (in_of hc hΓ) ?_ e1 e2 e3 e4 zz
 have d1:=ar_depth T.A₀ κ
 have d2:=cw_le c
 have d3:=cw_le (.call (.ref a) args)
 have d4:cw (.call (.ref a) args)=1:=rfl
 have d5:=Nat.le_of_ble_eq_true e5
 have d6:=O.dp
 show(ar T.A₀ κ).depth+c.weight+(Code.call (.ref a) args).weight<recursionLimit
 omega
theorem fnB_sound(O:S.Ok T){ih:Cont}(IH:Snd S T ih){c:Code}{md:Md}{g:Bool}{l:List Value}{k:Result→Sem PySem.Fin}{fd:FuncData}{a:Addr}{args:Args}{ob:Obj}(e2:ob.data=.func fd){M:Mem1}{j i:Nat}{acc:Acc}{hs:List H}
  (H:Post S T md.isGen (fnB S ih c md k g l fd a args M j i acc hs)):acc.Ok S.prog S.w∧∀h,RepR S T h M j→h.get? a=some ob→Means1 S T c md (.call (.call (.ref a) args) none g l k) ⟨h,T.g,T.d,S.t₀+i,T.os⟩:=by
 obtain⟨e3,H⟩:=bf_inv H
 obtain⟨e4,H⟩:=bf_inv H
 obtain⟨κ,e,H⟩:=og_inv H
 cases ownOf_eq e
 obtain⟨e5,H⟩:=bg_inv H
 obtain⟨A,z⟩:=IH _ _ _ _ _ _ _ _ (show Post S T (Md.isGen (.own (⟨none,c,k,g,l⟩::κ))) _ from H)
 exact⟨A,fun h D e1=>fn_means O e1 e2 e3 e4 e5 (z h D)⟩
theorem callR_sound(O:S.Ok T){ih:Cont}(IH:Snd S T ih){c:Code}{md:Md}{c':Code}{hd:Option Value}{g:Bool}{l:List Value}{k:Result→Sem PySem.Fin}
  {nd:Mem1→Nat→Nat→Out} (hnd:∀gn M j i,¬Post S T gn (nd M j i)) {M:Mem1} {j i:Nat} {acc:Acc} {hs:List H} (H:Post S T md.isGen (callR S ih c md c' hd g l k nd M j i acc hs)) :
  acc.Ok S.prog S.w∧∀h,RepR S T h M j→Means1 S T c md (.call c' hd g l k) ⟨h,T.g,T.d,S.t₀+i,T.os⟩:=by
 cases hd with
 | some v=>cases H
 | none =>
  cases hs with
  | nil=>exact absurd H (hnd _ _ _ _)
  | cons x hs =>
   cases x with
   | s =>
    obtain⟨A,z⟩:=IH _ _ _ _ _ _ _ _ (by rw[pushE_gen]; exact H)
    exact⟨A,fun h D=>call_means (by rw[denZ_eq]; exact z h D)⟩
   | v v =>
    obtain⟨A,z⟩:=IH _ _ _ _ _ _ _ _ (by rw[pushE_gen]; exact H)
    exact⟨A,fun h D=>call_means (by rw[denZ_eq]; exact z h D)⟩
   | z=>exact⟨H.1,H.2⟩
   | e pre upd new r dt =>
    obtain⟨e1,H⟩:=bg_inv H
    exact effR_sound O (fun r=>IH c md (k r)) e1 H
   | f =>
    obtain⟨⟨p,rfl⟩,-,H⟩:=og_inv H
    obtain⟨ob,e1,H⟩:=og_inv H
    obtain⟨fd,e2,H⟩:=og_inv H
    obtain⟨A,z⟩:=fnB_sound O IH fd.2 H
    exact⟨A,fun h D=>z h D (D.base O e1)⟩
   | g x =>
    obtain⟨⟨p,rfl⟩,-,H⟩:=og_inv H
    obtain⟨q,e1,H⟩:=og_inv H
    obtain⟨fd,e2,H⟩:=og_inv H
    obtain⟨A,z⟩:=fnB_sound O IH fd.2 H
    have e6:p.1::acc.xs=q.1::acc.ys:=A.adr
    obtain⟨e7,e8⟩:=List.cons.inj e6
    exact⟨⟨e8,A.val,A.eff⟩,fun h D=>z h D (e7▸D.own q (nth_mem e1))⟩
   | _=>cases H
theorem again_means{c c':Code}{md:Md}{s:Shared}(hq:c'.quiet=true)(z:Means1 S T c' md (denote table c') s):Means1 S T c md (.pure (.again c')) s:=by
 cases md with
 | own κ=>exact y_pure _ _ _ _ _ _ _ _ _ (y_again _ _ _ _ _ _ hq (y_code _ _ _ _ _ _ z))
 | gen κ=>exact fun fs b=>s_again _ _ _ _ _ _ _ _ hq (z fs b)
theorem skip_means{c:Code}{md:Md}{t t':Sem PySem.Fin}{s:Shared}(e:skim ⟨S.prog,S.w.params⟩ 1 t=t')(z:Means1 S T c md t' s):Means1 S T c md t s:=by
 subst e
 cases md with
 | own κ=>exact y_skim _ _ _ _ _ _ _ _ _ 1 z
 | gen κ=>exact fun fs b=>s_skim _ _ _ _ _ _ _ _ 1 (z fs b)
theorem bears_any:∀{κ:List Ent} {fs:List Frame},Bears κ fs→fs.any Frame.guarded=κ.any (·.g)∧splitAtGen fs=none
 | _,_,.nil=>⟨rfl,rfl⟩
 | _,_,.cons (e:=e) p b=>by
  obtain⟨h1,h2⟩:=bears_any b
  refine⟨?_,?_⟩
  ·rw[List.any_cons,List.any_cons,h1]; rfl
  ·unfold splitAtGen
   rw[h2]
   first|rfl|simp
set_option maxHeartbeats 1000000 in
theorem stepR_sound(O:S.Ok T){ih:Cont}(IH:Snd S T ih):Snd S T (stepR S ih):=by
 intro c md t M j i acc hs H
 cases t with
 | pure fin =>
  cases fin with
  | done f=>exact retR_sound IH rfl H
  | again c' =>
   cases hs with
   | nil=>cases H
   | cons x hs =>
    cases x with
    | s =>
     obtain⟨q,H⟩:=bg_inv H
     obtain⟨A,z⟩:=IH _ _ _ _ _ _ _ _ H
     exact⟨A,fun h D=>again_means q (by rw[denZ_eq]; exact z h D)⟩
    | z =>
     obtain⟨q,H⟩:=bg_inv H
     exact⟨H.1,fun h D=>again_means q (H.2 h D)⟩
    | _=>cases H
 | raise e=>exact retR_sound IH rfl H
 | rule tag k =>
  obtain⟨A,z⟩:=IH _ _ _ _ _ _ _ _ H
  exact⟨A,fun h D=>skip_means rfl (z h D)⟩
 | «at» q k =>
  obtain⟨A,z⟩:=IH _ _ _ _ _ _ _ _ H
  exact⟨A,fun h D=>skip_means rfl (z h D)⟩
 | point l k =>
  obtain⟨A,z⟩:=IH _ _ _ _ _ _ _ _ H
  exact⟨A,fun h D=>skip_means rfl (z h D)⟩
 | ask k =>
  obtain⟨A,z⟩:=IH _ _ _ _ _ _ _ _ H
  exact⟨A,fun h D=>skip_means rfl (z h D)⟩
 | load a q k =>
  have key:Post S T md.isGen (loadR S (fun o=>ih c md (k o)) a (.need 1 a default c md (.load a q k)) M j i acc hs)→acc.Ok S.prog S.w∧∀h,RepR S T h M j→Means1 S T c md (.load a q k) ⟨h,T.g,T.d,S.t₀+i,T.os⟩:=by
   intro H
   obtain⟨A,z⟩:=loadR_sound O (kk:=fun o=>ih c md (k o)) (nd:=.need 1 a default c md (.load a q k)) (W:=fun o s=>Means1 S T c md (k o) s) (fun o M j i acc hs h=>IH _ _ _ _ _ _ _ _ h) (by intro _ _ _ h; exact h) H
   exact⟨A,fun h D=>by obtain⟨o,ho,zz⟩:=z h D; exact load_means ho zz⟩
  cases hs with
  | nil=>exact key H
  | cons x hs =>
   cases x with
   | z=>exact H
   | _=>exact key H
 | loadIfAlive a k =>
  obtain⟨A,z⟩:=loadR_sound O (kk:=fun o=>ih c md (k (some o))) (nd:=.need 1 a default c md (.loadIfAlive a k)) (W:=fun o s=>Means1 S T c md (k (some o)) s) (fun o M j i acc hs h=>IH _ _ _ _ _ _ _ _ h) (by intro _ _ _ h; exact h) H
  exact⟨A,fun h D=>by obtain⟨o,ho,zz⟩:=z h D; exact alive_means ho zz⟩
 | alloc o k =>
  obtain⟨hf,H⟩:=bf_inv H
  obtain⟨A,z⟩:=IH _ _ _ _ _ _ _ _ H
  refine⟨A,fun h D=>?_⟩
  have zz:=z _ (D.alloc O hf)
  cases md with
  | own κ=>exact wpOwn_bind (m:=PySem.alloc o) (f:=k) (wpOwn_of_wpAny (wpAny_alloc (by rw[D.size]; exact zz)))
  | gen κ=>exact fun fs b=>s_cmd _ _ _ _ _ _ (m:=PySem.alloc o) (k:=k) (wpAny_alloc (by rw[D.size]; exact zz fs b))
 | update a q f k =>
  cases hs with
  | nil=>cases H
  | cons x hs =>
   cases x with
   | m x =>
    obtain⟨p,e,H⟩:=og_inv H
    obtain⟨hf,H⟩:=bf_inv H
    obtain⟨A,z⟩:=IH _ _ _ _ _ _ _ _ H
    have e1:a::acc.xs=p.1::acc.ys:=A.adr
    obtain⟨e2,e3⟩:=List.cons.inj e1
    refine⟨⟨e3,A.val,A.eff⟩,fun h D=>?_⟩
    have zz:=z _ (D.update e hf)
    rw[←e2]at zz
    have ho:=D.own p (nth_mem e)
    rw[←e2]at ho
    cases md with
    | own κ=>exact wpOwn_bind (m:=updatePart a q f) (f:=k) (wpOwn_of_wpAny (wpAny_updatePart ho zz))
    | gen κ=>exact fun fs b=>s_cmd _ _ _ _ _ _ (m:=updatePart a q f) (k:=k) (wpAny_updatePart ho (zz fs b))
   | _=>cases H
 | fresh k =>
  obtain⟨A,z⟩:=IH _ _ _ _ _ _ _ _ H
  refine⟨A,fun h D=>?_⟩
  have zz:=z h D
  cases md with
  | own κ=>exact y_fresh _ _ _ _ _ _ _ _ _ _ _ _ _ zz
  | gen κ=>exact fun fs b=>s_fresh _ _ _ _ _ _ _ _ _ _ _ _ (zz fs b)
 | handled own k =>
  cases own with
  | true=>cases H
  | false =>
   obtain⟨A,z⟩:=IH _ _ _ _ _ _ _ _ H
   refine⟨A,fun h D=>?_⟩
   have zz:=z h D
   cases md with
   | own κ =>
    refine y_handled _ _ _ _ _ _ _ _ _ ?_
    rw[ar_handled,O.hd]; exact zz
   | gen κ =>
    intro fs b
    refine s_handled _ _ _ _ _ _ _ _ ?_
    have:(T.A₀.over c fs).handled=none:=by
     show(marksOver fs (T.A₀.handled,T.A₀.handled)).1=none
     rw[O.hd]; exact(bears_marks b).1
    rw[this]; exact zz fs b
 | call c' hd g l k=>exact callR_sound O IH (by intro _ _ _ _ h; exact h) H
 | yield v gd l k =>
  cases md with
  | own κ=>cases H
  | gen κ =>
   cases gd with
   | true=>cases H
   | false =>
    obtain⟨e,H⟩:=bf_inv H
    refine⟨H.1,fun h D fs b=>?_⟩
    obtain⟨b1,b2⟩:=bears_any b
    exact s_yield _ _ _ _ _ _ _ _ _ _ b2 (b1.trans e) fun p=>H.2 h p fs D b
 | stack k =>
  cases hs with
  | nil=>cases H
  | cons x hs =>
   cases x with
   | z=>exact H
   | _=>cases H
 | unsupported=>cases H
 | finish=>cases H
 | register=>cases H
 | choose=>cases H
 | os=>cases H
 | newGen c' k =>
  cases hs with
  | nil=>cases H
  | cons x hs =>
   cases x with
   | z=>exact H
   | _=>cases H
 | genState=>cases H
 | resume=>cases H
 | fork=>cases H
 | thread=>cases H
 | await=>cases H
theorem runR_sound(O:S.Ok T):∀n,Snd S T (runR S n)
 | 0=>fun _ _ _ _ _ _ _ _ H=>by cases H
 | n+1=>stepR_sound O (runR_sound O n)
end
noncomputable def n1:Nat:=10139888712337904147300001983332972444938612
noncomputable def n2:Nat:=2510650655181157320538776789020469319833841985448949215332
noncomputable def fT(b1 b2:Bool)(f:String→Bool)(s:String):Bool:=match PySem.W.S.eqLit n1 s with
 | true=>b1
 | false=>match PySem.W.S.eqLit n2 s with
  | true=>b2
  | false=>f s
noncomputable def wB(b1 b2:Bool)(w:World):World:={w with params:={w.params with followText:=fT b1 b2 w.params.followText}}
theorem fT_eq(f:String→Bool):fT (f "special-get-raises") (f "comprehension-iter-twice") f=f:=by
 funext s
 have h1:=congrFun (PySem.W.S.eqLit_eq "special-get-raises" n1 (by decide +kernel)) s
 have h2:=congrFun (PySem.W.S.eqLit_eq "comprehension-iter-twice" n2 (by decide +kernel)) s
 unfold fT
 cases e1:PySem.W.S.eqLit n1 s with
 | true =>
  have:s="special-get-raises":=by
   rw[e1]at h1; exact eq_of_beq h1
  rw[this]
 | false =>
  dsimp only
  cases e2:PySem.W.S.eqLit n2 s with
  | true =>
   have:s="comprehension-iter-twice":=by
    rw[e2]at h2; exact eq_of_beq h2
   rw[this]
  | false=>rfl
theorem wB_eq(w:World):∃b1 b2,wB b1 b2 w=w:=by
 refine⟨w.params.followText "special-get-raises",w.params.followText "comprehension-iter-twice",?_⟩
 unfold wB
 rw[fT_eq]
noncomputable def oC:Out→Code|.stop c ..=>c|.again c ..=>c|_=>default
noncomputable def oCc:Out→Code|.stop _ c ..=>c|.yld _ _ _ c ..=>c|.held c ..=>c|_=>default
noncomputable def oMd:Out→Md|.held _ md ..=>md|.stop _ _ md ..=>md|.again _ md ..=>md|_=>.own []
noncomputable def oT:Out→Sem PySem.Fin|.held _ _ t ..=>t|_=>.unsupported ""
noncomputable def oK:Out→Result→Sem PySem.Fin|.stop _ _ _ k ..=>k|_=>fun _=>.unsupported ""
noncomputable def oG:Out→Bool|.stop _ _ _ _ g ..=>g|_=>false
noncomputable def oL:Out→List Value|.stop _ _ _ _ _ l ..=>l|.yld _ l ..=>l|_=>[]
noncomputable def oV:Out→Value|.yld v ..=>v|_=>.none
noncomputable def oR:Out→Result|.ret r ..=>r|_=>.error .none
noncomputable def oYK:Out→Resume→Sem PySem.Fin|.yld _ _ k ..=>k|_=>fun _=>.unsupported ""
noncomputable def oKap:Out→List Ent|.yld _ _ _ _ κ ..=>κ|_=>[]
noncomputable def oM:Out→Mem1|.held _ _ _ M ..=>M|.ret _ M ..=>M|.stop _ _ _ _ _ _ M ..=>M|.again _ _ M ..=>M|.yld _ _ _ _ _ M ..=>M|_=>[]
noncomputable def oJ:Out→Nat|.held _ _ _ _ j ..=>j|.ret _ _ j ..=>j|.stop _ _ _ _ _ _ _ j ..=>j|.again _ _ _ j ..=>j|.yld _ _ _ _ _ _ j ..=>j|_=>0
noncomputable def oI:Out→Nat|.held _ _ _ _ _ i _=>i|.ret _ _ _ i _=>i|.stop _ _ _ _ _ _ _ _ i _=>i|.again _ _ _ _ i _=>i|.yld _ _ _ _ _ _ _ i _=>i|_=>0
noncomputable def oAcc:Out→Acc|.held _ _ _ _ _ _ a=>a|.ret _ _ _ _ a=>a|.stop _ _ _ _ _ _ _ _ _ a=>a|.again _ _ _ _ _ a=>a|.yld _ _ _ _ _ _ _ _ a=>a|_=>acc0
noncomputable def kh(P:Params)(x:Str):Int:=match x.cps.isEmpty with|true=>0|false=>PySem.W.ZFast.zw12210062019545310541 (P.strHash x.cps)
noncomputable def fr(P:Params)(es:List (Str×Tok×Value)):Obj:=⟨.type "frame",none,.dict ⟨es.map fun e=>⟨kh P e.1,.str e.1 e.2.1,e.2.2⟩⟩ es.length,#[]⟩
noncomputable def tup(vs:List Value):Obj:=⟨.type "tuple",none,.seq ⟨vs⟩ 0,#[]⟩
noncomputable def lst(vs:List Value)(n:Nat):Obj:=⟨.type "list",none,.seq ⟨vs⟩ n,#[]⟩
noncomputable def idx:List (Nat×Addr×Obj)→List Nat
 | []=>[]
 | p::r=>p.1::idx r
noncomputable def nthI(M:Mem1):List Nat→List (Option (Addr×Obj))
 | []=>[]
 | i::r=>nth M i::nthI M r
noncomputable def nthAll(M:Mem1)(ps:List (Nat×Addr×Obj)):List (Option (Addr×Obj)):=nthI M (idx ps)
noncomputable def rT(l:List Nat)(o:Out):Out×List Nat×List (Value×Value)×List Eff×Result×List (Option (Addr×Obj)):=(o,(oAcc o).xs,(oAcc o).vs,(oAcc o).es,oR o,nthI (oM o) l)
noncomputable def somes:List (Nat×Addr×Obj)→List (Option (Addr×Obj))
 | []=>[]
 | p::r=>some p.2::somes r
noncomputable abbrev RetIs(o:Out)(vs:List (Value×Value))(es:List Eff)(r:Result)(ps:List (Nat×Addr×Obj)):Prop :=
 rT (idx ps) o=(.ret (oR o) (oM o) (oJ o) (oI o) (oAcc o),(oAcc o).ys,vs,es,r,somes ps)
noncomputable def dLe(x y:Int):Bool:=@decide (x≤y) (Z.leZ x y)
noncomputable def dLt(x y:Int):Bool:=@decide (x<y) (Z.ltZ x y)
noncomputable def dEq(x y:Int):Bool:=@decide (x=y) (Z.eqZ x y)
theorem dLe_eq(x y:Int):dLe x y=decide (x≤y):=by unfold dLe; congr
theorem dLt_eq(x y:Int):dLt x y=decide (x<y):=by unfold dLt; congr
theorem dEq_eq(x y:Int):dEq x y=decide (x=y):=by unfold dEq; congr
noncomputable def kt1(kt:Params→KT)(P:Params)(a:Nat):Option Obj:=match Nat.beq a 51 with
 | true=>none
 | false=>match Nat.beq a 58 with
  | true=>none
  | false=>match Nat.beq a 159 with
   | true=>none
   | false=>(kt P).get a
structure Wd where
 b1:Bool
 b2:Bool
 w₀:World
noncomputable abbrev Wd.w(W:Wd):World:=wB W.b1 W.b2 W.w₀
noncomputable abbrev Wd.M(W:Wd):Model:=model PW W.w
noncomputable def nP(L:List ((Params→KT)→Wd→Prop)):Nat→(Params→KT)→Wd→Prop:=List.rec (fun _ _ _=>True) (fun a _ f i=>Nat.rec a (fun j _=>f j) i) L
abbrev nF L kt:=∀i W,nP L i kt W
theorem nz{kt:Params→KT}:nF [] kt:=fun _ _=>trivial
theorem nc{a:(Params→KT)→Wd→Prop}{l}{kt:Params→KT}(h:∀W,a kt W)(t:nF l kt):nF (a::l) kt:=fun i=>match i with
 | 0=>h
 | j+1=>t j
noncomputable def ez(f:(Params→KT)→Wd→Bool→Prop)kt W:=∀z,f kt W z
noncomputable def S1(kt:Params→KT)(W:Wd)(n t dp:Nat):Stat:=⟨PW,W.w,kt1 kt W.w.params,n,t,dp⟩
noncomputable abbrev on(kt:Params→KT)(W:Wd)(n t:Nat)(o:Out)(r:Result)(M:Mem1)(hs:List H):Out:=startT (S1 kt W n t 60) (oCc o) (oMd o) (oK o r) M hs
noncomputable abbrev hiA(a:Nat):Prop:=160≤a∨a=51∨(Nat.beq a 58||Nat.beq a 159)=true
structure Base(kt:Params→KT)(W:Wd)(h:Heap):Prop where
 at_:∀a o,kt1 kt W.w.params a=some o→h.get? a=some o
 low:∀a o,kt1 kt W.w.params a=some o→a<160
 sz:160≤h.objs.size
structure Fut(L:List Addr)(G:List Nat)(s s':Shared):Prop where
 keep:∀a o,s.heap.get? a=some o→a∉L→s'.heap.get? a=some o
 size:s.heap.objs.size≤s'.heap.objs.size
 gens:∀g x,s.gens[g]?=some x→g∉G→s'.gens[g]?=some x
 gsz:s.gens.size≤s'.gens.size
 bare:AllBare s.gens→AllBare s'.gens
 d:s'.drawn=s.drawn
 os:s'.os=s.os
theorem Fut.refl(s:Shared):Fut [] [] s s:=⟨fun _ _ h _=>h,nR _,fun _ _ h _=>h,nR _,fun h=>h,rfl,rfl⟩
theorem Fut.mono{L L':List Addr}{G G':List Nat}{s s':Shared}(F:Fut L G s s')(h:∀a∈L,a∈L')(hg:∀a∈G,a∈G'):Fut L' G' s s' :=
 ⟨fun a o e q=>F.keep a o e fun z=>q (h a z),F.size,fun a o e q=>F.gens a o e fun z=>q (hg a z),F.gsz,F.bare,F.d,F.os⟩
theorem Fut.trans{L:List Addr}{G:List Nat}{s s' s'':Shared}(F:Fut L G s s')(F':Fut L G s' s''):Fut L G s s'' :=
 ⟨fun a o e q=>F'.keep a o (F.keep a o e q) q,nT F.size F'.size,fun a o e q=>F'.gens a o (F.gens a o e q) q,nT F.gsz F'.gsz,fun x=>F'.bare (F.bare x),F'.d.trans F.d,F'.os.trans F.os⟩
theorem Fut.drop{L L':List Addr}{G G':List Nat}{s s':Shared}(F:Fut L G s s')(h:∀a∈L,a∈L'∨s.heap.objs.size≤a)(hg:∀a∈G,a∈G'∨s.gens.size≤a):Fut L' G' s s' :=
 ⟨fun a o e q=>F.keep a o e fun z=>(h a z).elim q fun y=>absurd (Heap.lt_size e) (Nat.not_lt.mpr y),F.size,
  fun g x e q=>F.gens g x e fun z=>(hg g z).elim q fun y=>by
  have:=(Array.getElem?_eq_some_iff.mp e).1
  omega,F.gsz,F.bare,F.d,F.os⟩
theorem Fut.trans'{L L2:List Addr}{G G2:List Nat}{s s' s'':Shared}(F:Fut L G s s')(F':Fut L2 G2 s' s'')(h:∀a∈L2,a∈L∨s.heap.objs.size≤a)(hg:∀a∈G2,a∈G∨s.gens.size≤a):Fut L G s s'' :=
 ⟨fun a o e q=>F'.keep a o (F.keep a o e q) fun z=>(h a z).elim q fun y=>absurd (Heap.lt_size e) (Nat.not_lt.mpr y),nT F.size F'.size,
  fun g x e q=>F'.gens g x (F.gens g x e q) fun z=>(hg g z).elim q fun y=>by
  have:=(Array.getElem?_eq_some_iff.mp e).1
  omega,nT F.gsz F'.gsz,fun x=>F'.bare (F.bare x),F'.d.trans F.d,F'.os.trans F.os⟩
section
variable{kt:Params→KT}{W:Wd}
theorem Base.off{h:Heap}(B:Base kt W h){a:Nat}(ha:hiA a):kt1 kt W.w.params a=none:=by
 cases q:kt1 kt W.w.params a with
 | none=>rfl
 | some o =>
  have:=B.low a o q
  rcases ha with x|x|x
  ·have:a<160:=this
   omega
  ·subst x; cases q
  ·rw[Bool.or_eq_true]at x
   rcases x with x|x
   ·rw[Nat.eq_of_beq_eq_true x]at q; cases q
   ·rw[Nat.eq_of_beq_eq_true x]at q; cases q
theorem Base.fut{s s':Shared}{L:List Addr}{G:List Nat}(B:Base kt W s.heap)(F:Fut L G s s')(h:∀a∈L,hiA a):Base kt W s'.heap :=
 ⟨fun a o e=>F.keep a o (B.at_ a o e) fun z=>by(
  have:=B.off (h a z)
  rw[e]at this
  cases this),B.low,nT B.sz F.size⟩
noncomputable def tgt(A:Around)(R:Result→Shared→Prop)(P:End→Shared→Prop)(s:Shared)(M:Mem1):Tgt:=⟨A,R,P,s.heap,M.map (·.1),s.gens,s.drawn,s.os⟩
theorem rep_start{s:Shared}(B:Base kt W s.heap){A R P t dp}{M:Mem1}(own:∀p∈M,s.heap.get? p.1=some p.2)(nd:(M.map (·.1)).Nodup)(off:∀p∈M,hiA p.1):
  RepR (S1 kt W s.heap.objs.size t dp) (tgt A R P s M) s.heap M 0 :=
 ⟨rfl,own,nd,fun p hp=>B.off (off p hp),fun _ _ e _=>e,fun _ hp=>.inr (mmm hp)⟩
theorem ok_start{s:Shared}(B:Base kt W s.heap){A R P dp}{M:Mem1}(hA:A.handled=none)(hd:A.depth+dp<1000):(S1 kt W s.heap.objs.size s.toks dp).Ok (tgt A R P s M) :=
 ⟨B.at_,fun a o e=>Nat.lt_of_lt_of_le (B.low a o e) B.sz,hA,hd⟩
theorem rep_fut{A R P dp}{s:Shared}{M M':Mem1}{j:Nat}{h':Heap}{t:Nat}(D:RepR (S1 kt W s.heap.objs.size t dp) (tgt A R P s M) h' M' j){tk:Nat}:
  Fut (M.map (·.1)) [] s ⟨h',s.gens,s.drawn,tk,s.os⟩ :=
 ⟨fun a o e q=>D.keep a o e fun p hp z=>by
  rcases D.hi p hp with h|h
  ·exact absurd (Heap.lt_size e) (Nat.not_lt.mpr (z▸h))
  ·exact q (z▸h),by rw[D.size]; exact lU ..,fun _ _ h _=>h,nR _,fun h=>h,rfl,rfl⟩
theorem dep_call{A:Around}{a:Addr}{args:Args}{dp:Nat}(hd:A.depth+dp<1000)(h1:1≤dp):(A.under (.call (.ref a) args)).depth<recursionLimit :=
 Nat.lt_of_le_of_lt (Nat.add_le_add_left (nT (cw_le (.call (.ref a) args)) h1) A.depth) hd
theorem call_code{A:Around}{R:Result→Shared→Prop}{s:Shared}{dp:Nat}{M:Mem1}{S:Stat}{a:Addr}{args:Args}{ob:Obj}{fd:FuncData}(hd:A.depth+dp<1000)(h1:1≤dp)(e1:s.heap.get? a=some ob)(e2:ob.data=.func fd)
  (e3:fd.scope.isGenerator=false) (e4:fd.scope.isCoroutine=false) (zz:Means1 S (tgt A R (fun _ _=>False) s M) (.call (.ref a) args) (.own []) (callFn a fd args) s):codeAny (model S.prog S.w) A (.call (.ref a) args) R s:=by
 refine y_code _ _ _ _ _ _ ?_
 intro Γ p hc hΓ
 exact load_fn (in_of hc hΓ) (dep_call hd h1) e1 e2 e3 e4 (zz Γ p hc hΓ)
theorem startF_sound{fa:Addr}{args:Args}{A:Around}{R:Result→Shared→Prop}{s:Shared}{dp:Nat}{M:Mem1}{hs:List H}(B:Base kt W s.heap)(hA:A.handled=none)(hd:A.depth+dp<1000)
  (own:∀p∈M,s.heap.get? p.1=some p.2) (nd:(M.map (·.1)).Nodup) (off:∀p∈M,hiA p.1) (h1:1≤dp)
  (H:Post (S1 kt W s.heap.objs.size s.toks dp) (tgt A R (fun _ _=>False) s M) false (startF (S1 kt W s.heap.objs.size s.toks dp) fa args M hs)) :
  codeAny W.M A (.call (.ref fa) args) R s:=by
 have O:=ok_start (R:=R) (P:=fun _ _=>False) (M:=M) B hA hd
 obtain⟨ob,e1,H⟩:=og_inv H
 obtain⟨fd,e2,H⟩:=og_inv H
 obtain⟨e3,H⟩:=bf_inv H
 obtain⟨e4,H⟩:=bf_inv H
 obtain⟨_,z⟩:=runR_sound O 1000000 (.call (.ref fa) args) (.own []) _ _ _ _ _ _ H
 exact call_code hd h1 (B.at_ _ _ e1) fd.2 e3 e4 (z s.heap (rep_start B own nd off))
theorem startH_sound{x:Nat}{p:Addr×Obj}{args:Args}{A:Around}{R:Result→Shared→Prop}{s:Shared}{dp:Nat}{M:Mem1}{hs:List H}(B:Base kt W s.heap)(hA:A.handled=none)(hd:A.depth+dp<1000)
  (own:∀p∈M,s.heap.get? p.1=some p.2) (nd:(M.map (·.1)).Nodup) (off:∀p∈M,hiA p.1) (h1:1≤dp) (hx:nth M x=some p)
  (H:Post (S1 kt W s.heap.objs.size s.toks dp) (tgt A R (fun _ _=>False) s M) false (startH (S1 kt W s.heap.objs.size s.toks dp) x args M hs)) :
  codeAny W.M A (.call (.ref p.1) args) R s:=by
 have O:=ok_start (R:=R) (P:=fun _ _=>False) (M:=M) B hA hd
 obtain⟨q,e1,H⟩:=og_inv H
 cases hx.symm.trans e1
 obtain⟨fd,e2,H⟩:=og_inv H
 obtain⟨e3,H⟩:=bf_inv H
 obtain⟨e4,H⟩:=bf_inv H
 obtain⟨_,z⟩:=runR_sound O 1000000 (.call (.ref p.1) args) (.own []) _ _ _ _ _ _ H
 exact call_code hd h1 (own p (nth_mem hx)) fd.2 e3 e4 (z s.heap (rep_start B own nd off))
noncomputable def Mean(W:Wd)(A:Around)(R:Result→Shared→Prop)(P:End→Shared→Prop)(c:Code)(md:Md)(t:Sem PySem.Fin)(s:Shared):Prop:=match md with
 | .own κ=>wpOwn W.M (ar A κ) c t (postC PW W.w (ar A κ) (er PW W.w A R κ)) (postE (er PW W.w A R κ)) s
 | .gen κ=>∀fs,Bears κ fs→SegX W.M A c t fs s P
theorem mean_iff{n t dp:Nat}{A R P s0 M}{c:Code}{md:Md}{tr:Sem PySem.Fin}{s:Shared}:Means1 (S1 kt W n t dp) (tgt A R P s0 M) c md tr s↔Mean W A R P c md tr s:=by
 cases md<;>exact Iff.rfl
theorem startT_sound{c:Code}{md:Md}{tr:Sem PySem.Fin}{A:Around}{R:Result→Shared→Prop}{P:End→Shared→Prop}{s:Shared}{dp:Nat}{M:Mem1}{hs:List H}(B:Base kt W s.heap)(hA:A.handled=none)(hd:A.depth+dp<1000)
  (own:∀p∈M,s.heap.get? p.1=some p.2) (nd:(M.map (·.1)).Nodup) (off:∀p∈M,hiA p.1)
  (H:Post (S1 kt W s.heap.objs.size s.toks dp) (tgt A R P s M) md.isGen (startT (S1 kt W s.heap.objs.size s.toks dp) c md tr M hs)) :
  Mean W A R P c md tr s:=by
 have O:=ok_start (R:=R) (P:=P) (M:=M) B hA hd
 obtain⟨_,z⟩:=runR_sound O 1000000 c md _ _ _ _ _ _ H
 exact mean_iff.mp (z s.heap (rep_start B own nd off))
theorem mean_call{A:Around}{R:Result→Shared→Prop}{P:End→Shared→Prop}{c c':Code}{κ:List Ent}{g:Bool}{l:List Value}{k:Result→Sem PySem.Fin}{s:Shared}
  (h:codeAny W.M ((ar A κ).under c) c' (fun r s'=>Mean W A R P c (.own κ) (k r) s') s):Mean W A R P c (.own κ) (.call c' none g l k) s :=
 y_call _ _ _ _ _ _ _ _ _ _ _ _ _ (by intro h; cases h) h
theorem post_ret{S:Stat}{T:Tgt}{o:Out}(e:o=.ret (oR o) (oM o) (oJ o) (oI o) (oAcc o))(hx:(oAcc o).xs=(oAcc o).ys)(hv:∀p∈(oAcc o).vs,p.1=p.2)(he:∀e∈(oAcc o).es,e.Ok S.prog S.w)
  (h:∀h',RepR S T h' (oM o) (oJ o)→T.R₀ (oR o) ⟨h',T.g,T.d,S.t₀+oI o,T.os⟩):Post S T false o:=by
 rw[e]
 exact⟨⟨hx,hv,he⟩,h⟩
theorem post_stop{S:Stat}{T:Tgt}{o:Out}{b:Bool}(e:o=.stop (oC o) (oCc o) (oMd o) (oK o) (oG o) (oL o) (oM o) (oJ o) (oI o) (oAcc o))(hx:(oAcc o).xs=(oAcc o).ys)(hv:∀p∈(oAcc o).vs,p.1=p.2)(he:∀e∈(oAcc o).es,e.Ok S.prog S.w)
  (h:∀h',RepR S T h' (oM o) (oJ o)→Means1 S T (oCc o) (oMd o) (.call (oC o) none (oG o) (oL o) (oK o)) ⟨h',T.g,T.d,S.t₀+oI o,T.os⟩):Post S T b o:=by
 rw[e]
 exact⟨⟨hx,hv,he⟩,h⟩
theorem post_again{S:Stat}{T:Tgt}{o:Out}{b:Bool}(e:o=.again (oC o) (oMd o) (oM o) (oJ o) (oI o) (oAcc o))(hx:(oAcc o).xs=(oAcc o).ys)(hv:∀p∈(oAcc o).vs,p.1=p.2)(he:∀e∈(oAcc o).es,e.Ok S.prog S.w)
  (h:∀h',RepR S T h' (oM o) (oJ o)→Means1 S T (oC o) (oMd o) (denote table (oC o)) ⟨h',T.g,T.d,S.t₀+oI o,T.os⟩):Post S T b o:=by
 rw[e]
 exact⟨⟨hx,hv,he⟩,h⟩
theorem rep_ps{S:Stat}{T:Tgt}{h:Heap}{M:Mem1}{j:Nat}(D:RepR S T h M j):∀{ps:List (Nat×Addr×Obj)},nthAll M ps=somes ps→∀q∈ps,h.get? q.2.1=some q.2.2
 | [],_,_,hq=>nomatch hq
 | p::ps,e,q,hq=>by
  obtain⟨e1,e2⟩:=List.cons.inj (show nth M p.1::nthAll M ps=some p.2::somes ps from e)
  rcases mc.mp hq with rfl|hq
  ·exact D.own _ (nth_mem e1)
  ·exact rep_ps D e2 q hq
theorem post_retIs{S:Stat}{T:Tgt}{o:Out}{vs es r ps}(e:RetIs o vs es r ps)(hv:∀p∈vs,p.1=p.2)(he:∀e∈es,e.Ok S.prog S.w)
  (h:∀h' M' j i,RepR S T h' M' j→(∀q∈ps,h'.get? q.2.1=some q.2.2)→T.R₀ r ⟨h',T.g,T.d,S.t₀+i,T.os⟩):Post S T false o:=by
 unfold RetIs rT at e
 simp only[Prod.mk.injEq]at e
 obtain⟨e1,e2,e3,e4,e5,e6⟩:=e
 refine post_ret e1 e2 (e3▸hv) (e4▸he) fun h' D=>?_
 have:=h h' _ _ (oI o) D (rep_ps D e6)
 rw[←e5]at this
 exact this
noncomputable def oDp(o:Out):Nat:=match oMd o with|.own κ=>wts κ+cw (oCc o)|.gen _=>0
noncomputable def oOwn(o:Out):Bool:=match oMd o with|.own _=>true|.gen _=>false
noncomputable def sT(l:List Nat)(o:Out):Out×List Nat×List (Value×Value)×List Eff×Code×Bool×Nat×List (Option (Addr×Obj)):=(o,(oAcc o).xs,(oAcc o).vs,(oAcc o).es,oC o,oOwn o,oDp o,nthI (oM o) l)
noncomputable def aT(l:List Nat)(o:Out):Out×List Nat×List (Value×Value)×List Eff×Code×Md×List (Option (Addr×Obj)):=(o,(oAcc o).xs,(oAcc o).vs,(oAcc o).es,oC o,oMd o,nthI (oM o) l)
noncomputable abbrev StopIs(o:Out)(vs:List (Value×Value))(es:List Eff)(c':Code)(d:Nat)(ps:List (Nat×Addr×Obj)):Prop :=
 sT (idx ps) o=(.stop (oC o) (oCc o) (oMd o) (oK o) (oG o) (oL o) (oM o) (oJ o) (oI o) (oAcc o),(oAcc o).ys,vs,es,c',true,d,somes ps)
noncomputable abbrev AgainIs(o:Out)(vs:List (Value×Value))(es:List Eff)(c':Code)(ps:List (Nat×Addr×Obj)):Prop :=
 aT (idx ps) o=(.again (oC o) (oMd o) (oM o) (oJ o) (oI o) (oAcc o),(oAcc o).ys,vs,es,c',.own [],somes ps)
inductive Tl:Type→Type 1
 | z:Tl Out
 | s {α T:Type} (l:Tl T):Tl (α→T)
noncomputable def RT{β:Type}(q:Out→β){T:Type}(l:Tl T):T→Prop:=Tl.rec (motive:=fun T _=>T→Prop) (fun o=>q o=q o) (fun _ ih f=>∀x,ih (f x)) l
theorem RT.ok{β:Type}(q:Out→β){T:Type}(l:Tl T):∀g,RT q l g:=Tl.rec (motive:=fun _ l=>∀g,RT q l g) (fun _=>rfl) (fun _ ih g x=>ih (g x)) l
theorem RT.to{β:Type}{q:Out→β}{T:Type}{l:Tl T}{g:T}{E:Prop}(h:RT q l g=E):E:=h▸RT.ok q l g
theorem StopIs.own{o vs es c' d ps}(e:StopIs o vs es c' d ps):(oMd o).isGen=false:=by
 unfold StopIs sT at e
 simp only[Prod.mk.injEq]at e
 obtain⟨_,_,_,_,_,e6,_,_⟩:=e
 unfold oOwn at e6
 revert e6
 cases oMd o with
 | own κ=>intro _; rfl
 | gen κ=>intro e6; cases e6
theorem startT_soundO{kt:Params→KT}{W:Wd}{c:Code}{md:Md}{tr:Sem PySem.Fin}{A:Around}{R:Result→Shared→Prop}{P:End→Shared→Prop}{s:Shared}{dp:Nat}{M:Mem1}{hs:List H}(hg:md.isGen=false)(B:Base kt W s.heap)(hA:A.handled=none)(hd:A.depth+dp<1000)
  (own:∀p∈M,s.heap.get? p.1=some p.2) (nd:(M.map (·.1)).Nodup) (off:∀p∈M,hiA p.1)
  (H:Post (S1 kt W s.heap.objs.size s.toks dp) (tgt A R P s M) false (startT (S1 kt W s.heap.objs.size s.toks dp) c md tr M hs)) :
  Mean W A R P c md tr s:=startT_sound B hA hd own nd off (hg▸H)
theorem post_stopIs{kt:Params→KT}{W:Wd}{n t dp:Nat}{A:Around}{R:Result→Shared→Prop}{P:End→Shared→Prop}{s:Shared}{M:Mem1}{o:Out}{b:Bool}{vs es c' d ps}(e:StopIs o vs es c' d ps)
  (hA:A.handled=none) (hv:∀p∈vs,p.1=p.2) (he:∀e∈es,e.Ok PW W.w)
  (h:∀h' M' j i A',RepR (S1 kt W n t dp) (tgt A R P s M) h' M' j→(∀q∈ps,h'.get? q.2.1=some q.2.2)→A'.handled=none→A'.depth≤A.depth+d →
   codeAny W.M A' c' (fun r s'=>Mean W A R P (oCc o) (oMd o) (oK o r) s') ⟨h',s.gens,s.drawn,t+i,s.os⟩):Post (S1 kt W n t dp) (tgt A R P s M) b o:=by
 unfold StopIs sT at e
 simp only[Prod.mk.injEq]at e
 obtain⟨e1,e2,e3,e4,e5,e6,e7,e8⟩:=e
 refine post_stop e1 e2 (e3▸hv) (e4▸he) fun h' D=>?_
 refine mean_iff.mpr ?_
 have hh:=h h' (oM o) (oJ o) (oI o)
 rw[e5]
 unfold oOwn at e6
 unfold oDp at e7
 revert e6 e7 hh
 cases oMd o with
 | gen κ=>intro e6; cases e6
 | own κ =>
  intro _ e7 hh
  refine mean_call (hh _ D (rep_ps D e8) ?_ ?_)
  ·exact(ar_handled A κ).trans hA
  ·show(ar A κ).depth+(oCc o).weight≤_
   have h1:=ar_depth A κ
   have h2:=cw_le (oCc o)
   simp only at e7
   omega
theorem post_againIs{kt:Params→KT}{W:Wd}{n t dp:Nat}{A:Around}{R:Result→Shared→Prop}{P:End→Shared→Prop}{s:Shared}{M:Mem1}{o:Out}{b:Bool}{vs es c' ps}(e:AgainIs o vs es c' ps)
  (hv:∀p∈vs,p.1=p.2) (he:∀e∈es,e.Ok PW W.w)
  (h:∀h' M' j i,RepR (S1 kt W n t dp) (tgt A R P s M) h' M' j→(∀q∈ps,h'.get? q.2.1=some q.2.2) →
   Mean W A R P c' (.own []) (denote table c') ⟨h',s.gens,s.drawn,t+i,s.os⟩):Post (S1 kt W n t dp) (tgt A R P s M) b o:=by
 unfold AgainIs aT at e
 simp only[Prod.mk.injEq]at e
 obtain⟨e1,e2,e3,e4,e5,e6,e8⟩:=e
 refine post_again e1 e2 (e3▸hv) (e4▸he) fun h' D=>?_
 refine mean_iff.mpr ?_
 rw[e5,e6]
 exact h h' _ _ _ D (rep_ps D e8)
theorem code_of_mean{W:Wd}{A:Around}{R:Result→Shared→Prop}{P:End→Shared→Prop}{c:Code}{s:Shared}(h:Mean W A R P c (.own []) (denote table c) s):codeAny W.M A c R s:=y_code _ _ _ _ _ _ h
theorem startC_mean{kt:Params→KT}{W:Wd}{c:Code}{A:Around}{R:Result→Shared→Prop}{P:End→Shared→Prop}{s:Shared}{dp:Nat}{M:Mem1}{hs:List H}(B:Base kt W s.heap)(hA:A.handled=none)(hd:A.depth+dp<1000)
  (own:∀p∈M,s.heap.get? p.1=some p.2) (nd:(M.map (·.1)).Nodup) (off:∀p∈M,hiA p.1)
  (H:Post (S1 kt W s.heap.objs.size s.toks dp) (tgt A R P s M) false (startC (S1 kt W s.heap.objs.size s.toks dp) c (.own []) M hs)) :
  Mean W A R P c (.own []) (denote table c) s:=by
 rw[denZ_eq]
 exact startT_soundO rfl B hA hd own nd off H
theorem Fut.less{L:List Addr}{G:List Nat}{s s':Shared}{a:Addr}{o:Obj}(F:Fut (a::L) G s s')(h:s.heap.get? a=some o)(h':s'.heap.get? a=some o):Fut L G s s' :=
 ⟨fun b ob e q=>by
  by_cases z:b=a
  ·subst z
   rw[h]at e
   cases e
   exact h'
  ·exact F.keep b ob e fun y=>by
    rcases mc.mp y with y|y
    ·exact z y
    ·exact q y,F.size,F.gens,F.gsz,F.bare,F.d,F.os⟩
theorem rep_futL{A R P dp}{s:Shared}{M M':Mem1}{j:Nat}{h':Heap}{t:Nat}{L:List Addr}(D:RepR (S1 kt W s.heap.objs.size t dp) (tgt A R P s M) h' M' j){tk:Nat}(own:∀p∈M,s.heap.get? p.1=some p.2)
  (h:∀p∈M,p.1∈L∨h'.get? p.1=some p.2):Fut L [] s ⟨h',s.gens,s.drawn,tk,s.os⟩ :=
 ⟨fun a o e q=>by
  by_cases z:a∈M.map (·.1)
  ·obtain⟨p,hp,rfl⟩:=List.mem_map.mp z
   rcases h p hp with y|y
   ·exact absurd y q
   ·have:=own p hp
    rw[e]at this
    cases this
    exact y
  ·exact(rep_fut (tk:=tk) D).keep a o e z,(rep_fut (tk:=tk) D).size,fun _ _ h _=>h,nR _,fun h=>h,rfl,rfl⟩
end
variable{kt:Params→KT}{W:Wd}{A:Around}{R:Result→Shared→Prop}{P:End→Shared→Prop}{s s':Shared}{prog:Program}{w:World}{L:List Addr}{M:Mem1}{vs:List Value}{xs:List Int}
theorem update_const{h:Heap}{a:Addr}{o:Obj}{f:Obj→Obj}(ho:h.get? a=some o):h.update a (fun _=>f o)=h.update a f:=by
 obtain⟨objs,l⟩:=h
 have e:objs[a]?=some o:=by
  have h1:(match objs[a]? with|some ⟨_,_,.freed,_⟩=>none|o=>o)=some o:=ho
  split at h1
  ·cases h1
  ·exact h1
 show(⟨objs.modify a (fun _=>f o),l⟩:Heap)=⟨objs.modify a f,l⟩
 congr 1
 apply Array.ext
 ·simp
 ·intro i h1 h2
  rw[Array.getElem_modify,Array.getElem_modify]
  split
  ·rename_i q
   subst q
   obtain⟨_,e2⟩:=Array.getElem?_eq_some_iff.mp e
   rw[e2]
  ·rfl
section
variable{e:Eff}
theorem eff_builtin{id:String}{args:Args}{B:Builtin}(hc:e.c=.call (.builtin id) args)(plain:plainId id=true)(entry:entryFor table id=some B)(chk:checkBuiltinCall id args=pure ())
  (h:∀(A:Around) (s:Shared) (R:Result→Shared→Prop),A.handled=none→(∀p∈e.pre,s.heap.get? p.1=some p.2)→s.heap.objs.size=e.n→s.toks=e.t→R e.r {s with heap:=e.heap s.heap,toks:=s.toks+e.dt} →
   wpAny (model prog w) A.in1 (B args) (fun fin s'=>match fin with|.done f=>R (.ok f) s'|.again c'=>c'.quiet=true∧codeAny (model prog w) A c' R s') (fun x s'=>R (.error x) s') s):e.Ok prog w:=by
 intro A s R hA hp hn ht hR
 rw[hc]
 refine codeAny_call_builtin plain entry (wpAny_of_eq chk ?_)
 exact h A s R hA hp hn ht hR
theorem eff_slot{T:String}{name:Str}{id:String}{self:Value}{rest:List Value}{B:Builtin}(hc:e.c=.call (.builtin id) ⟨self::rest,[]⟩)(slot:Slot T name id)(entry:entryFor table id=some B)(ha:argsOk id ⟨self::rest,[]⟩)
  (hT:∀s:Shared,(∀p∈e.pre,s.heap.get? p.1=some p.2)→s.TypeIs self T)
  (h:∀(A:Around) (s:Shared) (R:Result→Shared→Prop),A.handled=none→(∀p∈e.pre,s.heap.get? p.1=some p.2)→s.heap.objs.size=e.n→s.toks=e.t→R e.r {s with heap:=e.heap s.heap,toks:=s.toks+e.dt} →
   wpAny (model prog w) A.in1 (B ⟨self::rest,[]⟩) (fun fin s'=>match fin with|.done f=>R (.ok f) s'|.again c'=>c'.quiet=true∧codeAny (model prog w) A c' R s') (fun x s'=>R (.error x) s') s):e.Ok prog w:=by
 intro A s R hA hp hn ht hR
 rw[hc]
 exact codeAny_call_builtin slot.plain entry (slot.check _ _ _ _ _ _ _ _ (hT s hp) ha (h A s R hA hp hn ht hR))
theorem eff_meets{T:String}{name:Str}{id:String}{self:Value}{rest:List Value}{B:Builtin}{Sp:PySem.Spec}(hc:e.c=.call (.builtin id) ⟨self::rest,[]⟩)(slot:Slot T name id)(entry:entryFor table id=some B)(ha:argsOk id ⟨self::rest,[]⟩)
  (hT:∀s:Shared,(∀p∈e.pre,s.heap.get? p.1=some p.2)→s.TypeIs self T) (g:Meets (B ⟨self::rest,[]⟩) Sp)
  (h:∀(A:Around) (s:Shared) (R:Result→Shared→Prop),A.handled=none→(∀p∈e.pre,s.heap.get? p.1=some p.2)→s.heap.objs.size=e.n→s.toks=e.t→R e.r {s with heap:=e.heap s.heap,toks:=s.toks+e.dt}→Sp A R s):e.Ok prog w :=
 eff_slot hc slot entry ha hT fun A s R hA hp hn ht hR=>g prog w A R s (h A s R hA hp hn ht hR)
structure IsI(e:Eff)(x:Int):Prop where
 upd:e.upd=none
 new:e.new=[]
 r:e.r=.ok (.ret (.int x e.t))
 dt:e.dt=1
theorem IsI.end_{x:Int}(h:IsI e x)(ht:s.toks=e.t)(hR:R e.r {s with heap:=e.heap s.heap,toks:=s.toks+e.dt}):R (.ok (.ret (.int x s.toks))) {s with toks:=s.toks+1}:=by
 unfold Eff.heap at hR
 rw[h.r,h.upd,h.new,h.dt,←ht]at hR
 exact hR
theorem eff_intop{id:String}{name:Str}{x:Int}{t:Tok}{rest:List Value}{B:Builtin}{v:Int}(hi:IsI e v)(hc:e.c=.call (.builtin id) ⟨.int x t::rest,[]⟩)(slot:Slot "int" name id)(entry:entryFor table id=some B)(ha:argsOk id ⟨.int x t::rest,[]⟩)
  (h:∀(A:Around) (E:Value→Shared→Prop) (s:Shared) (Q:PySem.Fin→Shared→Prop),Q (.done (.ret (.int v s.toks))) {s with toks:=s.toks+1}→wpAny (model prog w) A (B ⟨.int x t::rest,[]⟩) Q E s):e.Ok prog w :=
 eff_slot hc slot entry ha (fun s _=>typeIs_int s x t) fun A s R hA hp hn ht hR=>h A.in1 _ s _ (hi.end_ ht hR)
theorem eff_mul{a b:Int}{t u:Tok}(hc:e.c=.call (.builtin "int.__mul__") ⟨[.int a t,.int b u],[]⟩)(hi:IsI e (a*b))(hm:IntMulOk a b):e.Ok prog w :=
 eff_intop hi hc F.slot_int_mul F.entry_int_mul (F.args_int_mul_2 _ _) fun A E s Q hQ=>by
  show wpAny _ _ (ite _ _ _:Sem PySem.Fin) _ _ s
  rw[if_neg hm]
  exact wpAny_bind (wpAny_mkInt (wpAny_pure hQ))
theorem eff_mod{a b:Int}{t u:Tok}(hc:e.c=.call (.builtin "int.__mod__") ⟨[.int a t,.int b u],[]⟩)(hi:IsI e (a.fmod b))(hb:b≠0):e.Ok prog w :=
 eff_intop hi hc F.slot_int_mod F.entry_int_mod (F.args_int_mod_2 _ _) fun A E s Q hQ=>by
  have hb':(b==0)=false:=by simpa using hb
  show wpAny _ _ (do
   if b==0 then rule "int.mod.zero"; raiseError "ZeroDivisionError" "integer modulo by zero"
   ret (←mkInt (a.fmod b))) _ _ s
  simp only[hb',Bool.false_eq_true,if_false,pure_bind]
  exact wpAny_bind (wpAny_mkInt (wpAny_pure hQ))
theorem eff_floordiv{a b:Int}{t u:Tok}(hc:e.c=.call (.builtin "int.__floordiv__") ⟨[.int a t,.int b u],[]⟩)(hi:IsI e (a.fdiv b))(hb:b≠0)(hs:b.natAbs.log2<9000):e.Ok prog w :=
 eff_intop hi hc F.slot_int_floordiv F.entry_int_floordiv (F.args_int_floordiv_2 _ _) fun A E s Q hQ=>by
  have hb':(b==0)=false:=by simpa using hb
  show wpAny _ _ (do
   if b==0 then rule "int.floordiv.zero"; raiseError "ZeroDivisionError" "integer division or modulo by zero"
   Builtin.roomForPylong a b
   ret (←mkInt (a.fdiv b))) _ _ s
  simp only[hb',Bool.false_eq_true,if_false,pure_bind]
  exact wpAny_bind (wpAny_roomForPylong (.inl (PyProof.noPylong_of_log2 hs)) (wpAny_bind (wpAny_mkInt (wpAny_pure hQ))))
theorem eff_rshift{a n:Int}{t u:Tok}(hc:e.c=.call (.builtin "int.__rshift__") ⟨[.int a t,.int n u],[]⟩)(hi:IsI e (a.fdiv (2 ^ n.toNat)))(hn:0≤n):e.Ok prog w :=
 eff_intop hi hc F.slot_int_rshift F.entry_int_rshift (F.args_int_rshift_2 _ _) fun A E s Q hQ=>by
  show wpAny _ _ (if n<0 then _ else _) _ _ s
  rw[if_neg (by omega)]
  show wpAny _ _ (if n ≥ (Builtin.Int.intBits a:Int)then _ else _) _ _ s
  by_cases hb:n ≥ (Builtin.Int.intBits a:Int)
  ·rw[if_pos hb]
   have e:a.fdiv (2 ^ n.toNat)=(if a<0 then(-1:Int)else 0):=fdiv_pow_of_bits (by omega)
   rw[e]at hQ
   repeat (first|refine wpAny_pure ?_|refine wpAny_mkInt ?_|refine wpAny_rule ?_|refine wpAny_bind ?_)
   exact hQ
  ·rw[if_neg hb]
   repeat (first|refine wpAny_pure ?_|refine wpAny_mkInt ?_|refine wpAny_rule ?_|refine wpAny_bind ?_)
   exact hQ
theorem eff_lshift{a n:Int}{t u:Tok}(hc:e.c=.call (.builtin "int.__lshift__") ⟨[.int a t,.int n u],[]⟩)(hi:IsI e (a*2 ^ n.toNat))(hn:0≤n)(hsz:(Builtin.Int.intBits a:Int)+n≤2 ^ 27):e.Ok prog w :=
 eff_intop hi hc F.slot_int_lshift F.entry_int_lshift (F.args_int_lshift_2 _ _) fun A E s Q hQ=>by
  show wpAny _ _ (if n<0 then _ else _) _ _ s
  rw[if_neg (by omega)]
  show wpAny _ _ (if(a==0)=true then _ else _) _ _ s
  by_cases h0:a=0
  ·rw[if_pos (by simpa using h0)]
   have e:a*2 ^ n.toNat=0:=by subst h0; exact Int.zero_mul _
   rw[e]at hQ
   repeat (first|refine wpAny_pure ?_|refine wpAny_mkInt ?_|refine wpAny_rule ?_|refine wpAny_bind ?_)
   exact hQ
  rw[if_neg (by simpa using h0)]
  have h3:¬(((Builtin.Int.intBits a:Int)+29) / 30+n / 30+(if n % 30==0 then 0 else 1) > Builtin.maxDigits):=by
   unfold Builtin.maxDigits
   split<;>omega
  show wpAny _ _ (if((Builtin.Int.intBits a:Int)+29) / 30+n / 30+(if n % 30==0 then 0 else 1) > Builtin.maxDigits then _ else _) _ _ s
  rw[if_neg h3]
  have hbig:Builtin.Int.intTooBig ((Builtin.Int.intBits a:Int)+n)=false:=decide_eq_false (Int.not_lt.mpr hsz)
  show wpAny _ _ (if Builtin.Int.intTooBig ((Builtin.Int.intBits a:Int)+n)=true then _ else _) _ _ s
  rw[if_neg (by rw[hbig]; exact Bool.false_ne_true)]
  repeat (first|refine wpAny_pure ?_|refine wpAny_mkInt ?_|refine wpAny_rule ?_|refine wpAny_bind ?_)
  exact hQ
theorem chk_divmod(a b:Value):checkBuiltinCall "divmod" ⟨[a,b],[]⟩=pure ():=by kernel_rfl
theorem eff_divmod{a b:Int}{t u:Tok}(hc:e.c=.call (.builtin "divmod") ⟨[.int a t,.int b u],[]⟩)(hu:e.upd=none)(hb:b≠0)(hs:b.natAbs.log2<9000)
  (hnew:e.new=[tup [.int (a.fdiv b) e.t,.int (a.fmod b) (e.t+1)]]) (hr:e.r=.ok (.ret (.ref e.n))) (hdt:e.dt=2):e.Ok prog w:=by
 refine eff_builtin hc plain_divmodT entry_divmodT (chk_divmod _ _) fun A s R hA hp hn ht hR=>?_
 unfold Builtin.«divmod»
 refine wpAny_bind (m:=someArgs "divmod" 2 2 _) (wpAny_pure ?_)
 show wpAny _ _ (do ret (←Builtin.Builtins.binaryNamed "divmod()" "divmod" (.int a t) (.int b u))) _ _ s
 refine wpAny_bind (binaryNamed_same (nm:="divmod") (T:="int") (id:="int.__divmod__") (typeIs_int s a t) (typeIs_int s b u) fills_int_divmod slot_int_divmod
  (call_int_divmod hb (wpAny_pure ?_) (.inl (PyProof.noPylong_of_log2 hs))))
 unfold Eff.heap at hR
 rw[hr,hu,hnew,hdt,←hn,←ht]at hR
 exact hR
theorem lst_isList{l:Addr}{n:Nat}(h:s.heap.get? l=some (lst vs n)):s.heap.IsList l ⟨vs⟩:=⟨_,h,rfl,n,rfl⟩
theorem lst_typeIs{l:Addr}{n:Nat}(h:s.heap.get? l=some (lst vs n)):s.TypeIs (.ref l) "list":=⟨_,h,rfl⟩
theorem tup_typeIs{l:Addr}(h:s.heap.get? l=some (tup vs)):s.TypeIs (.ref l) "tuple":=⟨_,h,rfl⟩
theorem chk_len(a:Value):checkBuiltinCall "len" ⟨[a],[]⟩=pure ():=by kernel_rfl
theorem len_body{l:Addr}{n:Nat}{E:Value→Shared→Prop}{Q:PySem.Fin→Shared→Prop}(ho:s.heap.get? l=some (lst vs n))(hfit:vs.length<2 ^ 62)
  (h:Q (.done (.ret (.int (vs.length:Int) (s.toks+1)))) {s with toks:=s.toks+1+1}):wpAny (model prog w) A (Builtin.«len» ⟨[.ref l],[]⟩) Q E s:=by
 have hl:=lst_isList ho
 unfold Builtin.«len»
 refine wpAny_bind (m:=oneArg "len" _) (wpAny_pure ?_)
 refine wpAny_bind (m:=callSpecial? (.ref l) (Str.ofString "__len__")) (wpAny_callSpecial?_slot (name:=Str.ofString "__len__") hl.typeIs slot_list_len
  (wpAny_call_entry slot_list_len hl.typeIs entry_list_len ?_ (args_list_len _)))
 show wpAny _ _ (do retInt (←seqSize l)) _ _ s
 unfold seqSize
 refine wpAny_bind (wpAny_bind (wpAny_load ho ?_))
 refine wpAny_pure (wpAny_bind (wpAny_mkInt (wpAny_pure ⟨_,rfl,?_⟩)))
 refine wpAny_bind (wpAny_holding (wpAny_pure ?_))
 refine wpAny_bind (wpAny_letGo ?_)
 show wpAny _ _ (if((vs.length:Nat):Int)<0 then _ else _) _ _ _
 rw[if_neg (by omega)]
 show wpAny _ _ (if((vs.length:Nat):Int) ≥ 2 ^ 63 then _ else _) _ _ _
 rw[if_neg (by omega)]
 exact wpAny_bind (wpAny_mkInt (wpAny_pure h))
theorem eff_len_list{l:Addr}{n:Nat}(hc:e.c=.call (.builtin "len") ⟨[.ref l],[]⟩)(hp:(l,lst vs n)∈e.pre)(hu:e.upd=none)(hnew:e.new=[])(hfit:vs.length<2 ^ 62)
  (hr:e.r=.ok (.ret (.int (vs.length:Int) (e.t+1)))) (hdt:e.dt=2):e.Ok prog w:=by
 refine eff_builtin hc plain_len entry_len (chk_len _) fun A s R hA hpre hn ht hR=>len_body (hpre _ hp) hfit ?_
 unfold Eff.heap at hR
 rw[hr,hu,hnew,hdt,←ht]at hR
 exact hR
theorem eff_len_code{l:Addr}{n:Nat}(hc:e.c=.builtin "len" ⟨[.ref l],[]⟩)(hp:(l,lst vs n)∈e.pre)(hu:e.upd=none)(hnew:e.new=[])(hfit:vs.length<2 ^ 62)
  (hr:e.r=.ok (.ret (.int (vs.length:Int) (e.t+1)))) (hdt:e.dt=2):e.Ok prog w:=by
 intro A s R hA hpre hn ht hR
 rw[hc]
 refine codeAny_builtin entry_len (len_body (hpre _ hp) hfit ?_)
 unfold Eff.heap at hR
 rw[hr,hu,hnew,hdt,←ht]at hR
 exact hR
theorem foldl_rep(v:Value):∀(k:Nat) (acc:Array Value),(List.foldl (fun x1 x2=>x1++x2) acc (List.replicate k #[v]))=⟨acc.toList++List.replicate k v⟩
 | 0,acc=>by simp
 | k+1,acc=>by
  rw[List.replicate_succ,List.foldl_cons,foldl_rep v k]
  simp[List.replicate_succ]
theorem eff_list_rep{l:Addr}{v:Value}{n:Nat}{x:Int}{u:Tok}(hc:e.c=.call (.builtin "list.__mul__") ⟨[.ref l,.int x u],[]⟩)(hp:(l,lst [v] n)∈e.pre)(hu:e.upd=none)(hsz:x≤2 ^ 20)(h0:0≤x)
  (hnew:e.new=[lst (List.replicate x.toNat v) 0]) (hr:e.r=.ok (.ret (.ref e.n))) (hdt:e.dt=0):e.Ok prog w:=by
 refine eff_meets hc F.slot_list_mul F.entry_list_mul (F.args_list_mul_2 _ _) (fun s h=>lst_typeIs (h _ hp))
  (AutoListH.list___mul___list_int_3 l #[v] n x u (by simp[Builtin.List.listFitsIndex]; omega) (by simp; omega) (by simp[Builtin.List.listTooLong,sizeLine]; omega)) fun A s R hA hpre hn ht hR=>?_
 refine⟨hpre _ hp,?_⟩
 unfold Eff.heap at hR
 rw[hr,hu,hnew,hdt,←hn]at hR
 have e2:(List.foldl (fun x1 x2=>x1++x2) #[] (List.replicate (if(#[v]:Array Value).isEmpty=true then 0 else x.toNat) #[v]))=⟨List.replicate x.toNat v⟩:=by
  rw[if_neg (by simp),foldl_rep]; rfl
 rw[e2]
 exact hR
theorem eff_list_upd{name:Str}{id:String}{l:Addr}{vs vs':List Value}{n:Nat}{rest:List Value}{B:Builtin}{f:Array Value→Array Value}(hc:e.c=.call (.builtin id) ⟨.ref l::rest,[]⟩)(slot:Slot "list" name id)(entry:entryFor table id=some B)
  (ha:argsOk id ⟨.ref l::rest,[]⟩) (hp:(l,lst vs n)∈e.pre)
  (g:Meets (B ⟨.ref l::rest,[]⟩) (fun _ R s=>s.heap.get? l=some {cls:=.type "list",dict:=none,data:=.seq ⟨vs⟩ n,slots:=#[]}∧R (.ok (.ret Value.none)) {s with heap:=s.heap.update l (Obj.mapSeq f),toks:=s.toks}))
  {n':Nat} (hf:Obj.mapSeq f (lst vs n)=lst vs' n') (hu:e.upd=some (l,lst vs' n')) (hnew:e.new=[]) (hr:e.r=.ok (.ret .none)) (hdt:e.dt=0):e.Ok prog w:=by
 refine eff_meets hc slot entry ha (fun s h=>lst_typeIs (h _ hp)) g fun A s R hA hpre hn ht hR=>?_
 refine⟨hpre _ hp,?_⟩
 unfold Eff.heap at hR
 rw[hr,hu,hnew,hdt]at hR
 have e2:=update_const (f:=Obj.mapSeq f) (hpre _ hp)
 rw[hf]at e2
 rw[←e2]
 exact hR
theorem eff_append{l:Addr}{n:Nat}{v:Value}(hc:e.c=.call (.builtin "list.append") ⟨[.ref l,v],[]⟩)(hp:(l,lst vs n)∈e.pre)(hsz:vs.length≤2 ^ 20)
  (hu:e.upd=some (l,lst (vs++[v]) (n+1))) (hnew:e.new=[]) (hr:e.r=.ok (.ret .none)) (hdt:e.dt=0):e.Ok prog w :=
 eff_list_upd hc F.slot_list_append F.entry_list_append (F.args_list_append_2 _ _) hp (AutoListH.list_append_list_val_0 l ⟨vs⟩ n v (by simp[sizeLine]; omega)) (by simp[Obj.mapSeq,lst]) hu hnew hr hdt
theorem eff_reverse{l:Addr}{n:Nat}(hc:e.c=.call (.builtin "list.reverse") ⟨[.ref l],[]⟩)(hp:(l,lst vs n)∈e.pre)(hsz:vs.length≤2 ^ 20)
  (hu:e.upd=some (l,lst vs.reverse n)) (hnew:e.new=[]) (hr:e.r=.ok (.ret .none)) (hdt:e.dt=0):e.Ok prog w :=
 eff_list_upd hc F.slot_list_reverse F.entry_list_reverse (F.args_list_reverse_1 _) hp (AutoListH.list_reverse_list_0 l ⟨vs⟩ n (by simp[sizeLine]; omega)) (by simp[Obj.mapSeq,lst]) hu hnew hr hdt
theorem eff_setitem{l:Addr}{n:Nat}{k:Int}{t:Tok}{v:Value}(hc:e.c=.call (.builtin "list.__setitem__") ⟨[.ref l,.int k t,v],[]⟩)(hp:(l,lst vs n)∈e.pre)(h0:0≤k)(hk:k.toNat<vs.length)(hsz:vs.length≤2 ^ 20)
  (hu:e.upd=some (l,lst (vs.set k.toNat v) n)) (hnew:e.new=[]) (hr:e.r=.ok (.ret .none)) (hdt:e.dt=0):e.Ok prog w:=by
 refine eff_slot hc slot_list_setitem entry_list_setitem (args_list_setitem _ _ _) (fun s h=>lst_typeIs (h _ hp)) fun A s R hA hpre hn ht hR=>?_
 have ho:=hpre _ hp
 have hz:(lst vs n).data=.seq ⟨vs⟩ n:=rfl
 show wpAny _ _ (Builtin.List.listSubscript? (.int k t)>>=_) _ _ s
 refine wpAny_bind (wpAny_listSubscript_int (fitsIndex_of h0 (by omega)) ?_)
 obtain⟨j,rfl⟩:=Int.eq_ofNat_of_zero_le h0
 have hj:j<vs.length:=hk
 have hx':(⟨vs⟩:Array Value)[j]?=some vs[j]:=by simp[hj]
 show wpAny _ _ ((seqItemAt l j>>=fun r=>pure (r.map (j,·)))>>=_) _ _ s
 refine wpAny_bind (wpAny_bind (wpAny_seqItemAt ho hz (wpAny_pure ?_)))
 rw[hx']
 show wpAny _ _ (setSeqItemAt l j v>>=_) _ _ s
 refine wpAny_bind (wpAny_setSeqItemAt ho hz ?_)
 unfold Eff.heap at hR
 rw[hr,hu,hnew,hdt]at hR
 have e2:=update_const (f:=Obj.mapSeq (·.setIfInBounds j v)) ho
 have e3:Obj.mapSeq (·.setIfInBounds j v) (lst vs n)=lst (vs.set j v) n:=by
  simp[Obj.mapSeq,lst]
 rw[e3]at e2
 rw[←e2]
 exact wpAny_pure hR
theorem eff_getitem{l:Addr}{n:Nat}{k:Int}{t:Tok}{v:Value}(hc:e.c=.call (.builtin "list.__getitem__") ⟨[.ref l,.int k t],[]⟩)(hp:(l,lst vs n)∈e.pre)(h0:0≤k)(hk:vs[k.toNat]?=some v)(hsz:vs.length≤2 ^ 20)
  (hu:e.upd=none) (hnew:e.new=[]) (hr:e.r=.ok (.ret v)) (hdt:e.dt=0):e.Ok prog w:=by
 refine eff_slot hc slot_list_getitem entry_list_getitem (args_list_getitem _ _) (fun s h=>lst_typeIs (h _ hp)) fun A s R hA hpre hn ht hR=>?_
 have ho:=hpre _ hp
 have hz:(lst vs n).data=.seq ⟨vs⟩ n:=rfl
 have hkl:k.toNat<vs.length:=(List.getElem?_eq_some_iff.mp hk).1
 show wpAny _ _ (Builtin.List.listSubscript? (.int k t)>>=_) _ _ s
 refine wpAny_bind (wpAny_listSubscript_int (fitsIndex_of h0 (by omega)) ?_)
 obtain⟨j,rfl⟩:=Int.eq_ofNat_of_zero_le h0
 have hj:j<vs.length:=hkl
 have hx':(⟨vs⟩:Array Value)[j]?=some v:=by simpa using hk
 show wpAny _ _ ((seqItemAt l j>>=fun r=>pure (r.map (j,·)))>>=_) _ _ s
 refine wpAny_bind (wpAny_bind (wpAny_seqItemAt ho hz (wpAny_pure ?_)))
 rw[hx']
 unfold Eff.heap at hR
 rw[hr,hu,hnew,hdt]at hR
 exact wpAny_pure hR
end
section
variable{e:Eff}
theorem slot_revnext:Slot "list_reverseiterator" "__next__" "list_reverseiterator.__next__" :=
 .of (owner:="list_reverseiterator") (n:="__next__") (by rw[typeLookup_type,builtinLookup_eq_fast]; kernel_rfl) (by decide +kernel) (by decide +kernel) (by decide +kernel)
  (by first|exact .inl (by decide +kernel)|exact .inr (by decide +kernel)) (by rw[isSubtype_type]; kernel_rfl)
theorem entry_revnext:entryFor table "list_reverseiterator.__next__"=some Builtin.«list_reverseiterator.__next__»:=entryFor_of_tree (by kernel_rfl)
theorem args_revnext(a:Value):argsOk "list_reverseiterator.__next__" ⟨[a],[]⟩:=by unfold argsOk; kernel_rfl
noncomputable def rit(l:Addr)(i:Int):Obj:=⟨.type "list_reverseiterator",none,.fields #[.ref l,.int i 0],#[]⟩
theorem eff_revnext{a l:Addr}{i:Int}{n:Nat}{z:Value}(hc:e.c=.call (.builtin "list_reverseiterator.__next__") ⟨[.ref a],[]⟩)(hp:(a,rit l i)∈e.pre)(hpl:(l,lst vs n)∈e.pre)(h0:0≤i)(hz:vs[i.toNat]?=some z)
  (hu:e.upd=some (a,rit l (i-1))) (hnew:e.new=[]) (hr:e.r=.ok (.ret z)) (hdt:e.dt=0):e.Ok prog w:=by
 refine eff_slot hc slot_revnext entry_revnext (args_revnext _) (fun s h=>⟨_,h _ hp,rfl⟩) fun A s R hA hpre hn ht hR=>?_
 have ho:=hpre _ hp
 have hol:=hpre _ hpl
 have hd:(rit l i).data=.fields #[.ref l,.int i 0]:=rfl
 unfold Builtin.«list_reverseiterator.__next__»
 refine wpAny_bind (wpAny_pure ?_)
 refine wpAny_bind (wpAny_field (x:=.int i 0) ho hd rfl ?_)
 show wpAny _ _ (if i<0 then _ else _) _ _ s
 rw[if_neg (by omega)]
 obtain⟨k,rfl⟩:=Int.eq_ofNat_of_zero_le h0
 have hz':(⟨vs⟩:Array Value)[k]?=some z:=by simpa using hz
 refine wpAny_bind (wpAny_field (x:=.ref l) ho hd rfl ?_)
 refine wpAny_bind (wpAny_seqItems (items:=⟨vs⟩) (n:=n) hol rfl ?_)
 have hz2:(⟨vs⟩:Array Value)[((k:Nat):Int).toNat]?=some z:=hz'
 simp only[hz2]
 refine wpAny_bind (wpAny_setField ho hd (Nat.lt_succ_self 1) ?_)
 refine wpAny_pure ?_
 unfold Eff.heap at hR
 rw[hr,hu,hnew,hdt]at hR
 have e2:=update_const (f:=Obj.mapFields (·.setIfInBounds 1 (rawInt ((k:Int)-1)))) ho
 have e3:Obj.mapFields (·.setIfInBounds 1 (rawInt ((k:Int)-1))) (rit l k)=rit l ((k:Int)-1):=rfl
 rw[e3]at e2
 rw[←e2]
 exact hR
end
section
namespace Dv
noncomputable def hs1(a b:Int)(n t:Nat):List H:=[.b,.m 0,.m 0,.m 0,.m 0,.m 0,.m 0,.b,.s,.m 0,.s,.s,.m 0,.s,.s,.b,H.v (Value.bool true),.s,.b,.b,.m 0,.m 0,
 .e [] none [tup [.int (a.fdiv b) (t+5),.int (a.fmod b) (t+5+1)]] (.ok (.ret (.ref (n+1)))) 2]
noncomputable def ar1(a b k:Int)(ta tb tk:Nat):Args:=⟨[.int a ta,.int b tb,.int k tk],[]⟩
noncomputable def o1 c W n t a b k d e f:=startF (S1 c W n t 3) 42 (ar1 a b k d e f) [] (hs1 a b n t)
end Dv
open Dv
noncomputable def EvDv1 kt W:=∀n t a b k ta tb tk,
 RetIs (o1 kt W n t a b k ta tb tk) [(.bool (dLe ((X.bitsQ a:Nat)-k) 4000),.bool true)]
  [⟨.call (.builtin "divmod") ⟨[.int a ta,.int b tb],[]⟩,[],none,[tup [.int (a.fdiv b) (t+5),.int (a.fmod b) (t+5+1)]],.ok (.ret (.ref (n+1))),2,n+1,t+5⟩]
  (.ok (.ret (.ref (n+1)))) [(1,n+1,tup [.int (a.fdiv b) (t+5),.int (a.fmod b) (t+5+1)])]
theorem div2n1n_spec(E:∀W,EvDv1 kt W)(B:Base kt W s.heap)(hA:A.handled=none)(hd:A.depth+3<1000)
  {a b k:Int} {ta tb tk:Nat} (h1:(PySem.Builtin.Int.intBits a:Int)-k≤4000) (hb:b≠0) (hs:b.natAbs.log2<9000)
  (hR:∀s' x t1 t2,Fut [] [] s s'→s'.heap.get? x=some (tup [.int (a.fdiv b) t1,.int (a.fmod b) t2])→s.heap.objs.size≤x→R (.ok (.ret (.ref x))) s') :
  codeAny W.M A (.call (.ref 42) (ar1 a b k ta tb tk)) R s:=by
 refine startF_sound (M:=[]) B hA hd (fun _ h=>(nomatch h)) List.nodup_nil (fun _ h=>(nomatch h)) (by decide) (post_retIs (E W _ _ a b k ta tb tk) ?_ ?_ ?_)
 ·refine fc ?_ fz
  rw[dLe_eq,←X.bitsQ_eq,decide_eq_true h1]
 ·refine fc ?_ fz
  exact eff_divmod rfl rfl hb hs rfl rfl rfl
 ·intro h' M' j i D hp
  exact hR _ _ _ _ (rep_fut (M:=[]) D) (hp _ Z0) (lU ..)
end
namespace I2
noncomputable def tb(kt:Params→KT)(W:Wd)(a:Nat):Obj:=match(kt W.w.params).get a with|some o=>o|none=>default
noncomputable def hsA(n t k:Nat)(a:Int):List H:=[.b,.m 1,.m 1,.m 2,.m 2,.b,.s,.m 1,.v (.int (X.bitsQ a:Nat) (t+2)),.s,.m 2,.s,.s,.s,.s,.m 2,.i [] (.int (zN k) (t+6)) 1,.m 5,.s,.s,.m 5,.m 5,
 .e [5] none [lst (List.replicate k (.int 0 (t+1))) 0] (.ok (.ret (.ref (n+5)))) 0,.m 3,.m 3,.b,.m 0,.m 0,.m 0,.m 0,.b,.b,.b,.m 4,.m 4,.m 1,H.v (Value.bool true),.s,.m 4,.m 1,.b,.b,.m 3,
 .i [6] (.int (zN k) (t+24)) 2,.m 14,.z]
noncomputable def arA(a m:Int)(ta tm:Nat):Args:=⟨[.int a ta,.int m tm],[]⟩
noncomputable def oA b W n t k a m c d:=startF (S1 b W n t 60) 56 (arA a m c d) [(51,tb b W 51)] (hsA n t k a)
noncomputable def cob(kt:Params→KT)(W:Wd)(n t:Nat):Obj:=match nth (oM (oA kt W n t 0 0 0 0 0)) 13 with|some p=>p.2|none=>default
noncomputable def tb51(c:Addr):Obj:=⟨.none,none,.fields #[.int 75 0,.int 4 0,.ref c],#[]⟩
noncomputable def MB(kt:Params→KT)(W:Wd)(n0 t0:Nat):Mem1:=[(51,tb51 (n0+12)),(n0+12,cob kt W n0 t0)]
noncomputable def hsB(n t k:Nat)(a:Int):List H:=[.b,.m 2,.m 2,.m 3,.m 3,.b,.s,.m 2,.v (.int (X.bitsQ a:Nat) (t+2)),.s,.m 3,.s,.s,.s,.s,.m 3,.i [] (.int (zN k) (t+6)) 1,.m 6,.s,.s,.m 6,.m 6,
 .e [6] none [lst (List.replicate k (.int 0 (t+1))) 0] (.ok (.ret (.ref (n+5)))) 0,.m 4,.m 4,.b,.m 0,.b,.b,.b,.m 5,.m 5,.m 2,H.v (Value.bool true),.s,.m 5,.m 2,.b,.b,.m 4,
 .i [7] (.int (zN k) (t+9)) 2,.m 9,.z]
noncomputable def oB b W c d n t k a m e f:=startF (S1 b W n t 60) 56 (arA a m e f) (MB b W c d) (hsB n t k a)
noncomputable def sN:Str:=⟨⟨[110]⟩⟩
noncomputable def sInner:Str:=U13
noncomputable def sAd:Str:=U4
noncomputable def fob(kt:Params→KT)(W:Wd):Obj:=match nth (oM (oB kt W 0 0 0 0 0 0 0 0 0)) 9 with|some p=>p.2|none=>default
noncomputable def fo(kt:Params→KT)(W:Wd)(cN cI cD c ct:Addr):Obj:=match fob kt W with
 | ⟨k,d,.func fd,sl⟩=>⟨k,d,.func {fd with closure:=[(sN,cN),(sInner,cI),(sAd,cD)],code:=.ref c,closureTuple:=.ref ct},sl⟩
 | o=>o
noncomputable def cell(v:Value):Obj:=⟨.type "cell",none,.cell (some v),#[]⟩
structure Pr where
 n0:Nat
 t0:Nat
 f:Addr
 cN:Addr
 cI:Addr
 cD:Addr
 ct:Addr
 l:Addr
 m:Int
 tm:Nat
noncomputable def MI(kt:Params→KT)(W:Wd)(p:Pr)(vs:List Value)(e:Nat):Mem1 :=
 [(p.f,fo kt W p.cN p.cI p.cD (p.n0+12) p.ct),(p.n0+12,cob kt W p.n0 p.t0),(p.cN,cell (.int p.m p.tm)),(p.cI,cell (.ref p.f)),(p.cD,cell (.ref p.l)),(p.l,lst vs e)]
noncomputable def arI(x L R:Int)(tx tL tR:Nat):Args:=⟨[.int x tx,.int L tL,.int R tR],[]⟩
end I2
noncomputable def xorQ(x y:Int):Int:=ZFast.zw7248689259095247626 x y
theorem xorQ_eq(x y:Int):xorQ x y=Builtin.bitXor x y:=by rw[ZFast.ze7248689259095247626]; rfl
noncomputable def eInt(id:String)(args:List Value)(v:Int)(n t:Nat):Eff:=⟨.call (.builtin id) ⟨args,[]⟩,[],none,[],.ok (.ret (.int v t)),1,n,t⟩
namespace I2
noncomputable def zr(t k:Nat):Obj:=lst (List.replicate k (.int 0 (t+1))) 0
noncomputable def eLen(l:Addr)(o:Obj)(k n t:Nat):Eff:=⟨.call (.builtin "len") ⟨[.ref l],[]⟩,[(l,o)],none,[],.ok (.ret (.int (zN k) (t+1))),2,n,t⟩
noncomputable def eRep(n t k:Nat):Eff:=⟨.call (.builtin "list.__mul__") ⟨[.ref (n+4),.int (zN k) (t+6)],[]⟩,[(n+4,lst [.int 0 (t+1)] 0)],none,[zr t k],.ok (.ret (.ref (n+5))),0,n+5,t+7⟩
noncomputable def eK(n t k:Nat)(a m:Int)(tm:Nat):Eff:=eInt "int.__floordiv__" [.int ((X.bitsQ a:Nat)+m-1) (t+5),.int m tm] (zN k) (n+5) (t+6)
noncomputable def vsO(a:Int)(b:Bool)(t:Nat):List (Value×Value):=[(.bool (!dEq a 0),.bool b),(.int (X.bitsQ a:Nat) (t+2),.int (X.bitsQ a:Nat) (t+2))]
noncomputable def EvA kt W:=∀n t k a m ta tm,
 StopIs (oA kt W n t k a m ta tm) (vsO a true t) [eLen (n+5) (zr t k) k (n+14) (t+23),eRep n t k,eK n t k a m tm]
  (.call (.ref (n+13)) (arI a (zN 0) (zN k) ta (t+22) (t+24))) 1
  [(0,51,tb51 (n+12)),(13,n+12,cob kt W n t),(14,n+13,fo kt W (n+1) (n+3) (n+2) (n+12) (n+6)),(2,n+1,cell (.int m tm)),(4,n+3,cell (.ref (n+13))),(3,n+2,cell (.ref (n+5))),(6,n+5,zr t k)]
noncomputable def hsA0(n t k:Nat)(a:Int):List H:=(Hx 0x52166551 (.v (.int (X.bitsQ a:Nat) (t+2))::Hx 0x6222262 (.i [] (.int (zN k) (t+6)) 1::Hx 0x99229 (.e [5] none [lst (List.replicate k (.int 0 (t+1))) 0] (.ok (.ret (.ref (n+5)))) 0::Hx 0x5881114444177 (.v (.bool false)::Hx 0x72 [])))))
noncomputable def oA0 b W n t k a m c d:=startF (S1 b W n t 60) 56 (arA a m c d) [(51,tb b W 51)] (hsA0 n t k a)
noncomputable def hsB0(n t k:Nat)(a:Int):List H:=(Hx 0x62177661 (.v (.int (X.bitsQ a:Nat) (t+2))::Hx 0x7222272 (.i [] (.int (zN k) (t+6)) 1::Hx 0xaa22a (.e [6] none [lst (List.replicate k (.int 0 (t+1))) 0] (.ok (.ret (.ref (n+5)))) 0::Hx 0x6991114188 (.v (.bool false)::Hx 0x82 [])))))
noncomputable def oB0 b W c d n t k a m e f:=startF (S1 b W n t 60) 56 (arA a m e f) (MB b W c d) (hsB0 n t k a)
noncomputable def EvA0 kt W:=∀n t k a m ta tm,
 RetIs (oA0 kt W n t k a m ta tm) (vsO a false t) [eRep n t k,eK n t k a m tm] (.ok (.ret (.ref (n+5)))) [(0,51,tb51 (n+12)),(13,n+12,cob kt W n t),(6,n+5,zr t k)]
noncomputable def EvB kt W:=∀n0 t0 n t k a m ta tm,
 StopIs (oB kt W n0 t0 n t k a m ta tm) (vsO a true t) [eLen (n+5) (zr t k) k (n+8) (t+8),eRep n t k,eK n t k a m tm]
  (.call (.ref (n+7)) (arI a (zN 0) (zN k) ta (t+7) (t+9))) 1
  [(0,51,tb51 (n0+12)),(1,n0+12,cob kt W n0 t0),(9,n+7,fo kt W (n+1) (n+3) (n+2) (n0+12) (n+6)),(3,n+1,cell (.int m tm)),(5,n+3,cell (.ref (n+7))),(4,n+2,cell (.ref (n+5))),(7,n+5,zr t k)]
noncomputable def EvB0 kt W:=∀n0 t0 n t k a m ta tm,
 RetIs (oB0 kt W n0 t0 n t k a m ta tm) (vsO a false t) [eRep n t k,eK n t k a m tm] (.ok (.ret (.ref (n+5)))) [(0,51,tb51 (n0+12)),(1,n0+12,cob kt W n0 t0),(7,n+5,zr t k)]
noncomputable def oZ a W o n b c d:=on a W c d o (rt .none) [(n+2,cell (.ref (n+5))),(n+5,lst b 0)] [.m 0]
noncomputable def EvZA kt W:=∀n t k a m ta tm vs n' t',RetIs (oZ kt W (oA kt W n t k a m ta tm) n vs n' t') [] [] (.ok (.ret (.ref (n+5)))) [(0,n+2,cell (.ref (n+5))),(1,n+5,lst vs 0)]
noncomputable def EvZB kt W:=∀n0 t0 n t k a m ta tm vs n' t',RetIs (oZ kt W (oB kt W n0 t0 n t k a m ta tm) n vs n' t') [] [] (.ok (.ret (.ref (n+5)))) [(0,n+2,cell (.ref (n+5))),(1,n+5,lst vs 0)]
noncomputable def hsL(vs:List Value)(e:Nat)(x L:Int)(tx:Nat):List H:=(Hx 0xa22a21aaaaaa5 (.v (.bool true)::Hx 0x99a8a2 [.u [5] 5 (lst (vs.set L.toNat (.int x tx)) e) .none 0]))
noncomputable def oL_ a W p b e n t x L R c d f:=startH (S1 a W n t 60) 0 (arI x L R c d f) (MI a W p b e) (hsL b e x L c)
noncomputable def EvL kt W:=∀p vs e n t x L R tx tL tR,
 RetIs (oL_ kt W p vs e n t x L R tx tL tR) [(.bool (dEq (L+1) R),.bool true)] [⟨.call (.builtin "list.__setitem__") ⟨[.ref p.l,.int L tL,.int x tx],[]⟩,[(p.l,lst vs e),(p.l,lst vs e)],some (p.l,lst (vs.set L.toNat (.int x tx)) e),[],.ok (.ret .none),0,n+1,t+5⟩]
  (.ok (.ret .none)) [(5,p.l,lst (vs.set L.toNat (.int x tx)) e),(0,p.f,fo kt W p.cN p.cI p.cD (p.n0+12) p.ct),(1,p.n0+12,cob kt W p.n0 p.t0),(2,p.cN,cell (.int p.m p.tm)),(3,p.cI,cell (.ref p.f)),(4,p.cD,cell (.ref p.l))]
structure Nd where
 mid:Int
 sh:Int
 up:Int
 lo:Int
noncomputable def hsN(d:Nd)(t:Nat):List H:=(Hx 0xa22a21aaaaaa5 (.v (.bool false)::Hx 0x22aa2 (.i [] (.int d.mid (t+7)) 1::Hx 0x622aaaa (.i [] (.int d.sh (t+10)) 1::Hx 0xaaaa (.i [] (.int d.up (t+12)) 1::Hx 0xaaaaa (.i [] (.int (d.up*2 ^ d.sh.toNat) (t+14)) 1::.v (.int d.lo (t+15))::Hx 0x34aaa7aa2 []))))))
noncomputable def oN a W p b e n t x L R c f g d:=startH (S1 a W n t 60) 0 (arI x L R c f g) (MI a W p b e) (hsN d t)
noncomputable def frN(W:Wd)(t:Nat)(x L R:Int)(tx tL tR:Nat)(d:Nd):Obj:=fr W.w.params [(⟨⟨[120]⟩⟩,t,Value.int x tx),(⟨⟨[76]⟩⟩,t+1,Value.int L tL),(⟨⟨[82]⟩⟩,t+2,Value.int R tR),(U14,t+8,Value.int d.mid (t+7)),(U15,t+11,Value.int d.sh (t+10)),(⟨⟨[117,112,112,101,114]⟩⟩,t+13,Value.int d.up (t+12)),(⟨⟨[108,111,119,101,114]⟩⟩,t+16,Value.int d.lo (t+15))]
noncomputable def EvN kt W:=∀p vs e n t x L R tx tL tR d,
 StopIs (oN kt W p vs e n t x L R tx tL tR d) [(.int (xorQ x (d.up*2 ^ d.sh.toNat)) (t+15),.int d.lo (t+15)),(.bool (dEq (L+1) R),.bool false)]
  [eInt "int.__lshift__" [.int d.up (t+12),.int d.sh (t+10)] (d.up*2 ^ d.sh.toNat) (n+1) (t+14),eInt "int.__rshift__" [.int x tx,.int d.sh (t+10)] d.up (n+1) (t+12),eInt "int.__mul__" [.int (d.mid-L) (t+9),.int p.m p.tm] d.sh (n+1) (t+10),
   eInt "int.__rshift__" [.int (L+R) (t+5),.int 1 (t+6)] d.mid (n+1) (t+7)]
  (.call (.ref p.f) (arI d.lo L d.mid (t+15) tL (t+7))) 1 [(6,n,frN W t x L R tx tL tR d),(0,p.f,fo kt W p.cN p.cI p.cD (p.n0+12) p.ct),(1,p.n0+12,cob kt W p.n0 p.t0),(2,p.cN,cell (.int p.m p.tm)),(3,p.cI,cell (.ref p.f)),(4,p.cD,cell (.ref p.l)),(5,p.l,lst vs e)]
noncomputable def MN(kt:Params→KT)(W:Wd)(p:Pr)(n t:Nat)(x L R:Int)(tx tL tR:Nat)(d:Nd):Mem1:=[(n,frN W t x L R tx tL tR d),(p.cI,cell (.ref p.f)),(p.f,fo kt W p.cN p.cI p.cD (p.n0+12) p.ct)]
noncomputable def oN2(kt:Params→KT)(W:Wd)(p:Pr)(vs:List Value)(e n t:Nat)(x L R:Int)(tx tL tR:Nat)(d:Nd)(n' t':Nat):Out :=
 on kt W n' t' (oN kt W p vs e n t x L R tx tL tR d) (.ok (.ret .none)) (MN kt W p n t x L R tx tL tR d) (Hx 0x364445 [])
noncomputable def EvN2 kt W:=∀p vs e n t x L R tx tL tR d n' t',
 StopIs (oN2 kt W p vs e n t x L R tx tL tR d n' t') [] [] (.call (.ref p.f) (arI d.up d.mid R (t+12) (t+7) tR)) 1 [(0,n,frN W t x L R tx tL tR d),(1,p.cI,cell (.ref p.f)),(2,p.f,fo kt W p.cN p.cI p.cD (p.n0+12) p.ct)]
noncomputable def oN3(kt:Params→KT)(W:Wd)(p:Pr)(vs:List Value)(e n t:Nat)(x L R:Int)(tx tL tR:Nat)(d:Nd)(n' t' n'' t'':Nat):Out :=
 on kt W n'' t'' (oN2 kt W p vs e n t x L R tx tL tR d n' t') (.ok (.ret .none)) [] []
noncomputable def EvN3 kt W:=∀p vs e n t x L R tx tL tR d n' t' n'' t'',
 RetIs (oN3 kt W p vs e n t x L R tx tL tR d n' t' n'' t'') [] [] (.ok (.ret .none)) []
end I2
noncomputable def zv(z:Int×Nat):Value:=.int z.1 z.2
noncomputable def poly(m:Int):List (Int×Nat)→Int
 | []=>0
 | z::r=>z.1+2 ^ m.toNat*poly m r
theorem poly1{m:Int}{z:Int×Nat}:poly m [z]=z.1:=by show z.1+2 ^ m.toNat*0=z.1; simp
theorem poly_append(m:Int):∀a b:List (Int×Nat),poly m (a++b)=poly m a+2 ^ (m.toNat*a.length)*poly m b
 | [],b=>by show poly m b=0+2 ^ (m.toNat*0)*poly m b; simp
 | z::a,b=>by
  show z.1+2 ^ m.toNat*poly m (a++b)=z.1+2 ^ m.toNat*poly m a+_
  rw[poly_append m a b,List.length_cons,Nat.mul_add,Nat.mul_one,Int.pow_add,Int.mul_add]
  rw[Int.mul_comm (2 ^ (m.toNat*a.length)) (2 ^ m.toNat),Int.mul_assoc]
  omega
theorem poly_nonneg(m:Int):∀a:List (Int×Nat),(∀z∈a,0≤z.1)→0≤poly m a
 | [],_=>Int.le_refl _
 | z::a,h=>by
  have h1:=h z Z0
  have h2:=poly_nonneg m a fun y hy=>h y (.tail _ hy)
  have h3:(0:Int)≤2 ^ m.toNat:=Int.le_of_lt (Int.pow_pos (by decide))
  have h4:=Int.mul_nonneg h3 h2
  show 0≤z.1+2 ^ m.toNat*poly m a
  omega
theorem xor_low{x:Int}(hx:0≤x)(k:Nat):Builtin.bitXor x (x.fdiv (2 ^ k)*2 ^ k)=x.fmod (2 ^ k):=by
 obtain⟨n,rfl⟩:=Int.eq_ofNat_of_zero_le hx
 have e1:(n:Int).fdiv (2 ^ k)*2 ^ k=((n / 2 ^ k*2 ^ k:Nat):Int):=by
  rw[Int.fdiv_eq_ediv_of_nonneg _ (Int.le_of_lt (Int.pow_pos (by decide)))]
  simp
 have e2:(n:Int).fmod (2 ^ k)=((n % 2 ^ k:Nat):Int):=by
  rw[Int.fmod_eq_emod_of_nonneg _ (Int.le_of_lt (Int.pow_pos (by decide)))]
  simp
 rw[e1,e2,bitXor_and,bitAnd_pp (by omega) (by omega)]
 have e3:(n:Int).toNat &&& ((n / 2 ^ k*2 ^ k:Nat):Int).toNat=n / 2 ^ k*2 ^ k:=by
  show n &&& (n / 2 ^ k*2 ^ k)=n / 2 ^ k*2 ^ k
  apply Nat.eq_of_testBit_eq
  intro i
  rw[Nat.testBit_and,Nat.testBit_mul_two_pow,Nat.testBit_div_two_pow]
  by_cases h:k≤i
  ·rw[Nat.sub_add_cancel h]
   simp[h]
  ·simp[h]
 rw[e3]
 have e4:=Nat.div_add_mod n (2 ^ k)
 have e5:n / 2 ^ k*2 ^ k=2 ^ k*(n / 2 ^ k):=Nat.mul_comm _ _
 omega
theorem split_low(x:Int)(k:Nat):x.fmod (2 ^ k)+2 ^ k*x.fdiv (2 ^ k)=x:=by
 have:=Int.fmod_add_mul_fdiv x (2 ^ k)
 omega
theorem poly_append_le{m:Int}{a b:List (Int×Nat)}(ha:∀z∈a,0≤z.1)(hb:∀z∈b,0≤z.1):poly m a≤poly m (a++b)∧poly m b≤poly m (a++b):=by
 rw[poly_append]
 have h1:=poly_nonneg m a ha
 have h2:=poly_nonneg m b hb
 have h3:(1:Int)≤2 ^ (m.toNat*a.length):=Int.add_one_le_of_lt (Int.pow_pos (by decide))
 have h4:1*poly m b≤2 ^ (m.toNat*a.length)*poly m b:=Int.mul_le_mul_of_nonneg_right h3 h2
 omega
theorem poly_seg_le{m:Int}{zs:List (Int×Nat)}(h:∀z∈zs,0≤z.1)(L k:Nat):poly m ((zs.drop L).take k)≤poly m zs:=by
 have h1:∀z∈zs.drop L,0≤z.1:=fun z hz=>h z (List.mem_of_mem_drop hz)
 have e1:(zs.drop L).take k++(zs.drop L).drop k=zs.drop L:=List.take_append_drop k _
 have e2:zs.take L++zs.drop L=zs:=List.take_append_drop L zs
 have h2:=(poly_append_le (m:=m) (a:=(zs.drop L).take k) (b:=(zs.drop L).drop k) (fun z hz=>h1 z (List.mem_of_mem_take hz)) (fun z hz=>h1 z (List.mem_of_mem_drop hz))).1
 have h3:=(poly_append_le (m:=m) (a:=zs.take L) (b:=zs.drop L) (fun z hz=>h z (List.mem_of_mem_take hz)) h1).2
 rw[e1]at h2
 rw[e2]at h3
 omega
theorem sub2{L mid R:Nat}(h1:L≤mid)(h2:mid≤R):mid-L+(R-mid)=R-L:=by rw[Nat.add_comm,Nat.sub_add_sub_cancel h2 h1]
theorem natAbs_mono{a b:Int}(h0:0≤a)(h:a≤b):a.natAbs≤b.natAbs:=by omega
theorem seg_split{α:Type}(zs:List α){L mid R:Nat}(h1:L≤mid)(h2:mid≤R):(zs.drop L).take (R-L)=(zs.drop L).take (mid-L)++(zs.drop mid).take (R-mid):=by
 have e:R-L=(mid-L)+(R-mid):=(sub2 h1 h2).symm
 rw[e,List.take_add,List.drop_drop]
 have e2:L+(mid-L)=mid:=Nat.add_sub_of_le h1
 rw[e2]
namespace I2
structure Pr.Ok(p:Pr):Prop where
 nd:[p.f,p.n0+12,p.cN,p.cI,p.cD,p.l].Nodup
 off:∀a∈[p.f,p.n0+12,p.cN,p.cI,p.cD,p.l],hiA a
section
noncomputable def Own(kt:Params→KT)(W:Wd)(p:Pr)(vs:List Value)(e:Nat)(h:Heap):Prop:=∀q∈MI kt W p vs e,h.get? q.1=some q.2
theorem Own.mk'{p:Pr}{e:Nat}{h:Heap}(h1:h.get? p.f=some (fo kt W p.cN p.cI p.cD (p.n0+12) p.ct))(h2:h.get? (p.n0+12)=some (cob kt W p.n0 p.t0))(h3:h.get? p.cN=some (cell (.int p.m p.tm)))
  (h4:h.get? p.cI=some (cell (.ref p.f))) (h5:h.get? p.cD=some (cell (.ref p.l))) (h6:h.get? p.l=some (lst vs e)):Own kt W p vs e h:=by
 refine fc ?_ (fc ?_ (fc ?_ (fc ?_ (fc ?_ (fc ?_ fz)))))<;>assumption
theorem Own.fut{p:Pr}(hp:p.Ok){vs vs':List Value}{e e':Nat}(O:Own kt W p vs e s.heap)(F:Fut [p.l] [] s s')(hl:s'.heap.get? p.l=some (lst vs' e')):Own kt W p vs' e' s'.heap:=by
 have nd:=hp.nd
 simp only[List.nodup_cons,mc,nn,or_false,not_or]at nd
 have k:∀q∈MI kt W p vs e,q.1≠p.l→s'.heap.get? q.1=some q.2:=fun q hq h=>F.keep _ _ (O q hq) (by simpa using h)
 refine .mk' (k _ Z0 ?_) (k _ Z1 ?_) (k _ Z2 ?_) (k _ Z3 ?_) (k _ Z4 ?_) hl
 all_goals (show ¬_; simp only[nd,not_false_eq_true])
theorem eInt_isI(id:String)(args:List Value)(v:Int)(n t:Nat):IsI (eInt id args v n t) v:=⟨rfl,rfl,rfl,rfl⟩
theorem inner_spec(E1:∀W,EvL kt W)(E2:∀W,EvN kt W)(E3:∀W,EvN2 kt W)(E4:∀W,EvN3 kt W){p:Pr}(hp:p.Ok)(hm:0<p.m)(hm2:p.m≤1000){e:Nat}:
  ∀(d:Nat) {A:Around} {R:Result→Shared→Prop} {s:Shared} {vs:List Value} {x:Int} {L R' tx tL tR:Nat},Base kt W s.heap→A.handled=none→A.depth+d+60<1000 →
   L<R'→R'≤L+d→R'≤vs.length→vs.length≤1000→0≤x→Builtin.Int.intBits x≤10000→Own kt W p vs e s.heap →
   (∀s' zs,Fut [p.l] [] s s'→s'.heap.get? p.l=some (lst (vs.take L++zs.map zv++vs.drop R') e)→zs.length=R'-L→(∀z∈zs,0≤z.1)→poly p.m zs=x→R (.ok (.ret .none)) s') →
   codeAny W.M A (.call (.ref p.f) (arI x L R' tx tL tR)) R s
 | 0,_,_,_,_,_,_,_,_,_,_,_,_,_,h1,h2,_,_,_,_,_,_=>by omega
 | d+1,A,R,s,vs,x,L,R',tx,tL,tR,B,hA,hd,h1,h2,h3,h4,hx,hx2,O,hR=>by
  have nd:=hp.nd
  have off:∀q∈MI kt W p vs e,hiA q.1:=fun q hq=>hp.off _ (mmm (f:=(·.1)) hq)
  by_cases hLR:L+1=R'
  ·refine startH_sound (x:=0) (M:=MI kt W p vs e) B hA (by omega:A.depth+60<1000) O nd off (by decide) rfl (post_retIs (E1 W p vs e _ _ x L R' tx tL tR) ?_ ?_ ?_)
   ·refine fc ?_ fz
    rw[dEq_eq,decide_eq_true (by omega:((L:Int)+1=R'))]
   ·refine fc ?_ fz
    exact eff_setitem rfl Z0 (by omega) (by simp; omega) (by omega) rfl rfl rfl rfl
   ·intro h' M' j i D hps
    have F:=rep_futL (L:=[p.l]) (tk:=s.toks+i) D O (by
     refine fc ?_ (fc ?_ (fc ?_ (fc ?_ (fc ?_ (fc ?_ fz)))))
     ·exact .inr (hps _ Z1)
     ·exact .inr (hps _ Z2)
     ·exact .inr (hps _ Z3)
     ·exact .inr (hps _ Z4)
     ·exact .inr (hps _ Z5)
     ·exact .inl Z0)
    refine hR _ [(x,tx)] F ?_ (by simp; omega) (by simpa using hx) (by first|exact poly1|exact poly1.symm|simp[poly1])
    have hl:=hps _ Z0
    have e3:vs.set L (.int x tx)=vs.take L++[(x,tx)].map zv++vs.drop R':=by
     rw[List.set_eq_take_append_cons_drop,if_pos (by omega),←hLR]
     simp[zv]
    show h'.get? p.l=_
    rw[←e3]
    exact hl
  ·
   have hL2:L+2≤R':=by omega
   obtain⟨mid,hmid⟩:∃mid:Nat,mid=(L+R') / 2:=⟨_,rfl⟩
   have hm1:L<mid:=by omega
   have hm3:mid<R':=by omega
   obtain⟨k,hk⟩:∃k:Nat,((mid:Int)-L)*p.m=k:=⟨(((mid:Int)-L)*p.m).toNat,by
    have:=Int.mul_nonneg (by omega:(0:Int)≤(mid:Int)-L) (Int.le_of_lt hm)
    omega⟩
   have hk2:(k:Int)≤1000000:=by
    rw[←hk]
    have:((mid:Int)-L)*p.m≤1000*1000:=Int.mul_le_mul (by omega) hm2 (by omega) (by omega)
    omega
   have hk3:k=p.m.toNat*(mid-L):=by
    have h6:((p.m.toNat*(mid-L):Nat):Int)=(k:Int):=by
     rw[←hk]
     push_cast
     rw[Int.toNat_of_nonneg (Int.le_of_lt hm),Int.ofNat_sub (Nat.le_of_lt hm1),Int.mul_comm]
    omega
   have dd:Nd:=⟨mid,k,x.fdiv (2 ^ k),x.fmod (2 ^ k)⟩
   have hup:0≤x.fdiv (2 ^ k):=Int.fdiv_nonneg hx (Int.le_of_lt (Int.pow_pos (by decide)))
   have hlo:0≤x.fmod (2 ^ k):=Int.fmod_nonneg_of_pos _ (Int.pow_pos (by decide))
   have hupB:Builtin.Int.intBits (x.fdiv (2 ^ k))≤10000:=intBits_fdiv_le hx2
   have hloB:Builtin.Int.intBits (x.fmod (2 ^ k))≤10000:=by
    refine intBits_le_of_natAbs (y:=x) ?_ hx2
    have h6:=split_low x k
    have h7:=Int.mul_nonneg (Int.le_of_lt (Int.pow_pos (by decide):(0:Int)<2 ^ k)) hup
    omega
   refine startH_sound (x:=0) (M:=MI kt W p vs e) B hA (by omega:A.depth+60<1000) O nd off (by decide) rfl (post_stopIs (E2 W p vs e _ _ x L R' tx tL tR ⟨mid,k,x.fdiv (2 ^ k),x.fmod (2 ^ k)⟩) hA ?_ ?_ ?_)
   ·refine fc ?_ (fc ?_ fz)
    ·simp only[xorQ_eq,Int.toNat_natCast]
     rw[xor_low hx]
    ·rw[dEq_eq,decide_eq_false (by omega:¬((L:Int)+1=R'))]
   ·refine fc ?_ (fc ?_ (fc ?_ (fc ?_ fz)))
    ·exact eff_lshift rfl (eInt_isI ..) (Int.natCast_nonneg _) (by show((Builtin.Int.intBits (x.fdiv (2 ^ k)):Nat):Int)+(k:Int)≤_; omega)
    ·refine eff_rshift rfl ?_ (Int.natCast_nonneg _)
     exact eInt_isI ..
    ·refine eff_mul rfl ?_ (mulOk_of_bits (m:=64) (n:=64) (intBits_le_64 (by omega) (by omega)) (intBits_le_64 (by omega) (by omega)) (by decide))
     rw[hk]
     exact eInt_isI ..
    ·refine eff_rshift rfl ?_ (by decide)
     have:((L:Int)+R').fdiv (2 ^ (1:Int).toNat)=mid:=by
      show((L:Int)+R').fdiv 2=mid
      rw[Int.fdiv_eq_ediv_of_nonneg _ (by decide)]
      omega
     rw[this]
     exact eInt_isI ..
   ·intro h₁ M1 j1 i1 A1 D hps hA1 hd1
    simp only[mc,nn,or_false,forall_eq_or_imp,forall_eq]at hps
    obtain⟨p0,p1,p2,p3,p4,p5,p6⟩:=hps
    have F1:=rep_futL (L:=[]) (tk:=s.toks+i1) D O (by
     refine fc ?_ (fc ?_ (fc ?_ (fc ?_ (fc ?_ (fc ?_ fz)))))<;>exact .inr (by assumption))
    have B1:=B.fut F1 fz
    have O1:Own kt W p vs e h₁:=.mk' p1 p2 p3 p4 p5 p6
    refine inner_spec E1 E2 E3 E4 hp hm hm2 d (s:=⟨h₁,s.gens,s.drawn,s.toks+i1,s.os⟩) B1 hA1 (by omega) hm1 (by omega) (by omega) h4 hlo hloB O1 ?_
    intro s2 z1 F2 hl2 hz1 hz1' hz1''
    have B2:=B1.fut F2 (fc (by exact hp.off _ (by simp)) fz)
    have O2:=O1.fut hp F2 hl2
    have hn:∀a∈[p.f,p.n0+12,p.cN,p.cI,p.cD,p.l],a<s.heap.objs.size:=by
     intro a ha
     obtain⟨q,hq,rfl⟩:∃q∈MI kt W p vs e,q.1=a:=by
      have:[p.f,p.n0+12,p.cN,p.cI,p.cD,p.l]=(MI kt W p vs e).map (·.1):=rfl
      rw[this]at ha
      exact List.mem_map.mp ha
     exact Heap.lt_size (O q hq)
    have hnl:s.heap.objs.size≠p.l:=fun z=>by
     have:=hn p.l (by simp)
     rw[←z]at this
     exact Nat.lt_irrefl _ this
    have hnI:s.heap.objs.size≠p.cI:=fun z=>by
     have:=hn p.cI (by simp)
     rw[←z]at this
     exact Nat.lt_irrefl _ this
    have hnf:s.heap.objs.size≠p.f:=fun z=>by
     have:=hn p.f (by simp)
     rw[←z]at this
     exact Nat.lt_irrefl _ this
    have hIf:p.cI≠p.f:=by
     have:=nd
     simp only[List.nodup_cons,mc,nn,or_false,not_or]at this
     exact fun z=>this.1.2.2.1 z.symm
    have fr2:s2.heap.get? s.heap.objs.size=some (frN W s.toks x L R' tx tL tR ⟨mid,k,x.fdiv (2 ^ k),x.fmod (2 ^ k)⟩):=F2.keep _ _ p0 (by simpa using hnl)
    have own2:∀q∈MN kt W p s.heap.objs.size s.toks x L R' tx tL tR ⟨mid,k,x.fdiv (2 ^ k),x.fmod (2 ^ k)⟩,s2.heap.get? q.1=some q.2:=by
     refine fc ?_ (fc ?_ (fc ?_ fz))
     ·exact fr2
     ·exact O2 _ Z3
     ·exact O2 _ Z0
    refine startT_sound (M:=MN kt W p s.heap.objs.size s.toks x L R' tx tL tR ⟨mid,k,x.fdiv (2 ^ k),x.fmod (2 ^ k)⟩) B2 hA (by omega:A.depth+60<1000) own2 (by simp[MN,hnI,hnf,hIf]) (by
     refine fc ?_ (fc ?_ (fc ?_ fz))
     ·exact .inl B.sz
     ·exact hp.off _ (by simp)
     ·exact hp.off _ (by simp)) (post_stopIs (E3 W p vs e _ _ x L R' tx tL tR ⟨mid,k,x.fdiv (2 ^ k),x.fmod (2 ^ k)⟩ _ _) hA fz fz ?_)
    intro h₃ M3 j3 i3 A3 D3 hps3 hA3 hd3
    have F3:=rep_futL (L:=[]) (tk:=s2.toks+i3) D3 own2 (by
     refine fc ?_ (fc ?_ (fc ?_ fz))
     ·exact .inr (hps3 _ Z0)
     ·exact .inr (hps3 _ Z1)
     ·exact .inr (hps3 _ Z2))
    have B3:=B2.fut F3 fz
    have hl3:=F3.keep _ _ hl2 (fun h=>nomatch h)
    have O3:Own kt W p _ e h₃:=O2.fut hp (F3.mono fz fz) hl3
    have hlen:(vs.take L++z1.map zv++vs.drop mid).length=vs.length:=by simp; omega
    refine inner_spec E1 E2 E3 E4 hp hm hm2 d (s:=⟨h₃,s2.gens,s2.drawn,s2.toks+i3,s2.os⟩) B3 hA3 (by omega) hm3 (by omega) (by omega) (by omega) hup hupB O3 ?_
    intro s4 z2 F4 hl4 hz2 hz2' hz2''
    have B4:=B3.fut F4 (fc (by exact hp.off _ (by simp)) fz)
    refine startT_soundO (E3 W p vs e _ _ x L R' tx tL tR ⟨mid,k,x.fdiv (2 ^ k),x.fmod (2 ^ k)⟩ _ _).own (M:=[]) B4 hA (by omega:A.depth+60<1000) fz List.nodup_nil fz (post_retIs (E4 W p vs e _ _ x L R' tx tL tR ⟨mid,k,x.fdiv (2 ^ k),x.fmod (2 ^ k)⟩ _ _ _ _) fz fz ?_)
    intro h₅ M5 j5 i5 D5 _
    have F5:=rep_fut (M:=[]) (tk:=s4.toks+i5) D5
    have Fall:Fut [p.l] [] s ⟨h₅,s4.gens,s4.drawn,s4.toks+i5,s4.os⟩ :=
     ((((F1.mono fz (fun _ h=>h)).trans F2).trans (F3.mono fz (fun _ h=>h))).trans F4).trans (F5.mono fz (fun _ h=>h))
    refine hR _ (z1++z2) Fall ?_ (by simp; omega) (by
     intro z hz
     rcases mpp.mp hz with hz|hz
     ·exact hz1' _ hz
     ·exact hz2' _ hz) ?_
    ·have h6:=F5.keep _ _ hl4 (fun h=>nomatch h)
     rw[show h₅.get? p.l=_ from h6]
     have q1:(vs.take L++z1.map zv).length=mid:=by simp; omega
     have q2:(vs.take L++z1.map zv++vs.drop mid).take mid=vs.take L++z1.map zv:=by rw[←q1,List.take_left]
     have q3:(vs.take L++z1.map zv++vs.drop mid).drop R'=vs.drop R':=by
      rw[List.drop_append,List.drop_drop,List.drop_eq_nil_of_le (by omega),List.nil_append,q1]
      congr 1
      omega
     rw[q2,q3]
     simp only[List.map_append,List.append_assoc]
    ·rw[poly_append,hz1'',hz2'',hz1,←hk3]
     exact split_low x k
end
end I2
namespace I2
noncomputable def G51(kt:Params→KT)(W:Wd)(n0 t0:Nat)(h:Heap):Prop:=160≤n0∧h.get? 51=some (tb51 (n0+12))∧h.get? (n0+12)=some (cob kt W n0 t0)
noncomputable def T51(kt:Params→KT)(W:Wd)(h:Heap):Prop:=h.get? 51=some (tb kt W 51)∨∃n0 t0,G51 kt W n0 t0 h
section
theorem G51.fut{n0 t0:Nat}{G:List Nat}(h:G51 kt W n0 t0 s.heap)(F:Fut L G s s')(h1:51∉L)(h2:n0+12∉L):G51 kt W n0 t0 s'.heap :=
 ⟨h.1,F.keep _ _ h.2.1 h1,F.keep _ _ h.2.2 h2⟩
theorem T51.fut{G:List Nat}(h:T51 kt W s.heap)(B:Base kt W s.heap)(F:Fut L G s s')(hL:∀a∈L,s.heap.objs.size≤a∨a=58):T51 kt W s'.heap:=by
 have h1:=B.sz
 have key:∀a o,s.heap.get? a=some o→a≠58→s'.heap.get? a=some o:=fun a o e h5=>F.keep _ _ e fun z=>(hL _ z).elim (fun y=>absurd (Heap.lt_size e) (Nat.not_lt.mpr y)) h5
 rcases h with h|⟨n0,t0,h⟩
 ·exact .inl (key _ _ h (by decide))
 ·refine .inr ⟨n0,t0,h.1,key _ _ h.2.1 (by decide),key _ _ h.2.2 ?_⟩
  have:=h.1
  exact(by omega:n0+12≠58)
noncomputable def I2Res(kt:Params→KT)(W:Wd)(s:Shared)(a m:Int)(k:Nat)(R:Result→Shared→Prop):Prop :=
 ∀s' l zs,Fut [51] [] s s'→s'.heap.get? l=some (lst (zs.map zv) 0)→s.heap.objs.size≤l→zs.length=k→(∀z∈zs,0≤z.1)→poly m zs=a→T51 kt W s'.heap→R (.ok (.ret (.ref l))) s'
theorem i2_mid(E1:∀W,EvL kt W)(E2:∀W,EvN kt W)(E3:∀W,EvN2 kt W)(E4:∀W,EvN3 kt W){o:Out}(hown:(oMd o).isGen=false){n:Nat}(EZ:∀vs n' t',RetIs (oZ kt W o n vs n' t') [] [] (.ok (.ret (.ref (n+5)))) [(0,n+2,cell (.ref (n+5))),(1,n+5,lst vs 0)])
  {p:Pr} (hp:p.Ok) (hl:p.l=n+5) (hcD:p.cD=n+2) (hm:0<p.m) (hm2:p.m≤1000) {A A1:Around} {R:Result→Shared→Prop} {P:End→Shared→Prop} {s s₁:Shared} {a:Int} {k ta tL tR tk n0 t0:Nat}
  (B:Base kt W s.heap) (hn:s.heap.objs.size=n) (F1:Fut [51] [] s s₁) (O1:Own kt W p (List.replicate k (.int 0 tk)) 0 s₁.heap) (T1:G51 kt W n0 t0 s₁.heap) (hl2:n0+12≠n+5)
  (hA:A.handled=none) (hd:A.depth+60<1000) (hA1:A1.handled=none) (hd1:A1.depth+k+60<1000) (hk:0<k) (hk2:k≤1000) (ha:0≤a) (hb:Builtin.Int.intBits a≤10000) (hR:I2Res kt W s a p.m k R) :
  codeAny W.M A1 (.call (.ref p.f) (arI a (zN 0) (zN k) ta tL tR)) (fun r s'=>Mean W A R P (oCc o) (oMd o) (oK o r) s') s₁:=by
 have h160:=B.sz
 have B1:=B.fut F1 (fc (by exact .inr (.inl rfl)) fz)
 refine inner_spec E1 E2 E3 E4 hp hm hm2 k (L:=0) (R':=k) B1 hA1 hd1 hk (by omega) (by simp) (by simpa using hk2) ha hb O1 ?_
 intro s2 zs F2 hl₂ hz hz' hz''
 have B2:=B1.fut F2 (fc (by exact hp.off _ (by simp)) fz)
 have O2:=O1.fut hp F2 hl₂
 have e1:List.take 0 (List.replicate k (Value.int 0 tk))++zs.map zv++List.drop k (List.replicate k (Value.int 0 tk))=zs.map zv:=by simp
 rw[e1]at hl₂ O2
 have c2:s2.heap.get? (n+2)=some (cell (.ref (n+5))):=by
  have:=O2 _ Z4
  rw[←hcD,←hl]
  exact this
 have l2:s2.heap.get? (n+5)=some (lst (zs.map zv) 0):=by rw[←hl]; exact hl₂
 have T2:=T1.fut F2 (by simp only[ms]; rw[hl]; exact(by omega:(51:Nat)≠n+5)) (by simp only[ms]; rw[hl]; exact hl2)
 have own:∀q∈([(n+2,cell (.ref (n+5))),(n+5,lst (zs.map zv) 0)]:Mem1),s2.heap.get? q.1=some q.2:=by
  refine fc ?_ (fc ?_ fz)
  ·exact c2
  ·exact l2
 refine startT_soundO hown (M:=[(n+2,cell (.ref (n+5))),(n+5,lst (zs.map zv) 0)]) B2 hA hd own (by simp) (by
  refine fc ?_ (fc ?_ fz)<;>exact .inl (by show 160≤_; omega)) (post_retIs (EZ _ _ _) fz fz ?_)
 intro h₃ M3 j3 i3 D3 hp3
 have F3:=rep_futL (L:=[]) (tk:=s2.toks+i3) D3 own (by
  refine fc ?_ (fc ?_ fz)
  ·exact .inr (hp3 _ Z0)
  ·exact .inr (hp3 _ Z1))
 have F12:Fut [51] [] s s2:=F1.trans' F2 (fc (by rw[hl,hn]; exact .inr (lU ..)) fz) fz
 exact hR _ _ _ (F12.trans (F3.mono fz (fun _ h=>h))) (F3.keep _ _ l2 (fun h=>nomatch h)) (by rw[hn]; exact lU ..) (by simpa using hz) hz' hz'' (.inr ⟨_,_,T2.fut F3 (fun h=>nomatch h) (fun h=>nomatch h)⟩)
theorem fit_k{a m:Int}{k:Nat}(hk:((X.bitsQ a:Nat)+m-1).fdiv m=(k:Int))(hm:0<m)(ha:a≠0):0<k:=by
 have h1:1≤X.bitsQ a:=by
  rw[←X.bitsQ_eq]
  unfold Builtin.Int.intBits
  rw[if_neg (by simpa using ha)]
  omega
 rw[Int.fdiv_eq_ediv_of_nonneg _ (by omega)]at hk
 have h2:m / m≤((X.bitsQ a:Nat)+m-1) / m:=Int.ediv_le_ediv hm (by omega)
 rw[Int.ediv_self (by omega),hk]at h2
 omega
theorem effs_rep{n t k:Nat}{a m:Int}{tm:Nat}(hk:((X.bitsQ a:Nat)+m-1).fdiv m=(k:Int))(hm:0<m)(hm2:m≤1000)(hk2:k≤1000):
  (eRep n t k).Ok PW W.w∧(eK n t k a m tm).Ok PW W.w:=by
 constructor
 ·exact eff_list_rep rfl Z0 rfl (by show(k:Int)≤2 ^ 20; omega) (by show(0:Int)≤(k:Int); omega) rfl rfl rfl
 ·refine eff_floordiv (a:=(X.bitsQ a:Nat)+m-1) (b:=m) rfl ?_ (by omega) ?_
  ·rw[hk]
   exact eInt_isI ..
  ·have:m.natAbs.log2≤m.natAbs:=Nat.log2_le_self _
   omega
theorem int2digits_spec(E1:∀W,EvL kt W)(E2:∀W,EvN kt W)(E3:∀W,EvN2 kt W)(E4:∀W,EvN3 kt W)(EA:∀W,EvA kt W)(EA0:∀W,EvA0 kt W)(EB:∀W,EvB kt W)(EB0:∀W,EvB0 kt W)(EZA:∀W,EvZA kt W)(EZB:∀W,EvZB kt W){a m:Int}{k ta tm:Nat}
  (B:Base kt W s.heap) (T:T51 kt W s.heap) (hA:A.handled=none) (hd:A.depth+k+61<1000) (hm:0<m) (hm2:m≤1000) (ha:0≤a) (hb:Builtin.Int.intBits a≤10000)
  (hk:((Builtin.Int.intBits a:Nat)+m-1).fdiv m=(k:Int)) (hk2:k≤1000) (hR:I2Res kt W s a m k R):codeAny W.M A (.call (.ref 56) (arA a m ta tm)) R s:=by
 have h160:=B.sz
 rw[X.bitsQ_eq]at hk
 have hv:∀b,(b=true↔a≠0)→∀p∈vsO a b s.toks,p.1=p.2:=by
  intro b hb p hp
  simp only[vsO,mf,nn,or_false]at hp
  rcases hp with rfl|rfl
  ·rw[dEq_eq]
   by_cases h:a=0
   ·have:b=false:=by
     cases b with
     | false=>rfl
     | true=>exact absurd h (hb.mp rfl)
    rw[this,decide_eq_true h]; rfl
   ·rw[hb.mpr h,decide_eq_false h]; rfl
  ·rfl
 have he0:=effs_rep (W:=W) (n:=s.heap.objs.size) (t:=s.toks) (tm:=tm) hk hm hm2 hk2
 have heL:∀j t,(eLen (s.heap.objs.size+5) (zr s.toks k) k j t).Ok PW W.w:=by
  intro j t
  refine eff_len_list (vs:=List.replicate k (.int 0 (s.toks+1))) (n:=0) rfl Z0 rfl rfl (by simp; omega) ?_ rfl
  simp[eLen]
 rcases T with T|⟨n0,t0,T⟩
 ·have own:∀q∈([(51,tb kt W 51)]:Mem1),s.heap.get? q.1=some q.2:=by
   refine fc ?_ fz
   exact T
  have off:∀q∈([(51,tb kt W 51)]:Mem1),hiA q.1:=by
   refine fc ?_ fz
   exact .inr (.inl rfl)
  by_cases h0:a=0
  ·subst h0
   refine startF_sound B hA (by omega:A.depth+60<1000) own (by simp) off (by decide) (post_retIs (EA0 W _ _ k 0 m ta tm) (hv false (by simp)) ?_ ?_)
   ·refine fc ?_ (fc ?_ fz)
    ·exact he0.1
    ·exact he0.2
   ·intro h' M' j i D hp
    have hk0:k=0:=by
     have:X.bitsQ 0=0:=by rw[←X.bitsQ_eq]; rfl
     rw[this]at hk
     have h3:(((0:Nat):Int)+m-1).fdiv m=0:=by
      rw[Int.fdiv_eq_ediv_of_nonneg _ (by omega)]
      exact Int.ediv_eq_zero_of_lt (by omega) (by omega)
     omega
    subst hk0
    exact hR _ (s.heap.objs.size+5) [] (rep_fut D) (hp _ Z2) (lU ..) rfl fz rfl (.inr ⟨_,_,B.sz,(hp _ Z0),(hp _ Z1)⟩)
  ·refine startF_sound B hA (by omega:A.depth+60<1000) own (by simp) off (by decide) (post_stopIs (EA W _ _ k a m ta tm) hA (hv true (by simpa using h0)) ?_ ?_)
   ·refine fc ?_ (fc ?_ (fc ?_ fz))
    ·exact heL _ _
    ·exact he0.1
    ·exact he0.2
   ·intro h' M' j i A' D hp hA' hd'
    refine i2_mid E1 E2 E3 E4 (EA W _ _ k a m ta tm).own (EZA W _ _ k a m ta tm) (p:=⟨s.heap.objs.size,s.toks,s.heap.objs.size+13,s.heap.objs.size+1,s.heap.objs.size+3,s.heap.objs.size+2,s.heap.objs.size+6,s.heap.objs.size+5,m,tm⟩)
     ⟨by simp,by
      refine fc ?_ (fc ?_ (fc ?_ (fc ?_ (fc ?_ (fc ?_ fz)))))<;>exact .inl (by show 160≤_; omega)⟩
     rfl rfl hm hm2 (s₁:=⟨h',s.gens,s.drawn,s.toks+i,s.os⟩) B rfl (rep_fut D) (.mk' (hp _ Z2) (hp _ Z1) (hp _ Z3) (hp _ Z4) (hp _ Z5) (hp _ Z6)) ⟨B.sz,(hp _ Z0),(hp _ Z1)⟩ (by simp) hA (by omega) hA' (by omega) (fit_k hk hm h0) hk2 ha hb hR
 ·have own:∀q∈MB kt W n0 t0,s.heap.get? q.1=some q.2:=by
   refine fc ?_ (fc ?_ fz)
   ·exact T.2.1
   ·exact T.2.2
  have n0l:n0+12<s.heap.objs.size:=Heap.lt_size T.2.2
  have n0g:=T.1
  have off:∀q∈MB kt W n0 t0,hiA q.1:=by
   refine fc ?_ (fc ?_ fz)
   ·exact .inr (.inl rfl)
   ·exact .inl (by show 160≤_; omega)
  have nd:((MB kt W n0 t0).map (·.1)).Nodup:=by
   exact pc (fc (by omega:(51:Nat)≠n0+12) fz) (pc fz .nil)
  by_cases h0:a=0
  ·subst h0
   refine startF_sound B hA (by omega:A.depth+60<1000) own nd off (by decide) (post_retIs (EB0 W n0 t0 _ _ k 0 m ta tm) (hv false (by simp)) ?_ ?_)
   ·refine fc ?_ (fc ?_ fz)
    ·exact he0.1
    ·exact he0.2
   ·intro h' M' j i D hp
    have hk0:k=0:=by
     have:X.bitsQ 0=0:=by rw[←X.bitsQ_eq]; rfl
     rw[this]at hk
     have h3:(((0:Nat):Int)+m-1).fdiv m=0:=by
      rw[Int.fdiv_eq_ediv_of_nonneg _ (by omega)]
      exact Int.ediv_eq_zero_of_lt (by omega) (by omega)
     omega
    subst hk0
    have F:=rep_futL (L:=[51]) (tk:=s.toks+i) D own (by
     refine fc ?_ (fc ?_ fz)
     ·exact .inl Z0
     ·exact .inr (hp _ Z1))
    exact hR _ (s.heap.objs.size+5) [] F (hp _ Z2) (lU ..) rfl fz rfl (.inr ⟨_,_,T.1,(hp _ Z0),(hp _ Z1)⟩)
  ·refine startF_sound B hA (by omega:A.depth+60<1000) own nd off (by decide) (post_stopIs (EB W n0 t0 _ _ k a m ta tm) hA (hv true (by simpa using h0)) ?_ ?_)
   ·refine fc ?_ (fc ?_ (fc ?_ fz))
    ·exact heL _ _
    ·exact he0.1
    ·exact he0.2
   ·intro h' M' j i A' D hp hA' hd'
    have F:=rep_futL (L:=[51]) (tk:=s.toks+i) D own (by
     refine fc ?_ (fc ?_ fz)
     ·exact .inl Z0
     ·exact .inr (hp _ Z1))
    have ne:∀j,n0+12≠s.heap.objs.size+j:=by intro j; omega
    refine i2_mid E1 E2 E3 E4 (EB W n0 t0 _ _ k a m ta tm).own (EZB W n0 t0 _ _ k a m ta tm) (p:=⟨n0,t0,s.heap.objs.size+7,s.heap.objs.size+1,s.heap.objs.size+3,s.heap.objs.size+2,s.heap.objs.size+6,s.heap.objs.size+5,m,tm⟩)
     ⟨by
      have:=ne 5
      simp[ne]
      omega,by
      refine fc ?_ (fc ?_ (fc ?_ (fc ?_ (fc ?_ (fc ?_ fz)))))<;>exact .inl (by show 160≤_; omega)⟩
     rfl rfl hm hm2 (s₁:=⟨h',s.gens,s.drawn,s.toks+i,s.os⟩) B rfl F (.mk' (hp _ Z2) (hp _ Z1) (hp _ Z3) (hp _ Z4) (hp _ Z5) (hp _ Z6)) ⟨T.1,(hp _ Z0),(hp _ Z1)⟩ (ne 5) hA (by omega) hA' (by omega) (fit_k hk hm h0) hk2 ha hb hR
end
end I2
namespace D2
open I2 (tb)
noncomputable def hsA(n t k:Nat):List H:=(Hx 0x55799111444412188771 (.i [1] (.int (zN (Nat.succ k)) (t+13)) 2::Hx 0x7119 (.i [1] (.int (zN (Nat.succ k)) (t+16)) 2::.m 13::[.z])))
noncomputable def ar2(l:Addr)(m:Int)(tm:Nat):Args:=⟨[.ref l,.int m tm],[]⟩
noncomputable def oA a W n t k l b e m c:=startF (S1 a W n t 60) 63 (ar2 l m c) [(58,tb a W 58),(l,lst b e)] (hsA n t k)
noncomputable def cob(kt:Params→KT)(W:Wd)(n t:Nat):Obj:=match nth (oM (oA kt W n t 0 0 [] 0 0 0)) 12 with|some p=>p.2|none=>default
noncomputable def tb58(c:Addr):Obj:=⟨.none,none,.fields #[.int 90 0,.int 4 0,.ref c],#[]⟩
noncomputable def MB(kt:Params→KT)(W:Wd)(n0 t0:Nat)(l:Addr)(vs:List Value)(e:Nat):Mem1:=[(58,tb58 (n0+10)),(n0+10,cob kt W n0 t0),(l,lst vs e)]
noncomputable def hsB(n t k:Nat):List H:=(Hx 0x668aa111412199881 (.i [2] (.int (zN (Nat.succ k)) (t+1)) 2::Hx 0x811a (.i [2] (.int (zN (Nat.succ k)) (t+4)) 2::Hx 0x3c [])))
noncomputable def oB a W b c n t k l d e m f:=startF (S1 a W n t 60) 63 (ar2 l m f) (MB a W b c l d e) (hsB n t k)
noncomputable def sN:Str:=⟨⟨[110]⟩⟩
noncomputable def sInner:Str:=U13
noncomputable def sDg:Str:=⟨⟨[100,105,103,105,116,115]⟩⟩
noncomputable def fob(kt:Params→KT)(W:Wd):Obj:=match nth (oM (oB kt W 0 0 0 0 0 0 [] 0 0 0)) 8 with|some p=>p.2|none=>default
noncomputable def fo(kt:Params→KT)(W:Wd)(cN cI cD c ct:Addr):Obj:=match fob kt W with
 | ⟨k,d,.func fd,sl⟩=>⟨k,d,.func {fd with closure:=[(sN,cN),(sInner,cI),(sDg,cD)],code:=.ref c,closureTuple:=.ref ct},sl⟩
 | o=>o
noncomputable def cell:=I2.cell
structure Pr where
 n0:Nat
 t0:Nat
 f:Addr
 cN:Addr
 cI:Addr
 cD:Addr
 ct:Addr
 l:Addr
 m:Int
 tm:Nat
noncomputable def MI(kt:Params→KT)(W:Wd)(p:Pr)(vs:List Value)(e:Nat):Mem1 :=
 [(p.f,fo kt W p.cN p.cI p.cD (p.n0+10) p.ct),(p.n0+10,cob kt W p.n0 p.t0),(p.cN,cell (.int p.m p.tm)),(p.cI,cell (.ref p.f)),(p.cD,cell (.ref p.l)),(p.l,lst vs e)]
noncomputable def arI(L R:Int)(tL tR:Nat):Args:=⟨[.int L tL,.int R tR],[]⟩
end D2
namespace D2
open I2 (tb)
noncomputable def eLenB(l:Addr)(o:Obj)(k n t:Nat):Eff:=⟨.builtin "len" ⟨[.ref l],[]⟩,[(l,o)],none,[],.ok (.ret (.int (zN k) (t+1))),2,n,t⟩
noncomputable def hsA0(t:Nat):List H:=(Hx 0x55799111444412188771 [.i [1] (.int (zN 0) (t+13)) 2])
noncomputable def hsB0(t:Nat):List H:=(Hx 0x668aa111412199881 [.i [2] (.int (zN 0) (t+1)) 2])
noncomputable def oA0 a W n t l b e m c:=startF (S1 a W n t 60) 63 (ar2 l m c) [(58,tb a W 58),(l,lst b e)] (hsA0 t)
noncomputable def oB0 a W b c n t l d e m f:=startF (S1 a W n t 60) 63 (ar2 l m f) (MB a W b c l d e) (hsB0 t)
noncomputable def EvA0 kt W:=∀n t l vs e m tm,
 RetIs (oA0 kt W n t l vs e m tm) [] [eLenB l (lst vs e) 0 (n+12) (t+12)] (.ok (.ret (.int 0 (t+14)))) [(0,58,tb58 (n+10)),(12,n+10,cob kt W n t),(1,l,lst vs e)]
noncomputable def EvB0 kt W:=∀n0 t0 n t l vs e m tm,
 RetIs (oB0 kt W n0 t0 n t l vs e m tm) [] [eLenB l (lst vs e) 0 (n+6) t] (.ok (.ret (.int 0 (t+2)))) [(0,58,tb58 (n0+10)),(1,n0+10,cob kt W n0 t0),(2,l,lst vs e)]
noncomputable def EvA kt W:=∀n t k l vs e m tm,
 StopIs (oA kt W n t k l vs e m tm) [] [I2.eLen l (lst vs e) (k+1) (n+12) (t+15),eLenB l (lst vs e) (k+1) (n+12) (t+12)] (.call (.ref (n+11)) (arI (zN 0) (zN (k+1)) (t+14) (t+16))) 1
  [(0,58,tb58 (n+10)),(12,n+10,cob kt W n t),(13,n+11,fo kt W (n+2) (n+3) (n+1) (n+10) (n+4)),(4,n+2,cell (.int m tm)),(5,n+3,cell (.ref (n+11))),(3,n+1,cell (.ref l)),(1,l,lst vs e)]
noncomputable def EvB kt W:=∀n0 t0 n t k l vs e m tm,
 StopIs (oB kt W n0 t0 n t k l vs e m tm) [] [I2.eLen l (lst vs e) (k+1) (n+6) (t+3),eLenB l (lst vs e) (k+1) (n+6) t] (.call (.ref (n+5)) (arI (zN 0) (zN (k+1)) (t+2) (t+4))) 1
  [(0,58,tb58 (n0+10)),(1,n0+10,cob kt W n0 t0),(8,n+5,fo kt W (n+2) (n+3) (n+1) (n0+10) (n+4)),(5,n+2,cell (.int m tm)),(6,n+3,cell (.ref (n+5))),(4,n+1,cell (.ref l)),(2,l,lst vs e)]
noncomputable def oZ a W o v b c d:=on a W c d o (rt (.int v b)) [] []
noncomputable def EvZA kt W:=∀n t k l vs e m tm v tv n' t',RetIs (oZ kt W (oA kt W n t k l vs e m tm) v tv n' t') [] [] (.ok (.ret (.int v tv))) []
noncomputable def EvZB kt W:=∀n0 t0 n t k l vs e m tm v tv n' t',RetIs (oZ kt W (oB kt W n0 t0 n t k l vs e m tm) v tv n' t') [] [] (.ok (.ret (.int v tv))) []
noncomputable def hsL(dv:Int)(td:Nat):List H:=(Hx 0xa22a21aaaa5 (.v (.bool true)::Hx 0x999a82 [.i [5] (.int dv td) 0]))
noncomputable def oL_ a W p b e n t L R c d f g:=startH (S1 a W n t 60) 0 (arI L R c d) (MI a W p b e) (hsL f g)
noncomputable def psI(kt:Params→KT)(W:Wd)(p:Pr)(vs:List Value)(e:Nat):List (Nat×Addr×Obj):=[(0,p.f,fo kt W p.cN p.cI p.cD (p.n0+10) p.ct),(1,p.n0+10,cob kt W p.n0 p.t0),(2,p.cN,cell (.int p.m p.tm)),(3,p.cI,cell (.ref p.f)),(4,p.cD,cell (.ref p.l)),(5,p.l,lst vs e)]
noncomputable def EvL kt W:=∀p vs e n t L R tL tR dv td,
 RetIs (oL_ kt W p vs e n t L R tL tR dv td) [(.bool (dEq (L+1) R),.bool true)] [⟨.call (.builtin "list.__getitem__") ⟨[.ref p.l,.int L tL],[]⟩,[(p.l,lst vs e)],none,[],.ok (.ret (.int dv td)),0,n+1,t+4⟩]
  (.ok (.ret (.int dv td))) (psI kt W p vs e)
structure Nd where
 mid:Int
 sh:Int
noncomputable def hsN(d:Nd)(t:Nat):List H:=(Hx 0xa22a21aaaa5 (.v (.bool false)::Hx 0x22aa2 (.i [] (.int d.mid (t+6)) 1::Hx 0x622aaaa (.i [] (.int d.sh (t+9)) 1::Hx 0x34aa7aa []))))
noncomputable def oN a W p b e n t L R c f d:=startH (S1 a W n t 60) 0 (arI L R c f) (MI a W p b e) (hsN d t)
noncomputable def frN(W:Wd)(t:Nat)(L R:Int)(tL tR:Nat)(d:Nd):Obj:=fr W.w.params [(⟨⟨[76]⟩⟩,t,Value.int L tL),(⟨⟨[82]⟩⟩,t+1,Value.int R tR),(U14,t+7,Value.int d.mid (t+6)),(U15,t+10,Value.int d.sh (t+9))]
noncomputable def EvN kt W:=∀p vs e n t L R tL tR d,
 StopIs (oN kt W p vs e n t L R tL tR d) [(.bool (dEq (L+1) R),.bool false)]
  [eInt "int.__mul__" [.int (d.mid-L) (t+8),.int p.m p.tm] d.sh (n+1) (t+9),eInt "int.__rshift__" [.int (L+R) (t+4),.int 1 (t+5)] d.mid (n+1) (t+6)]
  (.call (.ref p.f) (arI d.mid R (t+6) tR)) 1 ((6,n,frN W t L R tL tR d)::psI kt W p vs e)
noncomputable def MN(kt:Params→KT)(W:Wd)(p:Pr)(n t:Nat)(L R:Int)(tL tR:Nat)(d:Nd):Mem1:=[(n,frN W t L R tL tR d),(p.cI,cell (.ref p.f)),(p.f,fo kt W p.cN p.cI p.cD (p.n0+10) p.ct)]
noncomputable def oN2(kt:Params→KT)(W:Wd)(p:Pr)(vs:List Value)(e n t:Nat)(L R:Int)(tL tR:Nat)(d:Nd)(v:Int)(tv n' t':Nat)(up:Int):Out :=
 on kt W n' t' (oN kt W p vs e n t L R tL tR d) (.ok (.ret (.int v tv))) (MN kt W p n t L R tL tR d) (.m 0::.i [] (.int up t') 1::Hx 0x36445 [])
noncomputable def EvN2 kt W:=∀p vs e n t L R tL tR d v tv n' t' up,
 StopIs (oN2 kt W p vs e n t L R tL tR d v tv n' t' up) [] [eInt "int.__lshift__" [.int v tv,.int d.sh (t+9)] up n' t'] (.call (.ref p.f) (arI L d.mid tL (t+6))) 1
  [(0,n,frN W t L R tL tR d),(1,p.cI,cell (.ref p.f)),(2,p.f,fo kt W p.cN p.cI p.cD (p.n0+10) p.ct)]
noncomputable def oN3(kt:Params→KT)(W:Wd)(p:Pr)(vs:List Value)(e n t:Nat)(L R:Int)(tL tR:Nat)(d:Nd)(v:Int)(tv n' t':Nat)(up v2:Int)(t2 n2 t3:Nat):Out :=
 on kt W n2 t3 (oN2 kt W p vs e n t L R tL tR d v tv n' t' up) (.ok (.ret (.int v2 t2))) [] [.s,.s]
noncomputable def EvN3 kt W:=∀p vs e n t L R tL tR d v tv n' t' up v2 t2 n2 t3,
 RetIs (oN3 kt W p vs e n t L R tL tR d v tv n' t' up v2 t2 n2 t3) [] [] (.ok (.ret (.int (up+v2) t3))) []
end D2
namespace D2
structure Pr.Ok(p:Pr):Prop where
 nd:[p.f,p.n0+10,p.cN,p.cI,p.cD,p.l].Nodup
 off:∀a∈[p.f,p.n0+10,p.cN,p.cI,p.cD,p.l],hiA a
section
noncomputable def Own(kt:Params→KT)(W:Wd)(p:Pr)(vs:List Value)(e:Nat)(h:Heap):Prop:=∀q∈MI kt W p vs e,h.get? q.1=some q.2
theorem Own.mk'{p:Pr}{e:Nat}{h:Heap}(h1:h.get? p.f=some (fo kt W p.cN p.cI p.cD (p.n0+10) p.ct))(h2:h.get? (p.n0+10)=some (cob kt W p.n0 p.t0))(h3:h.get? p.cN=some (cell (.int p.m p.tm)))
  (h4:h.get? p.cI=some (cell (.ref p.f))) (h5:h.get? p.cD=some (cell (.ref p.l))) (h6:h.get? p.l=some (lst vs e)):Own kt W p vs e h:=by
 refine fc ?_ (fc ?_ (fc ?_ (fc ?_ (fc ?_ (fc ?_ fz)))))<;>assumption
theorem Own.fut{p:Pr}{e:Nat}(O:Own kt W p vs e s.heap)(F:Fut [] [] s s'):Own kt W p vs e s'.heap:=fun q hq=>F.keep _ _ (O q hq) (fun h=>nomatch h)
theorem psI_all{p:Pr}{e:Nat}{h:Heap}(H:∀q∈psI kt W p vs e,h.get? q.2.1=some q.2.2):Own kt W p vs e h:=by
 exact .mk' (H _ Z0) (H _ Z1) (H _ Z2) (H _ Z3) (H _ Z4) (H _ Z5)
theorem inner_spec(E1:∀W,EvL kt W)(E2:∀W,EvN kt W)(E3:∀W,EvN2 kt W)(E4:∀W,EvN3 kt W){p:Pr}(hp:p.Ok)(hm:0<p.m)(hm2:p.m≤1000){e:Nat}{zs:List (Int×Nat)}(hlen:zs.length≤1000)(hz:∀z∈zs,0≤z.1)(hb:Builtin.Int.intBits (poly p.m zs)≤10000):
  ∀(d:Nat) {A:Around} {R:Result→Shared→Prop} {s:Shared} {L R' tL tR:Nat},Base kt W s.heap→A.handled=none→A.depth+d+60<1000 →
   L<R'→R'≤L+d→R'≤zs.length→Own kt W p (zs.map zv) e s.heap →
   (∀s' tv,Fut [] [] s s'→R (.ok (.ret (.int (poly p.m ((zs.drop L).take (R'-L))) tv))) s') →
   codeAny W.M A (.call (.ref p.f) (arI L R' tL tR)) R s
 | 0,_,_,_,_,_,_,_,_,_,_,h1,h2,_,_,_=>by omega
 | d+1,A,R,s,L,R',tL,tR,B,hA,hd,h1,h2,h3,O,hR=>by
  have nd:=hp.nd
  have off:∀q∈MI kt W p (zs.map zv) e,hiA q.1:=fun q hq=>hp.off _ (mmm (f:=(·.1)) hq)
  by_cases hLR:L+1=R'
  ·obtain⟨z,hz1⟩:∃z,zs[L]?=some z:=⟨zs[L]'(by omega),by simp⟩
   refine startH_sound (x:=0) (M:=MI kt W p (zs.map zv) e) B hA (by omega:A.depth+60<1000) O nd off (by decide) rfl (post_retIs (E1 W p (zs.map zv) e _ _ L R' tL tR z.1 z.2) ?_ ?_ ?_)
   ·refine fc ?_ fz
    rw[dEq_eq,decide_eq_true (by omega:((L:Int)+1=R'))]
   ·refine fc ?_ fz
    exact eff_getitem (v:=zv z) rfl Z0 (by omega) (by simp[hz1]) (by simp; omega) rfl rfl rfl rfl
   ·intro h' M' j i D hps
    have O':=psI_all hps
    have F:=rep_futL (L:=[]) (tk:=s.toks+i) D O (fun q hq=>.inr (O' q hq))
    have:=hR _ z.2 F
    have e3:poly p.m ((zs.drop L).take (R'-L))=z.1:=by
     have e4:R'-L=1:=by omega
     rw[e4,List.drop_eq_getElem_cons (by omega)]
     have e5:zs[L]'(by omega)=z:=by
      rw[List.getElem?_eq_getElem (by omega)]at hz1
      exact Option.some.inj hz1
     rw[e5]
     exact poly1
    rw[e3]at this
    exact this
  ·have hL2:L+2≤R':=by omega
   obtain⟨mid,hmid⟩:∃mid:Nat,mid=(L+R') / 2:=⟨_,rfl⟩
   have hm1:L<mid:=by omega
   have hm3:mid<R':=by omega
   obtain⟨k,hk⟩:∃k:Nat,((mid:Int)-L)*p.m=k:=⟨(((mid:Int)-L)*p.m).toNat,by
    have:=Int.mul_nonneg (by omega:(0:Int)≤(mid:Int)-L) (Int.le_of_lt hm)
    omega⟩
   have hk2:(k:Int)≤1000000:=by
    rw[←hk]
    have:((mid:Int)-L)*p.m≤1000*1000:=Int.mul_le_mul (by omega) hm2 (by omega) (by omega)
    omega
   have hk3:k=p.m.toNat*(mid-L):=by
    have h6:((p.m.toNat*(mid-L):Nat):Int)=(k:Int):=by
     rw[←hk]
     push_cast
     rw[Int.toNat_of_nonneg (Int.le_of_lt hm),Int.ofNat_sub (Nat.le_of_lt hm1),Int.mul_comm]
    omega
   refine startH_sound (x:=0) (M:=MI kt W p (zs.map zv) e) B hA (by omega:A.depth+60<1000) O nd off (by decide) rfl (post_stopIs (E2 W p (zs.map zv) e _ _ L R' tL tR ⟨mid,k⟩) hA ?_ ?_ ?_)
   ·refine fc ?_ fz
    rw[dEq_eq,decide_eq_false (by omega:¬((L:Int)+1=R'))]
   ·refine fc ?_ (fc ?_ fz)
    ·refine eff_mul rfl ?_ (mulOk_of_bits (m:=64) (n:=64) (intBits_le_64 (by omega) (by omega)) (intBits_le_64 (by omega) (by omega)) (by decide))
     rw[hk]
     exact I2.eInt_isI ..
    ·refine eff_rshift rfl ?_ (by decide)
     have:((L:Int)+R').fdiv (2 ^ (1:Int).toNat)=mid:=by
      show((L:Int)+R').fdiv 2=mid
      rw[Int.fdiv_eq_ediv_of_nonneg _ (by decide)]
      omega
     rw[this]
     exact I2.eInt_isI ..
   ·intro h₁ M1 j1 i1 A1 D hps hA1 hd1
    have p0:=hps _ Z0
    have O1:=psI_all fun q hq=>hps q (.tail _ hq)
    have F1:=rep_futL (L:=[]) (tk:=s.toks+i1) D O (fun q hq=>.inr (O1 q hq))
    have B1:=B.fut F1 fz
    refine inner_spec E1 E2 E3 E4 hp hm hm2 hlen hz hb d (s:=⟨h₁,s.gens,s.drawn,s.toks+i1,s.os⟩) B1 hA1 (by omega) hm3 (by omega) h3 O1 ?_
    intro s2 tv F2
    have B2:=B1.fut F2 fz
    have O2:=O1.fut F2
    have hn:∀a∈[p.f,p.n0+10,p.cN,p.cI,p.cD,p.l],a<s.heap.objs.size:=by
     intro a ha
     obtain⟨q,hq,rfl⟩:∃q∈MI kt W p (zs.map zv) e,q.1=a:=by
      have:[p.f,p.n0+10,p.cN,p.cI,p.cD,p.l]=(MI kt W p (zs.map zv) e).map (·.1):=rfl
      rw[this]at ha
      exact List.mem_map.mp ha
     exact Heap.lt_size (O q hq)
    have hnI:s.heap.objs.size≠p.cI:=fun z=>by
     have:=hn p.cI (by simp)
     rw[←z]at this
     exact Nat.lt_irrefl _ this
    have hnf:s.heap.objs.size≠p.f:=fun z=>by
     have:=hn p.f (by simp)
     rw[←z]at this
     exact Nat.lt_irrefl _ this
    have hIf:p.cI≠p.f:=by
     have:=nd
     simp only[List.nodup_cons,mc,nn,or_false,not_or]at this
     exact fun z=>this.1.2.2.1 z.symm
    have own2:∀q∈MN kt W p s.heap.objs.size s.toks L R' tL tR ⟨mid,k⟩,s2.heap.get? q.1=some q.2:=by
     refine fc ?_ (fc ?_ (fc ?_ fz))
     ·exact F2.keep _ _ p0 (fun h=>nomatch h)
     ·exact O2 _ Z3
     ·exact O2 _ Z0
    obtain⟨v,hv⟩:∃v,v=poly p.m ((zs.drop mid).take (R'-mid)):=⟨_,rfl⟩
    rw[←hv]
    have v0:0≤v:=by rw[hv]; exact poly_nonneg _ _ fun z h=>hz z (List.mem_of_mem_drop (List.mem_of_mem_take h))
    have vb:Builtin.Int.intBits v≤10000:=by
     refine intBits_le_of_natAbs (y:=poly p.m zs) ?_ hb
     have:=poly_seg_le (m:=p.m) hz mid (R'-mid)
     omega
    refine startT_soundO (E2 W p (zs.map zv) e _ _ L R' tL tR ⟨mid,k⟩).own (M:=MN kt W p s.heap.objs.size s.toks L R' tL tR ⟨mid,k⟩) B2 hA (by omega:A.depth+60<1000) own2 (by simp[MN,hnI,hnf,hIf]) (by
     refine fc ?_ (fc ?_ (fc ?_ fz))
     ·exact .inl B.sz
     ·exact hp.off _ (by simp)
     ·exact hp.off _ (by simp)) (post_stopIs (E3 W p (zs.map zv) e _ _ L R' tL tR ⟨mid,k⟩ v tv _ _ (v*2 ^ k)) hA fz ?_ ?_)
    ·refine fc ?_ fz
     exact eff_lshift rfl (I2.eInt_isI ..) (Int.natCast_nonneg _) (by show((Builtin.Int.intBits v:Nat):Int)+(k:Int)≤_; omega)
    intro h₃ M3 j3 i3 A3 D3 hps3 hA3 hd3
    have F3:=rep_futL (L:=[]) (tk:=s2.toks+i3) D3 own2 (by
     refine fc ?_ (fc ?_ (fc ?_ fz))
     ·exact .inr (hps3 _ Z0)
     ·exact .inr (hps3 _ Z1)
     ·exact .inr (hps3 _ Z2))
    have B3:=B2.fut F3 fz
    have O3:=O2.fut F3
    refine inner_spec E1 E2 E3 E4 hp hm hm2 hlen hz hb d (s:=⟨h₃,s2.gens,s2.drawn,s2.toks+i3,s2.os⟩) B3 hA3 (by omega) hm1 (by omega) (by omega) O3 ?_
    intro s4 t2 F4
    have B4:=B3.fut F4 fz
    refine startT_soundO (E3 W p (zs.map zv) e _ _ L R' tL tR ⟨mid,k⟩ v tv _ _ (v*2 ^ k)).own (M:=[]) B4 hA (by omega:A.depth+60<1000) fz List.nodup_nil fz (post_retIs (E4 W p (zs.map zv) e _ _ L R' tL tR ⟨mid,k⟩ v tv _ _ (v*2 ^ k) _ _ _ _) fz fz ?_)
    intro h₅ M5 j5 i5 D5 _
    have F5:=rep_fut (M:=[]) (tk:=s4.toks+i5) D5
    have:=hR _ s4.toks ((((F1.trans F2).trans F3).trans F4).trans F5)
    rw[seg_split zs (Nat.le_of_lt hm1) (Nat.le_of_lt hm3),poly_append,←hv]at this
    have e6:((zs.drop L).take (mid-L)).length=mid-L:=by simp; omega
    rw[e6,←hk3]at this
    have e7:v*2 ^ k+poly p.m ((zs.drop L).take (mid-L))=poly p.m ((zs.drop L).take (mid-L))+2 ^ k*v:=by rw[Int.mul_comm,Int.add_comm]
    rw[←e7]at this
    exact this
end
end D2
namespace D2
open I2 (tb)
noncomputable def G58(kt:Params→KT)(W:Wd)(n0 t0:Nat)(h:Heap):Prop:=160≤n0∧h.get? 58=some (tb58 (n0+10))∧h.get? (n0+10)=some (cob kt W n0 t0)
noncomputable def T58(kt:Params→KT)(W:Wd)(h:Heap):Prop:=h.get? 58=some (tb kt W 58)∨∃n0 t0,G58 kt W n0 t0 h
section
theorem G58.fut{n0 t0:Nat}{G:List Nat}(h:G58 kt W n0 t0 s.heap)(F:Fut L G s s')(h1:58∉L)(h2:n0+10∉L):G58 kt W n0 t0 s'.heap :=
 ⟨h.1,F.keep _ _ h.2.1 h1,F.keep _ _ h.2.2 h2⟩
noncomputable def D2Res(kt:Params→KT)(W:Wd)(s:Shared)(v:Int)(R:Result→Shared→Prop):Prop:=∀s' tv,Fut [58] [] s s'→T58 kt W s'.heap→R (.ok (.ret (.int v tv))) s'
theorem T58.fut{G:List Nat}(h:T58 kt W s.heap)(B:Base kt W s.heap)(F:Fut L G s s')(hL:∀a∈L,s.heap.objs.size≤a∨a=51):T58 kt W s'.heap:=by
 have h1:=B.sz
 have key:∀a o,s.heap.get? a=some o→a≠51→s'.heap.get? a=some o:=fun a o e h5=>F.keep _ _ e fun z=>(hL _ z).elim (fun y=>absurd (Heap.lt_size e) (Nat.not_lt.mpr y)) h5
 rcases h with h|⟨n0,t0,h⟩
 ·exact .inl (key _ _ h (by decide))
 ·refine .inr ⟨n0,t0,h.1,key _ _ h.2.1 (by decide),key _ _ h.2.2 ?_⟩
  have:=h.1
  exact(by omega:n0+10≠51)
theorem T58.away{G:List Nat}(h:T58 kt W s.heap)(B:Base kt W s.heap)(F:Fut L G s s')(hL:∀a∈L,s.heap.objs.size≤a∨a=51){l:Addr}(hl:s.heap.objs.size≤l):
  s'.heap.get? 58=some (tb kt W 58)∨∃n0 t0,G58 kt W n0 t0 s'.heap∧l≠n0+10:=by
 have h1:=B.sz
 have key:∀a o,s.heap.get? a=some o→a≠51→s'.heap.get? a=some o:=fun a o e h5=>F.keep _ _ e fun z=>(hL _ z).elim (fun y=>absurd (Heap.lt_size e) (Nat.not_lt.mpr y)) h5
 rcases h with h|⟨n0,t0,h⟩
 ·exact .inl (key _ _ h (by decide))
 ·refine .inr ⟨n0,t0,⟨h.1,key _ _ h.2.1 (by decide),key _ _ h.2.2 ?_⟩,fun z=>absurd (Heap.lt_size h.2.2) (Nat.not_lt.mpr (z▸hl))⟩
  have:=h.1
  exact(by omega:n0+10≠51)
theorem d2_mid(E1:∀W,EvL kt W)(E2:∀W,EvN kt W)(E3:∀W,EvN2 kt W)(E4:∀W,EvN3 kt W){o:Out}(hown:(oMd o).isGen=false)(EZ:∀v tv n' t',RetIs (oZ kt W o v tv n' t') [] [] (.ok (.ret (.int v tv))) [])
  {p:Pr} (hp:p.Ok) (hm:0<p.m) (hm2:p.m≤1000) {A A1:Around} {R:Result→Shared→Prop} {P:End→Shared→Prop} {s s₁:Shared} {k tL tR n0 t0 e:Nat} {zs:List (Int×Nat)}
  (B:Base kt W s.heap) (F1:Fut [58] [] s s₁) (O1:Own kt W p (zs.map zv) e s₁.heap) (T1:G58 kt W n0 t0 s₁.heap)
  (hA:A.handled=none) (hd:A.depth+60<1000) (hA1:A1.handled=none) (hd1:A1.depth+zs.length+60<1000) (hk:zs.length=k) (hk0:0<k) (hk2:k≤1000) (hz:∀z∈zs,0≤z.1) (hb:Builtin.Int.intBits (poly p.m zs)≤10000) (hR:D2Res kt W s (poly p.m zs) R) :
  codeAny W.M A1 (.call (.ref p.f) (arI (zN 0) (zN k) tL tR)) (fun r s'=>Mean W A R P (oCc o) (oMd o) (oK o r) s') s₁:=by
 have B1:=B.fut F1 (fc (by exact .inr (.inr rfl)) fz)
 refine inner_spec E1 E2 E3 E4 hp hm hm2 (by omega) hz hb k (L:=0) (R':=k) B1 hA1 (by omega) (by omega) (by omega) (by omega) O1 ?_
 intro s2 tv F2
 have e1:(zs.drop 0).take (k-0)=zs:=by simp[←hk]
 rw[e1]
 have B2:=B1.fut F2 fz
 refine startT_soundO hown (M:=[]) B2 hA hd fz List.nodup_nil fz (post_retIs (EZ _ _ _ _) fz fz ?_)
 intro h3 M3 j3 i3 D3 _
 have F3:=rep_fut (M:=[]) (tk:=s2.toks+i3) D3
 have F23:=F2.trans F3
 exact hR _ _ (F1.trans (F23.mono fz (fun _ h=>h))) (.inr ⟨_,_,T1.fut F23 (fun h=>nomatch h) (fun h=>nomatch h)⟩)
theorem digits2int_spec(E1:∀W,EvL kt W)(E2:∀W,EvN kt W)(E3:∀W,EvN2 kt W)(E4:∀W,EvN3 kt W)(EA:∀W,EvA kt W)(EA0:∀W,EvA0 kt W)(EB:∀W,EvB kt W)(EB0:∀W,EvB0 kt W)(EZA:∀W,EvZA kt W)(EZB:∀W,EvZB kt W){l:Addr}{m:Int}{e tm:Nat}{zs:List (Int×Nat)}
  (B:Base kt W s.heap) (T:s.heap.get? 58=some (tb kt W 58)∨∃n0 t0,G58 kt W n0 t0 s.heap∧l≠n0+10) (hA:A.handled=none) (hd:A.depth+zs.length+61<1000) (hm:0<m) (hm2:m≤1000) (hl:s.heap.get? l=some (lst (zs.map zv) e)) (hl2:160≤l)
  (hk2:zs.length≤1000) (hz:∀z∈zs,0≤z.1) (hb:Builtin.Int.intBits (poly m zs)≤10000) (hR:D2Res kt W s (poly m zs) R):codeAny W.M A (.call (.ref 63) (ar2 l m tm)) R s:=by
 have h160:=B.sz
 have hls:l<s.heap.objs.size:=Heap.lt_size hl
 have hlen:(zs.map zv).length=zs.length:=List.length_map _
 have ne:∀j,l≠s.heap.objs.size+j:=by intro j h; rw[h]at hls; exact absurd hls (Nat.not_lt.mpr (lU ..))
 have ne0:l≠s.heap.objs.size:=ne 0
 have hl58:(58:Addr)≠l:=by intro h; rw[←h]at hl2; exact absurd hl2 (by decide)
 have heL:∀k j t,k=zs.length→(I2.eLen l (lst (zs.map zv) e) k j t).Ok PW W.w:=by
  intro k j t hk
  refine eff_len_list (vs:=zs.map zv) (n:=e) rfl Z0 rfl rfl (by omega) ?_ rfl
  rw[hlen,hk]; rfl
 have heB:∀k j t,k=zs.length→(eLenB l (lst (zs.map zv) e) k j t).Ok PW W.w:=by
  intro k j t hk
  refine eff_len_code (vs:=zs.map zv) (n:=e) rfl Z0 rfl rfl (by omega) ?_ rfl
  rw[hlen,hk]; rfl
 rcases T with T|⟨n0,t0,T,hlc'⟩
 ·have own:∀q∈([(58,tb kt W 58),(l,lst (zs.map zv) e)]:Mem1),s.heap.get? q.1=some q.2:=by
   refine fc ?_ (fc ?_ fz)
   ·exact T
   ·exact hl
  have off:∀q∈([(58,tb kt W 58),(l,lst (zs.map zv) e)]:Mem1),hiA q.1:=by
   refine fc ?_ (fc ?_ fz)
   ·exact .inr (.inr rfl)
   ·exact .inl hl2
  have nd:(([(58,tb kt W 58),(l,lst (zs.map zv) e)]:Mem1).map (·.1)).Nodup:=by simp[hl58]
  cases hzs:zs with
  | nil =>
   subst hzs
   refine startF_sound B hA (by omega:A.depth+60<1000) own nd off (by decide) (post_retIs (EA0 W _ _ l _ e m tm) fz ?_ ?_)
   ·refine fc ?_ fz
    exact heB _ _ _ rfl
   ·intro h' M' j i D hp
    have F:=rep_futL (L:=[58]) (tk:=s.toks+i) D own (by
     refine fc ?_ (fc ?_ fz)
     ·exact .inl Z0
     ·exact .inr (hp _ Z2))
    exact hR _ _ F (.inr ⟨_,_,B.sz,(hp _ Z0),(hp _ Z1)⟩)
  | cons z r =>
   have hk:zs.length=r.length+1:=by rw[hzs]; rfl
   refine startF_sound B hA (by omega:A.depth+60<1000) own nd off (by decide) (post_stopIs (EA W _ _ r.length l _ e m tm) hA fz ?_ ?_)
   ·refine fc ?_ (fc ?_ fz)
    ·exact heL _ _ _ hk.symm
    ·exact heB _ _ _ hk.symm
   ·intro h' M' j i A' D hp hA' hd'
    have F:=rep_futL (L:=[58]) (tk:=s.toks+i) D own (by
     refine fc ?_ (fc ?_ fz)
     ·exact .inl Z0
     ·exact .inr (hp _ Z6))
    have ne':=fun j=>(ne j).symm
    refine d2_mid E1 E2 E3 E4 (EA W _ _ r.length l _ e m tm).own (EZA W _ _ r.length l _ e m tm) (p:=⟨s.heap.objs.size,s.toks,s.heap.objs.size+11,s.heap.objs.size+2,s.heap.objs.size+3,s.heap.objs.size+1,s.heap.objs.size+4,l,m,tm⟩)
     ⟨by simp[ne'],by
      refine fc ?_ (fc ?_ (fc ?_ (fc ?_ (fc ?_ (fc ?_ fz)))))<;>first|exact .inl hl2|exact .inl (by show 160≤_; omega)⟩
     hm hm2 (s₁:=⟨h',s.gens,s.drawn,s.toks+i,s.os⟩) B F (.mk' (hp _ Z2) (hp _ Z1) (hp _ Z3) (hp _ Z4) (hp _ Z5) (hp _ Z6)) ⟨B.sz,(hp _ Z0),(hp _ Z1)⟩ hA (by omega) hA' (by omega) hk (by omega) (by omega) hz hb hR
 ·have n0l:n0+10<s.heap.objs.size:=Heap.lt_size T.2.2
  have n0g:=T.1
  have own:∀q∈MB kt W n0 t0 l (zs.map zv) e,s.heap.get? q.1=some q.2:=by
   refine fc ?_ (fc ?_ (fc ?_ fz))
   ·exact T.2.1
   ·exact T.2.2
   ·exact hl
  have off:∀q∈MB kt W n0 t0 l (zs.map zv) e,hiA q.1:=by
   refine fc ?_ (fc ?_ (fc ?_ fz))
   ·exact .inr (.inr rfl)
   ·exact .inl (by show 160≤_; omega)
   ·exact .inl hl2
  have h58:(58:Addr)≠n0+10:=(by omega:(58:Nat)≠n0+10)
  have nd:((MB kt W n0 t0 l (zs.map zv) e).map (·.1)).Nodup:=by simp[MB,hl58,h58,hlc'.symm]
  cases hzs:zs with
  | nil =>
   subst hzs
   refine startF_sound B hA (by omega:A.depth+60<1000) own nd off (by decide) (post_retIs (EB0 W n0 t0 _ _ l _ e m tm) fz ?_ ?_)
   ·refine fc ?_ fz
    exact heB _ _ _ rfl
   ·intro h' M' j i D hp
    have F:=rep_futL (L:=[58]) (tk:=s.toks+i) D own (by
     refine fc ?_ (fc ?_ (fc ?_ fz))
     ·exact .inl Z0
     ·exact .inr (hp _ Z1)
     ·exact .inr (hp _ Z2))
    exact hR _ _ F (.inr ⟨_,_,T.1,(hp _ Z0),(hp _ Z1)⟩)
  | cons z r =>
   have hk:zs.length=r.length+1:=by rw[hzs]; rfl
   refine startF_sound B hA (by omega:A.depth+60<1000) own nd off (by decide) (post_stopIs (EB W n0 t0 _ _ r.length l _ e m tm) hA fz ?_ ?_)
   ·refine fc ?_ (fc ?_ fz)
    ·exact heL _ _ _ hk.symm
    ·exact heB _ _ _ hk.symm
   ·intro h' M' j i A' D hp hA' hd'
    have F:=rep_futL (L:=[58]) (tk:=s.toks+i) D own (by
     refine fc ?_ (fc ?_ (fc ?_ fz))
     ·exact .inl Z0
     ·exact .inr (hp _ Z1)
     ·exact .inr (hp _ Z6))
    have ne':=fun j=>(ne j).symm
    have ne3:∀j,s.heap.objs.size+j≠n0+10:=by intro j; omega
    have ne4:∀j,n0+10≠s.heap.objs.size+j:=by intro j; omega
    refine d2_mid E1 E2 E3 E4 (EB W n0 t0 _ _ r.length l _ e m tm).own (EZB W n0 t0 _ _ r.length l _ e m tm) (p:=⟨n0,t0,s.heap.objs.size+5,s.heap.objs.size+2,s.heap.objs.size+3,s.heap.objs.size+1,s.heap.objs.size+4,l,m,tm⟩)
     ⟨by
      refine pc (fc (ne3 _) (fc (by simp) (fc (by simp) (fc (by simp) (fc (ne' _) fz))))) (pc (fc (ne4 _) (fc (ne4 _) (fc (ne4 _) (fc hlc'.symm fz)))) (pc (fc (by simp) (fc (by simp) (fc (ne' _) fz))) (pc (fc (by simp) (fc (ne' _) fz)) (pc (fc (ne' _) fz) (pc fz .nil))))),by
      refine fc ?_ (fc ?_ (fc ?_ (fc ?_ (fc ?_ (fc ?_ fz)))))<;>first|exact .inl hl2|exact .inl (by show 160≤_; omega)⟩
     hm hm2 (s₁:=⟨h',s.gens,s.drawn,s.toks+i,s.os⟩) B F (.mk' (hp _ Z2) (hp _ Z1) (hp _ Z3) (hp _ Z4) (hp _ Z5) (hp _ Z6)) ⟨T.1,(hp _ Z0),(hp _ Z1)⟩ hA (by omega) hA' (by omega) hk (by omega) (by omega) hz hb hR
end
end D2
namespace DM
noncomputable def arD(a b:Int)(ta tb:Nat):Args:=⟨[.int a ta,.int b tb],[]⟩
noncomputable def hs0(b:Int)(t:Nat):List H:=(Hx Y5 (.v (.int (X.bitsQ b:Nat) (t+2))::Hx 0x31441442 []))
noncomputable def o0 c W n t a b d e:=startF (S1 c W n t 60) 70 (arD a b d e) [] (hs0 b t)
noncomputable def fr0(W:Wd)(t:Nat)(a b:Int)(ta tb:Nat):Obj:=fr W.w.params [(⟨⟨[97]⟩⟩,t,Value.int a ta),(⟨⟨[98]⟩⟩,t+1,Value.int b tb),(⟨⟨[110]⟩⟩,t+3,Value.int (X.bitsQ b:Nat) (t+2))]
noncomputable def hs1:List H:=(Hx 0x37272777525252222411444444 [])
structure Pr where
 n₀:Nat
 t₀:Nat
 a:Int
 b:Int
 ta:Nat
 tb:Nat
 l:Addr
 vs:List Value
 n:Nat
 t:Nat
noncomputable def o1 c W (p:Pr):=on c W p.n p.t (o0 c W p.n₀ p.t₀ p.a p.b p.ta p.tb) (rt (.ref p.l)) [(p.n₀,fr0 W p.t₀ p.a p.b p.ta p.tb),(p.l,lst p.vs 0)] hs1
noncomputable def LC(kt:Params→KT)(W:Wd)(p:Pr):Code:=oC (o1 kt W p)
noncomputable def fr1(W:Wd)(p:Pr):Obj:=fr W.w.params [(⟨⟨[97]⟩⟩,p.t₀,Value.int p.a p.ta),(⟨⟨[98]⟩⟩,p.t₀+1,Value.int p.b p.tb),(⟨⟨[110]⟩⟩,p.t₀+3,Value.int (X.bitsQ p.b:Nat) (p.t₀+2)),(U4,p.t,Value.ref p.l),(⟨⟨[114]⟩⟩,p.t+2,Value.int 0 (p.t+1)),(U11,p.t+3,Value.ref p.n)]
structure Tn where
 r:Int
 tr:Nat
 ka:Nat
 ad:Int
 ta:Nat
 kq:Nat
 qd:Int
 tq:Nat
noncomputable def fr2(W:Wd)(p:Pr)(c:Tn):Obj:=fr W.w.params [(⟨⟨[97]⟩⟩,p.t₀,Value.int p.a p.ta),(⟨⟨[98]⟩⟩,p.t₀+1,Value.int p.b p.tb),(⟨⟨[110]⟩⟩,p.t₀+3,Value.int (X.bitsQ p.b:Nat) (p.t₀+2)),(U4,p.t,Value.ref p.l),(⟨⟨[114]⟩⟩,p.t+2,Value.int c.r c.tr),(U11,p.t+3,Value.ref p.n),
 (⟨⟨[97,95,100,105,103,105,116]⟩⟩,c.ka,.int c.ad c.ta),(⟨⟨[113,95,100,105,103,105,116]⟩⟩,c.kq,.int c.qd c.tq)]
noncomputable def hs2(p:Pr)(i zd:Int)(zt:Nat)(sh:Int)(t:Nat):List H:=(.m 3::.u [1] 3 (rit p.l (i-1)) (.int zd zt) 0::Hx 0x44144 (.i [] (.int sh (t+1)) 1::Hx 0x3144224 []))
noncomputable def M2(p:Pr)(F:Obj)(qs:List Value)(e:Nat)(i:Int):Mem1:=[(p.n₀,F),(p.l,lst p.vs 0),(p.n,lst qs e),(p.n+1,rit p.l i)]
noncomputable def o2 a W p F b e i n t c d f:=startC (S1 a W n t 60) (LC a W p) (.own []) (M2 p F b e i) (hs2 p i c d f t)
noncomputable def fr1c(W:Wd)(p:Pr)(ka:Nat)(ad:Int)(ta:Nat):Obj:=fr W.w.params [(⟨⟨[97]⟩⟩,p.t₀,Value.int p.a p.ta),(⟨⟨[98]⟩⟩,p.t₀+1,Value.int p.b p.tb),(⟨⟨[110]⟩⟩,p.t₀+3,Value.int (X.bitsQ p.b:Nat) (p.t₀+2)),(U4,p.t,Value.ref p.l),(⟨⟨[114]⟩⟩,p.t+2,Value.int 0 (p.t+1)),(U11,p.t+3,Value.ref p.n),
 (⟨⟨[97,95,100,105,103,105,116]⟩⟩,ka,.int ad ta)]
noncomputable def M3(p:Pr)(F:Obj)(qs:List Value)(e:Nat)(x:Addr)(q r:Int)(tq tr:Nat):Mem1:=[(p.n₀,F),(p.n,lst qs e),(x,tup [.int q tq,.int r tr])]
end DM
namespace DM
noncomputable def Ev0 kt W:=∀n t a b ta tb,
 StopIs (o0 kt W n t a b ta tb) [(.int (X.bitsQ b:Nat) (t+2),.int (X.bitsQ b:Nat) (t+2))] [] (.call (.ref 56) (I2.arA a (X.bitsQ b:Nat) ta (t+2))) 1 [(0,n,fr0 W t a b ta tb)]
noncomputable def Ev1 kt W:=∀p,
 StopIs (o1 kt W p) [] [] (LC kt W p) 1 [(0,p.n₀,fr1 W p),(1,p.l,lst p.vs 0),(2,p.n,lst [] 0),(3,p.n+1,rit p.l (((⟨p.vs⟩:Array Value).size:Int)-1))]
noncomputable def eNext(p:Pr)(i zd:Int)(zt n t:Nat):Eff:=⟨.call (.builtin "list_reverseiterator.__next__") ⟨[.ref (p.n+1)],[]⟩,[(p.n+1,rit p.l i),(p.l,lst p.vs 0)],some (p.n+1,rit p.l (i-1)),[],.ok (.ret (.int zd zt)),0,n,t⟩
noncomputable def eSh(p:Pr)(r:Int)(tr:Nat)(sh:Int)(n t:Nat):Eff:=eInt "int.__lshift__" [.int r tr,.int (X.bitsQ p.b:Nat) (p.t₀+2)] sh n t
noncomputable def Ev2a kt W:=∀p qs e i n t zd zt sh,
 StopIs (o2 kt W p (fr1 W p) qs e i n t zd zt sh) [] [eSh p 0 (p.t+1) sh n (t+1),eNext p i zd zt n t] (.call (.ref 42) (Dv.ar1 (sh+zd) p.b (X.bitsQ p.b:Nat) (t+2) p.tb (p.t₀+2))) 1
  [(0,p.n₀,fr1c W p t zd zt),(1,p.l,lst p.vs 0),(2,p.n,lst qs e),(3,p.n+1,rit p.l (i-1))]
noncomputable def Ev2b kt W:=∀p c qs e i n t zd zt sh,
 StopIs (o2 kt W p (fr2 W p c) qs e i n t zd zt sh) [] [eSh p c.r c.tr sh n (t+1),eNext p i zd zt n t] (.call (.ref 42) (Dv.ar1 (sh+zd) p.b (X.bitsQ p.b:Nat) (t+2) p.tb (p.t₀+2))) 1
  [(0,p.n₀,fr2 W p {c with ad:=zd,ta:=zt}),(1,p.l,lst p.vs 0),(2,p.n,lst qs e),(3,p.n+1,rit p.l (i-1))]
noncomputable def hs2e:List H:=(Hx 0x2972727 [])
noncomputable def o2e a W p F b e n t:=startC (S1 a W n t 60) (LC a W p) (.own []) (M2 p F b e (-1)) hs2e
noncomputable def Ev2e kt W:=∀p F qs e n t,
 RetIs (o2e kt W p F qs e n t) [] [] (.ok .next) [(0,p.n₀,F),(1,p.l,lst p.vs 0),(2,p.n,lst qs e),(3,p.n+1,rit p.l (-1))]
noncomputable def hs3(qs:List Value)(e:Nat)(q:Int)(tq:Nat):List H:=(Hx 0x455554444497767727277767727277767727277262666 (.u [] 1 (lst (qs++[.int q tq]) (e+1)) .none 0::[.z]))
noncomputable def o3(kt:Params→KT)(W:Wd)(p:Pr)(F F':Obj)(qs:List Value)(e:Nat)(i:Int)(n t:Nat)(zd:Int)(zt:Nat)(sh:Int)(x:Addr)(q r:Int)(tq tr n' t':Nat):Out :=
 on kt W n' t' (o2 kt W p F qs e i n t zd zt sh) (.ok (.ret (.ref x))) (M3 p F' qs e x q r tq tr) (hs3 qs e q tq)
noncomputable def eApp(p:Pr)(qs:List Value)(e:Nat)(q:Int)(tq n t:Nat):Eff:=⟨.call (.builtin "list.append") ⟨[.ref p.n,.int q tq],[]⟩,[(p.n,lst qs e)],some (p.n,lst (qs++[.int q tq]) (e+1)),[],.ok (.ret .none),0,n,t⟩
noncomputable def Ev3a kt W:=∀p qs e i n t zd zt sh x q r tq tr n' t',
 AgainIs (o3 kt W p (fr1 W p) (fr1c W p t zd zt) qs e i n t zd zt sh x q r tq tr n' t') [] [eApp p qs e q tq (n'+3) (t'+2)] (LC kt W p)
  [(0,p.n₀,fr2 W p ⟨r,tr,t,zd,zt,t',q,tq⟩),(1,p.n,lst (qs++[.int q tq]) (e+1)),(2,x,tup [.int q tq,.int r tr])]
noncomputable def Ev3b kt W:=∀p c qs e i n t zd zt sh x q r tq tr n' t',
 AgainIs (o3 kt W p (fr2 W p c) (fr2 W p {c with ad:=zd,ta:=zt}) qs e i n t zd zt sh x q r tq tr n' t') [] [eApp p qs e q tq (n'+3) (t'+2)] (LC kt W p)
  [(0,p.n₀,fr2 W p ⟨r,tr,c.ka,zd,zt,c.kq,q,tq⟩),(1,p.n,lst (qs++[.int q tq]) (e+1)),(2,x,tup [.int q tq,.int r tr])]
noncomputable def hs4(qs:List Value)(e:Nat):List H:=(Hx 0x55554 (.u [] 1 (lst qs.reverse e) .none 0::Hx 0x31441 []))
noncomputable def o4(kt:Params→KT)(W:Wd)(p:Pr)(F:Obj)(qs:List Value)(e n t:Nat):Out :=
 on kt W n t (o1 kt W p) (.ok .next) [(p.n₀,F),(p.n,lst qs e)] (hs4 qs e)
noncomputable def eRev(p:Pr)(qs:List Value)(e n t:Nat):Eff:=⟨.call (.builtin "list.reverse") ⟨[.ref p.n],[]⟩,[(p.n,lst qs e)],some (p.n,lst qs.reverse e),[],.ok (.ret .none),0,n,t⟩
noncomputable def Ev4a kt W:=∀p qs e n t,
 StopIs (o4 kt W p (fr1 W p) qs e n t) [] [eRev p qs e n t] (.call (.ref 63) (D2.ar2 p.n (X.bitsQ p.b:Nat) (p.t₀+2))) 1 [(0,p.n₀,fr1 W p),(1,p.n,lst qs.reverse e)]
noncomputable def Ev4b kt W:=∀p c qs e n t,
 StopIs (o4 kt W p (fr2 W p c) qs e n t) [] [eRev p qs e n t] (.call (.ref 63) (D2.ar2 p.n (X.bitsQ p.b:Nat) (p.t₀+2))) 1 [(0,p.n₀,fr2 W p c),(1,p.n,lst qs.reverse e)]
end DM
namespace DM
noncomputable def o5(kt:Params→KT)(W:Wd)(p:Pr)(F:Obj)(qs:List Value)(e n t:Nat)(Q:Int)(tQ n' t':Nat):Out :=
 on kt W n' t' (o4 kt W p F qs e n t) (.ok (.ret (.int Q tQ))) [(p.n₀,F)] (Hx 0x4444 [])
noncomputable def Ev5a kt W:=∀p qs e n t Q tQ n' t',
 RetIs (o5 kt W p (fr1 W p) qs e n t Q tQ n' t') [] [] (.ok (.ret (.ref n'))) [(1,n',tup [.int Q tQ,.int 0 (p.t+1)])]
noncomputable def Ev5b kt W:=∀p c qs e n t Q tQ n' t',
 RetIs (o5 kt W p (fr2 W p c) qs e n t Q tQ n' t') [] [] (.ok (.ret (.ref n'))) [(1,n',tup [.int Q tQ,.int c.r c.tr])]
abbrev Evs:=nF [Ev0,Ev1,Ev2a,Ev2b,Ev2e,Ev3a,Ev3b,Ev4a,Ev4b,Ev5a,Ev5b,EvDv1]
section
noncomputable def FrOk(W:Wd)(p:Pr)(r:Int)(F:Obj):Prop:=(r=0∧F=fr1 W p)∨∃c:Tn,c.r=r∧F=fr2 W p c
theorem turn(E:Evs kt){p:Pr}{r:Int}{F:Obj}(h:FrOk W p r F)(qs:List Value)(e:Nat)(i:Int)(n t:Nat)(zd:Int)(zt:Nat)(sh:Int):∃F₁ tr,StopIs (o2 kt W p F qs e i n t zd zt sh) [] [eSh p r tr sh n (t+1),eNext p i zd zt n t]
  (.call (.ref 42) (Dv.ar1 (sh+zd) p.b (X.bitsQ p.b:Nat) (t+2) p.tb (p.t₀+2))) 1 [(0,p.n₀,F₁),(1,p.l,lst p.vs 0),(2,p.n,lst qs e),(3,p.n+1,rit p.l (i-1))] ∧
  ∀(x:Addr) (q r':Int) (tq tr' n' t':Nat),∃F₂,FrOk W p r' F₂∧AgainIs (o3 kt W p F F₁ qs e i n t zd zt sh x q r' tq tr' n' t') [] [eApp p qs e q tq (n'+3) (t'+2)] (LC kt W p)
   [(0,p.n₀,F₂),(1,p.n,lst (qs++[.int q tq]) (e+1)),(2,x,tup [.int q tq,.int r' tr'])]:=by
 rcases h with⟨rfl,rfl⟩|⟨c,rfl,rfl⟩
 ·exact⟨_,_,E 2 W p qs e i n t zd zt sh,fun x q r' tq tr' n' t'=>⟨_,.inr ⟨_,rfl,rfl⟩,E 5 W p qs e i n t zd zt sh x q r' tq tr' n' t'⟩⟩
 ·exact⟨_,_,E 3 W p c qs e i n t zd zt sh,fun x q r' tq tr' n' t'=>⟨_,.inr ⟨_,rfl,rfl⟩,E 6 W p c qs e i n t zd zt sh x q r' tq tr' n' t'⟩⟩
structure Pr.Ok(p:Pr):Prop where
 nd:[p.n₀,p.l,p.n,p.n+1].Nodup
 off:∀a∈[p.n₀,p.l,p.n,p.n+1],hiA a
theorem Pr.Ok.ne{p:Pr}(h:p.Ok):p.n₀≠p.l∧p.n₀≠p.n∧p.n₀≠p.n+1∧p.l≠p.n∧p.l≠p.n+1∧p.n≠p.n+1:=by
 have:=h.nd
 simp only[List.nodup_cons,mc,nn,or_false,not_or,List.nodup_nil,and_true,not_false_eq_true]at this
 exact⟨this.1.1,this.1.2.1,this.1.2.2,this.2.1.1,this.2.1.2,this.2.2⟩
theorem own4{a b c d:Addr}{oa ob oc od:Obj}{h:Heap}(h1:h.get? a=some oa)(h2:h.get? b=some ob)(h3:h.get? c=some oc)(h4:h.get? d=some od):∀q∈([(a,oa),(b,ob),(c,oc),(d,od)]:Mem1),h.get? q.1=some q.2:=by
 refine fc ?_ (fc ?_ (fc ?_ (fc ?_ fz)))<;>assumption
theorem own3{a b c:Addr}{oa ob oc:Obj}{h:Heap}(h1:h.get? a=some oa)(h2:h.get? b=some ob)(h3:h.get? c=some oc):∀q∈([(a,oa),(b,ob),(c,oc)]:Mem1),h.get? q.1=some q.2:=by
 refine fc ?_ (fc ?_ (fc ?_ fz))<;>assumption
theorem own2{a b:Addr}{oa ob:Obj}{h:Heap}(h1:h.get? a=some oa)(h2:h.get? b=some ob):∀q∈([(a,oa),(b,ob)]:Mem1),h.get? q.1=some q.2:=by
 refine fc ?_ (fc ?_ fz)<;>assumption
theorem own1{a:Addr}{oa:Obj}{h:Heap}(h1:h.get? a=some oa):∀q∈([(a,oa)]:Mem1),h.get? q.1=some q.2:=by
 refine fc ?_ fz
 exact h1
theorem offs{l:List Addr}(h:M.map (·.1)=l)(hl:∀a∈l,hiA a):∀q∈M,hiA q.1:=fun q hq=>hl _ (h▸mmm (f:=(·.1)) hq)
theorem bits_lt{x:Int}(h:0≤x):x<2 ^ (Builtin.Int.intBits x):=by
 have:=intBits_le_iff.mp (nR (Builtin.Int.intBits x))
 have h2:((x.natAbs:Nat):Int)<((2 ^ (Builtin.Int.intBits x):Nat):Int):=Int.ofNat_lt.mpr this
 push_cast at h2
 omega
theorem FrOk.cls{p:Pr}{r:Int}{F:Obj}(h:FrOk W p r F):F.cls≠.type "code":=by
 rcases h with⟨_,rfl⟩|⟨c,_,rfl⟩
 ·exact kE
 ·exact kE
theorem loop(E:Evs kt){p:Pr}(hp:p.Ok){zs:List (Int×Nat)}(hvs:p.vs=zs.map zv)(hz:∀z∈zs,0≤z.1){m:Nat}(hm:Builtin.Int.intBits p.b=m)(hb:0<p.b)(hm2:m≤1000)(hzb:Builtin.Int.intBits (poly m zs)≤2000)(hlen:zs.length≤1000)(hA:A.handled=none)(hd:A.depth+70<1000):
  ∀(k:Nat) {s:Shared} {qz:List (Int×Nat)} {r:Int} {F:Obj} {e:Nat},Base kt W s.heap→k≤zs.length→FrOk W p r F→s.heap.get? p.n₀=some F→s.heap.get? p.l=some (lst p.vs 0)→s.heap.get? p.n=some (lst (qz.map zv) e)→s.heap.get? (p.n+1)=some (rit p.l ((k:Int)-1)) →
   poly m (zs.drop k)=p.b*poly m qz.reverse+r→0≤r→r<p.b→(∀z∈qz,0≤z.1)→qz.length+k=zs.length →
   (∀(s':Shared) (qz':List (Int×Nat)) (F':Obj) (r':Int) (e':Nat),Fut [p.n₀,p.n,p.n+1] [] s s'→FrOk W p r' F'→s'.heap.get? p.n₀=some F'→s'.heap.get? p.n=some (lst (qz'.map zv) e')→poly m zs=p.b*poly m qz'.reverse+r'→0≤r'→r'<p.b→(∀z∈qz',0≤z.1)→qz'.length=zs.length→R (.ok .next) s') →
   Mean W A R P (LC kt W p) (.own []) (denote table (LC kt W p)) s
 | 0,s,qz,r,F,e,B,hk,hF,h1,h2,h3,h4,hq,hr,hr2,hqz,hql,hR=>by
  have h4':s.heap.get? (p.n+1)=some (rit p.l (-1)):=h4
  have own:=own4 h1 h2 h3 h4'
  refine startC_mean (M:=M2 p F (qz.map zv) e (-1)) B hA (by omega:A.depth+60<1000) own hp.nd (offs rfl hp.off) (post_retIs (E 4 W p F (qz.map zv) e _ _) fz fz ?_)
  intro h' M' j i D hps
  have F':=rep_futL (L:=[]) (tk:=s.toks+i) D own (fun q hq=>.inr (own4 (hps _ Z0) (hps _ Z1) (hps _ Z2) (hps _ Z3) q hq))
  refine hR _ qz F r e (F'.mono fz (fun _ h=>h)) hF (hps _ Z0) (hps _ Z2) hq hr hr2 hqz (by omega)
 | k+1,s,qz,r,F,e,B,hk,hF,h1,h2,h3,h4,hq,hr,hr2,hqz,hql,hR=>by
  obtain⟨z,hz1⟩:∃z,zs[k]?=some z:=⟨zs[k]'(by omega),by simp⟩
  have hzm:z∈zs:=List.mem_of_getElem? hz1
  have hz0:=hz z hzm
  have hbm:p.b<2 ^ m:=by rw[←hm]; exact bits_lt (by omega)
  have hrb:Builtin.Int.intBits r≤m:=by rw[←hm]; exact intBits_le_of_natAbs (y:=p.b) (natAbs_mono (by omega) (by omega)) (nR _)
  have hpk:poly m (zs.drop k)=z.1+2 ^ m*poly m (zs.drop (k+1)):=by
   rw[List.drop_eq_getElem_cons (by omega)]
   have e5:zs[k]'(by omega)=z:=by
    rw[List.getElem?_eq_getElem (by omega)]at hz1
    exact Option.some.inj hz1
   rw[e5]
   rfl
  have hzle:z.1≤poly m zs:=by
   have h6:=poly_seg_le (m:=m) hz k (zs.length-k)
   have e6:(zs.drop k).take (zs.length-k)=zs.drop k:=List.take_of_length_le (by simp)
   rw[e6,hpk]at h6
   have h7:=Int.mul_nonneg (Int.le_of_lt (Int.pow_pos (by decide):(0:Int)<2 ^ m)) (poly_nonneg m (zs.drop (k+1)) fun y hy=>hz y (List.mem_of_mem_drop hy))
   omega
  have hzb2:Builtin.Int.intBits z.1≤2000:=intBits_le_of_natAbs (y:=poly m zs) (natAbs_mono (by omega) (by omega)) hzb
  have hbig:Builtin.Int.intBits (r*2 ^ m+z.1)≤2002:=by
   have h8:Builtin.Int.intBits (r*2 ^ m)≤m+(m+1):=by
    refine intBits_mul_le hrb ?_
    refine intBits_le_iff.mpr ?_
    rw[Int.natAbs_pow]
    show 2 ^ m<2 ^ (m+1)
    rw[Nat.pow_succ]
    have:=Nat.two_pow_pos m
    omega
   have h9:=intBits_add_le h8 hzb2
   omega
  have hbl:p.b.natAbs.log2<9000:=by
   have h10:=hm
   unfold Builtin.Int.intBits at h10
   rw[if_neg (by simp; omega)]at h10
   omega
  have hmq:X.bitsQ p.b=m:=by rw[←hm,X.bitsQ_eq]
  obtain⟨F₁,tr,E2,E3⟩:=turn E hF (qz.map zv) e (((k+1:Nat):Int)-1) s.heap.objs.size s.toks z.1 z.2 (r*2 ^ m)
  have own:=own4 h1 h2 h3 h4
  refine startC_mean (M:=M2 p F (qz.map zv) e (((k+1:Nat):Int)-1)) B hA (by omega:A.depth+60<1000) own hp.nd (offs rfl hp.off) (post_stopIs E2 hA fz ?_ ?_)
  ·refine fc ?_ (fc ?_ fz)
   ·refine eff_lshift rfl ?_ (Int.natCast_nonneg _) ?_
    ·have:(r*2 ^ m:Int)=r*2 ^ ((X.bitsQ p.b:Nat):Int).toNat:=by rw[hmq]; rfl
     rw[this]
     exact I2.eInt_isI ..
    ·rw[hmq]; omega
   ·refine eff_revnext (z:=zv z) (vs:=p.vs) (n:=0) rfl Z0 Z1 (by omega) ?_ rfl rfl rfl rfl
    have:(((k+1:Nat):Int)-1).toNat=k:=by omega
    rw[this,hvs,List.getElem?_map,hz1]
    rfl
  ·intro h₁ M1 j1 i1 A1 D hps hA1 hd1
   have F1:=rep_futL (L:=[p.n₀,p.n+1]) (tk:=s.toks+i1) D own (by
    refine fc ?_ (fc ?_ (fc ?_ (fc ?_ fz)))
    ·exact .inl Z0
    ·exact .inr (hps _ Z1)
    ·exact .inr (hps _ Z2)
    ·exact .inl Z1)
   have B1:=B.fut F1 (by
    refine fc ?_ (fc ?_ fz)<;>exact hp.off _ (by simp))
   refine div2n1n_spec (E 11) B1 hA1 (by omega) (by rw[hmq]; omega) (by omega) hbl ?_
   intro s2 x t1 t2 F2 hx hx2
   have B2:=B1.fut F2 fz
   have q1:=F2.keep _ _ (hps _ Z0) (fun h=>nomatch h)
   have q2:=F2.keep _ _ (hps _ Z1) (fun h=>nomatch h)
   have q3:=F2.keep _ _ (hps _ Z2) (fun h=>nomatch h)
   have q4:=F2.keep _ _ (hps _ Z3) (fun h=>nomatch h)
   obtain⟨F₂,hF2,E3⟩:=E3 x ((r*2 ^ m+z.1).fdiv p.b) ((r*2 ^ m+z.1).fmod p.b) t1 t2 s2.heap.objs.size s2.toks
   have own₂:=own3 q1 q3 hx
   have hxn:∀a o,h₁.get? a=some o→a≠x:=fun a o h z=>absurd (Heap.lt_size h) (Nat.not_lt.mpr (z▸hx2))
   have hne:=hp.ne
   refine startT_soundO E2.own (M:=M3 p F₁ (qz.map zv) e x _ _ t1 t2) B2 hA (by omega:A.depth+60<1000) own₂ (by
    exact pc (fc hne.2.1 (fc (hxn _ _ (hps _ Z0)) fz)) (pc (fc (hxn _ _ (hps _ Z2)) fz) (pc fz .nil))) (by
    refine fc ?_ (fc ?_ (fc ?_ fz))
    ·exact hp.off _ (by simp)
    ·exact hp.off _ (by simp)
    ·exact .inl (nT B1.sz hx2)) (post_againIs E3 fz ?_ ?_)
   ·refine fc ?_ fz
    exact eff_append rfl Z0 (by simp; omega) rfl rfl rfl rfl
   ·intro h₃ M₃ j3 i3 D3 hps3
    simp only[mc,nn,or_false,forall_eq_or_imp,forall_eq]at hps3
    obtain⟨u1,u2,u3⟩:=hps3
    have F3:=rep_futL (L:=[p.n₀,p.n]) (tk:=s2.toks+i3) D3 own₂ (by
     refine fc ?_ (fc ?_ (fc ?_ fz))
     ·exact .inl Z0
     ·exact .inl Z1
     ·exact .inr u3)
    have B3:=B2.fut F3 (by
     refine fc ?_ (fc ?_ fz)<;>exact hp.off _ (by simp))
    have v2:=F3.keep _ _ q2 (by simp only[mc,nn,or_false,not_or]; exact⟨hne.1.symm,hne.2.2.2.1⟩)
    have v4:=F3.keep _ _ q4 (by simp only[mc,nn,or_false,not_or]; exact⟨hne.2.2.1.symm,hne.2.2.2.2.2.symm⟩)
    have eq1:(qz.map zv++[.int ((r*2 ^ m+z.1).fdiv p.b) t1])=(qz++[((r*2 ^ m+z.1).fdiv p.b,t1)]).map zv:=by simp[zv]
    rw[eq1]at u2
    have hpos:0≤r*2 ^ m+z.1:=by
     have:=Int.mul_nonneg hr (Int.le_of_lt (Int.pow_pos (by decide):(0:Int)<2 ^ m))
     omega
    have hdm:=Int.fmod_add_mul_fdiv (r*2 ^ m+z.1) p.b
    refine loop E hp hvs hz hm hb hm2 hzb hlen hA hd k (s:=⟨h₃,s2.gens,s2.drawn,s2.toks+i3,s2.os⟩) B3 (by omega) hF2 u1 v2 u2 (by
     have:(((k+1:Nat):Int)-1-1)=(k:Int)-1:=by omega
     rw[←this]; exact v4) ?_ (Int.fmod_nonneg_of_pos _ hb) (Int.fmod_lt_of_pos _ hb) ?_ (by simp; omega) ?_
    ·rw[hpk,hq,List.reverse_append,List.reverse_singleton]
     show _=p.b*((r*2 ^ m+z.1).fdiv p.b+2 ^ ((m:Nat):Int).toNat*poly m qz.reverse)+_
     rw[Int.toNat_natCast,Int.mul_add,Int.mul_add,←Int.mul_assoc,←Int.mul_assoc,Int.mul_comm (2 ^ m) p.b,Int.mul_comm (2 ^ m) r]
     omega
    ·intro y hy
     rcases mpp.mp hy with hy|hy
     ·exact hqz y hy
     ·simp only[mg]at hy
      subst hy
      exact Int.fdiv_nonneg hpos (Int.le_of_lt hb)
    ·intro s' qz' F' r' e' FF
     refine hR s' qz' F' r' e' ?_
     exact(((F1.mono (fun a ha=>by
      simp only[mc,nn,or_false]at ha ⊢
      rcases ha with rfl|rfl<;>simp) (fun _ h=>h)).trans (F2.mono fz (fun _ h=>h))).trans (F3.mono (fun a ha=>by
      simp only[mc,nn,or_false]at ha ⊢
      rcases ha with rfl|rfl<;>simp) (fun _ h=>h))).trans FF
end
end DM
abbrev EvI2:=nF [I2.EvL,I2.EvN,I2.EvN2,I2.EvN3,I2.EvA,I2.EvA0,I2.EvB,I2.EvB0,I2.EvZA,I2.EvZB,fun kt W=>∀n t,(I2.cob kt W n t).cls=.type "code"]
abbrev EvD2:=nF [D2.EvL,D2.EvN,D2.EvN2,D2.EvN3,D2.EvA,D2.EvA0,D2.EvB,D2.EvB0,D2.EvZA,D2.EvZB,fun kt W=>∀n t,(D2.cob kt W n t).cls=.type "code"]
namespace DM
section
open I2 D2
noncomputable def Away(s:Shared)(x:Nat)(a:Addr):Prop:=s.heap.objs.size≤a∨a=x∨∃o,s.heap.get? a=some o∧o.cls≠.type "code"
theorem T51.fut'(C:∀W n t,(I2.cob kt W n t).cls=.type "code"){G:List Nat}(h:T51 kt W s.heap)(hL:∀a∈L,Away s 58 a∧a≠51)(F:Fut L G s s'):T51 kt W s'.heap:=by
 rcases h with h|⟨n0,t0,h⟩
 ·exact .inl (F.keep _ _ h fun z=>(hL _ z).2 rfl)
 ·refine .inr ⟨n0,t0,h.1,F.keep _ _ h.2.1 fun z=>(hL _ z).2 rfl,F.keep _ _ h.2.2 fun z=>?_⟩
  rcases(hL _ z).1 with y|y|⟨o,y,y2⟩
  ·exact absurd (Heap.lt_size h.2.2) (Nat.not_lt.mpr y)
  ·have:=h.1
   have y':n0+12=58:=y
   omega
  ·rw[h.2.2]at y
   cases y
   exact y2 (C W n0 t0)
theorem T58.fut'(C:∀W n t,(D2.cob kt W n t).cls=.type "code"){G:List Nat}(h:T58 kt W s.heap)(hL:∀a∈L,Away s 51 a∧a≠58)(F:Fut L G s s'):T58 kt W s'.heap:=by
 rcases h with h|⟨n0,t0,h⟩
 ·exact .inl (F.keep _ _ h fun z=>(hL _ z).2 rfl)
 ·refine .inr ⟨n0,t0,h.1,F.keep _ _ h.2.1 fun z=>(hL _ z).2 rfl,F.keep _ _ h.2.2 fun z=>?_⟩
  rcases(hL _ z).1 with y|y|⟨o,y,y2⟩
  ·exact absurd (Heap.lt_size h.2.2) (Nat.not_lt.mpr y)
  ·have:=h.1
   have y':n0+10=51:=y
   omega
  ·rw[h.2.2]at y
   cases y
   exact y2 (C W n0 t0)
noncomputable def QR(kt:Params→KT)(W:Wd)(s:Shared)(q r:Int)(R:Result→Shared→Prop):Prop :=
 ∀s' x t1 t2,Fut [51,58] [] s s'→s'.heap.get? x=some (tup [.int q t1,.int r t2])→s.heap.objs.size≤x→T51 kt W s'.heap→T58 kt W s'.heap→R (.ok (.ret (.ref x))) s'
theorem ends(E:Evs kt){p:Pr}{r:Int}{F:Obj}(h:FrOk W p r F)(qs:List Value)(e n t:Nat):StopIs (o4 kt W p F qs e n t) [] [eRev p qs e n t] (.call (.ref 63) (D2.ar2 p.n (X.bitsQ p.b:Nat) (p.t₀+2))) 1 [(0,p.n₀,F),(1,p.n,lst qs.reverse e)] ∧
  ∀(Q:Int) (tQ n' t':Nat),∃tr,RetIs (o5 kt W p F qs e n t Q tQ n' t') [] [] (.ok (.ret (.ref n'))) [(1,n',tup [.int Q tQ,.int r tr])]:=by
 rcases h with⟨rfl,rfl⟩|⟨c,rfl,rfl⟩
 ·exact⟨E 7 W p qs e n t,fun Q tQ n' t'=>⟨_,E 9 W p qs e n t Q tQ n' t'⟩⟩
 ·exact⟨E 8 W p c qs e n t,fun Q tQ n' t'=>⟨_,E 10 W p c qs e n t Q tQ n' t'⟩⟩
theorem divmod_pos_spec(E:Evs kt)(EI:EvI2 kt)(ED:EvD2 kt){a b:Int}{ta tb:Nat}(B:Base kt W s.heap)(T1:T51 kt W s.heap)(T2:T58 kt W s.heap)(hA:A.handled=none)(hd:A.depth+400<1000)
  (ha:0≤a) (hb:0<b) (hab:Builtin.Int.intBits a≤300) (hbb:Builtin.Int.intBits b≤300) (hR:QR kt W s (a.fdiv b) (a.fmod b) R):codeAny W.M A (.call (.ref 70) (arD a b ta tb)) R s:=by
 have h160:=B.sz
 obtain⟨m,hm⟩:∃m,Builtin.Int.intBits b=m:=⟨_,rfl⟩
 have hmq:X.bitsQ b=m:=by rw[←hm,X.bitsQ_eq]
 have hm0:0<m:=by
  rw[←hm]
  unfold Builtin.Int.intBits
  rw[if_neg (by simp; omega)]
  omega
 obtain⟨k,hk⟩:∃k:Nat,((Builtin.Int.intBits a:Nat)+(m:Int)-1).fdiv m=k:=⟨(((Builtin.Int.intBits a:Nat)+(m:Int)-1).fdiv m).toNat,by
  have:0≤((Builtin.Int.intBits a:Nat)+(m:Int)-1).fdiv m:=Int.fdiv_nonneg (by omega) (by omega)
  exact(Int.toNat_of_nonneg this).symm⟩
 have hk2:k≤300:=by
  rw[Int.fdiv_eq_ediv_of_nonneg _ (by omega)]at hk
  have h1:((Builtin.Int.intBits a:Nat)+(m:Int)-1)≤(Builtin.Int.intBits a:Nat)*(m:Int)∨Builtin.Int.intBits a=0:=by
   by_cases h:Builtin.Int.intBits a=0
   ·exact .inr h
   ·left
    have h2:=Int.mul_nonneg (by omega:(0:Int)≤(Builtin.Int.intBits a:Nat)-1) (by omega:(0:Int)≤(m:Int)-1)
    rw[Int.sub_mul,Int.mul_sub,Int.mul_one,Int.one_mul]at h2
    omega
  rcases h1 with h1|h1
  ·have h3:=Int.ediv_le_ediv (by omega:(0:Int)<m) h1
   rw[Int.mul_ediv_cancel _ (by omega),hk]at h3
   omega
  ·rw[h1]at hk
   have h3:(((0:Nat):Int)+(m:Int)-1) / m=0:=Int.ediv_eq_zero_of_lt (by omega) (by omega)
   omega
 refine startF_sound (M:=[]) B hA (by omega:A.depth+60<1000) fz List.nodup_nil fz (by decide) (post_stopIs (E 0 W _ _ a b ta tb) hA ?_ fz ?_)
 ·refine fc ?_ fz
  rfl
 intro h₁ M1 j1 i1 A1 D1 hp1 hA1 hd1
 have f0:=hp1 _ Z0
 have F1:=rep_fut (M:=[]) (tk:=s.toks+i1) D1
 have B1:=B.fut F1 fz
 have T11:=T1.fut B F1 fz
 refine int2digits_spec (EI 0) (EI 1) (EI 2) (EI 3) (EI 4) (EI 5) (EI 6) (EI 7) (EI 8) (EI 9) (k:=k) B1 T11 hA1 (by omega) (by rw[hmq]; omega) (by rw[hmq]; omega) ha (by omega) (by rw[hmq]; exact hk) (by omega) ?_
 intro s2 l zs F2 hl hl2 hzl hz0 hzp T12
 have B2:=B1.fut F2 (fc (by exact .inr (.inl rfl)) fz)
 have hn1:s.heap.objs.size<h₁.objs.size:=Heap.lt_size f0
 have F12:Fut [51] [] s s2:=(F1.mono fz (fun _ h=>h)).trans F2
 have f0':s2.heap.get? s.heap.objs.size=some (fr0 W s.toks a b ta tb):=F2.keep _ _ f0 (by simp only[ms]; exact(by omega:s.heap.objs.size≠51))
 have hls:s.heap.objs.size<l:=Nat.lt_of_lt_of_le hn1 hl2
 have hl160:160≤l:=nT h160 (Nat.le_of_lt hls)
 have hn2:l<s2.heap.objs.size:=Heap.lt_size hl
 obtain⟨p,hp⟩:∃p:Pr,p=⟨s.heap.objs.size,s.toks,a,b,ta,tb,l,zs.map zv,s2.heap.objs.size,s2.toks⟩:=⟨_,rfl⟩
 have e1:=E 1 W p
 have own₂:=own2 f0' hl
 have e0:=E 0 W s.heap.objs.size s.toks a b ta tb
 have hne0:s.heap.objs.size≠l:=Nat.ne_of_lt hls
 subst hp
 refine startT_soundO e0.own (M:=[(s.heap.objs.size,fr0 W s.toks a b ta tb),(l,lst (zs.map zv) 0)]) B2 hA (by omega:A.depth+60<1000) own₂ (by simp[hne0]) (offs (l:=[s.heap.objs.size,l]) rfl (by
  refine fc ?_ (fc ?_ fz)
  ·exact .inl h160
  ·exact .inl hl160)) (post_stopIs e1 hA fz fz ?_)
 intro h₃ M3 j3 i3 A3 D3 hp3 hA3 hd3
 have F3:=rep_futL (L:=[s.heap.objs.size]) (tk:=s2.toks+i3) D3 own₂ (by
  refine fc ?_ (fc ?_ fz)
  ·exact .inl Z0
  ·exact .inr (hp3 _ Z1))
 have B3:=B2.fut F3 (fc (by exact .inl h160) fz)
 have hpOk:Pr.Ok ⟨s.heap.objs.size,s.toks,a,b,ta,tb,l,zs.map zv,s2.heap.objs.size,s2.toks⟩:=by
  have q1:s.heap.objs.size≠s2.heap.objs.size:=Nat.ne_of_lt (Nat.lt_trans hls hn2)
  have q2:s.heap.objs.size≠s2.heap.objs.size+1:=Nat.ne_of_lt (Nat.lt_succ_of_lt (Nat.lt_trans hls hn2))
  have q3:l≠s2.heap.objs.size:=Nat.ne_of_lt hn2
  have q4:l≠s2.heap.objs.size+1:=Nat.ne_of_lt (Nat.lt_succ_of_lt hn2)
  have b2:=B2.sz
  refine⟨?_,?_⟩
  ·exact pc (fc hne0 (fc q1 (fc q2 fz))) (pc (fc q3 (fc q4 fz)) (pc (fc (Nat.ne_of_lt (Nat.lt_succ_self _)) fz) (pc fz .nil)))
  ·refine fc ?_ (fc ?_ (fc ?_ (fc ?_ fz)))
   ·exact .inl h160
   ·exact .inl hl160
   ·exact .inl b2
   ·exact .inl (Nat.le_succ_of_le b2)
 have hzp':poly m zs=a:=by rw[←hmq]; exact hzp
 refine code_of_mean (P:=fun _ _=>False) (loop E hpOk (zs:=zs) rfl hz0 hm hb (by omega) (by rw[hzp']; omega) (by omega) hA3 (by omega) zs.length (qz:=[]) (e:=0) (s:=⟨h₃,s2.gens,s2.drawn,s2.toks+i3,s2.os⟩) B3 (nR _) (.inl ⟨rfl,rfl⟩) (hp3 _ Z0) (hp3 _ Z1) (hp3 _ Z2) ?_ (by simp[poly]) (Int.le_refl _) hb fz (by simp) ?_)
 ·have:((⟨zs.map zv⟩:Array Value).size:Int)=(zs.length:Int):=by simp
  rw[←this]
  exact (hp3 _ Z3)
 intro s4 qz F r e F4 hF k1 k2 hq hr hr2 hqz hql
 have hq:poly m zs=b*poly m qz.reverse+r:=hq
 have hr2:r<b:=hr2
 have B4:=B3.fut F4 (by
  refine fc ?_ (fc ?_ (fc ?_ fz))<;>exact hpOk.off _ (by simp))
 obtain⟨e4,e5⟩:=ends E hF (qz.map zv) e s4.heap.objs.size s4.toks
 have own4:=own2 k1 k2
 have hne:=hpOk.ne
 refine startT_soundO e1.own (M:=[(s.heap.objs.size,F),(s2.heap.objs.size,lst (qz.map zv) e)]) B4 hA (by omega:A.depth+60<1000) own4 (by simpa using hne.2.1) (offs (l:=[s.heap.objs.size,s2.heap.objs.size]) rfl (by
  refine fc ?_ (fc ?_ fz)<;>exact hpOk.off _ (by simp))) (post_stopIs e4 hA fz ?_ ?_)
 ·refine fc ?_ fz
  exact eff_reverse rfl Z0 (by simp; omega) rfl rfl rfl rfl
 intro h5 M5 j5 i5 A5 D5 hp5 hA5 hd5
 have F5:=rep_futL (L:=[s2.heap.objs.size]) (tk:=s4.toks+i5) D5 own4 (by
  refine fc ?_ (fc ?_ fz)
  ·exact .inr (hp5 _ Z0)
  ·exact .inl Z0)
 have B5:=B4.fut F5 (fc (by exact hpOk.off _ (by simp)) fz)
 have sz12:=F12.size
 have F13:Fut [51] [] s ⟨h₃,s2.gens,s2.drawn,s2.toks+i3,s2.os⟩:=F12.trans' F3 (fc (.inr (nR _)) fz) fz
 have F14:Fut [51] [] s s4:=F13.trans' F4 (by
  refine fc ?_ (fc ?_ (fc ?_ fz))
  ·exact .inr (nR _)
  ·exact .inr sz12
  ·exact .inr (Nat.le_succ_of_le sz12)) fz
 have F15:Fut [51] [] s ⟨h5,s4.gens,s4.drawn,s4.toks+i5,s4.os⟩:=F14.trans' F5 (fc (.inr (sz12)) fz) fz
 have F25:Fut [s.heap.objs.size,s2.heap.objs.size,s2.heap.objs.size+1] [] s2 ⟨h5,s4.gens,s4.drawn,s4.toks+i5,s4.os⟩ :=
  ((F3.mono (fc (by first|exact Z0|exact Z1|exact Z2|simp) fz) (fun _ h=>h)).trans F4).trans (F5.mono (fc (by first|exact Z0|exact Z1|exact Z2|simp) fz) (fun _ h=>h))
 have b2:=B2.sz
 have T15:T51 kt W h5:=T51.fut' (EI 10) (s':=⟨h5,s4.gens,s4.drawn,s4.toks+i5,s4.os⟩) T12 (by
  refine fc ?_ (fc ?_ (fc ?_ fz))
  ·exact⟨.inr (.inr ⟨_,f0',kE⟩),(by omega:s.heap.objs.size≠51)⟩
  ·exact⟨.inl (nR _),(by omega:s2.heap.objs.size≠51)⟩
  ·exact⟨.inl (Nat.le_succ _),(by omega:s2.heap.objs.size+1≠51)⟩) F25
 have T25:=T2.away B F15 (fun x hx=>by simp only[ms]at hx; exact .inr hx) (l:=s2.heap.objs.size) sz12
 have hrev:qz.reverse.map zv=(qz.map zv).reverse:=List.map_reverse
 have hQ:0≤poly m qz.reverse:=poly_nonneg _ _ fun z hz=>hqz z (List.mem_reverse.mp hz)
 have hQa:poly m qz.reverse≤a:=by
  rw[hzp']at hq
  have h3:1*poly m qz.reverse≤b*poly m qz.reverse:=Int.mul_le_mul_of_nonneg_right hb hQ
  omega
 have hQb:Builtin.Int.intBits (poly m qz.reverse)≤10000:=intBits_le_of_natAbs (y:=a) (natAbs_mono (by omega) (by omega)) (by omega)
 have hl5:h5.get? s2.heap.objs.size=some (lst (qz.reverse.map zv) e):=by rw[hrev]; exact (hp5 _ Z1)
 refine digits2int_spec (ED 0) (ED 1) (ED 2) (ED 3) (ED 4) (ED 5) (ED 6) (ED 7) (ED 8) (ED 9) (l:=s2.heap.objs.size) (e:=e) (zs:=qz.reverse) (s:=⟨h5,s4.gens,s4.drawn,s4.toks+i5,s4.os⟩) B5 T25 hA5 (by simp; omega) (by rw[hmq]; omega) (by rw[hmq]; omega) hl5 b2 (by simp; omega) (fun z hz=>hqz z (List.mem_reverse.mp hz)) (by rw[hmq]; exact hQb) ?_
 rw[hmq]
 intro s6 tv F6 T26
 have B6:=B5.fut F6 (fc (by exact .inr (.inr rfl)) fz)
 have k1':s6.heap.get? s.heap.objs.size=some F:=F6.keep _ _ (hp5 _ Z0) (by simp only[ms]; exact(by omega:s.heap.objs.size≠58))
 obtain⟨tr,e6⟩:=e5 (poly m qz.reverse) tv s6.heap.objs.size s6.toks
 have T16:T51 kt W s6.heap:=T51.fut (s:=⟨h5,s4.gens,s4.drawn,s4.toks+i5,s4.os⟩) T15 B5 F6 (fun x hx=>by simp only[ms]at hx; exact .inr hx)
 have own6:=own1 k1'
 refine startT_soundO e4.own (M:=[(s.heap.objs.size,F)]) B6 hA (by omega:A.depth+60<1000) own6 (by simp) (offs (l:=[s.heap.objs.size]) rfl (by
  refine fc ?_ fz
  exact .inl h160)) (post_retIs e6 fz fz ?_)
 intro h7 M7 j7 i7 D7 hp7
 have F7:=rep_fut (tk:=s6.toks+i7) D7
 have F16:Fut [51,58] [] s s6:=(F15.mono (fc (by first|exact Z0|exact Z1|exact Z2|simp) fz) (fun _ h=>h)).trans (F6.mono (fc (by first|exact Z0|exact Z1|exact Z2|simp) fz) (fun _ h=>h))
 have F17:Fut [51,58] [] s ⟨h7,s6.gens,s6.drawn,s6.toks+i7,s6.os⟩:=F16.trans' F7 (fc (.inr (nR _)) fz) fz
 have hfr:=hF.cls
 have hq':a=b*poly m qz.reverse+r:=by rw[←hzp']; exact hq
 have hqq:a.fdiv b=poly m qz.reverse:=by
  rw[Int.fdiv_eq_ediv_of_nonneg _ (Int.le_of_lt hb),hq',Int.mul_add_ediv_left _ _ (by omega),Int.ediv_eq_zero_of_lt hr hr2,Int.add_zero]
 have hrr:a.fmod b=r:=by
  have h8:=Int.fmod_add_mul_fdiv a b
  rw[hqq]at h8
  omega
 have:=hR ⟨h7,s6.gens,s6.drawn,s6.toks+i7,s6.os⟩ s6.heap.objs.size tv tr F17 (by rw[hqq,hrr]; exact hp7 _ Z0) F16.size (T51.fut' (EI 10) (s':=⟨h7,s6.gens,s6.drawn,s6.toks+i7,s6.os⟩) T16 (by
  refine fc ?_ fz
  exact⟨.inr (.inr ⟨_,k1',hfr⟩),(by omega:s.heap.objs.size≠51)⟩) F7) (T58.fut' (ED 10) (s':=⟨h7,s6.gens,s6.drawn,s6.toks+i7,s6.os⟩) T26 (by
  refine fc ?_ fz
  exact⟨.inr (.inr ⟨_,k1',hfr⟩),(by omega:s.heap.objs.size≠58)⟩) F7)
 exact this
end
end DM
namespace ID
open DM
noncomputable def hsP:List H:=(Hx Y5 (.v (.bool false)::Hx 0x42 (.v (.bool false)::Hx 0x42 (.v (.bool false)::Hx 0x314412 []))))
noncomputable def hsN:List H:=(Hx Y5 (.v (.bool false)::Hx 0x42 (.v (.bool false)::Hx 0x42 (.v (.bool true)::Hx 0x31422412 []))))
noncomputable def oP c W n t a b d e:=startF (S1 c W n t 60) 77 (arD a b d e) [] hsP
noncomputable def oN c W n t a b d e:=startF (S1 c W n t 60) 77 (arD a b d e) [] hsN
noncomputable def frI(W:Wd)(t:Nat)(a b:Int)(ta tb:Nat):Obj:=fr W.w.params [(⟨⟨[97]⟩⟩,t,Value.int a ta),(⟨⟨[98]⟩⟩,t+1,Value.int b tb)]
noncomputable def vsI(a b:Int)(c:Bool):List (Value×Value):=[(.bool (dLt a 0),.bool c),(.bool (dLt b 0),.bool false),(.bool (dEq b 0),.bool false)]
noncomputable def EvP kt W:=∀n t a b ta tb,
 StopIs (oP kt W n t a b ta tb) (vsI a b false) [] (.call (.ref 70) (arD a b ta tb)) 1 [(0,n,frI W t a b ta tb)]
noncomputable def EvN kt W:=∀n t a b ta tb,
 StopIs (oN kt W n t a b ta tb) (vsI a b true) [] (.call (.ref 77) (arD (-a-1) b (t+5) tb)) 1 [(0,n,frI W t a b ta tb)]
noncomputable def oPz c W n t a b d e x f g:=on c W f g (oP c W n t a b d e) (rt (.ref x)) [] []
noncomputable def EvPz kt W:=∀n t a b ta tb x n' t',
 RetIs (oPz kt W n t a b ta tb x n' t') [] [] (.ok (.ret (.ref x))) []
end ID
namespace ID
open DM I2 D2
noncomputable def hsNz:List H:=(Hx 0x222244224444486656626266656626266656626266252555 [])
noncomputable def oNz c W n t a b d e x q r f g h i:=on c W h i (ID.oN c W n t a b d e) (rt (.ref x)) [(n,frI W t a b d e),(x,tup [.int q f,.int r g])] hsNz
noncomputable def EvNz kt W:=∀n t a b ta tb x q r tq tr n' t',
 RetIs (oNz kt W n t a b ta tb x q r tq tr n' t') [] [] (.ok (.ret (.ref (n'+3)))) [(5,n'+3,tup [.int (-q-1) (t'+2),.int (b+(-r-1)) (t'+4)])]
abbrev EvID:=nF [ID.EvP,ID.EvN,EvPz,EvNz]
section
theorem fdiv_inv{a b:Int}(hb:0<b):a.fdiv b=-((-a-1).fdiv b)-1∧a.fmod b=b+(-((-a-1).fmod b)-1):=by
 have h1:=Int.fmod_add_mul_fdiv (-a-1) b
 have h2:=Int.fmod_nonneg_of_pos (-a-1) hb
 have h3:=Int.fmod_lt_of_pos (-a-1) hb
 generalize hq:(-a-1).fdiv b=q at h1
 generalize hr:(-a-1).fmod b=r at h1 h2 h3
 have e:a=(b+(-r-1))+b*(-q-1):=by
  rw[Int.mul_sub,Int.mul_neg,Int.mul_one]
  omega
 have h4:a.fdiv b=-q-1:=by
  rw[Int.fdiv_eq_ediv_of_nonneg _ (Int.le_of_lt hb),e,Int.add_mul_ediv_left _ _ (by omega),Int.ediv_eq_zero_of_lt (by omega) (by omega),Int.zero_add]
 refine⟨h4,?_⟩
 have h5:=Int.fmod_add_mul_fdiv a b
 rw[h4]at h5
 generalize b*(-q-1)=y at *
 omega
theorem int_divmod_pos(E:Evs kt)(EI:EvI2 kt)(ED:EvD2 kt)(EE:EvID kt){a b:Int}{ta tb:Nat}(B:Base kt W s.heap)(T1:T51 kt W s.heap)(T2:T58 kt W s.heap)(hA:A.handled=none)(hd:A.depth+410<1000)
  (ha:0≤a) (hb:0<b) (hab:Builtin.Int.intBits a≤300) (hbb:Builtin.Int.intBits b≤300) (hR:QR kt W s (a.fdiv b) (a.fmod b) R):codeAny W.M A (.call (.ref 77) (arD a b ta tb)) R s:=by
 refine startF_sound (M:=[]) B hA (by omega:A.depth+60<1000) fz List.nodup_nil fz (by decide) (post_stopIs (EE 0 W _ _ a b ta tb) hA ?_ fz ?_)
 ·intro q hq
  simp only[vsI,mf,nn,or_false]at hq
  rcases hq with rfl|rfl|rfl
  ·rw[dLt_eq,decide_eq_false (by omega)]
  ·rw[dLt_eq,decide_eq_false (by omega)]
  ·rw[dEq_eq,decide_eq_false (by omega)]
 intro h₁ M1 j1 i1 A1 D1 hp1 hA1 hd1
 have F1:=rep_fut (M:=[]) (tk:=s.toks+i1) D1
 have B1:=B.fut F1 fz
 refine divmod_pos_spec E EI ED B1 (T1.fut B F1 fz) (T2.fut B F1 fz) hA1 (by omega) ha hb hab hbb ?_
 intro s2 x t1 t2 F2 hx hxs T12 T22
 have B2:=B1.fut F2 (by
  refine fc ?_ (fc ?_ fz)
  ·exact .inr (.inl rfl)
  ·exact .inr (.inr rfl))
 refine startT_soundO (EE 0 W _ _ a b ta tb).own (M:=[]) B2 hA (by omega:A.depth+60<1000) fz List.nodup_nil fz (post_retIs (EE 2 W _ _ a b ta tb x _ _) fz fz ?_)
 intro h₃ M3 j3 i3 D3 _
 have F3:=rep_fut (M:=[]) (tk:=s2.toks+i3) D3
 exact hR _ x t1 t2 (((F1.mono fz (fun _ h=>h)).trans F2).trans (F3.mono fz (fun _ h=>h))) (F3.keep _ _ hx (fun h=>nomatch h)) (nT F1.size hxs)
  (T12.fut B2 F3 fz) (T22.fut B2 F3 fz)
theorem int_divmod_spec(E:Evs kt)(EI:EvI2 kt)(ED:EvD2 kt)(EE:EvID kt){a b:Int}{ta tb:Nat}(B:Base kt W s.heap)(T1:T51 kt W s.heap)(T2:T58 kt W s.heap)(hA:A.handled=none)(hd:A.depth+420<1000)
  (hb:0<b) (hab:Builtin.Int.intBits a≤290) (hbb:Builtin.Int.intBits b≤290) (hR:QR kt W s (a.fdiv b) (a.fmod b) R):codeAny W.M A (.call (.ref 77) (arD a b ta tb)) R s:=by
 by_cases ha:0≤a
 ·exact int_divmod_pos E EI ED EE B T1 T2 hA (by omega) ha hb (by omega) (by omega) hR
 have h160:=B.sz
 refine startF_sound (M:=[]) B hA (by omega:A.depth+60<1000) fz List.nodup_nil fz (by decide) (post_stopIs (EE 1 W _ _ a b ta tb) hA ?_ fz ?_)
 ·intro q hq
  simp only[vsI,mf,nn,or_false]at hq
  rcases hq with rfl|rfl|rfl
  ·rw[dLt_eq,decide_eq_true (by omega)]
  ·rw[dLt_eq,decide_eq_false (by omega)]
  ·rw[dEq_eq,decide_eq_false (by omega)]
 intro h₁ M1 j1 i1 A1 D1 hp1 hA1 hd1
 have f0:=hp1 _ Z0
 have F1:=rep_fut (M:=[]) (tk:=s.toks+i1) D1
 have B1:=B.fut F1 fz
 have hb1:Builtin.Int.intBits (-a-1)≤300:=by
  have:=intBits_le_of_natAbs (x:=-a-1) (y:=a) (by omega) hab
  omega
 refine int_divmod_pos E EI ED EE B1 (T1.fut B F1 fz) (T2.fut B F1 fz) hA1 (by omega) (by omega) hb hb1 (by omega) ?_
 intro s2 x t1 t2 F2 hx hxs T12 T22
 have B2:=B1.fut F2 (by
  refine fc ?_ (fc ?_ fz)
  ·exact .inr (.inl rfl)
  ·exact .inr (.inr rfl))
 have hn1:s.heap.objs.size<h₁.objs.size:=Heap.lt_size f0
 have f0':=F2.keep _ _ f0 (by
  simp only[mc,nn,or_false,not_or]
  exact⟨(by omega:s.heap.objs.size≠51),(by omega:s.heap.objs.size≠58)⟩)
 have hsx:s.heap.objs.size<x:=Nat.lt_of_lt_of_le hn1 hxs
 have own:=own2 f0' hx
 refine startT_soundO (EE 1 W _ _ a b ta tb).own (M:=[(s.heap.objs.size,frI W s.toks a b ta tb),(x,tup [.int ((-a-1).fdiv b) t1,.int ((-a-1).fmod b) t2])]) B2 hA (by omega:A.depth+60<1000) own (by simpa using Nat.ne_of_lt hsx) (offs (l:=[s.heap.objs.size,x]) rfl (by
  refine fc ?_ (fc ?_ fz)
  ·exact .inl h160
  ·exact .inl (nT h160 (Nat.le_of_lt hsx)))) (post_retIs (EE 3 W _ _ a b ta tb x _ _ t1 t2 _ _) fz fz ?_)
 intro h₃ M3 j3 i3 D3 hp3
 have F3:=rep_fut (tk:=s2.toks+i3) D3
 have F12:Fut [51,58] [] s s2:=(F1.mono fz (fun _ h=>h)).trans F2
 have F13:Fut [51,58] [] s ⟨h₃,s2.gens,s2.drawn,s2.toks+i3,s2.os⟩:=F12.trans' F3 (by
  refine fc ?_ (fc ?_ fz)
  ·exact .inr (nR _)
  ·exact .inr (Nat.le_of_lt hsx)) fz
 have hL:∀z y,z=51∨z=58→y∈[s.heap.objs.size,x]→(Away s2 (109-z) y∧y≠z):=by
  intro z y hz hy
  simp only[mc,nn,or_false]at hy
  have hx160:160≤x:=nT h160 (Nat.le_of_lt hsx)
  rcases hy with rfl|rfl
  ·exact⟨.inr (.inr ⟨_,f0',kE⟩),fun e=>by
    have:s.heap.objs.size=z:=e
    omega⟩
  ·exact⟨.inr (.inr ⟨_,hx,kG⟩),fun e=>by
    rw[e]at hx160
    have:160≤z:=hx160
    omega⟩
 obtain⟨e1,e2⟩:=fdiv_inv (a:=a) hb
 refine hR ⟨h₃,s2.gens,s2.drawn,s2.toks+i3,s2.os⟩ (s2.heap.objs.size+3) _ _ F13 (by rw[e1,e2]; exact hp3 _ Z0) (nT F12.size (lU ..))
  (T51.fut' (EI 10) (s':=⟨h₃,s2.gens,s2.drawn,s2.toks+i3,s2.os⟩) T12 (fun y hy=>hL 51 y (.inl rfl) hy) F3) (T58.fut' (ED 10) (s':=⟨h₃,s2.gens,s2.drawn,s2.toks+i3,s2.os⟩) T22 (fun y hy=>hL 58 y (.inr rfl) hy) F3)
end
end ID
noncomputable def codeOf(fd:FuncData)(env:Env):Code:=match fd.body with|.stmts b=>.func b env|.expr e=>.expr e env
noncomputable def genTailM(self:Addr)(fd:FuncData)(args:Args)(compiled:Str):Sem PySem.Fin:=do
 let bs ←bindArgs fd args
 let env ←newFunctionEnv fd.scope fd.globals fd.closure bs (compiled++".<locals>.") (some self) fd.code none fd.builtins
 enterM
 let v ←newGenerator (codeOf fd env) fd.name fd.qualname
 pure (.done (.ret v))
noncomputable def genFnM(self:Addr)(fd:FuncData)(args:Args):Sem PySem.Fin:=match fd.code with
 | .none=>genTailM self fd args fd.qualname
 | c=>do match ←field c 1 with
  | .str q _=>genTailM self fd args q
  | _=>genTailM self fd args fd.qualname
noncomputable abbrev newGeneratorZ:Code→Str→Str→Sem Value:=PySem.W.ZFast.zw2426001476595277715
noncomputable def genTail(self:Addr)(fd:FuncData)(args:Args)(compiled:Str):Sem PySem.Fin :=
 PySem.W.R.bindR (bindArgsZ fd args) fun bs=>PySem.W.R.bindR (newEnvZ fd.scope fd.globals fd.closure bs (compiled++{cps:={toList:=[46,60,108,111,99,97,108,115,62,46]}}) (some self) fd.code none fd.builtins) fun env=>PySem.W.R.bindR enterZ fun _ =>
  PySem.W.R.bindR (newGeneratorZ (codeOf fd env) fd.name fd.qualname) fun v=>.pure (.done (.ret v))
noncomputable def genFn(self:Addr)(fd:FuncData)(args:Args):Sem PySem.Fin:=match fd.code with
 | .none=>genTail self fd args fd.qualname
 | c=>PySem.W.R.bindR (fieldZ c 1) fun r=>match r with
  | .str q _=>genTail self fd args q
  | _=>genTail self fd args fd.qualname
theorem genTail_eq(a:Addr)(fd:FuncData)(args:Args)(x:Str):genTailM a fd args x=genTail a fd args x:=by
 unfold genTailM genTail
 rw[enterZ_eq,show @bindArgs=bindArgsZ from PySem.W.ZFast.ze9782568553167038054,locZ,PySem.W.ZFast.ze11113344188204177931,PySem.W.ZFast.ze2426001476595277715,←PySem.W.R.bindR_eq]
 rfl
theorem genFn_eq(a:Addr)(fd:FuncData)(args:Args):genFnM a fd args=genFn a fd args:=by
 unfold genFnM genFn
 rw[PySem.W.ZFast.ze6609576154772507232,←PySem.W.R.bindR_eq]
 split
 ·exact genTail_eq ..
 ·refine congrArg (Sem.bind _) (funext fun r=>?_)
  split<;>exact genTail_eq ..
section
variable{M:Model}{Γ:PySem.Ctx}
theorem wp_genTail{Q:PySem.Fin→Pos→Shared→Prop}{E:Value→Pos→Shared→Prop}{p:Pos}(hΓ:Γ.In A)(hd:A.depth<recursionLimit)
  {a:Addr} {fd:FuncData} {args:Args} {x:Str} (h:wp M Γ (genTailM a fd args x) Q E p s) :
  wp M Γ (do
   let bs ←bindArgs fd args
   let env ←newFunctionEnv fd.scope fd.globals fd.closure bs (x++".<locals>.") (some a) fd.code none fd.builtins
   enterFrame
   ret (←newGenerator (codeOf fd env) fd.name fd.qualname)) Q E p s:=by
 unfold genTailM at h
 rw[Sem.wp_bind']at h ⊢
 refine Sem.wp_mono M Γ _ (fun bs p' s' hb=>?_) (fun _ _ _ x=>x) p s h
 rw[Sem.wp_bind']at hb ⊢
 refine Sem.wp_mono M Γ _ (fun env p'' s'' he=>?_) (fun _ _ _ x=>x) p' s' hb
 rw[Sem.wp_bind']at he ⊢
 exact wp_enterM hΓ hd he
theorem gKey{Q:PySem.Fin→Pos→Shared→Prop}{E:Value→Pos→Shared→Prop}(hΓ:Γ.In A)(hd:A.depth<recursionLimit)
  {a:Addr} {fd:FuncData} {args:Args} (hg:fd.scope.isGenerator=true) (hc:fd.scope.isCoroutine=false) :
  ∀x p s,wp M Γ (genTailM a fd args x) Q E p s→wp M Γ (cfY a fd args x) Q E p s:=fun x p s h=>by
 unfold cfY
 rw[hg,hc]
 exact wp_genTail hΓ hd h
theorem wp_genFn{Q:PySem.Fin→Pos→Shared→Prop}{E:Value→Pos→Shared→Prop}{p:Pos}(hΓ:Γ.In A)(hd:A.depth<recursionLimit)
  {a:Addr} {fd:FuncData} {args:Args} (hg:fd.scope.isGenerator=true) (hc:fd.scope.isCoroutine=false) (h:wp M Γ (genFnM a fd args) Q E p s) :
  wp M Γ (callFunction a fd args) Q E p s:=by
 obtain⟨f1,f2,f3,f4,f5,f6,f7,f8,f9,f10,f11,f12,code,f14,f15⟩:=fd
 cases code with
 | none=>exact gKey hΓ hd hg hc _ _ _ h
 | _=>exact vstr (X:=genTailM a _ args) (Y:=cfY a _ args) (gKey hΓ hd hg hc) h
end
noncomputable def startY(S:Stat)(fa:Addr)(args:Args)(M:Mem1)(hs:List H):Out:=og (S.kt fa) 60 fun ob=>og (fnD ob.data) 61 fun fd=>bg fd.1.scope.isGenerator 62 (bf fd.1.scope.isCoroutine 62 (startT S (.call (.ref fa) args) (.own []) (genFn fa fd.1 args) M hs))
theorem startY_sound{fa:Addr}{args:Args}{dp:Nat}{hs:List H}(B:Base kt W s.heap)(hA:A.handled=none)(hd:A.depth+dp<1000)
  (own:∀p∈M,s.heap.get? p.1=some p.2) (nd:(M.map (·.1)).Nodup) (off:∀p∈M,hiA p.1) (h1:1≤dp)
  (H:Post (S1 kt W s.heap.objs.size s.toks dp) (tgt A R (fun _ _=>False) s M) false (startY (S1 kt W s.heap.objs.size s.toks dp) fa args M hs)) :
  codeAny W.M A (.call (.ref fa) args) R s:=by
 have O:=ok_start (R:=R) (P:=fun _ _=>False) (M:=M) B hA hd
 obtain⟨ob,e1,H⟩:=og_inv H
 obtain⟨fd,e2,H⟩:=og_inv H
 obtain⟨e3,H⟩:=bg_inv H
 obtain⟨e4,H⟩:=bf_inv H
 have e2:=fd.2
 obtain⟨_,z⟩:=runR_sound O 1000000 (.call (.ref fa) args) (.own []) _ _ _ _ _ _ H
 have zz:=z s.heap (rep_start B own nd off)
 refine y_code _ _ _ _ _ _ ?_
 intro Γ p hc hΓ
 have zz:=zz Γ p hc hΓ
 show wp _ Γ (PySem.load fa>>=_) _ _ p _
 rw[Sem.wp_bind']
 refine(Sem.wp_load_of _ Γ _ p _ (B.at_ _ _ e1) _).mpr ?_
 rw[e2]
 rw[←genFn_eq]at zz
 exact wp_genFn (in_of hc hΓ) (dep_call hd h1) e3 e4 zz
namespace G
noncomputable def sAddr:Str:=⟨⟨[97,100,100,114]⟩⟩
noncomputable def sPos:Str:=⟨⟨[112,111,115]⟩⟩
noncomputable def sCh:Str:=⟨⟨[99,104]⟩⟩
noncomputable def sEsc:Str:=⟨⟨[101,115,99,97,112,101]⟩⟩
noncomputable def sIt(x:Str)(t i:Nat):Obj:=⟨.type "str_ascii_iterator",none,.fields #[.str x t,.int (zN i) 0],#[]⟩
noncomputable def enIt(a:Addr)(i:Nat)(o o':Value):Obj:=⟨.type "enumerate",none,.fields #[o,.bool false,.ref a,.int (zN i) 0,.none,o'],#[]⟩
structure Pr where
 n:Nat
 t:Nat
 x:Str
 tx:Nat
 n':Nat
 t':Nat
noncomputable def h1:List H:=(Hx 0x31441 [])
noncomputable def o1(kt:Params→KT)(W:Wd)(n t:Nat)(x:Str)(tx:Nat):Out:=startG (S1 kt W n t 60) 21 ⟨[.str x tx],[]⟩ [] h1
noncomputable def gcode(kt:Params→KT)(W:Wd)(n t:Nat)(x:Str)(tx:Nat):Code:=oC (o1 kt W n t x tx)
noncomputable def fr0(W:Wd)(t:Nat)(x:Str)(tx:Nat):Obj:=fr W.w.params [(sAddr,t,.str x tx)]
noncomputable def h2(x:Str)(tx n':Nat):List H:=(Hx 0x224114444 (.e [] none [sIt x tx 0,enIt n' 0 .none .none] (.ok (.ret (.ref (n'+1)))) 0::Hx 0x3626266626266 []))
noncomputable def o2 a W (p:Pr):=startC (S1 a W p.n' p.t' 60) (gcode a W p.n p.t p.x p.tx) (.gen []) [(p.n,fr0 W p.t p.x p.tx)] (h2 p.x p.tx p.n')
noncomputable def F(kt:Params→KT)(W:Wd)(p:Pr):Code:=oC (o2 kt W p)
noncomputable def κ(kt:Params→KT)(W:Wd)(p:Pr):List Ent:=match oMd (o2 kt W p)with|.gen κ=>⟨none,oCc (o2 kt W p),oK (o2 kt W p),oG (o2 kt W p),oL (o2 kt W p)⟩::κ|.own _=>[]
noncomputable def frA(W:Wd)(p:Pr)(i ti:Nat)(b:Bool):Obj:=fr W.w.params [(sAddr,p.t,.str p.x p.tx),(sPos,p.t'+1,.int (zN i) ti),(sEsc,p.t'+2,.bool b)]
noncomputable def frB(W:Wd)(p:Pr)(i ti:Nat)(b:Bool)(tk:Nat)(c:Str)(tc:Nat):Obj:=fr W.w.params [(sAddr,p.t,.str p.x p.tx),(sPos,p.t'+1,.int (zN i) ti),(sEsc,p.t'+2,.bool b),(sCh,tk,.str c tc)]
noncomputable def M3(p:Pr)(Fr:Obj)(i:Nat)(o o':Value):Mem1:=[(p.n,Fr),(p.n',sIt p.x p.tx i),(p.n'+1,enIt p.n' i o o')]
noncomputable def ch(c:Nat):Str:=⟨⟨[c]⟩⟩
noncomputable def h3(p:Pr)(i c t:Nat):List H:=(Hx 0x562626 (.u [] 1 (sIt p.x p.tx (Nat.succ i)) (.str (ch c) t) 1::Hx 0x366666666666666 []))
noncomputable def o3 a W p b i c d n t:=startC (S1 a W n t 60) (F a W p) (.gen (κ a W p)) (M3 p b i .none d) (h3 p i c t)
noncomputable def tgtOf:Code→PySem.Expr|.forLoop t ..=>t|_=>default
noncomputable abbrev goZ:PySem.Expr→Value→Value→Sem Unit:=PySem.W.ZFast.zw1578499551869305889
end G
section
variable{c:Code}{md:Md}
theorem mean_load{a:Addr}{q:Option Value}{k:Obj→Sem PySem.Fin}{o:Obj}(ho:s.heap.get? a=some o)(z:Mean W A R P c md (k o) s):Mean W A R P c md (.load a q k) s:=by
 cases md with
 | own κ=>exact y_load _ _ _ _ _ _ _ _ _ _ _ _ _ _ _ _ ho z
 | gen κ=>exact fun fs b=>s_load _ _ _ _ _ _ _ _ _ _ _ _ _ _ _ ho (z fs b)
theorem mean_update{a:Addr}{q:Option Value}{f:Obj→Obj}{k:Unit→Sem PySem.Fin}{o:Obj}(ho:s.heap.get? a=some o)(z:Mean W A R P c md (k ()) {s with heap:=s.heap.update a f}):Mean W A R P c md (.update a q f k) s:=by
 cases md with
 | own κ=>exact wpOwn_bind (m:=updatePart a q f) (f:=k) (wpOwn_of_wpAny (wpAny_updatePart ho z))
 | gen κ=>exact fun fs b=>s_cmd _ _ _ _ _ _ (m:=updatePart a q f) (k:=k) (wpAny_updatePart ho (z fs b))
theorem mean_skim{t t':Sem PySem.Fin}(e:skim ⟨PW,W.w.params⟩ 1 t=t')(z:Mean W A R P c md t' s):Mean W A R P c md t s:=by
 subst e
 cases md with
 | own κ=>exact y_skim _ _ _ _ _ _ _ _ _ 1 z
 | gen κ=>exact fun fs b=>s_skim _ _ _ _ _ _ _ _ 1 (z fs b)
end
namespace G
noncomputable def bodyOf:Code→List Stmt|.forLoop _ _ b ..=>b|_=>[]
noncomputable def envOf:Code→Env|.forLoop _ _ _ _ e=>e|_=>default
noncomputable def rest(c:Code)(v:Value)(m:Sem Unit):Sem PySem.Fin :=
 PySem.W.R.onRaiseR (PySem.W.R.bindR m fun _=>PySem.W.R.bindR (PySem.W.ZFast.zw17772580674575903948 (tgtOf c) (envOf c) v) fun _=>PySem.W.R.bindR (PySem.W.ZFast.zw12563942051412417395 (bodyOf c) (envOf c)) fun fl=>match fl with
  | .next=>.pure (.again c)
  | .cont=>.pure (.again c)
  | .brk=>.pure (.done .next)
  | .ret v=>.pure (.done (.ret v))) (fun x=>PySem.W.R.bindR (PySem.W.ZFast.noteFrameY x (envOf c)) fun _=>PySem.W.ZFast.zw1623429502029203251 x)
noncomputable def goF(r a:Addr)(o:Obj):Sem Unit:=match o.cls,o.data with
  | .type n,.fields vs =>
   if["enumerate","zip","dict_itemiterator","dict_reverseitemiterator","odict_iterator","itertools.zip_longest","itertools.pairwise"].contains n&&vs[0]?==some (rawInt a)then do
    rule "for.unpacks-the-owned-tuple"
    updateField r 0 .none
   else pure ()
  | _,_=>pure ()
theorem rest_go{c:Code}{v:Value}{elts:List PySem.Expr}{x1}{pos:Pos}{r a:Addr}:rest c v (letOwnedTupleGo (.Tuple elts x1 pos) (.ref r) (.ref a))=.load r none (fun o=>rest c v (goF r a o)):=rfl
theorem goF_own{r a it:Addr}{i:Nat}{o':Value}:goF r a (enIt it i (.int (zN a) 0) o')=(do rule "for.unpacks-the-owned-tuple"; updateField r 0 .none):=by
 unfold goF enIt
 simp only[]
 rw[if_pos (by simp[rawInt])]
theorem rest_owned{c' c:Code}{md:Md}{v:Value}{tg:PySem.Expr}{elts:List PySem.Expr}{x1}{pos:Pos}(htg:tg=.Tuple elts x1 pos){r a it:Addr}{i:Nat}{o':Value}
  (hs:s.heap.get? r=some (enIt it i (.int (zN a) 0) o')) (z:Mean W A R P c' md (rest c v (.pure ())) {s with heap:=s.heap.update r (fun _=>enIt it i .none o')}) :
  Mean W A R P c' md (rest c v (goZ tg (.ref r) (.ref a))) s:=by
 show Mean W A R P c' md (rest c v (PySem.W.ZFast.zw1578499551869305889 tg (.ref r) (.ref a))) s
 rw[←PySem.W.ZFast.ze1578499551869305889,htg,rest_go]
 refine mean_load hs ?_
 rw[goF_own]
 refine mean_skim (t':=.load r none fun o=>rest c v (match o.data with
  | .fields vs=>if 0<vs.size then PySem.update r (Obj.mapFields (·.setIfInBounds 0 .none))else unsupported "internal:no-such-field"
  | _=>unsupported "internal:write-to-non-record")) rfl ?_
 refine mean_load hs ?_
 show Mean W A R P c' md (rest c v (if 0<6 then PySem.update r (Obj.mapFields (·.setIfInBounds 0 .none))else unsupported "internal:no-such-field")) s
 rw[if_pos (by decide)]
 show Mean W A R P c' md (.update r none (Obj.mapFields (·.setIfInBounds 0 .none)) fun _=>rest c v (.pure ())) s
 refine mean_update hs ?_
 have e:=update_const (f:=Obj.mapFields (·.setIfInBounds 0 .none)) hs
 have e2:Obj.mapFields (·.setIfInBounds 0 .none) (enIt it i (.int (zN a) 0) o')=enIt it i .none o':=rfl
 rw[e2]at e
 rw[←e]
 exact z
noncomputable def hT(l:List Nat)(o:Out):Out×List Nat×List (Value×Value)×List Eff×Sem PySem.Fin×List (Option (Addr×Obj)):=(o,(oAcc o).xs,(oAcc o).vs,(oAcc o).es,oT o,nthI (oM o) l)
noncomputable abbrev HeldIs(o:Out)(vs:List (Value×Value))(es:List Eff)(t:Sem PySem.Fin)(ps:List (Nat×Addr×Obj)):Prop :=
 hT (idx ps) o=(.held (oCc o) (oMd o) (oT o) (oM o) (oJ o) (oI o) (oAcc o),(oAcc o).ys,vs,es,t,somes ps)
theorem post_heldIs{n t dp:Nat}{o:Out}{b:Bool}{vs es tr ps}(e:HeldIs o vs es tr ps)
  (hv:∀p∈vs,p.1=p.2) (he:∀e∈es,e.Ok PW W.w)
  (h:∀h' M' j i,RepR (S1 kt W n t dp) (tgt A R P s M) h' M' j→(∀q∈ps,h'.get? q.2.1=some q.2.2) →
   Mean W A R P (oCc o) (oMd o) tr ⟨h',s.gens,s.drawn,t+i,s.os⟩):Post (S1 kt W n t dp) (tgt A R P s M) b o:=by
 unfold HeldIs hT at e
 simp only[Prod.mk.injEq]at e
 obtain⟨e1,e2,e3,e4,e5,e8⟩:=e
 rw[e1]
 refine⟨⟨e2,e3▸hv,e4▸he⟩,fun h' D=>mean_iff.mpr ?_⟩
 rw[e5]
 exact h h' _ _ _ D (rep_ps D e8)
end G
namespace G
noncomputable def M4(p:Pr)(Fr:Obj)(i:Nat)(o':Value)(a c tc ti:Nat):Mem1:=[(p.n,Fr),(p.n'+1,enIt p.n' (Nat.succ i) .none o'),(a,tup [.int (zN i) ti,.str (ch c) tc])]
noncomputable def h4p:List H:=(Hx Y29 (.v (.bool false)::Hx 0x442 []))
noncomputable def h4b:List H:=(Hx Y29 (.v (.bool true)::Hx 0x3442 []))
noncomputable def h4e:List H:=(Hx 0x22444444497767727277767727277767727277262666 [])
noncomputable def o4 b W p d i e a c f g n t h:=startT (S1 b W n t 60) (F b W p) (.gen (κ b W p)) (rest (F b W p) (.ref a) (.pure ())) (M4 p d i e a c f g) h
end G
namespace G
noncomputable def oGk(t:Sem PySem.Fin):Nat→Sem PySem.Fin:=if h:t.ctorIdx=18 then PySem.Sem.newGen.elim t h fun _ k=>k else fun _=>.unsupported ""
noncomputable def y0(kt:Params→KT)(W:Wd)(n t:Nat)(x:Str)(tx:Nat):Out:=startY (S1 kt W n t 60) 21 ⟨[.str x tx],[]⟩ [] (Hx 0x31441 [])
noncomputable def y1 a W n t x b g c d:=startT (S1 a W c d 60) (oCc (y0 a W n t x b)) (oMd (y0 a W n t x b)) (oGk (oT (y0 a W n t x b)) g) [] []
noncomputable def sName:Str:=⟨⟨[95,105,116,101,114,95,101,115,99,97,112,101,100,95,99,104,97,114,115]⟩⟩
noncomputable def genO(g t:Nat):Obj:=⟨.type "generator",none,.fields #[.int (zN g) 0,.str sName t,.str sName (t+1)],#[]⟩
noncomputable def Ev0 kt W:=∀n t x tx,
 HeldIs (y0 kt W n t x tx) [] [] (.newGen (gcode kt W n t x tx) (oGk (oT (y0 kt W n t x tx)))) [(0,n,fr0 W t x tx)]
def Ev0c kt W:=∀n t x tx,oMd (y0 kt W n t x tx)=.own []
noncomputable def Ev1 kt W:=∀n t x tx g n' t',RetIs (y1 kt W n t x tx g n' t') [] [] (.ok (.ret (.ref n'))) [(0,n',genO g t')]
noncomputable abbrev StopG(o:Out)(vs:List (Value×Value))(es:List Eff)(c':Code)(κ':List Ent)(ps:List (Nat×Addr×Obj)):Prop :=
 aT (idx ps) o=(.stop (oC o) (oCc o) (oMd o) (oK o) (oG o) (oL o) (oM o) (oJ o) (oI o) (oAcc o),(oAcc o).ys,vs,es,c',.gen κ',somes ps)
noncomputable def eEnum(x:Str)(tx n t:Nat):Eff:=⟨.call (.builtin "enumerate.__new__") ⟨[.type "enumerate",.str x tx],[]⟩,[],none,[sIt x tx 0,enIt n 0 .none .none],.ok (.ret (.ref (n+1))),0,n,t⟩
noncomputable def Ev2 kt W:=∀p,StopG (o2 kt W p) [] [eEnum p.x p.tx p.n' (p.t'+3)] (F kt W p) [] [(0,p.n,frA W p 0 p.t' false),(1,p.n',sIt p.x p.tx 0),(2,p.n'+1,enIt p.n' 0 .none .none)]
noncomputable def eNext(p:Pr)(i c n t:Nat):Eff:=⟨.call (.builtin "str_ascii_iterator.__next__") ⟨[.ref p.n'],[]⟩,[(p.n',sIt p.x p.tx i)],some (p.n',sIt p.x p.tx (Nat.succ i)),[],.ok (.ret (.str (ch c) t)),1,n,t⟩
noncomputable def Ev3 kt W:=∀p Fr i c o' n t,
 HeldIs (o3 kt W p Fr i c o' n t) [] [eNext p i c n t] (rest (F kt W p) (.ref n) (goZ (tgtOf (F kt W p)) (.ref (p.n'+1)) (.ref n)))
  [(0,p.n,Fr),(1,p.n',sIt p.x p.tx (Nat.succ i)),(2,p.n'+1,enIt p.n' (Nat.succ i) (.int (zN n) 0) (.str (ch c) t)),(3,n,tup [.int (zN i) (t+1),.str (ch c) t])]
def Ev3c kt W:=∀p Fr i c o' n t,(oCc (o3 kt W p Fr i c o' n t),oMd (o3 kt W p Fr i c o' n t))=(F kt W p,.gen (κ kt W p))
end G
namespace G
noncomputable def yT(l:List Nat)(o:Out):Out×List Nat×List (Value×Value)×List Eff×Value×List Value×List (Option (Addr×Obj)):=(o,(oAcc o).xs,(oAcc o).vs,(oAcc o).es,oV o,oL o,nthI (oM o) l)
noncomputable abbrev YldIs(o:Out)(vs:List (Value×Value))(es:List Eff)(v:Value)(ps:List (Nat×Addr×Obj)):Prop :=
 yT (idx ps) o=(.yld (oV o) (oL o) (oYK o) (oCc o) (oKap o) (oM o) (oJ o) (oI o) (oAcc o),(oAcc o).ys,vs,es,v,[],somes ps)
noncomputable abbrev AgainG(o:Out)(vs:List (Value×Value))(es:List Eff)(c':Code)(κ':List Ent)(ps:List (Nat×Addr×Obj)):Prop :=
 aT (idx ps) o=(.again (oC o) (oMd o) (oM o) (oJ o) (oI o) (oAcc o),(oAcc o).ys,vs,es,c',.gen κ',somes ps)
noncomputable def isBs(c:Nat):Bool:=List.beq [c] [92]
theorem isBs_eq(c:Nat):isBs c=decide (c=92):=by
 unfold isBs
 simp[List.beq]
 by_cases h:c=92<;>simp[h]
noncomputable def ps4(p:Pr)(i:Nat)(o':Value)(a c tc ti:Nat):List (Nat×Addr×Obj):=[(1,p.n'+1,enIt p.n' (Nat.succ i) .none o'),(2,a,tup [.int (zN i) ti,.str (ch c) tc])]
noncomputable def Ev4pA kt W:=∀p i0 t0 i o' a c tc ti n t,
 YldIs (o4 kt W p (frA W p i0 t0 false) i o' a c tc ti n t h4p) [(.bool (isBs c),.bool false)] [] (.ref (n+3)) ((0,p.n,frB W p i ti false (t+1) (ch c) tc)::(6,n+3,tup [.int (zN i) ti,.str (ch c) tc])::ps4 p i o' a c tc ti)
noncomputable def Ev4pB kt W:=∀p i0 t0 tk tc0 i c0 o' a c tc ti n t,
 YldIs (o4 kt W p (frB W p i0 t0 false tk c0 tc0) i o' a c tc ti n t h4p) [(.bool (isBs c),.bool false)] [] (.ref (n+3)) ((0,p.n,frB W p i ti false tk (ch c) tc)::(6,n+3,tup [.int (zN i) ti,.str (ch c) tc])::ps4 p i o' a c tc ti)
noncomputable def Ev4bA kt W:=∀p i0 t0 i o' a c tc ti n t,
 AgainG (o4 kt W p (frA W p i0 t0 false) i o' a c tc ti n t h4b) [(.bool (isBs c),.bool true)] [] (F kt W p) (κ kt W p) ((0,p.n,frB W p i ti true (t+1) (ch c) tc)::ps4 p i o' a c tc ti)
noncomputable def Ev4bB kt W:=∀p i0 t0 tk tc0 i c0 o' a c tc ti n t,
 AgainG (o4 kt W p (frB W p i0 t0 false tk c0 tc0) i o' a c tc ti n t h4b) [(.bool (isBs c),.bool true)] [] (F kt W p) (κ kt W p) ((0,p.n,frB W p i ti true tk (ch c) tc)::ps4 p i o' a c tc ti)
noncomputable def Ev4e kt W:=∀p i0 t0 tk tc0 i c0 o' a c tc ti n t,
 YldIs (o4 kt W p (frB W p i0 t0 true tk c0 tc0) i o' a c tc ti n t h4e) [] [] (.ref (n+3)) ((0,p.n,frB W p i ti true tk (ch c) tc)::(6,n+3,tup [.int (zN i) ti,.str ⟨⟨[92,c]⟩⟩ (t+3)])::ps4 p i o' a c tc ti)
noncomputable def o5 a W (p:Pr) o b n t c:=startT (S1 a W n t 60) (oCc o) (.gen (oKap o)) (oYK o (.send .none)) [(p.n,b)] c
noncomputable def Ev5pA kt W:=∀p i0 t0 i o' a c tc ti n t Fr n' t',
 AgainG (o5 kt W p (o4 kt W p (frA W p i0 t0 false) i o' a c tc ti n t h4p) Fr n' t' [.z]) [] [] (F kt W p) (κ kt W p) [(0,p.n,Fr)]
noncomputable def Ev5pB kt W:=∀p i0 t0 tk tc0 i c0 o' a c tc ti n t Fr n' t',
 AgainG (o5 kt W p (o4 kt W p (frB W p i0 t0 false tk c0 tc0) i o' a c tc ti n t h4p) Fr n' t' [.z]) [] [] (F kt W p) (κ kt W p) [(0,p.n,Fr)]
noncomputable def Ev5e kt W:=∀p i0 t0 tk tc0 i c0 o' a c tc ti n t n' t',
 AgainG (o5 kt W p (o4 kt W p (frB W p i0 t0 true tk c0 tc0) i o' a c tc ti n t h4e) (frB W p i ti true tk (ch c) tc) n' t' [.m 0,.m 0,.z]) [] [] (F kt W p) (κ kt W p) [(0,p.n,frB W p i ti false tk (ch c) tc)]
end G
namespace G
noncomputable def sEnd(i:Nat):Obj:=⟨.type "str_ascii_iterator",none,.fields #[.none,.int (zN i) 0],#[]⟩
noncomputable def stopIt(a:Addr):Obj:=⟨.type "StopIteration",none,.fields #[.ref a,.none,.none,.none,.bool false,.none],#[]⟩
noncomputable def hE(i n:Nat):List H:=(Hx 0x562626 (.e [] (some (1,sEnd i)) [tup [],stopIt n] (.error (.ref (n+1))) 0::Hx 0x428 []))
noncomputable def oE a W p b i c n t:=startC (S1 a W n t 60) (F a W p) (.gen (κ a W p)) (M3 p b i .none c) (hE i n)
noncomputable def eEnd(p:Pr)(i n t:Nat):Eff:=⟨.call (.builtin "str_ascii_iterator.__next__") ⟨[.ref p.n'],[]⟩,[(p.n',sIt p.x p.tx i)],some (p.n',sEnd i),[tup [],stopIt n],.error (.ref (n+1)),0,n,t⟩
noncomputable def EvEA kt W:=∀p i0 t0 i o' n t,RetIs (oE kt W p (frA W p i0 t0 false) i o' n t) [] [eEnd p i n t] (.ok (.ret .none)) [(0,p.n,frA W p i0 t0 false)]
noncomputable def EvEB kt W:=∀p i0 t0 tk tc0 i c0 o' n t,RetIs (oE kt W p (frB W p i0 t0 false tk c0 tc0) i o' n t) [] [eEnd p i n t] (.ok (.ret .none)) [(0,p.n,frB W p i0 t0 false tk c0 tc0)]
end G
namespace G
section
theorem eff_next{p:Pr}{i c n t:Nat}(hx:p.x.cps[i]?=some c):(eNext p i c n t).Ok prog w:=by
 refine eff_slot (T:="str_ascii_iterator") rfl F.slot_str_ascii_iterator_next F.entry_str_ascii_iterator_next (F.args_str_ascii_iterator_next_1 _) (fun s h=>⟨_,h _ Z0,rfl⟩) fun A s R hA hpre hn ht hR=>?_
 have ho:=hpre _ Z0
 have hd:(sIt p.x p.tx i).data=.fields #[.str p.x p.tx,.int (zN i) 0]:=rfl
 show wpAny _ _ (field (.ref p.n') 0>>=_) _ _ s
 refine wpAny_bind (wpAny_field ho hd (x:=.str p.x p.tx) rfl ?_)
 show wpAny _ _ (field (.ref p.n') 1>>=_) _ _ s
 refine wpAny_bind (wpAny_field ho hd (x:=.int (zN i) 0) rfl ?_)
 simp only[Int.ofNat_eq_natCast,Int.toNat_natCast,hx]
 refine wpAny_bind (wpAny_setField ho hd (Nat.lt_succ_self 1) (wpAny_bind (wpAny_mkStr (wpAny_pure ?_))))
 have e2:=update_const (f:=Obj.mapFields (·.setIfInBounds 1 (rawInt ((i:Int)+1)))) ho
 have e3:Obj.mapFields (·.setIfInBounds 1 (rawInt ((i:Int)+1))) (sIt p.x p.tx i)=sIt p.x p.tx (Nat.succ i):=rfl
 have ht':s.toks=t:=ht
 rw[e3]at e2
 rw[←e2,ht']
 unfold Eff.heap at hR
 rw[ht']at hR
 exact hR
theorem eff_end{p:Pr}{i n t:Nat}(hx:p.x.cps[i]?=none):(eEnd p i n t).Ok prog w:=by
 refine eff_slot (T:="str_ascii_iterator") rfl F.slot_str_ascii_iterator_next F.entry_str_ascii_iterator_next (F.args_str_ascii_iterator_next_1 _) (fun s h=>⟨_,h _ Z0,rfl⟩) fun A s R hA hpre hn ht hR=>?_
 have ho:=hpre _ Z0
 have hd:(sIt p.x p.tx i).data=.fields #[.str p.x p.tx,.int (zN i) 0]:=rfl
 show wpAny _ _ (field (.ref p.n') 0>>=_) _ _ s
 refine wpAny_bind (wpAny_field ho hd (x:=.str p.x p.tx) rfl ?_)
 show wpAny _ _ (field (.ref p.n') 1>>=_) _ _ s
 refine wpAny_bind (wpAny_field ho hd (x:=.int (zN i) 0) rfl ?_)
 simp only[Int.ofNat_eq_natCast,Int.toNat_natCast,hx]
 refine wpAny_bind (wpAny_rule (wpAny_bind (wpAny_setField ho hd (Nat.succ_pos 1) (wpAny_bind (wpAny_letGo ?_)))))
 show wpAny _ _ (newExc (.type "StopIteration") []>>=_) _ _ _
 refine wpAny_bind ?_
 simp only[newExc,newTuple]
 refine wpAny_bind (wpAny_newObj_type ?_ (by size_fits))
 refine wpAny_bind (m:=firstArgMember _ _) (wpAny_of_eq (a:=Value.none) (by first|rfl|(simp only[firstArgMember]; rfl)) ?_)
 refine wpAny_newObj_type ?_ (by size_fits)
 refine wpAny_raiseNew_none hA ?_
 have e2:=update_const (f:=Obj.mapFields (·.setIfInBounds 0 .none)) ho
 have e3:Obj.mapFields (·.setIfInBounds 0 .none) (sIt p.x p.tx i)=sEnd i:=rfl
 have hn':s.heap.objs.size=n:=hn
 rw[e3]at e2
 unfold Eff.heap at hR
 have hz:(s.heap.update p.n' (fun _=>sEnd i)).objs.size=s.heap.objs.size:=Heap.size_update ..
 show R (.error (.ref ((s.heap.update p.n' (Obj.mapFields (·.setIfInBounds 0 .none))).push (tup [])).objs.size)) {s with heap:=((s.heap.update p.n' (Obj.mapFields (·.setIfInBounds 0 .none))).push (tup [])).push (stopIt (s.heap.update p.n' (Obj.mapFields (·.setIfInBounds 0 .none))).objs.size)}
 rw[←e2,Heap.size_push,hz,hn']
 exact hR
theorem chk_enum(x:Str)(t:Tok):checkBuiltinCall "enumerate.__new__" ⟨[.type "enumerate",.str x t],[]⟩=pure ():=by kernel_rfl
theorem eff_enum{x:Str}{tx n t:Nat}(hx:x.cps.all (·<128)=true):(eEnum x tx n t).Ok prog w:=by
 refine eff_builtin rfl (by decide +kernel) F.entry_enumerate_new (chk_enum x tx) fun A s R hA hp hn ht hR=>meets_enumerate_newS x tx prog w A R s ?_
 have e:strIterType x="str_ascii_iterator":=by unfold strIterType; rw[if_pos hx]
 have hn':s.heap.objs.size=n:=hn
 rw[e]
 show R (.ok (.ret (.ref (s.heap.push {cls:=.type "str_ascii_iterator",data:=.fields #[.str x tx,.int 0 0]}).objs.size))) {s with heap:=(s.heap.push {cls:=.type "str_ascii_iterator",data:=.fields #[.str x tx,.int 0 0]}).push {cls:=.type "enumerate",data:=.fields #[.none,.bool false,.ref s.heap.objs.size,rawInt 0,.none,.none]}}
 rw[Heap.size_push,hn']
 exact hR
end
end G
namespace G
section
variable{n t dp:Nat}{o:Out}
theorem post_yldIs{vs es v ps}{b:Bool}(e:YldIs o vs es v ps)(hv:∀p∈vs,p.1=p.2)(he:∀e∈es,e.Ok PW W.w)
  (h:∀h' M' j i p fs,RepR (S1 kt W n t dp) (tgt A R P s M) h' M' j→(∀q∈ps,h'.get? q.2.1=some q.2.2)→Bears (oKap o) fs →
   P (.susp v false [] (oYK o) (oCc o) p fs) ⟨h',s.gens,s.drawn,t+i,s.os⟩):Post (S1 kt W n t dp) (tgt A R P s M) b o:=by
 unfold YldIs yT at e
 simp only[Prod.mk.injEq]at e
 obtain⟨e1,e2,e3,e4,e5,e6,e8⟩:=e
 rw[e1]
 refine⟨⟨e2,e3▸hv,e4▸he⟩,fun h' p fs D hb=>?_⟩
 rw[e5,e6]
 exact h h' _ _ _ p fs D (rep_ps D e8) hb
theorem post_againG{vs es c' κ' ps}{b:Bool}(e:AgainG o vs es c' κ' ps)(hv:∀p∈vs,p.1=p.2)(he:∀e∈es,e.Ok PW W.w)
  (h:∀h' M' j i,RepR (S1 kt W n t dp) (tgt A R P s M) h' M' j→(∀q∈ps,h'.get? q.2.1=some q.2.2) →
   Mean W A R P c' (.gen κ') (denote table c') ⟨h',s.gens,s.drawn,t+i,s.os⟩):Post (S1 kt W n t dp) (tgt A R P s M) b o:=by
 unfold AgainG aT at e
 simp only[Prod.mk.injEq]at e
 obtain⟨e1,e2,e3,e4,e5,e6,e8⟩:=e
 rw[e1]
 refine⟨⟨e2,e3▸hv,e4▸he⟩,fun h' D=>mean_iff.mpr ?_⟩
 rw[e5,e6]
 exact h h' _ _ _ D (rep_ps D e8)
theorem post_stopG{vs es c' κ' ps}{b:Bool}(e:StopG o vs es c' κ' ps)(hv:∀p∈vs,p.1=p.2)(he:∀e∈es,e.Ok PW W.w)
  (h:∀h' M' j i,RepR (S1 kt W n t dp) (tgt A R P s M) h' M' j→(∀q∈ps,h'.get? q.2.1=some q.2.2) →
   Mean W A R P c' (.gen (⟨none,oCc o,oK o,oG o,oL o⟩::κ')) (denote table c') ⟨h',s.gens,s.drawn,t+i,s.os⟩):Post (S1 kt W n t dp) (tgt A R P s M) b o:=by
 unfold StopG aT at e
 simp only[Prod.mk.injEq]at e
 obtain⟨e1,e2,e3,e4,e5,e6,e8⟩:=e
 rw[e1]
 refine⟨⟨e2,e3▸hv,e4▸he⟩,fun h' D=>?_⟩
 rw[e5,e6]
 refine call_means (rv:=none) ?_
 exact mean_iff.mpr (h h' _ _ _ D (rep_ps D e8))
end
end G
theorem Fut.update{a:Addr}{f:Obj→Obj}:Fut [a] [] s {s with heap:=s.heap.update a f} :=
 ⟨fun b o e q=>by
  have:b≠a:=by simpa using q
  exact Heap.get?_update_of_ne _ this.symm e,Nat.le_of_eq (Heap.size_update ..).symm,fun _ _ h _=>h,nR _,fun h=>h,rfl,rfl⟩
namespace G
theorem tupE{e:PySem.Expr}(h:e.ctorIdx=25):∃a b c,e=.Tuple a b c:=PySem.Expr.Tuple.elim (motive_1:=fun e=>∃a b c,e=.Tuple a b c) e h fun a b c=>⟨a,b,c,rfl⟩
noncomputable def EvT(kt:Params→KT):Prop:=∀(W:Wd) (p:Pr),(tgtOf (F kt W p)).ctorIdx=25
structure Pr.Ok(p:Pr):Prop where
 nd:[p.n,p.n',p.n'+1].Nodup
 off:∀a∈[p.n,p.n',p.n'+1],hiA a
section
theorem turnG(E:∀W,Ev3 kt W)(Ec:∀W,Ev3c kt W)(ET:EvT kt){p:Pr}(hp:p.Ok){i c:Nat}{o':Value}{Fr:Obj}(hx:p.x.cps[i]?=some c)(B:Base kt W s.heap)(hA:A.handled=none)(hd:A.depth+60<1000)
  (h1:s.heap.get? p.n=some Fr) (h2:s.heap.get? p.n'=some (sIt p.x p.tx i)) (h3:s.heap.get? (p.n'+1)=some (enIt p.n' i .none o'))
  (h:∀s' a tc ti,Fut [p.n',p.n'+1] [] s s'→s'.heap.get? p.n=some Fr→s'.heap.get? p.n'=some (sIt p.x p.tx (Nat.succ i))→s'.heap.get? (p.n'+1)=some (enIt p.n' (Nat.succ i) .none (.str (ch c) tc)) →
   s'.heap.get? a=some (tup [.int (zN i) ti,.str (ch c) tc])→s.heap.objs.size≤a→Mean W A R P (F kt W p) (.gen (κ kt W p)) (rest (F kt W p) (.ref a) (.pure ())) s') :
  Mean W A R P (F kt W p) (.gen (κ kt W p)) (denote table (F kt W p)) s:=by
 have own:∀q∈M3 p Fr i .none o',s.heap.get? q.1=some q.2:=by
  refine fc ?_ (fc ?_ (fc ?_ fz))<;>assumption
 have off:∀q∈M3 p Fr i .none o',hiA q.1:=fun q hq=>hp.off _ (mmm (f:=(·.1)) hq)
 have e1:=E W p Fr i c o' s.heap.objs.size s.toks
 have e2:=Ec W p Fr i c o' s.heap.objs.size s.toks
 rw[denZ_eq]
 refine startT_sound (M:=M3 p Fr i .none o') B hA hd own hp.nd off (post_heldIs e1 fz ?_ ?_)
 ·refine fc ?_ fz
  exact eff_next hx
 ·intro h' M' j k D hps
  simp only[mc,nn,or_false,forall_eq_or_imp,forall_eq]at hps
  obtain⟨p0,p1,p2,p3⟩:=hps
  obtain⟨e3,e4⟩:=Prod.mk.inj e2
  show Mean W A R P (oCc (o3 kt W p Fr i c o' s.heap.objs.size s.toks)) (oMd (o3 kt W p Fr i c o' s.heap.objs.size s.toks)) _ _
  rw[e3,e4]
  obtain⟨elts,x1,pos,htg⟩:=tupE (ET W p)
  rw[htg]
  refine rest_owned rfl p2 ?_
  have nd:=hp.nd
  simp only[List.nodup_cons,mc,nn,or_false,not_or,List.nodup_nil,and_true,not_false_eq_true]at nd
  have hsz:p.n'+1<s.heap.objs.size:=Heap.lt_size h3
  have F1:=rep_futL (L:=[p.n',p.n'+1]) (tk:=s.toks+k) D own (by
   refine fc ?_ (fc ?_ (fc ?_ fz))
   ·exact .inr p0
   ·exact .inl Z0
   ·exact .inl Z1)
  have F2:=Fut.update (s:=⟨h',s.gens,s.drawn,s.toks+k,s.os⟩) (a:=p.n'+1) (f:=fun _=>enIt p.n' (Nat.succ i) .none (.str (ch c) s.toks))
  have F12:=F1.trans (F2.mono (fc (by first|exact Z0|exact Z1|exact Z2|simp) fz) (fun _ h=>h))
  refine h _ s.heap.objs.size s.toks (s.toks+1) F12 (F2.keep _ _ p0 (by simpa using nd.1.2)) (F2.keep _ _ p1 (by simpa using nd.2)) ?_ (F2.keep _ _ p3 ?_) (nR _)
  ·exact Heap.get?_update_self _ p2 rfl
  ·simp only[ms]
   exact fun z=>absurd hsz (Nat.not_lt.mpr (Nat.le_of_eq z))
end
end G
namespace G
abbrev EvsG:=nF [Ev0,Ev0c,Ev1,Ev2,Ev3,Ev3c,Ev4pA,Ev4pB,Ev4bA,Ev4bB,Ev4e,Ev5pA,Ev5pB,Ev5e,EvEA,EvEB,fun kt _=>EvT kt]
section
noncomputable def FS(W:Wd)(p:Pr)(b:Bool)(Fr:Obj):Prop:=(b=false∧∃i0 t0,Fr=frA W p i0 t0 false)∨∃i0 t0 tk c0 tc0,Fr=frB W p i0 t0 b tk c0 tc0
noncomputable def Asleep(kt:Params→KT)(W:Wd)(p:Pr)(Fr:Obj)(k0:Resume→Sem PySem.Fin)(c₀:Code)(fs₀:List Frame):Prop :=
 ∀{A:Around} {P:End→Shared→Prop} {s:Shared},Base kt W s.heap→A.handled=none→A.depth+60<1000→s.heap.get? p.n=some Fr →
  (∀s' Fr',Fut [p.n] [] s s'→FS W p false Fr'→s'.heap.get? p.n=some Fr'→Mean W A (fun _ _=>False) P (F kt W p) (.gen (κ kt W p)) (denote table (F kt W p)) s')→SegX W.M A c₀ (k0 (.send .none)) fs₀ s P
theorem own1g{a:Addr}{oa:Obj}{h:Heap}(h1:h.get? a=some oa):∀q∈([(a,oa)]:Mem1),h.get? q.1=some q.2:=by
 refine fc ?_ fz
 exact h1
theorem asleep_of{p:Pr}(hp:hiA p.n){o:Out}{Fr Fr':Obj}{hs:List H}(hF:FS W p false Fr')(E:∀n' t',AgainG (o5 kt W p o Fr n' t' hs) [] [] (F kt W p) (κ kt W p) [(0,p.n,Fr')]){fs:List Frame}(hb:Bears (oKap o) fs):
  Asleep kt W p Fr (oYK o) (oCc o) fs:=by
 intro A P s B hA hd h1 h
 refine startT_sound (R:=fun _ _=>False) (P:=P) (md:=.gen (oKap o)) (M:=[(p.n,Fr)]) B hA hd (own1g h1) (by simp) (by
  refine fc ?_ fz
  exact hp) (post_againG (E _ _) fz fz ?_) fs hb
 intro h' M' j i D hps
 exact h _ Fr' (rep_fut D) hF (hps _ Z0)
noncomputable def Yields(kt:Params→KT)(W:Wd)(p:Pr)(P:End→Shared→Prop)(s:Shared)(i:Nat)(c:Str):Prop :=
 ∀s' x ti tc p0 fs k0 c₀ Fr',Fut [p.n] [] s s'→s'.heap.get? x=some (tup [.int (zN i) ti,.str c tc])→s.heap.objs.size≤x→s'.heap.get? p.n=some Fr'→Asleep kt W p Fr' k0 c₀ fs→P (.susp (.ref x) false [] k0 c₀ p0 fs) s'
section
variable{p:Pr}{i c tc ti:Nat}{a:Addr}{o':Value}{Fr:Obj}
theorem own4'(h1:s.heap.get? p.n=some Fr)(h2:s.heap.get? (p.n'+1)=some (enIt p.n' (Nat.succ i) .none o'))(h3:s.heap.get? a=some (tup [.int (zN i) ti,.str (ch c) tc])):∀q∈M4 p Fr i o' a c tc ti,s.heap.get? q.1=some q.2:=by
 refine fc ?_ (fc ?_ (fc ?_ fz))<;>assumption
theorem fut4{dp:Nat}{M':Mem1}{j tk:Nat}{h':Heap}(D:RepR (S1 kt W s.heap.objs.size s.toks dp) (tgt A R P s (M4 p Fr i o' a c tc ti)) h' M' j)(own:∀q∈M4 p Fr i o' a c tc ti,s.heap.get? q.1=some q.2)
  (h2:h'.get? (p.n'+1)=some (enIt p.n' (Nat.succ i) .none o')) (h3:h'.get? a=some (tup [.int (zN i) ti,.str (ch c) tc])):Fut [p.n] [] s ⟨h',s.gens,s.drawn,tk,s.os⟩ :=
 rep_futL D own (by
  refine fc ?_ (fc ?_ (fc ?_ fz))
  ·exact .inl Z0
  ·exact .inr h2
  ·exact .inr h3)
theorem rest_plain(E:EvsG kt)(B:Base kt W s.heap)(hA:A.handled=none)(hd:A.depth+60<1000)(nd:[p.n,p.n'+1,a].Nodup)(off:∀b∈[p.n,p.n'+1,a],hiA b)(hF:FS W p false Fr)(hc:c≠92)
  (h1:s.heap.get? p.n=some Fr) (h2:s.heap.get? (p.n'+1)=some (enIt p.n' (Nat.succ i) .none o')) (h3:s.heap.get? a=some (tup [.int (zN i) ti,.str (ch c) tc])) (h:Yields kt W p P s i (ch c)) :
  Mean W A R P (F kt W p) (.gen (κ kt W p)) (rest (F kt W p) (.ref a) (.pure ())) s:=by
 have own:=own4' h1 h2 h3
 have off':∀q∈M4 p Fr i o' a c tc ti,hiA q.1:=fun q hq=>off _ (mmm (f:=(·.1)) hq)
 have hv:∀q∈[((.bool (isBs c),.bool false):Value×Value)],q.1=q.2:=by
  refine fc ?_ fz
  rw[isBs_eq,decide_eq_false hc]
 rcases hF with⟨_,i0,t0,rfl⟩|⟨i0,t0,tk,c0,tc0,rfl⟩
 ·have e1:=E 6 W p i0 t0 i o' a c tc ti s.heap.objs.size s.toks
  refine startT_sound (M:=M4 p _ i o' a c tc ti) B hA hd own nd off' (post_yldIs e1 hv fz ?_)
  intro h' M' j k p0 fs D hps hb
  exact h _ _ _ _ p0 fs _ _ _ (fut4 D own (hps _ Z2) (hps _ Z3)) (hps _ Z1) (lU ..) (hps _ Z0) (asleep_of (off _ Z0) (.inr ⟨_,_,_,_,_,rfl⟩) (fun n' t'=>E 11 W p i0 t0 i o' a c tc ti _ _ _ n' t') hb)
 ·have e1:=E 7 W p i0 t0 tk tc0 i c0 o' a c tc ti s.heap.objs.size s.toks
  refine startT_sound (M:=M4 p _ i o' a c tc ti) B hA hd own nd off' (post_yldIs e1 hv fz ?_)
  intro h' M' j k p0 fs D hps hb
  exact h _ _ _ _ p0 fs _ _ _ (fut4 D own (hps _ Z2) (hps _ Z3)) (hps _ Z1) (lU ..) (hps _ Z0) (asleep_of (off _ Z0) (.inr ⟨_,_,_,_,_,rfl⟩) (fun n' t'=>E 12 W p i0 t0 tk tc0 i c0 o' a c tc ti _ _ _ n' t') hb)
theorem rest_esc(E:EvsG kt)(B:Base kt W s.heap)(hA:A.handled=none)(hd:A.depth+60<1000)(nd:[p.n,p.n'+1,a].Nodup)(off:∀b∈[p.n,p.n'+1,a],hiA b)(hF:FS W p true Fr)
  (h1:s.heap.get? p.n=some Fr) (h2:s.heap.get? (p.n'+1)=some (enIt p.n' (Nat.succ i) .none o')) (h3:s.heap.get? a=some (tup [.int (zN i) ti,.str (ch c) tc])) (h:Yields kt W p P s i ⟨⟨[92,c]⟩⟩) :
  Mean W A R P (F kt W p) (.gen (κ kt W p)) (rest (F kt W p) (.ref a) (.pure ())) s:=by
 have own:=own4' h1 h2 h3
 have off':∀q∈M4 p Fr i o' a c tc ti,hiA q.1:=fun q hq=>off _ (mmm (f:=(·.1)) hq)
 rcases hF with⟨hf,_⟩|⟨i0,t0,tk,c0,tc0,rfl⟩
 ·cases hf
 ·have e1:=E 10 W p i0 t0 tk tc0 i c0 o' a c tc ti s.heap.objs.size s.toks
  refine startT_sound (M:=M4 p _ i o' a c tc ti) B hA hd own nd off' (post_yldIs e1 fz fz ?_)
  intro h' M' j k p0 fs D hps hb
  exact h _ _ _ _ p0 fs _ _ _ (fut4 D own (hps _ Z2) (hps _ Z3)) (hps _ Z1) (lU ..) (hps _ Z0) (asleep_of (off _ Z0) (.inr ⟨_,_,_,_,_,rfl⟩) (fun n' t'=>E 13 W p i0 t0 tk tc0 i c0 o' a c tc ti _ _ n' t') hb)
end
end
end G
namespace G
section
variable{p:Pr}{i c tc ti:Nat}{a:Addr}{o':Value}{Fr:Obj}
theorem rest_bs(E:EvsG kt)(B:Base kt W s.heap)(hA:A.handled=none)(hd:A.depth+60<1000)(nd:[p.n,p.n'+1,a].Nodup)(off:∀b∈[p.n,p.n'+1,a],hiA b)(hF:FS W p false Fr)(hc:c=92)
  (h1:s.heap.get? p.n=some Fr) (h2:s.heap.get? (p.n'+1)=some (enIt p.n' (Nat.succ i) .none o')) (h3:s.heap.get? a=some (tup [.int (zN i) ti,.str (ch c) tc]))
  (h:∀s' Fr',Fut [p.n] [] s s'→FS W p true Fr'→s'.heap.get? p.n=some Fr'→Mean W A R P (F kt W p) (.gen (κ kt W p)) (denote table (F kt W p)) s') :
  Mean W A R P (F kt W p) (.gen (κ kt W p)) (rest (F kt W p) (.ref a) (.pure ())) s:=by
 have own:=own4' h1 h2 h3
 have off':∀q∈M4 p Fr i o' a c tc ti,hiA q.1:=fun q hq=>off _ (mmm (f:=(·.1)) hq)
 have hv:∀q∈[((.bool (isBs c),.bool true):Value×Value)],q.1=q.2:=by
  refine fc ?_ fz
  rw[isBs_eq,decide_eq_true hc]
 rcases hF with⟨_,i0,t0,rfl⟩|⟨i0,t0,tk,c0,tc0,rfl⟩
 ·refine startT_sound (M:=M4 p _ i o' a c tc ti) B hA hd own nd off' (post_againG (E 8 W p i0 t0 i o' a c tc ti s.heap.objs.size s.toks) hv fz ?_)
  intro h' M' j k D hps
  exact h _ _ (fut4 D own (hps _ Z1) (hps _ Z2)) (.inr ⟨_,_,_,_,_,rfl⟩) (hps _ Z0)
 ·refine startT_sound (M:=M4 p _ i o' a c tc ti) B hA hd own nd off' (post_againG (E 9 W p i0 t0 tk tc0 i c0 o' a c tc ti s.heap.objs.size s.toks) hv fz ?_)
  intro h' M' j k D hps
  exact h _ _ (fut4 D own (hps _ Z1) (hps _ Z2)) (.inr ⟨_,_,_,_,_,rfl⟩) (hps _ Z0)
end
end G
namespace G
noncomputable def scan:List Nat→Nat→Bool→Option (Nat×List Nat×Nat)
 | [],_,_=>none
 | c::_,i,true=>some (i,[92,c],i+1)
 | c::r,i,false=>if c=92 then scan r (i+1) true else some (i,[c],i+1)
noncomputable def wf:List Nat→Bool→Bool
 | [],b=>!b
 | _::r,true=>wf r false
 | c::r,false=>wf r (c==92)
theorem scan_c{c:Nat}{r:List Nat}{i:Nat}:scan (c::r) i false=if c=92 then scan r (i+1) true else some (i,[c],i+1):=rfl
theorem wf_nil{b:Bool}(h:wf [] b=true):b=false:=by cases b with|false=>rfl|true=>cases h
structure At(W:Wd)(p:Pr)(i:Nat)(b:Bool)(s:Shared):Prop where
 fr:∃Fr,FS W p b Fr∧s.heap.get? p.n=some Fr
 it:s.heap.get? p.n'=some (sIt p.x p.tx i)
 en:∃o',s.heap.get? (p.n'+1)=some (enIt p.n' i .none o')
section
variable{p:Pr}
theorem post_retG{n t dp:Nat}{o:Out}{vs es r ps}(e:RetIs o vs es r ps)(hv:∀p∈vs,p.1=p.2)(he:∀e∈es,e.Ok PW W.w)
  (h:∀h' M' j i,RepR (S1 kt W n t dp) (tgt A R P s M) h' M' j→(∀q∈ps,h'.get? q.2.1=some q.2.2)→P (.ret r) ⟨h',s.gens,s.drawn,t+i,s.os⟩):Post (S1 kt W n t dp) (tgt A R P s M) true o:=by
 unfold RetIs rT at e
 simp only[Prod.mk.injEq]at e
 obtain⟨e1,e2,e3,e4,e5,e6⟩:=e
 rw[e1]
 refine⟨⟨e2,e3▸hv,e4▸he⟩,fun h' D=>?_⟩
 have:=h h' _ _ (oI o) D (rep_ps D e6)
 rw[←e5]at this
 exact this
theorem loopG(E:EvsG kt)(hp:p.Ok)(hA:A.handled=none)(hd:A.depth+60<1000):∀(r:List Nat) {i:Nat} {b:Bool} {s:Shared},p.x.cps.toList.drop i=r→Base kt W s.heap→At W p i b s→wf r b=true →
  (∀j cs i',scan r i b=some (j,cs,i')→∀s' x ti tc p0 fs k0 c₀ Fr' o',Fut [p.n,p.n',p.n'+1] [] s s'→s'.heap.get? x=some (tup [.int (zN j) ti,.str ⟨⟨cs⟩⟩ tc])→s.heap.objs.size≤x→s'.heap.get? p.n=some Fr'→Asleep kt W p Fr' k0 c₀ fs →
   s'.heap.get? p.n'=some (sIt p.x p.tx i')→s'.heap.get? (p.n'+1)=some (enIt p.n' i' .none o')→P (.susp (.ref x) false [] k0 c₀ p0 fs) s') →
  (scan r i b=none→∀s',Fut [p.n,p.n',p.n'+1] [] s s'→P (.ret (.ok (.ret .none))) s') →
  Mean W A R P (F kt W p) (.gen (κ kt W p)) (denote table (F kt W p)) s
 | [],i,b,s,hr,B,⟨⟨Fr,hF,h1⟩,h2,⟨o',h3⟩⟩,hb,_,hN=>by
  have hb':b=false:=wf_nil hb
  subst hb'
  have hx:p.x.cps[i]?=none:=by
   have:p.x.cps.toList.length≤i:=List.drop_eq_nil_iff.mp hr
   rw[←Array.getElem?_toList]
   exact List.getElem?_eq_none this
  have own:∀q∈M3 p Fr i .none o',s.heap.get? q.1=some q.2:=by
   refine fc ?_ (fc ?_ (fc ?_ fz))<;>assumption
  have off:∀q∈M3 p Fr i .none o',hiA q.1:=fun q hq=>hp.off _ (mmm (f:=(·.1)) hq)
  have hv:∀q∈([]:List (Value×Value)),q.1=q.2:=fun _ h=>nomatch h
  have he:∀q∈[eEnd p i s.heap.objs.size s.toks],q.Ok PW W.w:=by
   refine fc ?_ fz
   exact eff_end hx
  rw[denZ_eq]
  rcases hF with⟨_,i0,t0,rfl⟩|⟨i0,t0,tk,c0,tc0,rfl⟩
  ·refine startT_sound (M:=M3 p _ i .none o') B hA hd own hp.nd off (post_retG (E 14 W p i0 t0 i o' s.heap.objs.size s.toks) hv he ?_)
   intro h' M' j k D hps
   exact hN rfl _ (rep_fut D)
  ·refine startT_sound (M:=M3 p _ i .none o') B hA hd own hp.nd off (post_retG (E 15 W p i0 t0 tk tc0 i c0 o' s.heap.objs.size s.toks) hv he ?_)
   intro h' M' j k D hps
   exact hN rfl _ (rep_fut D)
 | c::r,i,b,s,hr,B,⟨⟨Fr,hF,h1⟩,h2,⟨o',h3⟩⟩,hb,hY,hN=>by
  have hx:p.x.cps[i]?=some c:=by
   rw[←Array.getElem?_toList]
   have:(p.x.cps.toList.drop i)[0]?=some c:=by rw[hr]; rfl
   simpa using this
  have hr':p.x.cps.toList.drop (i+1)=r:=by
   have:=congrArg List.tail hr
   simpa using this
  refine turnG (E 4) (E 5) (E 16 W) hp hx B hA hd h1 h2 h3 ?_
  intro s' a tc ti F1 g1 g2 g3 g4 hsz
  have B1:=B.fut F1 (by
   refine fc ?_ (fc ?_ fz)<;>exact hp.off _ (by simp))
  have nd0:=hp.nd
  simp only[List.nodup_cons,mc,nn,or_false,not_or,List.nodup_nil,and_true,not_false_eq_true]at nd0
  have an:∀x o,s.heap.get? x=some o→x≠a:=fun x o h z=>absurd (Heap.lt_size h) (Nat.not_lt.mpr (z▸hsz))
  have nd:[p.n,p.n'+1,a].Nodup:=by
   exact pc (fc nd0.1.2 (fc (an _ _ h1) fz)) (pc (fc (an _ _ h3) fz) (pc fz .nil))
  have off:∀x∈[p.n,p.n'+1,a],hiA x:=by
   refine fc ?_ (fc ?_ (fc ?_ fz))
   ·exact hp.off _ (by simp)
   ·exact hp.off _ (by simp)
   ·exact .inl (nT B.sz hsz)
  have k2:p.n'∉[p.n]:=by simpa using fun z=>nd0.1.1 z.symm
  have k3:p.n'+1∉[p.n]:=by simpa using fun z=>nd0.1.2 z.symm
  have mono1:∀{s'':Shared},Fut [p.n] [] s' s''→Fut [p.n,p.n',p.n'+1] [] s s'':=fun F2 =>
   (F1.mono (fun x hx=>by simp only[mc,nn,or_false]at hx; rcases hx with rfl|rfl<;>simp) (fun _ h=>h)).trans (F2.mono (fc (by first|exact Z0|exact Z1|exact Z2|simp) fz) (fun _ h=>h))
  cases b with
  | true =>
   refine rest_esc E B1 hA hd nd off hF g1 g3 g4 ?_
   intro s'' x ti' tc' p0 fs k0 c₀ Fr' F2 hx' hsx hfr hz
   exact hY i [92,c] (i+1) rfl s'' x ti' tc' p0 fs k0 c₀ Fr' _ (mono1 F2) hx' (nT F1.size hsx) hfr hz (F2.keep _ _ g2 k2) (F2.keep _ _ g3 k3)
  | false =>
   by_cases hc:c=92
   ·refine rest_bs E B1 hA hd nd off hF hc g1 g3 g4 ?_
    intro s'' Fr' F2 hF' hfr
    have hsc:scan (c::r) i false=scan r (i+1) true:=scan_c.trans (if_pos hc)
    have B2:=B1.fut F2 (fc (by exact hp.off _ (by simp)) fz)
    refine loopG E hp hA hd r (i:=i+1) (b:=true) hr' B2 ⟨⟨_,hF',hfr⟩,F2.keep _ _ g2 k2,⟨_,F2.keep _ _ g3 k3⟩⟩ (by have h2:wf r (c==92)=true:=hb; rw[hc]at h2; exact h2) ?_ ?_
    ·intro j cs i' hs s3 x ti' tc' p0 fs k0 c₀ Fr'' oo F3 hx' hsx
     exact hY j cs i' (hsc.trans hs) s3 x ti' tc' p0 fs k0 c₀ Fr'' oo ((mono1 F2).trans F3) hx' (nT (mono1 F2).size hsx)
    ·intro hs s3 F3
     exact hN (hsc.trans hs) s3 ((mono1 F2).trans F3)
   ·refine rest_plain E B1 hA hd nd off hF hc g1 g3 g4 ?_
    intro s'' x ti' tc' p0 fs k0 c₀ Fr' F2 hx' hsx hfr hz
    exact hY i [c] (i+1) (scan_c.trans (if_neg hc)) s'' x ti' tc' p0 fs k0 c₀ Fr' _ (mono1 F2) hx' (nT F1.size hsx) hfr hz (F2.keep _ _ g2 k2) (F2.keep _ _ g3 k3)
end
end G
noncomputable abbrev ks(M:Mem1):List Addr:=M.map (·.1)
structure St(kt:Params→KT)(W:Wd)(s:Shared)(M:Mem1):Prop where
 B:Base kt W s.heap
 own:∀p∈M,s.heap.get? p.1=some p.2
 nd:(ks M).Nodup
 off:∀p∈M,hiA p.1
structure Cur(kt:Params→KT)(W:Wd)(s0:Shared)(L:List Addr)(G:List Nat)(s:Shared)(M:Mem1):Prop extends St kt W s M where
 fut:Fut L G s0 s
 lo:∀p∈M,p.1∈L∨s0.heap.objs.size≤p.1
section
variable{s0 s s':Shared}{G:List Nat}
theorem St.key{a:Addr}(T:St kt W s M)(h:a∈ks M):∃o,s.heap.get? a=some o∧(a,o)∈M:=by
 obtain⟨p,hp,rfl⟩:=List.mem_map.mp h
 exact⟨p.2,T.own p hp,hp⟩
theorem St.klt{a:Addr}(T:St kt W s M)(h:a∈ks M):a<s.heap.objs.size:=by
 obtain⟨o,ho,_⟩:=T.key h
 exact Heap.lt_size ho
theorem Cur.start(B:Base kt W s.heap)(L G):Cur kt W s L G s [] :=
 ⟨⟨B,fz,List.nodup_nil,fz⟩,(Fut.refl s).mono fz fz,fun _ h=>nomatch h⟩
theorem St.sub{M':Mem1}(T:St kt W s M)(h:M'.Sublist M):St kt W s M' :=
 ⟨T.B,fun p hp=>T.own p (h.subset hp),(h.map _).nodup T.nd,fun p hp=>T.off p (h.subset hp)⟩
theorem Cur.sub{M':Mem1}(C:Cur kt W s0 L G s M)(h:M'.Sublist M):Cur kt W s0 L G s M' :=
 ⟨C.toSt.sub h,C.fut,fun p hp=>C.lo p (h.subset hp)⟩
theorem St.add(T:St kt W s M){a:Addr}{o:Obj}(h:s.heap.get? a=some o)(h1:hiA a)(h2:a∉ks M):St kt W s (M++[(a,o)]):=by
 refine⟨T.B,fun p hp=>?_,?_,fun p hp=>?_⟩
 ·rcases mpp.mp hp with hp|hp
  ·exact T.own p hp
  ·rw[ms]at hp; subst hp; exact h
 ·unfold ks
  rw[List.map_append,List.nodup_append]
  refine⟨T.nd,by simp,fun b hb c hc=>?_⟩
  simp only[mp,mn,mg]at hc
  subst hc
  exact fun e=>h2 (e▸hb)
 ·rcases mpp.mp hp with hp|hp
  ·exact T.off p hp
  ·rw[ms]at hp; subst hp; exact h1
theorem Cur.add(C:Cur kt W s0 L G s M){a:Addr}{o:Obj}(h:s.heap.get? a=some o)(h1:hiA a)(h2:a∉ks M)(h3:a∈L∨s0.heap.objs.size≤a):Cur kt W s0 L G s (M++[(a,o)]) :=
 ⟨C.toSt.add h h1 h2,C.fut,fun p hp=>by
  rcases mpp.mp hp with hp|hp
  ·exact C.lo p hp
  ·rw[ms]at hp; subst hp; exact h3⟩
theorem St.fut(T:St kt W s M){L':List Addr}{G':List Nat}(F:Fut L' G' s s')(h:∀a∈L',hiA a)(q:∀a∈L',a∉ks M):St kt W s' M :=
 ⟨T.B.fut F h,fun p hp=>F.keep _ _ (T.own p hp) fun z=>q _ z (mmm (f:=(·.1)) hp),T.nd,T.off⟩
theorem Cur.call(C:Cur kt W s0 L G s M){L':List Addr}{G':List Nat}(F:Fut L' G' s s')(h:∀a∈L',hiA a)(q:∀a∈L',a∉ks M)(h1:∀a∈L',a∈L∨s0.heap.objs.size≤a)(h2:∀g∈G',g∈G∨s0.gens.size≤g):Cur kt W s0 L G s' M :=
 ⟨C.toSt.fut F h q,C.fut.trans' F h1 h2,C.lo⟩
theorem Cur.call0(C:Cur kt W s0 L G s M)(F:Fut [] [] s s'):Cur kt W s0 L G s' M :=
 C.call F fz fz fz fz
theorem Cur.made(C:Cur kt W s0 L G s M){s₁:Shared}{a:Addr}{o:Obj}(h:s.heap.get? a=some o)(h1:s₁.heap.objs.size≤a)(h2:∀b∈ks M,b<s₁.heap.objs.size)(h0:s0.heap.objs.size≤s₁.heap.objs.size)(h3:160≤s₁.heap.objs.size):Cur kt W s0 L G s (M++[(a,o)]) :=
 C.add h (.inl (nT h3 h1)) (fun z=>absurd (h2 a z) (Nat.not_lt.mpr h1)) (.inr (nT h0 h1))
theorem Cur.callMade(C:Cur kt W s0 L G s M){L':List Addr}{G':List Nat}(F:Fut L' G' s s')(h:∀a∈L',hiA a)(q:∀a∈L',a∉ks M)(h1:∀a∈L',a∈L∨s0.heap.objs.size≤a)(h2:∀g∈G',g∈G∨s0.gens.size≤g)
  {a:Addr} {o:Obj} (ha:s'.heap.get? a=some o) (hs:s.heap.objs.size≤a):Cur kt W s0 L G s' (M++[(a,o)]) :=
 (C.call F h q h1 h2).made ha hs (fun _ hb=>C.klt hb) C.fut.size C.B.sz
theorem Cur.size(C:Cur kt W s0 L G s M):s0.heap.objs.size≤s.heap.objs.size:=C.fut.size
theorem Cur.run{dp j t tk:Nat}{h':Heap}{M':Mem1}(C:Cur kt W s0 L G s M)(D:RepR (S1 kt W s.heap.objs.size t dp) (tgt A R P s M) h' M' j):
  Cur kt W s0 L G ⟨h',s.gens,s.drawn,tk,s.os⟩ M':=by
 have F:=rep_fut (tk:=tk) D
 have hoff:∀a∈ks M,hiA a:=fun a ha=>by obtain⟨p,hp,rfl⟩:=List.mem_map.mp ha; exact C.off p hp
 have hlo:∀a∈ks M,a∈L∨s0.heap.objs.size≤a:=fun a ha=>by obtain⟨p,hp,rfl⟩:=List.mem_map.mp ha; exact C.lo p hp
 refine⟨⟨C.B.fut F hoff,D.own,D.nd,fun p hp=>?_⟩,C.fut.trans' F hlo fz,fun p hp=>?_⟩
 ·rcases D.hi p hp with h|h
  ·exact .inl (nT C.B.sz h)
  ·exact hoff _ h
 ·rcases D.hi p hp with h|h
  ·exact .inr (nT C.size h)
  ·exact hlo _ h
noncomputable def inc:Nat→List (Nat×Addr×Obj)→Bool
 | _,[]=>true
 | k,p::r=>Nat.ble k p.1&&inc (p.1+1) r
theorem nth_drop:∀{M:Mem1} {i:Nat} {p:Addr×Obj},nth M i=some p→M.drop i=p::M.drop (i+1)
 | [],i,p,h=>by cases i<;>cases h
 | q::M,0,p,h=>by cases h; rfl
 | q::M,i+1,p,h=>nth_drop (M:=M) (i:=i) h
theorem pick_sub:∀{ps:List (Nat×Addr×Obj)} {k:Nat},nthAll M ps=somes ps→inc k ps=true→(ps.map (·.2)).Sublist (M.drop k)
 | [],k,_,_=>List.nil_sublist _
 | p::ps,k,e,h=>by
  obtain⟨e1,e2⟩:=List.cons.inj (show nth M p.1::nthAll M ps=some p.2::somes ps from e)
  have h:=Bool.and_eq_true_iff.mp (show(Nat.ble k p.1&&inc (p.1+1) ps)=true from h)
  have hk:=Nat.le_of_ble_eq_true h.1
  have ih:=pick_sub e2 h.2
  have:(p.2::ps.map (·.2)).Sublist (M.drop p.1):=by rw[nth_drop e1]; exact ih.cons_cons _
  have hd:(M.drop p.1).Sublist (M.drop k):=by
   have:M.drop p.1=(M.drop k).drop (p.1-k):=by rw[List.drop_drop]; congr 1; omega
   rw[this]; exact List.drop_sublist ..
  exact this.trans hd
theorem Cur.pick{M':Mem1}{ps:List (Nat×Addr×Obj)}(C:Cur kt W s0 L G s M')(e:nthAll M' ps=somes ps)(h:inc 0 ps=true):Cur kt W s0 L G s (ps.map (·.2)):=C.sub (by have:=pick_sub e h; rwa [List.drop_zero]at this)
section
variable{dp:Nat}{o:Out}{b:Bool}{vs:List (Value×Value)}{es:List Eff}
theorem Cur.stopM(C:Cur kt W s0 L G s M){c' d ps}(e:StopIs o vs es c' d ps)(hA:A.handled=none)(hv:∀p∈vs,p.1=p.2)(he:∀e∈es,e.Ok PW W.w)
  (k:∀s' A',Cur kt W s0 L G s' (oM o)→(∀q∈ps,s'.heap.get? q.2.1=some q.2.2)→s'.gens=s.gens→Fut (ks M) [] s s'→A'.handled=none→A'.depth≤A.depth+d →
   codeAny W.M A' c' (fun r s''=>Mean W A R P (oCc o) (oMd o) (oK o r) s'') s'):Post (S1 kt W s.heap.objs.size s.toks dp) (tgt A R P s M) b o:=by
 unfold StopIs sT at e
 simp only[Prod.mk.injEq]at e
 obtain⟨e1,e2,e3,e4,e5,e6,e7,e8⟩:=e
 refine post_stop e1 e2 (e3▸hv) (e4▸he) fun h' D=>?_
 refine mean_iff.mpr ?_
 have hh:=k ⟨h',s.gens,s.drawn,s.toks+oI o,s.os⟩
 rw[e5]
 unfold oOwn at e6
 unfold oDp at e7
 revert e6 e7 hh
 cases oMd o with
 | gen κ=>intro e6; cases e6
 | own κ =>
  intro _ e7 hh
  refine mean_call (hh _ (C.run D) (rep_ps D e8) rfl (rep_fut D) ?_ ?_)
  ·exact(ar_handled A κ).trans hA
  ·show(ar A κ).depth+(oCc o).weight≤_
   have h1:=ar_depth A κ
   have h2:=cw_le (oCc o)
   simp only at e7
   omega
theorem Cur.retM(C:Cur kt W s0 L G s M){r ps}(e:RetIs o vs es r ps)(hv:∀p∈vs,p.1=p.2)(he:∀e∈es,e.Ok PW W.w)
  (k:∀s',Cur kt W s0 L G s' (oM o)→(∀q∈ps,s'.heap.get? q.2.1=some q.2.2)→s'.gens=s.gens→Fut (ks M) [] s s'→R r s'):Post (S1 kt W s.heap.objs.size s.toks dp) (tgt A R P s M) false o:=by
 unfold RetIs rT at e
 simp only[Prod.mk.injEq]at e
 obtain⟨e1,e2,e3,e4,e5,e6⟩:=e
 refine post_ret e1 e2 (e3▸hv) (e4▸he) fun h' D=>?_
 have:=k ⟨h',s.gens,s.drawn,s.toks+oI o,s.os⟩ (C.run D) (rep_ps D e6) rfl (rep_fut D)
 rw[←e5]at this
 exact this
theorem Cur.againM(C:Cur kt W s0 L G s M){c' ps}(e:AgainIs o vs es c' ps)(hv:∀p∈vs,p.1=p.2)(he:∀e∈es,e.Ok PW W.w)
  (k:∀s',Cur kt W s0 L G s' (oM o)→(∀q∈ps,s'.heap.get? q.2.1=some q.2.2)→s'.gens=s.gens→Fut (ks M) [] s s'→Mean W A R P c' (.own []) (denote table c') s'):Post (S1 kt W s.heap.objs.size s.toks dp) (tgt A R P s M) b o:=by
 unfold AgainIs aT at e
 simp only[Prod.mk.injEq]at e
 obtain⟨e1,e2,e3,e4,e5,e6,e8⟩:=e
 refine post_again e1 e2 (e3▸hv) (e4▸he) fun h' D=>?_
 refine mean_iff.mpr ?_
 rw[e5,e6]
 exact k ⟨h',s.gens,s.drawn,s.toks+oI o,s.os⟩ (C.run D) (rep_ps D e8) rfl (rep_fut D)
theorem StopIs.ps{c' d ps}(e:StopIs o vs es c' d ps):nthAll (oM o) ps=somes ps:=by
 unfold StopIs sT at e
 simp only[Prod.mk.injEq]at e
 exact e.2.2.2.2.2.2.2
theorem RetIs.ps{r ps}(e:RetIs o vs es r ps):nthAll (oM o) ps=somes ps:=by
 unfold RetIs rT at e
 simp only[Prod.mk.injEq]at e
 exact e.2.2.2.2.2
theorem AgainIs.ps{c' ps}(e:AgainIs o vs es c' ps):nthAll (oM o) ps=somes ps:=by
 unfold AgainIs aT at e
 simp only[Prod.mk.injEq]at e
 exact e.2.2.2.2.2.2
theorem Cur.stop(C:Cur kt W s0 L G s M){c' d ps}(e:StopIs o vs es c' d ps)(hA:A.handled=none)(hv:∀p∈vs,p.1=p.2)(he:∀e∈es,e.Ok PW W.w)(hi:inc 0 ps=true)
  (k:∀s' A',Cur kt W s0 L G s' (ps.map (·.2))→s'.gens=s.gens→Fut (ks M) [] s s'→A'.handled=none→A'.depth≤A.depth+d→(oMd o).isGen=false →
   codeAny W.M A' c' (fun r s''=>Mean W A R P (oCc o) (oMd o) (oK o r) s'') s'):Post (S1 kt W s.heap.objs.size s.toks dp) (tgt A R P s M) b o :=
 C.stopM e hA hv he fun s' A' C' _ hg F h1 h2=>k s' A' (C'.pick e.ps hi) hg F h1 h2 e.own
theorem Cur.ret(C:Cur kt W s0 L G s M){r ps}(e:RetIs o vs es r ps)(hv:∀p∈vs,p.1=p.2)(he:∀e∈es,e.Ok PW W.w)(hi:inc 0 ps=true)
  (k:∀s',Cur kt W s0 L G s' (ps.map (·.2))→s'.gens=s.gens→Fut (ks M) [] s s'→R r s'):Post (S1 kt W s.heap.objs.size s.toks dp) (tgt A R P s M) false o :=
 C.retM e hv he fun s' C' _ hg F=>k s' (C'.pick e.ps hi) hg F
theorem Cur.again(C:Cur kt W s0 L G s M){c' ps}(e:AgainIs o vs es c' ps)(hv:∀p∈vs,p.1=p.2)(he:∀e∈es,e.Ok PW W.w)(hi:inc 0 ps=true)
  (k:∀s',Cur kt W s0 L G s' (ps.map (·.2))→s'.gens=s.gens→Fut (ks M) [] s s'→Mean W A R P c' (.own []) (denote table c') s'):Post (S1 kt W s.heap.objs.size s.toks dp) (tgt A R P s M) b o :=
 C.againM e hv he fun s' C' _ hg F=>k s' (C'.pick e.ps hi) hg F
theorem noV:∀p∈([]:List (Value×Value)),p.1=p.2:=fun _ h=>nomatch h
theorem noE:∀e∈([]:List Eff),e.Ok prog w:=fun _ h=>nomatch h
theorem Cur.startF{fa:Addr}{args:Args}{hs:List H}(C:Cur kt W s0 L G s M)(hA:A.handled=none)(hd:A.depth+dp<1000)(h1:1≤dp)
  (H:Post (S1 kt W s.heap.objs.size s.toks dp) (tgt A R (fun _ _=>False) s M) false (startF (S1 kt W s.heap.objs.size s.toks dp) fa args M hs)):codeAny W.M A (.call (.ref fa) args) R s :=
 startF_sound C.B hA hd C.own C.nd C.off h1 H
theorem Cur.startT{c:Code}{md:Md}{tr:Sem PySem.Fin}{hs:List H}(C:Cur kt W s0 L G s M)(hg:md.isGen=false)(hA:A.handled=none)(hd:A.depth+dp<1000)
  (H:Post (S1 kt W s.heap.objs.size s.toks dp) (tgt A R P s M) false (startT (S1 kt W s.heap.objs.size s.toks dp) c md tr M hs)):Mean W A R P c md tr s :=
 startT_soundO hg C.B hA hd C.own C.nd C.off H
theorem Cur.startC{c:Code}{hs:List H}(C:Cur kt W s0 L G s M)(hA:A.handled=none)(hd:A.depth+dp<1000)
  (H:Post (S1 kt W s.heap.objs.size s.toks dp) (tgt A R P s M) false (startC (S1 kt W s.heap.objs.size s.toks dp) c (.own []) M hs)):Mean W A R P c (.own []) (denote table c) s :=
 startC_mean C.B hA hd C.own C.nd C.off H
end
end
theorem Cur.startO{s0 s:Shared}{G:List Nat}{dp:Nat}{c:Code}{md:Md}{tr:Sem PySem.Fin}{hs:List H}{o:Out}(C:Cur kt W s0 L G s M)(ho:o=Mine.startT (S1 kt W s.heap.objs.size s.toks dp) c md tr M hs)(hg:md.isGen=false)(hA:A.handled=none)(hd:A.depth+dp<1000)
  (H:Post (S1 kt W s.heap.objs.size s.toks dp) (tgt A R P s M) false o):Mean W A R P c md tr s:=by
 subst ho; exact Cur.startT C hg hA hd H
theorem Cur.startFo{s0 s:Shared}{G:List Nat}{dp:Nat}{o:Out}{fa:Addr}{args:Args}{hs:List H}{n t:Nat}(C:Cur kt W s0 L G s M)(hn:n=s.heap.objs.size)(ht:t=s.toks)(ho:o=Mine.startF (S1 kt W n t dp) fa args M hs)(hA:A.handled=none)(hd:A.depth+dp<1000)(h1:1≤dp)
  (H:Post (S1 kt W s.heap.objs.size s.toks dp) (tgt A R (fun _ _=>False) s M) false o):codeAny W.M A (.call (.ref fa) args) R s:=by
 subst hn ht ho; exact Cur.startF C hA hd h1 H
theorem Cur.ix{s₀ s:Shared}{L:List Addr}{G:List Nat}{M:Mem1}(C:Cur kt W s₀ L G s M)(i:Nat)(q:Addr×Obj)(h:nth M i=some q):s.heap.get? q.1=some q.2:=C.own q (nth_mem h)
noncomputable def EvNL(kt:Params→KT):Prop:=∀W:Wd,∃o es ep,kt1 kt W.w.params cStatics=some o∧o.data=.dict es ep∧StrKeys es∧nsFind es "sys.recursionlimit"=none
theorem Base.noLimit{h:Heap}(E:EvNL kt)(B:Base kt W h):h.NoLimit:=by
 obtain⟨o,es,ep,h1,h2,h3,h4⟩:=E W
 exact⟨nsFind es,⟨o,es,ep,B.at_ _ _ h1,h2,h3,fun _=>rfl⟩,h4⟩
theorem wpAny_resumeX{α:Type}{Q:α→Shared→Prop}{E:Value→Shared→Prop}{g:Nat}{gs:GenState}{r:Resume}{l:List Value}{k:GenResult→Sem α}{c₀:Code}{t₀:Sem PySem.Fin}{fs₀:List Frame}(hg:s.gens[g]?=some gs)
  (hgs:(gs=.fresh c₀∧r=.send .none∧t₀=denote table c₀∧fs₀=[])∨(∃k0 l0 p0 cl,gs=.suspended k0 l0 c₀ p0 fs₀ cl∧t₀=k0 r))
  (x:SegX (model prog w) A c₀ t₀ fs₀ (s.setGen g .running) (fun e s₁=>wpAny (model prog w) A (k e.result) Q E (s₁.setGen g e.genState))):wpAny (model prog w) A (.resume g r l k) Q E s :=
 wake_any α prog w hg hgs (fun Γ=>Γ.In A) (fun _ h=>h) (x.mono fun _ _ h Γ p hC=>h Γ p hC)
namespace G
section
inductive GenAt(kt:Params→KT)(W:Wd)(s:Shared)(a:Addr)(g tn:Nat)(x:Str):Nat→List Addr→Prop
 | fresh (n t tx):s.heap.get? a=some (genO g tn)→s.gens[g]?=some (.fresh (gcode kt W n t x tx))→s.heap.get? n=some (fr0 W t x tx)→hiA n→hiA a→a≠n→GenAt kt W s a g tn x 0 [n]
 | asleep (p:Pr) (Fr k0 c₀ p0 fs cl o' i):p.x=x→p.Ok→a∉[p.n,p.n',p.n'+1]→hiA a→s.heap.get? a=some (genO g tn)→s.gens[g]?=some (.suspended k0 [] c₀ p0 fs cl)→Asleep kt W p Fr k0 c₀ fs→s.heap.get? p.n=some Fr →
   s.heap.get? p.n'=some (sIt p.x p.tx i)→s.heap.get? (p.n'+1)=some (enIt p.n' i .none o')→GenAt kt W s a g tn x i [p.n,p.n',p.n'+1]
theorem GenAt.fut{a g tn x i fp}{s':Shared}{L G}(H:GenAt kt W s a g tn x i fp)(F:Fut L G s s')(h:∀b∈L,b∉fp)(ha:a∉L)(hg:g∉G):GenAt kt W s' a g tn x i fp:=by
 have q:∀b∈fp,b∉L:=fun b hb hL=>h b hL hb
 cases H with
 | fresh n t tx h1 h2 h3 h4 h5 h6=>exact .fresh n t tx (F.keep _ _ h1 ha) (F.gens _ _ h2 hg) (F.keep _ _ h3 (q _ (by simp))) h4 h5 h6
 | asleep p Fr k0 c₀ p0 fs cl o' i h1 h2 h3 h4 h5 h6 h7 h8 h9 h10 =>
  exact .asleep p Fr k0 c₀ p0 fs cl o' i h1 h2 h3 h4 (F.keep _ _ h5 ha) (F.gens _ _ h6 hg) h7 (F.keep _ _ h8 (q _ (by simp))) (F.keep _ _ h9 (q _ (by simp))) (F.keep _ _ h10 (q _ (by simp)))
theorem GenAt.fut'{a g tn x i fp}{s':Shared}{L G}(H:GenAt kt W s a g tn x i fp)(F:Fut L G s s')(h:∀b∈L,b∉fp)(ha:s'.heap.get? a=some (genO g tn))(hg:g∉G):GenAt kt W s' a g tn x i fp:=by
 have q:∀b∈fp,b∉L:=fun b hb hL=>h b hL hb
 cases H with
 | fresh n t tx h1 h2 h3 h4 h5 h6=>exact .fresh n t tx ha (F.gens _ _ h2 hg) (F.keep _ _ h3 (q _ (by simp))) h4 h5 h6
 | asleep p Fr k0 c₀ p0 fs cl o' i h1 h2 h3 h4 h5 h6 h7 h8 h9 h10 =>
  exact .asleep p Fr k0 c₀ p0 fs cl o' i h1 h2 h3 h4 ha (F.gens _ _ h6 hg) h7 (F.keep _ _ h8 (q _ (by simp))) (F.keep _ _ h9 (q _ (by simp))) (F.keep _ _ h10 (q _ (by simp)))
theorem GenAt.hi{a g tn x i fp}(H:GenAt kt W s a g tn x i fp):∀b∈fp,hiA b:=by
 cases H with
 | fresh n t tx h1 h2 h3 h4 h5 h6 =>
  refine fc ?_ fz; assumption
 | asleep p Fr k0 c₀ p0 fs cl o' i h1 h2 h3 h4 h5 h6 h7 h8 h9 h10 =>
  intro b hb
  exact h2.off _ hb
theorem GenAt.ha{a g tn x i fp}(H:GenAt kt W s a g tn x i fp):hiA a:=by
 cases H with
 | fresh n t tx h1 h2 h3 h4 h5 h6=>exact h5
 | asleep p Fr k0 c₀ p0 fs cl o' i h1 h2 h3 h4 h5 h6 h7 h8 h9 h10=>exact h4
theorem GenAt.na{a g tn x i fp}(H:GenAt kt W s a g tn x i fp):a∉fp:=by
 cases H with
 | fresh n t tx h1 h2 h3 h4 h5 h6=>simpa using h6
 | asleep p Fr k0 c₀ p0 fs cl o' i h1 h2 h3 h4 h5 h6 h7 h8 h9 h10=>exact h3
theorem GenAt.lt{a g tn x i fp}(H:GenAt kt W s a g tn x i fp):∀b∈fp,b<s.heap.objs.size:=by
 cases H with
 | fresh n t tx h1 h2 h3 h4 h5 h6 =>
  refine fc ?_ fz; exact Heap.lt_size h3
 | asleep p Fr k0 c₀ p0 fs cl o' i h1 h2 h3 h4 h5 h6 h7 h8 h9 h10 =>
  refine fc ?_ (fc ?_ (fc ?_ fz))
  ·exact Heap.lt_size h8
  ·exact Heap.lt_size h9
  ·exact Heap.lt_size h10
theorem GenAt.glt{a g tn x i fp}(H:GenAt kt W s a g tn x i fp):g<s.gens.size:=by
 cases H with
 | fresh n t tx h1 h2 h3 h4 h5 h6=>exact(Array.getElem?_eq_some_iff.mp h2).1
 | asleep p Fr k0 c₀ p0 fs cl o' i h1 h2 h3 h4 h5 h6 h7 h8 h9 h10=>exact(Array.getElem?_eq_some_iff.mp h6).1
theorem GenAt.obj{a g tn x i fp}(H:GenAt kt W s a g tn x i fp):s.heap.get? a=some (genO g tn):=by
 cases H with
 | fresh n t tx h1 h2 h3 h4 h5 h6=>exact h1
 | asleep p Fr k0 c₀ p0 fs cl o' i h1 h2 h3 h4 h5 h6 h7 h8 h9 h10=>exact h5
theorem Fut.newGen{c:Code}:Fut [] [] s {s with gens:=s.gens.push (.fresh c)} :=
 ⟨fun _ _ h _=>h,nR _,fun g x h _=>by
  have:=(Array.getElem?_eq_some_iff.mp h).1
  simp only[Array.getElem?_push]
  rw[if_neg (by omega)]; exact h,by simp,fun h=>h.push rfl,rfl,rfl⟩
theorem Fut.setGen{g:Nat}{x:GenState}(hb:x.bare=true):Fut [] [g] s (s.setGen g x) :=
 ⟨fun _ _ h _=>h,nR _,fun g' x' h hg=>by
  have:g'≠g:=by simpa using hg
  show(s.gens.setIfInBounds g x)[g']?=some x'
  rw[Array.getElem?_setIfInBounds_ne (Ne.symm this)]; exact h,by simp[Shared.setGen],fun h y hy=>by
   have hy:y∈s.gens.setIfInBounds g x:=hy
   rcases Array.mem_or_eq_of_mem_setIfInBounds hy with h1|h1
   ·exact h y h1
   ·rw[h1]; exact hb,rfl,rfl⟩
theorem gen_call(E:EvsG kt){x:Str}{tx:Nat}(B:Base kt W s.heap)(hA:A.handled=none)(hd:A.depth+60<1000)
  (h:∀s' a g tn fp,Fut [] [] s s'→GenAt kt W s' a g tn x 0 fp→(∀b∈fp,s.heap.objs.size≤b)→s.heap.objs.size≤a→s.gens.size≤g→R (.ok (.ret (.ref a))) s'):codeAny W.M A (.call (.ref 21) ⟨[.str x tx],[]⟩) R s:=by
 have e0:=E 0 W s.heap.objs.size s.toks x tx
 have e0m:=E 1 W s.heap.objs.size s.toks x tx
 refine startY_sound (dp:=60) (M:=[]) B hA hd fz List.nodup_nil fz (by decide) (post_heldIs e0 fz fz ?_)
 intro h' M' j i D hps
 have hp0:=hps _ Z0
 show Mean W A R (fun _ _=>False) (oCc (y0 kt W s.heap.objs.size s.toks x tx)) (oMd (y0 kt W s.heap.objs.size s.toks x tx)) _ _
 rw[e0m]
 have F1:=rep_fut (tk:=s.toks+i) D
 suffices z:wpOwn W.M A (oCc (y0 kt W s.heap.objs.size s.toks x tx)) (oGk (oT (y0 kt W s.heap.objs.size s.toks x tx)) s.gens.size) (postC PW W.w (ar A []) (er PW W.w A R [])) (postE (er PW W.w A R []))
   ⟨h',s.gens.push (.fresh (gcode kt W s.heap.objs.size s.toks x tx)),s.drawn,s.toks+i,s.os⟩from fun Γ p hc hΓ=>z Γ p hc hΓ
 have F2:=F1.trans (Fut.newGen (c:=gcode kt W s.heap.objs.size s.toks x tx))
 have B2:=B.fut F2 fz
 have e1:=E 2 W s.heap.objs.size s.toks x tx s.gens.size h'.objs.size (s.toks+i)
 have:=startT_soundO (kt:=kt) (W:=W) (c:=oCc (y0 kt W s.heap.objs.size s.toks x tx)) (A:=A) (R:=R) (P:=fun _ _=>False) (md:=oMd (y0 kt W s.heap.objs.size s.toks x tx)) (dp:=60) (s:=⟨h',s.gens.push (.fresh (gcode kt W s.heap.objs.size s.toks x tx)),s.drawn,s.toks+i,s.os⟩) (M:=[]) (hs:=[]) (tr:=oGk (oT (y0 kt W s.heap.objs.size s.toks x tx)) s.gens.size) (by rw[e0m]; rfl) B2 hA hd fz List.nodup_nil fz
  (post_retIs e1 fz fz ?_)
 ·rw[e0m]at this; exact this
 intro h'' M'' j' i' D' hps'
 have hp1:=hps' _ Z0
 have F3:=F2.trans (rep_fut (tk:=s.toks+i+i') D')
 have hsz:s.heap.objs.size<h'.objs.size:=Heap.lt_size hp0
 have b160:=B.sz
 refine h _ h'.objs.size s.gens.size (s.toks+i) [s.heap.objs.size] F3 (.fresh s.heap.objs.size s.toks tx hp1 (by simp[tgt]) ((rep_fut (tk:=s.toks+i+i') D').keep _ _ hp0 (fun z=>nomatch z)) (.inl b160) (.inl (nT b160 (Nat.le_of_lt hsz))) (Nat.ne_of_gt hsz)) ?_ (Nat.le_of_lt hsz) (nR _)
 refine fc ?_ fz
 exact nR _
end
end G
namespace G
section
noncomputable def gNext(a:Addr):Code:=.call (.builtin "generator.__next__") ⟨[.ref a],[]⟩
noncomputable def AfterG(R:Result→Shared→Prop)(g:Nat)(e:End)(s₁:Shared):Prop:=match e with
 | .susp v gd l k c p fs=>(gd||fs.any Frame.guarded)=false→R (.ok (.ret v)) (s₁.setGen g (.suspended k l c p fs (gd||fs.any Frame.guarded)))
 | .ret r=>r=.ok (.ret .none)∧∀s2 x tp,Fut [] [] (s₁.setGen g .finished) s2→s2.heap.get? x=some (stopIt tp)→s₁.heap.objs.size≤x→R (.error (.ref x)) s2
theorem SegX.monoQ{M:Model}{c:Code}{t:Sem PySem.Fin}{fs:List Frame}{P P':End→Shared→Prop}(x:SegX M A c t fs s P)(h:∀e s',e.quiet=true→P e s'→P' e s'):SegX M A c t fs s P':=fun Γ p hc hΓ=>by
 obtain⟨e,s',hr,hq,hp⟩:=x Γ p hc hΓ
 exact⟨e,s',hr,hq,h e s' hq hp⟩
theorem wake_spec(NL:EvNL kt){a g tn gs c₀ t₀ fs₀}(B:Base kt W s.heap)(hA:A.handled=none)(hd:A.depth+60<1000)(h1:s.heap.get? a=some (genO g tn))(h2:s.gens[g]?=some gs)
  (hgs:(gs=.fresh c₀∧t₀=denote table c₀∧fs₀=[])∨(∃k0 l0 p0 cl,gs=.suspended k0 l0 c₀ p0 fs₀ cl∧t₀=k0 (.send .none)))
  (x:SegX W.M A.in1 c₀ t₀ fs₀ (s.setGen g .running) (AfterG R g)):codeAny W.M A (gNext a) R s:=by
 have hT:s.TypeIs (.ref a) "generator":=⟨_,h1,rfl⟩
 have hI:s.heap.IsGen a g:=⟨_,_,_,h1,rfl,rfl,rfl⟩
 refine codeAny_call_builtin slot_gen_next.plain entry_gen_next (slot_gen_next.check _ _ _ _ _ _ _ _ hT (args_gen_next _) ?_)
 show wpAny _ A.in1 (Builtin.Generator.genWake (.ref a) (.send .none)) _ _ s
 unfold Builtin.Generator.genWake
 refine wpAny_bind (wpAny_holding (wpAny_genNumber hI (wpAny_bind (wpAny_genState h2 ?_))))
 have key:∀{st:GenStatus},wpAny W.M A.in1 (.resume g (.send .none) [] fun r=>match r with
   | .yielded v=>ret v
   | .returned v=>(do
    if v==.none then raiseNew (←newExc (.type "StopIteration") [])
    rule "generator.return-value"; throw (←newExc (.type "StopIteration") [v]))
   | .raised e=>(do
    if let .throw _:=(Resume.send Value.none)then
     if st==GenStatus.fresh then rule "generator.throw.into-fresh"; throw e
    Builtin.Generator.genLeft (.ref a) e)
   | .running=>(do rule "generator.already-executing"; raiseError "ValueError" "generator already executing")
   | .justStarted=>(do rule "generator.send-to-fresh"; raiseError "TypeError" "can't send non-None value to a just-started generator")
   | .finished =>
    match(Resume.send Value.none)with
    | .send _=>(do raiseNew (←newExc (.type "StopIteration") []))
    | .throw e=>throw e) (fun fin s'=>match fin with|.done f=>R (.ok f) s'|.again c'=>c'.quiet=true∧codeAny W.M A c' R s') (fun x s'=>R (.error x) s') s:=by
  intro st
  refine wpAny_resumeX h2 (c₀:=c₀) (t₀:=t₀) (fs₀:=fs₀) ?_ (SegX.monoQ x ?_)
  ·rcases hgs with⟨q1,q2,q3⟩|q
   ·exact .inl ⟨q1,rfl,q2,q3⟩
   ·exact .inr q
  intro e s₁ hq h
  cases e with
  | susp v gd l k c p fs=>exact wpAny_pure (h (by simpa [End.quiet]using hq))
  | ret r =>
   obtain⟨rfl,h⟩:=h
   show wpAny _ A.in1 (newExc (.type "StopIteration") []>>=_) _ _ _
   refine wpAny_bind ?_
   simp only[newExc,newTuple]
   refine wpAny_bind (wpAny_newObj_type ?_ (by size_fits))
   refine wpAny_bind (m:=firstArgMember _ _) (wpAny_of_eq (a:=Value.none) (by first|rfl|(simp only[firstArgMember]; rfl)) ?_)
   refine wpAny_newObj_type ?_ (by size_fits)
   refine wpAny_bind (wpAny_raiseNew_none hA ?_)
   refine h _ _ (s₁.setGen g .finished).heap.objs.size ?_ (Heap.get?_push_size _ rfl) ?_
   ·exact⟨fun b o hb _=>Heap.get?_push_of_some _ (Heap.get?_push_of_some _ hb),by simp only[Heap.size_push]; exact Nat.le_succ_of_le (Nat.le_succ _),fun _ _ h _=>h,nR _,fun h=>h,rfl,rfl⟩
   ·simp only[Heap.size_push]; exact Nat.le_succ _
 rcases hgs with⟨q1,q2,q3⟩|⟨k0,l0,p0,cl,q1,q2⟩
 ·subst q1
  refine wpAny_bind (wpAny_roomToWake (B.noLimit NL) (by show A.depth<1000; omega) ?_)
  exact key (st:=.fresh)
 ·subst q1
  refine wpAny_bind (wpAny_roomToWake (B.noLimit NL) (by show A.depth<1000; omega) ?_)
  exact key (st:=.fresh)
theorem Fut.running{g:Nat}:Fut [] [g] s (s.setGen g .running):=Fut.setGen rfl
theorem gn_yl{a:Addr}{g tn:Nat}{x:Str}{i:Nat}{fp:List Addr}
  (hY:∀j cs i',scan (x.cps.toList.drop i) i false=some (j,cs,i')→∀s' y ti tc fp',Fut fp [g] s s'→s'.heap.get? y=some (tup [.int (zN j) ti,.str ⟨⟨cs⟩⟩ tc])→s.heap.objs.size≤y→GenAt kt W s' a g tn x i' fp'→y∉fp'→(∀b∈fp',b∈fp∨s.heap.objs.size≤b)→R (.ok (.ret (.ref y))) s') :
  ∀{p:Pr} {j cs i' s' y ti tc p0 fs k0 c₀ Fr' o'},p.x=x→p.Ok→a∉[p.n,p.n',p.n'+1]→hiA a→scan (x.cps.toList.drop i) i false=some (j,cs,i')→Fut fp [g] s s'→(∀b∈[p.n,p.n',p.n'+1],b∈fp∨s.heap.objs.size≤b)→y∉[p.n,p.n',p.n'+1] →
   s'.heap.get? a=some (genO g tn)→g<s'.gens.size→s'.heap.get? y=some (tup [.int (zN j) ti,.str ⟨⟨cs⟩⟩ tc])→s.heap.objs.size≤y→s'.heap.get? p.n=some Fr'→Asleep kt W p Fr' k0 c₀ fs →
   s'.heap.get? p.n'=some (sIt p.x p.tx i')→s'.heap.get? (p.n'+1)=some (enIt p.n' i' .none o')→AfterG R g (.susp (.ref y) false [] k0 c₀ p0 fs) s':=by
 intro p j cs i' s' y ti tc p0 fs k0 c₀ Fr' o' q1 q2 q3 q4 hsc F hfp hny ha hg hy hsy h1 h2 h3 h4 hq
 have hq':(fs.any Frame.guarded)=false:=by simpa using hq
 have F1:=Fut.setGen (s:=s') (g:=g) (x:=.suspended k0 [] c₀ p0 fs (false||fs.any Frame.guarded)) (by simp[GenState.bare,hq'])
 refine hY j cs i' hsc _ y ti tc [p.n,p.n',p.n'+1] (F.trans (F1.mono fz (fun _ h=>h))) hy hsy ?_ hny hfp
 exact .asleep p Fr' k0 c₀ p0 fs (false||fs.any Frame.guarded) o' i' q1 q2 q3 q4 ha (by simp[Shared.setGen,hg]) h2 h1 h3 h4
theorem gen_next(E:EvsG kt)(NL:EvNL kt){a g tn x i fp}(H:GenAt kt W s a g tn x i fp)(B:Base kt W s.heap)(hA:A.handled=none)(hd:A.depth+60<1000)(asc:x.cps.all (·<128)=true)(hwf:wf (x.cps.toList.drop i) false=true)
  (hY:∀j cs i',scan (x.cps.toList.drop i) i false=some (j,cs,i')→∀s' y ti tc fp',Fut fp [g] s s'→s'.heap.get? y=some (tup [.int (zN j) ti,.str ⟨⟨cs⟩⟩ tc])→s.heap.objs.size≤y→GenAt kt W s' a g tn x i' fp'→y∉fp'→(∀b∈fp',b∈fp∨s.heap.objs.size≤b)→R (.ok (.ret (.ref y))) s')
  (hN:scan (x.cps.toList.drop i) i false=none→∀s' y tp,Fut fp [g] s s'→s'.heap.get? y=some (stopIt tp)→s.heap.objs.size≤y→R (.error (.ref y)) s'):codeAny W.M A (gNext a) R s:=by
 have F0:Fut fp [g] s (s.setGen g .running):=Fut.running.mono fz (fun _ h=>h)
 cases H with
 | fresh n t tx h1 h2 h3 h4 h5 h6 =>
  have b160:=B.sz
  obtain⟨p,hp⟩:∃p:Pr,p=⟨n,t,x,tx,s.heap.objs.size,s.toks⟩:=⟨_,rfl⟩
  have hn:=Heap.lt_size h3
  have hna:=Heap.lt_size h1
  have ok:p.Ok:=by
   subst hp
   refine⟨?_,?_⟩
   ·exact pc (fc (Nat.ne_of_lt hn) (fc (Nat.ne_of_lt (Nat.lt_succ_of_lt hn)) fz)) (pc (fc (Nat.ne_of_lt (Nat.lt_succ_self _)) fz) (pc fz .nil))
   ·refine fc ?_ (fc ?_ (fc ?_ fz))
    ·exact h4
    ·exact .inl b160
    ·exact .inl (Nat.le_succ_of_le b160)
  have hap:a∉[p.n,p.n',p.n'+1]:=by
   subst hp
   simp only[mc,nn,or_false,not_or]
   exact⟨h6,Nat.ne_of_lt hna,Nat.ne_of_lt (Nat.lt_succ_of_lt hna)⟩
  have hpx:p.x=x:=by subst hp; rfl
  have hpn:p.n=n:=by subst hp; rfl
  refine wake_spec NL (gs:=.fresh (gcode kt W n t x tx)) (c₀:=gcode kt W n t x tx) (t₀:=denote table (gcode kt W n t x tx)) (fs₀:=[]) B hA hd h1 h2 (.inl ⟨rfl,rfl,rfl⟩) ?_
  have e2:=E 3 W p
  have B0:Base kt W (s.setGen g .running).heap:=B
  have hpe:∀{Q:Out→Prop},Q (o2 kt W ⟨n,t,x,tx,s.heap.objs.size,s.toks⟩)→Q (startT (S1 kt W (s.setGen g .running).heap.objs.size (s.setGen g .running).toks 60) (gcode kt W n t x tx) (.gen []) (denZ (gcode kt W n t x tx)) [(n,fr0 W t x tx)] (G.h2 x tx s.heap.objs.size)):=fun h=>h
  have x0:=startT_sound (tr:=denZ (gcode kt W n t x tx)) (hs:=G.h2 x tx s.heap.objs.size) (A:=A.in1) (R:=fun _ _=>False) (P:=AfterG R g) (s:=s.setGen g .running) (md:=.gen []) (c:=gcode kt W n t x tx) (dp:=60) (M:=[(n,fr0 W t x tx)]) B0 hA hd (own1g h3) (by simp) (by
   refine fc ?_ fz
   exact h4) (hpe (Q:=fun o=>Post _ _ true o) (hp▸post_stopG (o:=o2 kt W p) e2 fz ?_ ?_)) [] .nil
  ·rw[denZ_eq]
   exact x0
  ·refine fc ?_ fz
   rw[hp]
   exact eff_enum asc
  ·intro h' M' j k D hps
   simp only[mc,nn,or_false,forall_eq_or_imp,forall_eq]at hps
   obtain⟨k1,k2,k3⟩:=hps
   have hκ:([⟨none,oCc (o2 kt W p),oK (o2 kt W p),oG (o2 kt W p),oL (o2 kt W p)⟩]:List Ent)=κ kt W p:=by
    unfold StopG aT at e2
    simp only[Prod.mk.injEq]at e2
    obtain⟨_,_,_,_,_,e6,_⟩:=e2
    unfold κ
    rw[e6]
   rw[hκ]
   have F1:=rep_fut (tk:=(s.setGen g .running).toks+k) D
   have F1':Fut [n] [g] s ⟨h',(s.setGen g .running).gens,s.drawn,(s.setGen g .running).toks+k,s.os⟩:=F0.trans (F1.mono (fun b hb=>by
    exact hb) fz)
   have B1:=B.fut F1' (by
    refine fc ?_ fz; assumption)
   have hfp:∀b∈[p.n,p.n',p.n'+1],b∈[n]∨s.heap.objs.size≤b:=by
    subst hp
    refine fc ?_ (fc ?_ (fc ?_ fz))
    ·exact .inl (by first|exact Z0|exact Z1|exact Z2|exact Z3|simp)
    ·exact .inr (nR _)
    ·exact .inr (Nat.le_succ _)
   have tr:∀{s'':Shared},Fut [p.n,p.n',p.n'+1] [] ⟨h',(s.setGen g .running).gens,s.drawn,(s.setGen g .running).toks+k,s.os⟩ s''→Fut [n] [g] s s'':=fun F2=>F1'.trans' F2 hfp fz
   have ha':h'.get? a=some (genO g tn):=F1.keep _ _ h1 (by simpa using h6)
   have hg0:=(Array.getElem?_eq_some_iff.mp h2).1
   have sz1:s.heap.objs.size≤h'.objs.size:=F1'.size
   refine loopG E ok (show A.in1.handled=none from hA) (show A.in1.depth+60<1000 from hd) (x.cps.toList) (i:=0) (b:=false) (by rw[hpx]; rfl) B1 ⟨⟨_,.inl ⟨rfl,0,_,rfl⟩,k1⟩,k2,⟨_,k3⟩⟩ (by simpa using hwf) ?_ ?_
   ·intro j cs i' hsc s' y ti tc p0 fs k0 c₀ Fr' o' F hy hsy g1 g2 g3 g4
    refine gn_yl hY hpx ok hap h5 (by simpa using hsc) (tr F) ?_ ?_ (F.keep _ _ ha' hap) (Nat.lt_of_lt_of_le hg0 (tr F).gsz) hy (nT sz1 hsy) g1 g2 g3 g4
    ·exact hfp
    ·have lt:∀{b o},h'.get? b=some o→y≠b:=fun h z=>absurd (Heap.lt_size h) (Nat.not_lt.mpr (z▸hsy))
     simp only[mc,nn,or_false,not_or]
     exact⟨lt k1,lt k2,lt k3⟩
   ·intro hsc s'' F2
    refine⟨rfl,fun s3 y tp F3 hy hsy=>?_⟩
    have F4:=(tr F2).trans (Fut.setGen (s:=s'') (g:=g) (x:=.finished) rfl |>.mono fz (fun _ h=>h))
    exact hN (by simpa using hsc) s3 y tp (F4.trans (F3.mono fz fz)) hy (nT (tr F2).size hsy)
 | asleep p Fr k0 c₀ p0 fs cl o' i h1 h2 h3 h4 h5 h6 h7 h8 h9 h10 =>
  refine wake_spec NL B hA hd h5 h6 (.inr ⟨k0,[],p0,cl,rfl,rfl⟩) ?_
  refine h7 (show Base kt W (s.setGen g .running).heap from B) (show A.in1.handled=none from hA) (show A.in1.depth+60<1000 from hd) h8 ?_
  intro s' Fr' F hFS hfr
  have nd0:=h2.nd
  simp only[List.nodup_cons,mc,nn,or_false,not_or,List.nodup_nil,and_true,not_false_eq_true]at nd0
  have k2:p.n'∉[p.n]:=by simpa using fun z=>nd0.1.1 z.symm
  have k3:p.n'+1∉[p.n]:=by simpa using fun z=>nd0.1.2 z.symm
  have F1:Fut [p.n,p.n',p.n'+1] [g] s s':=F0.trans (F.mono (fc (by first|exact Z0|exact Z1|exact Z2|simp) fz) fz)
  have B1:=B.fut F1 (fun b hb=>h2.off _ hb)
  have tr:∀{s'':Shared},Fut [p.n,p.n',p.n'+1] [] s' s''→Fut [p.n,p.n',p.n'+1] [g] s s'':=fun F2=>F1.trans (F2.mono (fun b hb=>hb) fz)
  have ha':s'.heap.get? a=some (genO g tn):=F.keep _ _ h5 (fun z=>h3 (by simp only[ms]at z; simp[z]))
  have hg0:=(Array.getElem?_eq_some_iff.mp h6).1
  refine loopG E h2 (show A.in1.handled=none from hA) (show A.in1.depth+60<1000 from hd) (x.cps.toList.drop i) (i:=i) (b:=false) (by rw[h1]) B1 ⟨⟨_,hFS,hfr⟩,F.keep _ _ h9 k2,⟨_,F.keep _ _ h10 k3⟩⟩ hwf ?_ ?_
  ·intro j cs i' hsc s'' y ti tc p0 fs k0 c₀ Fr' o' F2 hy hsy g1 g2 g3 g4
   have sz1:=F1.size
   refine gn_yl hY h1 h2 h3 h4 hsc (tr F2) (fun b hb=>.inl hb) ?_ (F2.keep _ _ ha' h3) (Nat.lt_of_lt_of_le hg0 (tr F2).gsz) hy (nT sz1 hsy) g1 g2 g3 g4
   have lt:∀{b o},s'.heap.get? b=some o→y≠b:=fun h z=>absurd (Heap.lt_size h) (Nat.not_lt.mpr (z▸hsy))
   simp only[mc,nn,or_false,not_or]
   exact⟨lt hfr,lt (F.keep _ _ h9 k2),lt (F.keep _ _ h10 k3)⟩
  ·intro hsc s'' F2
   refine⟨rfl,fun s3 y tp F3 hy hsy=>?_⟩
   have F4:=(tr F2).trans (Fut.setGen (s:=s'') (g:=g) (x:=.finished) rfl |>.mono fz (fun _ h=>h))
   exact hN hsc s3 y tp (F4.trans (F3.mono fz fz)) hy (nT (tr F2).size hsy)
end
end G
noncomputable def nlOk(o:Option Obj):Bool:=match o with
 | some ⟨_,_,.dict es _,_⟩=>es.toList.all (fun e=>match e.key with|.str ..=>true|_=>false)&&(nsFind es "sys.recursionlimit").isNone
 | _=>false
noncomputable def EvNL0(kt:Params→KT):Prop:=∀W:Wd,nlOk (kt1 kt W.w.params cStatics)=true
theorem EvNL0.nl(E:EvNL0 kt):EvNL kt:=fun W=>by
 have h:=E W
 unfold nlOk at h
 split at h
 ·rename_i cls d es ep sl q
  rw[Bool.and_eq_true]at h
  refine⟨_,es,ep,q,rfl,fun e he=>?_,by simpa using h.2⟩
  have h1:=List.all_eq_true.mp h.1 e (Array.mem_def.mp he)
  split at h1
  ·rename_i n t hk
   exact⟨n,t,hk⟩
  ·cases h1
 ·cases h
namespace G
inductive Nx:List Nat→Nat→Nat→List Nat→Nat→List Nat→Prop
 | plain (c i r):c≠92→Nx (c::r) i i [c] (i+1) r
 | esc (c i r):Nx (92::c::r) i (i+1) [92,c] (i+2) r
theorem nx_of{r:List Nat}{i:Nat}(hw:wf r false=true):(r=[]∧scan r i false=none)∨∃j cs i' r',Nx r i j cs i' r'∧scan r i false=some (j,cs,i')∧wf r' false=true∧r'.length<r.length∧r'=r.drop (i'-i)∧i≤i':=by
 cases r with
 | nil=>exact .inl ⟨rfl,rfl⟩
 | cons c r =>
  right
  by_cases h:c=92
  ·subst h
   cases r with
   | nil=>exact absurd hw (by decide)
   | cons c r =>
    refine⟨i+1,[92,c],i+2,r,.esc c i r,rfl,hw,by simp only[List.length_cons]; omega,?_,by omega⟩
    have:i+2-i=2:=by omega
    rw[this]; rfl
  ·refine⟨i,[c],i+1,r,.plain c i r h,scan_c.trans (if_neg h),(by
    have e:(c==92)=false:=by simpa using h
    have h2:wf r (c==92)=true:=hw; rwa [e]at h2),by simp,?_,by omega⟩
   have:i+1-i=1:=by omega
   rw[this]; rfl
section
theorem gen_step(E:EvsG kt)(NL:EvNL kt){a g tn x i fp}{r:List Nat}(H:GenAt kt W s a g tn x i fp)(B:Base kt W s.heap)(hA:A.handled=none)(hd:A.depth+60<1000)(asc:x.cps.all (·<128)=true)(hr:x.cps.toList.drop i=r)(hwf:wf r false=true)
  (hN:r=[]→∀s' y tp,Fut fp [g] s s'→s'.heap.get? y=some (stopIt tp)→s.heap.objs.size≤y→R (.error (.ref y)) s')
  (hY:∀j cs i' r',Nx r i j cs i' r'→x.cps.toList.drop i'=r'→wf r' false=true→r'.length<r.length→∀s' y ti tc fp',Fut fp [g] s s'→s'.heap.get? y=some (tup [.int (zN j) ti,.str ⟨⟨cs⟩⟩ tc])→s.heap.objs.size≤y→GenAt kt W s' a g tn x i' fp'→y∉fp'→(∀b∈fp',b∈fp∨s.heap.objs.size≤b)→R (.ok (.ret (.ref y))) s'):codeAny W.M A (gNext a) R s:=by
 refine gen_next E NL H B hA hd asc (by rw[hr]; exact hwf) ?_ ?_
 ·intro j cs i' hsc s' y ti tc fp' F hy hsy H' hny hfp
  rw[hr]at hsc
  rcases nx_of (i:=i) hwf with⟨_,h2⟩|⟨j2,cs2,i2,r',hn,hs,hw,hl,hd',hi⟩
  ·rw[h2]at hsc; cases hsc
  ·rw[hs]at hsc
   cases hsc
   refine hY j cs i' r' hn ?_ hw hl s' y ti tc fp' F hy hsy H' hny hfp
   rw[hd',←hr,List.drop_drop]
   congr 1
   omega
 ·intro hsc s' y tp F hy hsy
  rw[hr]at hsc
  rcases nx_of (i:=i) hwf with⟨h1,_⟩|⟨j2,cs2,i2,r',hn,hs,hw,hl,hd',hi⟩
  ·exact hN h1 s' y tp F hy hsy
  ·rw[hs]at hsc; cases hsc
end
end G
theorem sEq_eq(c:Str)(l:List Nat):List.beq c.cps.toList l=decide (c.cps.toList=l):=by
 have:∀a b:List Nat,List.beq a b=decide (a=b):=by
  intro a
  induction a with
  | nil=>intro b; cases b<;>simp[List.beq]
  | cons x a ih =>
   intro b
   cases b with
   | nil=>simp[List.beq]
   | cons y b =>
    simp only[List.beq,ih,List.cons.injEq]
    by_cases h:x=y<;>simp[h]
 exact this _ _
namespace CP
noncomputable def sEq(c:Str)(l:List Nat):Bool:=List.beq c.cps.toList l
noncomputable def sOpens:Str:=⟨⟨[111,112,101,110,115]⟩⟩
structure Pr where
 n:Nat
 t:Nat
 x:Str
 tx:Nat
 y:Str
 ty:Nat
 n':Nat
 t':Nat
 g:Nat
 gg:Nat
 tn:Nat
 n2:Nat
 t2:Nat
noncomputable def frA(W:Wd)(t:Nat)(x:Str)(tx:Nat):Obj:=fr W.w.params [(G.sAddr,t,.str x tx)]
noncomputable def frL(W:Wd)(p:Pr)(o:Int)(to:Nat):Obj:=fr W.w.params [(G.sAddr,p.t,.str p.y p.ty),(sOpens,p.t'+2,.int o to)]
structure Tn where
 kp:Nat
 j:Int
 tj:Nat
 kc:Nat
 c:Str
 tc:Nat
noncomputable def frT(W:Wd)(p:Pr)(o:Int)(to:Nat)(q:Tn):Obj:=fr W.w.params [(G.sAddr,p.t,.str p.y p.ty),(sOpens,p.t'+2,.int o to),(G.sPos,q.kp,.int q.j q.tj),(G.sCh,q.kc,.str q.c q.tc)]
noncomputable def a0 a W n t x c:=startF (S1 a W n t 60) 35 ⟨[.str x c],[]⟩ [] (Hx 0x314121441 [])
noncomputable def E_a0 kt W:=∀n t x a,StopIs (a0 kt W n t x a) [] [] (.call (.ref 28) ⟨[.str x a],[]⟩) 1 [(0,n,frA W t x a)]
noncomputable def a1 a W n t x c y d e f:=on a W e f (a0 a W n t x c) (rt (.str y d)) [(n,frA W t x c)] (Hx 0x31414444 [])
noncomputable def E_a1 kt W:=∀n t x c y a d b,StopIs (a1 kt W n t x c y a d b) [] [] (.call (.ref 21) ⟨[.str y a],[]⟩) 1 [(0,n,frL W ⟨n,t,x,c,y,a,d,b,0,0,0,0,0⟩ 0 (b+1))]
noncomputable def a2 a W p:=on a W p.n2 p.t2 (a1 a W p.n p.t p.x p.tx p.y p.ty p.n' p.t') (rt (.ref p.g)) [(p.n,frL W p 0 (p.t'+1)),(p.g,G.genO p.gg p.tn)] (Hx 0x3525255 [])
noncomputable def E_a2 kt W:=∀p,StopIs (a2 kt W p) [] [] (oC (a2 kt W p)) 1 [(0,p.n,frL W p 0 (p.t'+1)),(1,p.g,G.genO p.gg p.tn)]
noncomputable def LC(kt:Params→KT)(W:Wd)(p:Pr):Code:=oC (a2 kt W p)
noncomputable def b0 a W p F n t:=startC (S1 a W n t 60) (LC a W p) (.own []) [(p.n,F),(p.g,G.genO p.gg p.tn)] [.m 1,.z]
noncomputable def E_b0 kt W:=∀p F n t,StopIs (b0 kt W p F n t) [] [] (G.gNext p.g) 1 [(0,p.n,F),(1,p.g,G.genO p.gg p.tn)]
noncomputable def cL_open a W p o b n t y j d c e f h:=on a W f h (b0 a W p (frL W p o b) n t) (rt (.ref y)) [(p.n,frL W p o b),(p.g,G.genO p.gg p.tn),(y,tup [.int j d,.str c e])] (Hx Y7 (.v (.bool true)::Hx 0x3442242 []))
noncomputable def E_cL_open kt W:=∀p o e n t y j b c d f a,AgainIs (cL_open kt W p o e n t y j b c d f a) [(.bool (sEq c [40]),.bool true)] [] (LC kt W p) [(0,p.n,frT W p (o+1) (a+4) ⟨a,j,b,a+1,c,d⟩),(1,p.g,G.genO p.gg p.tn)]
noncomputable def cL_other a W p o b n t y j d c e f h:=on a W f h (b0 a W p (frL W p o b) n t) (rt (.ref y)) [(p.n,frL W p o b),(p.g,G.genO p.gg p.tn),(y,tup [.int j d,.str c e])] (Hx Y7 (.v (.bool false)::Hx 0x42 (.v (.bool false)::Hx 0x32 [])))
noncomputable def E_cL_other kt W:=∀p o b n t y j d c e f a,AgainIs (cL_other kt W p o b n t y j d c e f a) [(.bool (sEq c [41]),.bool false),(.bool (sEq c [40]),.bool false)] [] (LC kt W p) [(0,p.n,frT W p (o) (b) ⟨a,j,d,a+1,c,e⟩),(1,p.g,G.genO p.gg p.tn)]
noncomputable def cL_clo a W p o b n t y j d c e f h:=on a W f h (b0 a W p (frL W p o b) n t) (rt (.ref y)) [(p.n,frL W p o b),(p.g,G.genO p.gg p.tn),(y,tup [.int j d,.str c e])] (Hx Y7 (.v (.bool false)::Hx 0x42 (.v (.bool true)::Hx 0x4442242 (.v (.bool false)::Hx 0x32 []))))
noncomputable def E_cL_clo kt W:=∀p o e n t y j b c d f a,AgainIs (cL_clo kt W p o e n t y j b c d f a) [(.bool (dLt (o-1) 0),.bool false),(.bool (sEq c [41]),.bool true),(.bool (sEq c [40]),.bool false)] [] (LC kt W p) [(0,p.n,frT W p (o-1) (a+5) ⟨a,j,b,a+1,c,d⟩),(1,p.g,G.genO p.gg p.tn)]
noncomputable def cL_neg a W p o b n t y j d c e f h:=on a W f h (b0 a W p (frL W p o b) n t) (rt (.ref y)) [(p.n,frL W p o b),(p.g,G.genO p.gg p.tn),(y,tup [.int j d,.str c e])] (Hx Y7 (.v (.bool false)::Hx 0x42 (.v (.bool true)::Hx 0x4442242 (.v (.bool true)::[.s]))))
noncomputable def E_cL_neg kt W:=∀p o e n t y j b c d f a,RetIs (cL_neg kt W p o e n t y j b c d f a) [(.bool (dLt (o-1) 0),.bool true),(.bool (sEq c [41]),.bool true),(.bool (sEq c [40]),.bool false)] [] (.ok (.ret (.bool false))) [(0,p.n,frT W p (o-1) (a+5) ⟨a,j,b,a+1,c,d⟩)]
noncomputable def cT_open a W p q o b n t y j d c e f h:=on a W f h (b0 a W p (frT W p o b q) n t) (rt (.ref y)) [(p.n,frT W p o b q),(p.g,G.genO p.gg p.tn),(y,tup [.int j d,.str c e])] (Hx Y7 (.v (.bool true)::Hx 0x3442242 []))
noncomputable def E_cT_open kt W:=∀p q o e n t y j a c b f d,AgainIs (cT_open kt W p q o e n t y j a c b f d) [(.bool (sEq c [40]),.bool true)] [] (LC kt W p) [(0,p.n,frT W p (o+1) (d+4) ⟨q.kp,j,a,q.kc,c,b⟩),(1,p.g,G.genO p.gg p.tn)]
noncomputable def cT_other a W p q o b n t y j d c e f h:=on a W f h (b0 a W p (frT W p o b q) n t) (rt (.ref y)) [(p.n,frT W p o b q),(p.g,G.genO p.gg p.tn),(y,tup [.int j d,.str c e])] (Hx Y7 (.v (.bool false)::Hx 0x42 (.v (.bool false)::Hx 0x32 [])))
noncomputable def E_cT_other kt W:=∀p q o a n t y j b c d e f,AgainIs (cT_other kt W p q o a n t y j b c d e f) [(.bool (sEq c [41]),.bool false),(.bool (sEq c [40]),.bool false)] [] (LC kt W p) [(0,p.n,frT W p (o) (a) ⟨q.kp,j,b,q.kc,c,d⟩),(1,p.g,G.genO p.gg p.tn)]
noncomputable def cT_clo a W p q o b n t y j d c e f h:=on a W f h (b0 a W p (frT W p o b q) n t) (rt (.ref y)) [(p.n,frT W p o b q),(p.g,G.genO p.gg p.tn),(y,tup [.int j d,.str c e])] (Hx Y7 (.v (.bool false)::Hx 0x42 (.v (.bool true)::Hx 0x4442242 (.v (.bool false)::Hx 0x32 []))))
noncomputable def E_cT_clo kt W:=∀p q o e n t y j a c b f d,AgainIs (cT_clo kt W p q o e n t y j a c b f d) [(.bool (dLt (o-1) 0),.bool false),(.bool (sEq c [41]),.bool true),(.bool (sEq c [40]),.bool false)] [] (LC kt W p) [(0,p.n,frT W p (o-1) (d+5) ⟨q.kp,j,a,q.kc,c,b⟩),(1,p.g,G.genO p.gg p.tn)]
noncomputable def cT_neg a W p q o b n t y j d c e f h:=on a W f h (b0 a W p (frT W p o b q) n t) (rt (.ref y)) [(p.n,frT W p o b q),(p.g,G.genO p.gg p.tn),(y,tup [.int j d,.str c e])] (Hx Y7 (.v (.bool false)::Hx 0x42 (.v (.bool true)::Hx 0x4442242 (.v (.bool true)::[.s]))))
noncomputable def E_cT_neg kt W:=∀p q o e n t y j a c b f d,RetIs (cT_neg kt W p q o e n t y j a c b f d) [(.bool (dLt (o-1) 0),.bool true),(.bool (sEq c [41]),.bool true),(.bool (sEq c [40]),.bool false)] [] (.ok (.ret (.bool false))) [(0,p.n,frT W p (o-1) (d+5) ⟨q.kp,j,a,q.kc,c,b⟩)]
noncomputable def d0 a W p F n t e b c d:=on a W c d (b0 a W p F n t) (.error (.ref e)) [(p.n,F),(p.g,G.genO p.gg p.tn),(e,G.stopIt b)] [.m 2,.s]
noncomputable def E_d0 kt W:=∀p F n t e a b c,RetIs (d0 kt W p F n t e a b c) [] [] (.ok .next) [(0,p.n,F)]
noncomputable def eL a W p o b n t:=on a W n t (a2 a W p) (.ok .next) [(p.n,frL W p o b)] [.m 0,.s,.s]
noncomputable def E_eL kt W:=∀p o a n t,RetIs (eL kt W p o a n t) [] [] (.ok (.ret (.bool (dEq o 0)))) []
noncomputable def eT a W p q o b n t:=on a W n t (a2 a W p) (.ok .next) [(p.n,frT W p o b q)] [.m 0,.s,.s]
noncomputable def E_eT kt W:=∀p q o a n t,RetIs (eT kt W p q o a n t) [] [] (.ok (.ret (.bool (dEq o 0)))) []
noncomputable def e0 a W p F n t:=on a W n t (a2 a W p) (rt (.bool false)) [(p.n,F)] []
noncomputable def E_e0 kt W:=∀p F n t,RetIs (e0 kt W p F n t) [] [] (.ok (.ret (.bool false))) []
abbrev Evs:=nF [E_a0,E_a1,E_a2,E_b0,E_cL_open,E_cL_other,E_cL_clo,E_cL_neg,E_cT_open,E_cT_other,E_cT_clo,E_cT_neg,E_d0,E_eL,E_eT,E_e0]
end CP
noncomputable def StripSpec(kt:Params→KT)(W:Wd)(f:List Nat→List Nat):Prop:=∀{A:Around} {R:Result→Shared→Prop} {s:Shared} {x:Str} {tx:Nat},Base kt W s.heap→A.handled=none→A.depth+130<1000→x.cps.all (·<128)=true→x.cps.size<2 ^ 19→G.wf x.cps.toList false=true →
 (∀s' ty,Fut [] [] s s'→R (.ok (.ret (.str ⟨⟨f x.cps.toList⟩⟩ ty))) s')→codeAny W.M A (.call (.ref 28) ⟨[.str x tx],[]⟩) R s
noncomputable def chkE:List Nat→Bool→Int→Option Int
 | [],_,o=>some o
 | _::r,true,o=>chkE r false o
 | c::r,false,o=>if c=92 then chkE r true o else if c=40 then chkE r false (o+1)else if c=41 then(if o-1<0 then none else chkE r false (o-1))else chkE r false o
theorem chk_c{c:Nat}{r:List Nat}{o:Int}:chkE (c::r) false o=if c=92 then chkE r true o else if c=40 then chkE r false (o+1)else if c=41 then(if o-1<0 then none else chkE r false (o-1))else chkE r false o:=rfl
noncomputable abbrev chk(l:List Nat)(o:Int):Option Int:=chkE l false o
noncomputable def chkB(l:List Nat):Bool:=match chk l 0 with|some o=>decide (o=0)|none=>false
namespace CP
section
noncomputable def FO(W:Wd)(p:Pr)(o:Int)(F:Obj):Prop:=(∃to,F=frL W p o to)∨∃to q,F=frT W p o to q
theorem hv1{a b:Bool}(h:a=b):∀q∈[((.bool a,.bool b):Value×Value)],q.1=q.2:=by
 refine fc ?_ fz
 rw[h]
theorem hv2{a b a' b':Bool}(h:a=b)(h':a'=b'):∀q∈[((.bool a,.bool b):Value×Value),(.bool a',.bool b')],q.1=q.2:=by
 refine fc ?_ (fc ?_ fz)
 ·rw[h]
 ·rw[h']
theorem hv3{a b a' b' a'' b'':Bool}(h:a=b)(h':a'=b')(h'':a''=b''):∀q∈[((.bool a,.bool b):Value×Value),(.bool a',.bool b'),(.bool a'',.bool b'')],q.1=q.2:=by
 refine fc ?_ (fc ?_ (fc ?_ fz))
 ·rw[h]
 ·rw[h']
 ·rw[h'']
theorem nx_c40{r r':List Nat}{i j i':Nat}{o:Int}{cs:List Nat}(hnx:G.Nx r i j cs i' r')(h:cs=[40]):chk r o=chk r' (o+1):=by
 cases hnx with
 | plain c i r hc=>cases h; rfl
 | esc c i r=>cases h
theorem nx_c41{r r':List Nat}{i j i':Nat}{o:Int}{cs:List Nat}(hnx:G.Nx r i j cs i' r')(h:cs=[41]):chk r o=if o-1<0 then none else chk r' (o-1):=by
 cases hnx with
 | plain c i r hc=>cases h; rfl
 | esc c i r=>cases h
theorem nx_cot{r r':List Nat}{i j i':Nat}{o:Int}{cs:List Nat}(hnx:G.Nx r i j cs i' r')(h:cs≠[40])(h':cs≠[41]):chk r o=chk r' o:=by
 cases hnx with
 | plain c i r hc =>
  have h1:c≠40:=fun z=>h (by rw[z])
  have h2:c≠41:=fun z=>h' (by rw[z])
  exact chk_c.trans ((if_neg hc).trans ((if_neg h1).trans (if_neg h2)))
 | esc c i r=>rfl
theorem loop(E:Evs kt)(EG:G.EvsG kt)(NL:EvNL kt){p:Pr}(hA:A.handled=none)(hd:A.depth+65<1000)(asc:p.y.cps.all (·<128)=true){s0:Shared}:
  ∀(k:Nat) {r:List Nat} {i:Nat} {o:Int} {F:Obj} {s:Shared} {fp:List Addr},r.length=k→p.y.cps.toList.drop i=r→G.wf r false=true→FO W p o F→Cur kt W s0 [] [] s [(p.n,F),(p.g,G.genO p.gg p.tn)]→G.GenAt kt W s p.g p.gg p.tn p.y i fp →
   (∀b∈fp,s0.heap.objs.size≤b)→p.n∉fp→s0.gens.size≤p.gg →
   (∀s' F' o',Cur kt W s0 [] [] s' [(p.n,F')]→FO W p o' F'→chk r o=some o'→R (.ok .next) s')→(∀s' F',Cur kt W s0 [] [] s' [(p.n,F')]→chk r o=none→R (.ok (.ret (.bool false))) s')→Mean W A R P (LC kt W p) (.own []) (denote table (LC kt W p)) s:=by
 intro k
 induction k using Nat.strongRecOn with
 | _ k ih =>
 intro r i o F s fp hk hr hw hF C H hfp hnf hgg h1 h2
 refine C.startC hA (by omega:A.depth+60<1000) (C.stop (E 3 W p F s.heap.objs.size s.toks) hA noV noE rfl ?_)
 intro s₁ A1 C1 hg1 F1 hA1 hd1 ke0
 have H1:=H.fut' F1 (by
  refine fc ?_ (fc ?_ fz)
  ·exact hnf
  ·exact H.na) (C1.ix 1 (p.g,G.genO p.gg p.tn) rfl) (fun h=>nomatch h)
 have dj:∀b∈fp,b∉ks [(p.n,F),(p.g,G.genO p.gg p.tn)]:=fun b hb z=>by
  simp only[ks,mp,mn,mf,nn,or_false]at z
  rcases z with rfl|rfl
  ·exact hnf hb
  ·exact H.na hb
 have lo:∀b∈fp,b∈([]:List Addr)∨s0.heap.objs.size≤b:=fun b hb=>.inr (hfp b hb)
 have log:∀g∈[p.gg],g∈([]:List Nat)∨s0.gens.size≤g:=fun g hg=>.inr (by simp only[ms]at hg; subst hg; exact hgg)
 refine G.gen_step EG NL H1 C1.B hA1 (by omega) asc hr hw ?_ ?_
 ·intro hr0 s2 y tp F2 hy hsy
  have C3:Cur kt W s0 [] [] s2 [(p.n,F),(p.g,G.genO p.gg p.tn),(y,G.stopIt tp)]:=C1.callMade F2 H1.hi dj lo log hy hsy
  refine C3.startT ke0 hA (by omega:A.depth+60<1000) (C3.ret (E 12 W p F _ _ y tp _ _) noV noE rfl ?_)
  intro s3 C4 _ _
  exact h1 s3 F o C4 hF (by rw[hr0]; rfl)
 ·intro j cs i' r' hnx hdr hw' hlen s2 y ti tc fp' F2 hy hsy H' hny hfp'
  have C3:Cur kt W s0 [] [] s2 [(p.n,F),(p.g,G.genO p.gg p.tn),(y,tup [.int (zN j) ti,.str ⟨⟨cs⟩⟩ tc])]:=C1.callMade F2 H1.hi dj lo log hy hsy
  have hnf':p.n∉fp':=fun z=>by
   rcases hfp' _ z with z|z
   ·exact hnf z
   ·exact absurd (C1.klt (a:=p.n) Z0) (Nat.not_lt.mpr z)
  have fin:∀{s3 F' o'},FO W p o' F'→Cur kt W s0 [] [] s3 [(p.n,F'),(p.g,G.genO p.gg p.tn)]→Fut [p.n,p.g,y] [] s2 s3→chk r o=chk r' o' →
    Mean W A R P (LC kt W p) (.own []) (denote table (LC kt W p)) s3:=by
   intro s3 F' o' hF' C4 F4 he
   have H4:=H'.fut' F4 (by
    refine fc ?_ (fc ?_ (fc ?_ fz))
    ·exact hnf'
    ·exact H'.na
    ·exact hny) (C4.ix 1 (p.g,G.genO p.gg p.tn) rfl) (fun h=>nomatch h)
   refine ih r'.length (by omega) rfl hdr hw' hF' C4 H4 (fun b hb=>?_) hnf' hgg (fun s' F'' o''=>?_) (fun s' F''=>?_)
   ·rcases hfp' b hb with z|z
    ·exact hfp b z
    ·exact nT C1.size z
   ·rw[←he]; exact h1 s' F'' o''
   ·rw[←he]; exact h2 s' F''
  have c40:=nx_c40 (o:=o) hnx
  have c41:=nx_c41 (o:=o) hnx
  have cot:=nx_cot (o:=o) hnx
  have v0:∀{b:Bool},(cs=[40]↔b=true)→sEq ⟨⟨cs⟩⟩ [40]=b:=fun {b} h=>by
   unfold sEq; rw[sEq_eq]; cases b<;>simp_all
  have v1:∀{b:Bool},(cs=[41]↔b=true)→sEq ⟨⟨cs⟩⟩ [41]=b:=fun {b} h=>by
   unfold sEq; rw[sEq_eq]; cases b<;>simp_all
  have v2:∀{b:Bool},(o-1<0↔b=true)→dLt (o-1) 0=b:=fun {b} h=>by
   rw[dLt_eq]; cases b<;>simp_all
  have dA:A.depth+60<1000:=by omega
  clear ih hnf' hfp' hny H' dj H1 C1 F1 F2 hy hsy H C hnx hdr hw' hlen lo log hfp hnf hgg
  by_cases h40:cs=[40]
  ·have q0:=v0 (b:=true) (by simp[h40])
   rcases hF with⟨to,rfl⟩|⟨to,q,rfl⟩
   ·refine C3.startT ke0 hA dA (C3.again (E 4 W p o to _ _ y _ ti _ tc _ _) (hv1 q0) noE rfl ?_)
    intro s3 C4 _ F4
    exact fin (.inr ⟨_,_,rfl⟩) C4 F4 (c40 h40)
   ·refine C3.startT ke0 hA dA (C3.again (E 8 W p q o to _ _ y _ ti _ tc _ _) (hv1 q0) noE rfl ?_)
    intro s3 C4 _ F4
    exact fin (.inr ⟨_,_,rfl⟩) C4 F4 (c40 h40)
  ·have q0:=v0 (b:=false) (by simp[h40])
   by_cases h41:cs=[41]
   ·have q1:=v1 (b:=true) (by simp[h41])
    by_cases hneg:o-1<0
    ·have q2:=v2 (b:=true) (by simp[hneg])
     have hn:chk r o=none:=by rw[c41 h41,if_pos hneg]
     rcases hF with⟨to,rfl⟩|⟨to,q,rfl⟩
     ·refine C3.startT ke0 hA dA (C3.ret (E 7 W p o to _ _ y _ ti _ tc _ _) (hv3 q2 q1 q0) noE rfl ?_)
      intro s3 C4 _ F4
      exact h2 s3 _ C4 hn
     ·refine C3.startT ke0 hA dA (C3.ret (E 11 W p q o to _ _ y _ ti _ tc _ _) (hv3 q2 q1 q0) noE rfl ?_)
      intro s3 C4 _ F4
      exact h2 s3 _ C4 hn
    ·have q2:=v2 (b:=false) (by simp[hneg])
     have hn:chk r o=chk r' (o-1):=by rw[c41 h41,if_neg hneg]
     rcases hF with⟨to,rfl⟩|⟨to,q,rfl⟩
     ·refine C3.startT ke0 hA dA (C3.again (E 6 W p o to _ _ y _ ti _ tc _ _) (hv3 q2 q1 q0) noE rfl ?_)
      intro s3 C4 _ F4
      exact fin (.inr ⟨_,_,rfl⟩) C4 F4 hn
     ·refine C3.startT ke0 hA dA (C3.again (E 10 W p q o to _ _ y _ ti _ tc _ _) (hv3 q2 q1 q0) noE rfl ?_)
      intro s3 C4 _ F4
      exact fin (.inr ⟨_,_,rfl⟩) C4 F4 hn
   ·have q1:=v1 (b:=false) (by simp[h41])
    rcases hF with⟨to,rfl⟩|⟨to,q,rfl⟩
    ·refine C3.startT ke0 hA dA (C3.again (E 5 W p o to _ _ y _ ti _ tc _ _) (hv2 q1 q0) noE rfl ?_)
     intro s3 C4 _ F4
     exact fin (.inr ⟨_,_,rfl⟩) C4 F4 (cot h40 h41)
    ·refine C3.startT ke0 hA dA (C3.again (E 9 W p q o to _ _ y _ ti _ tc _ _) (hv2 q1 q0) noE rfl ?_)
     intro s3 C4 _ F4
     exact fin (.inr ⟨_,_,rfl⟩) C4 F4 (cot h40 h41)
end
end CP
namespace CP
section
theorem part2(E:Evs kt)(EG:G.EvsG kt)(NL:EvNL kt){p:Pr}{s4:Shared}{fp:List Addr}(hA:A.handled=none)(hd:A.depth+140<1000)(asc':p.y.cps.all (·<128)=true)(hw':G.wf p.y.cps.toList false=true)
  (C4:Cur kt W s [] [] s4 [(p.n,frL W p 0 (p.t'+1)),(p.g,G.genO p.gg p.tn)]) (H4:G.GenAt kt W s4 p.g p.gg p.tn p.y 0 fp) (hfp:∀b∈fp,s.heap.objs.size≤b) (nfp:p.n∉fp) (hg:s.gens.size≤p.gg) (e1o:(oMd (a1 kt W p.n p.t p.x p.tx p.y p.ty p.n' p.t')).isGen=false)
  (h2:s4.heap.objs.size=p.n2) (h3:s4.toks=p.t2)
  (k:∀s',Fut [] [] s s'→R (.ok (.ret (.bool (chkB p.y.cps.toList)))) s') :
  Mean W A R P (oCc (a1 kt W p.n p.t p.x p.tx p.y p.ty p.n' p.t')) (oMd (a1 kt W p.n p.t p.x p.tx p.y p.ty p.n' p.t')) (oK (a1 kt W p.n p.t p.x p.tx p.y p.ty p.n' p.t') (.ok (.ret (.ref p.g)))) s4:=by
 have st:∀{Q:Out→Prop},Q (a2 kt W p)→Q (on kt W s4.heap.objs.size s4.toks (a1 kt W p.n p.t p.x p.tx p.y p.ty p.n' p.t') (.ok (.ret (.ref p.g))) [(p.n,frL W p 0 (p.t'+1)),(p.g,G.genO p.gg p.tn)] (Hx 0x3525255 [])):=fun h=>by rw[h2,h3]; exact h
 refine C4.startT e1o hA (by omega:A.depth+60<1000) (st (Q:=fun o=>Post _ _ false o) (C4.stop (E 2 W p) hA noV noE rfl ?_))
 intro s5 A5 C5 hg5 F5 hA5 hd5 ke2
 have H5:=H4.fut' F5 (by
  refine fc ?_ (fc ?_ fz)
  ·exact nfp
  ·exact H4.na) (C5.ix 1 (p.g,G.genO p.gg p.tn) rfl) (fun h=>nomatch h)
 refine code_of_mean (P:=fun _ _=>False) (loop E EG NL hA5 (by omega) asc' _ (r:=p.y.cps.toList) (i:=0) (o:=0) rfl rfl hw' (.inl ⟨_,rfl⟩) C5 H5 hfp nfp hg ?_ ?_)
 ·intro s6 F' o' C6 hF hc
  have hb:chkB p.y.cps.toList=dEq o' 0:=by rw[dEq_eq]; unfold chkB; rw[hc]
  rcases hF with⟨to,rfl⟩|⟨to,q,rfl⟩
  ·refine C6.startT ke2 hA (by omega:A.depth+60<1000) (C6.ret (E 13 W _ o' to _ _) noV noE rfl ?_)
   intro s7 C7 _ _
   rw[←hb]
   exact k s7 C7.fut
  ·refine C6.startT ke2 hA (by omega:A.depth+60<1000) (C6.ret (E 14 W _ q o' to _ _) noV noE rfl ?_)
   intro s7 C7 _ _
   rw[←hb]
   exact k s7 C7.fut
 ·intro s6 F' C6 hc
  have hb:chkB p.y.cps.toList=false:=by unfold chkB; rw[hc]
  refine C6.startT ke2 hA (by omega:A.depth+60<1000) (C6.ret (E 15 W _ F' _ _) noV noE rfl ?_)
  intro s7 C7 _ _
  have:=k s7 C7.fut
  rw[hb]at this
  exact this
theorem spec(E:Evs kt)(EG:G.EvsG kt)(NL:EvNL kt){f:List Nat→List Nat}(S:StripSpec kt W f){x:Str}{tx:Nat}(B:Base kt W s.heap)(hA:A.handled=none)(hd:A.depth+140<1000)
  (asc:x.cps.all (·<128)=true) (hsz:x.cps.size<2 ^ 19) (hw:G.wf x.cps.toList false=true) (asc':(f x.cps.toList).all (·<128)=true) (hw':G.wf (f x.cps.toList) false=true)
  (k:∀s',Fut [] [] s s'→R (.ok (.ret (.bool (chkB (f x.cps.toList))))) s'):codeAny W.M A (.call (.ref 35) ⟨[.str x tx],[]⟩) R s:=by
 have C0:=Cur.start B [] []
 refine C0.startF hA (by omega:A.depth+60<1000) (by decide) (C0.stop (E 0 W s.heap.objs.size s.toks x tx) hA noV noE rfl ?_)
 intro s₁ A1 C1 hg1 F1 hA1 hd1 ke0
 refine S C1.B hA1 (by omega) asc hsz hw ?_
 intro s2 ty F2
 have C2:=C1.call0 F2
 refine C2.startT ke0 hA (by omega:A.depth+60<1000) (C2.stop (E 1 W s.heap.objs.size s.toks x tx ⟨⟨f x.cps.toList⟩⟩ ty s2.heap.objs.size s2.toks) hA noV noE rfl ?_)
 intro s3 A3 C3 hg3 F3 hA3 hd3 ke1
 refine G.gen_call EG C3.B hA3 (by omega) ?_
 intro s4 a g tn fp F4 H4 hfp ha hg
 have C4:Cur kt W s [] [] s4 [(s.heap.objs.size,frL W ⟨s.heap.objs.size,s.toks,x,tx,⟨⟨f x.cps.toList⟩⟩,ty,s2.heap.objs.size,s2.toks,0,0,0,0,0⟩ 0 (s2.toks+1)),(a,G.genO g tn)]:=C3.callMade F4 fz fz fz fz H4.obj ha
 have h1:s.heap.objs.size<s3.heap.objs.size:=C3.klt (a:=s.heap.objs.size) Z0
 exact part2 E EG NL (p:=⟨s.heap.objs.size,s.toks,x,tx,⟨⟨f x.cps.toList⟩⟩,ty,s2.heap.objs.size,s2.toks,a,g,tn,s4.heap.objs.size,s4.toks⟩) hA hd (by simpa using asc') hw' C4 H4 (fun b hb=>nT C3.size (hfp b hb)) (fun z=>absurd (hfp _ z) (Nat.not_le.mpr h1)) (nT C3.fut.gsz hg) ke1 rfl rfl k
end
end CP
section
variable{e:Eff}
noncomputable def MadeIs:Made→Eff→Prop
 | .val v,e=>e.r=.ok (.ret v)∧e.dt=0
 | .str y,e=>y.length≤sizeLine∧e.r=.ok (.ret (.str y e.t))∧e.dt=1
 | .int i,e=>e.r=.ok (.ret (.int i e.t))∧e.dt=1
 | _,_=>False
theorem MadeIs.post{m:Made}(h:MadeIs m e)(hu:e.upd=none)(hn:e.new=[])(ht:s.toks=e.t)(hR:R e.r {s with heap:=e.heap s.heap,toks:=s.toks+e.dt}):m.post (fun v s'=>R (.ok (.ret v)) s') s:=by
 unfold Eff.heap at hR
 rw[hu,hn]at hR
 cases m with
 | val v =>
  obtain⟨h1,h2⟩:=h
  rw[h1,h2]at hR
  exact hR
 | str y =>
  obtain⟨h0,h1,h2⟩:=h
  rw[h1,h2,←ht]at hR
  exact⟨h0,hR⟩
 | int i =>
  obtain⟨h1,h2⟩:=h
  rw[h1,h2,←ht]at hR
  exact hR
 | _=>exact h.elim
theorem eff_gives{T:String}{name:Str}{id:String}{self:Value}{rest:List Value}{B:Builtin}{m:Made}(hc:e.c=.call (.builtin id) ⟨self::rest,[]⟩)(slot:Slot T name id)(entry:entryFor table id=some B)(ha:argsOk id ⟨self::rest,[]⟩)
  (hT:∀s:Shared,(∀p∈e.pre,s.heap.get? p.1=some p.2)→s.TypeIs self T) (g:Gives (B ⟨self::rest,[]⟩) m) (hu:e.upd=none) (hn:e.new=[]) (hm:MadeIs m e):e.Ok prog w :=
 eff_slot hc slot entry ha hT fun A s R hA hp hn' ht hR=>g prog w A R s (hm.post hu hn ht hR)
theorem eff_str_contains{x y:Str}{t u:Tok}{b:Bool}(hc:e.c=.call (.builtin "str.__contains__") ⟨[.str x t,.str y u],[]⟩)(hu:e.upd=none)(hn:e.new=[])(hr:e.r=.ok (.ret (.bool b)))(hd:e.dt=0)
  (hb:b=!(Builtin.Str.occurrences x y 0 x.length 1).isEmpty):e.Ok prog w :=
 eff_gives hc F.slot_str_contains F.entry_str_contains (F.args_str_contains_2 _ _) (fun s _=>typeIs_str s x t) (gives_str_contains x y t u) hu hn (by subst hb; exact⟨hr,hd⟩)
theorem eff_str_slice{x y:Str}{t u:Tok}{a:Addr}{o:Obj}{i j:Nat}{ti:Tok}{up:Option (Int×Tok)}(hc:e.c=.call (.builtin "str.__getitem__") ⟨[.str x t,.ref a],[]⟩)(hu:e.upd=none)(hn:e.new=[])
  (hp:(a,o)∈e.pre) (ho:o.cls=.type "slice"∧o.data=.fields #[.int i ti,partValue up,.none]) (hup:Builtin.Str.strSliceIndices (some (i:Int)) (up.map (·.1)) 1 x.length=Builtin.Str.strSliceIndices (some (i:Int)) (some (j:Int)) 1 x.length) (hij:i≤j) (hj:j≤x.length)
  (hsz:x.length<2 ^ 20) (hy:y=⟨((x.cps.toList.drop i).take (j-i)).toArray⟩) (hr:e.r=.ok (.ret (.str y u))) (hd:(u=t∧e.dt=0∧j-i=x.length)∨(u=e.t∧e.dt=1∧j-i≠x.length)):e.Ok prog w:=by
 refine eff_slot hc F.slot_str_getitem F.entry_str_getitem (F.args_str_getitem_2 _ _) (fun s _=>typeIs_str s x t) fun A s R hA hpre hn' ht hR=>meets_str_getitem_slice x t a (some (i,ti)) up none rfl prog w A R s ⟨⟨o,hpre _ hp,ho.1,ho.2⟩,?_⟩
 have hpk:slicePicked x (some (i,ti)) up none=(List.range (j-i)).map (fun k=>i+k):=by
  unfold slicePicked
  rw[show(none:Option (Int×Tok)).map (·.1)=none from rfl]
  exact hup.trans (StrLaws.strSliceIndices_plain hij hj)
 have hfm:((slicePicked x (some (i,ti)) up none).filterMap (x.cps[·]?))=(x.cps.toList.drop i).take (j-i):=by
  rw[hpk]
  have:=StrLaws.picks x.cps.toList (j-i) i (by simp only[Array.length_toList]; show i+(j-i)≤x.length; omega)
  simpa using this
 have hlen:(slicePicked x (some (i,ti)) up none).length=j-i:=by rw[hpk]; simp
 refine MadeIs.post ?_ hu hn ht hR
 unfold sliceMade
 rw[hlen]
 rcases hd with⟨h1,h2,h3⟩|⟨h1,h2,h3⟩
 ·rw[if_pos (by simpa using h3)]
  refine⟨?_,h2⟩
  have hi:i=0:=by omega
  have:y=x:=by
   have hx:x.cps.size=j:=by have:j-i=x.cps.size:=h3; omega
   rw[hy,hi,List.drop_zero,Nat.sub_zero,List.take_of_length_le (by simp[hx])]
  rw[hr,this,h1]
 ·rw[if_neg (by simpa using h3),hfm]
  refine⟨?_,?_,h2⟩
  ·show((x.cps.toList.drop i).take (j-i)).toArray.size≤sizeLine
   have:sizeLine=2 ^ 30∨True:=.inr trivial
   have h5:((x.cps.toList.drop i).take (j-i)).toArray.size≤x.length:=by
    simp only[List.size_toArray,List.length_take,List.length_drop,Array.length_toList]
    show min (j-i) (x.length-i)≤x.length
    omega
   have h6:(2:Nat) ^ 20≤sizeLine:=by decide
   omega
  ·rw[hr,hy,h1]
theorem glued_nil_list:∀(ps:List Str),(Builtin.Str.glued ⟨#[]⟩ ps).cps.toList=(ps.map (·.cps.toList)).flatten
 | []=>rfl
 | x::r=>by
  unfold Builtin.Str.glued
  simp only[List.drop_succ_cons,List.drop_zero,List.headD_cons,mp,List.flatten_cons]
  have:∀(r:List Str) (acc:Array Nat),(r.foldl (fun acc p=>acc++(#[]:Array Nat)++p.cps) acc).toList=acc.toList++(r.map (·.cps.toList)).flatten:=by
   intro r
   induction r with
   | nil=>intro acc; simp
   | cons y r ih=>intro acc; rw[List.foldl_cons,ih]; simp
  exact this r x.cps
theorem foldl_len(l:List Str):∀(acc:Nat),l.foldl (fun a p=>a+p.length+0) acc=acc+((l.map (·.cps.toList)).flatten).length:=by
 induction l with
 | nil=>intro acc; simp
 | cons y r ih =>
  intro acc
  rw[List.foldl_cons,ih]
  simp only[mp,List.flatten_cons,lap,Array.length_toList,Nat.add_zero]
  show acc+y.cps.size+_=_
  omega
theorem eff_str_join{l:Addr}{parts:List (Str×Tok)}{n:Nat}{y:Str}{t u:Tok}(hc:e.c=.call (.builtin "str.join") ⟨[.str ⟨⟨[]⟩⟩ t,.ref l],[]⟩)(hu:e.upd=none)(hn:e.new=[])(hp:(l,lst (strValues parts) n)∈e.pre)
  (hy:y=⟨⟨(parts.map (·.1.cps.toList)).flatten⟩⟩) (hsz:((parts.map (·.1.cps.toList)).flatten).length<2 ^ 20) (hr:e.r=.ok (.ret (.str y u))) (hd:(∃p,parts=[p]∧u=p.2∧e.dt=0)∨((∀p,parts≠[p])∧u=e.t∧e.dt=1)):e.Ok prog w:=by
 have hl:Builtin.Str.tooLong ((parts.map (·.1)).toArray.foldl (fun x1 x2=>x1+x2.length+(⟨⟨[]⟩⟩:Str).length) 0)=false:=by
  unfold Builtin.Str.tooLong
  rw[List.foldl_toArray]
  have:=foldl_len (parts.map (·.1)) 0
  rw[show(⟨⟨[]⟩⟩:Str).length=0 from rfl,this]
  rw[List.map_map]
  have h6:(2:Nat) ^ 20≤sizeLine:=by decide
  have h7:(List.map ((fun x=>x.cps.toList)∘fun x=>x.fst) parts)=parts.map (·.1.cps.toList):=rfl
  rw[h7]
  exact decide_eq_false (by omega)
 refine eff_slot hc F.slot_str_join F.entry_str_join (F.args_str_join_2 _ _) (fun s _=>typeIs_str s _ t) fun A s R hA hpre hn' ht hR=>meets_str_join_list ⟨⟨[]⟩⟩ t l parts hl prog w A R s ⟨?_,?_⟩
 ·have:=lst_isList (hpre _ hp)
  exact this
 refine MadeIs.post ?_ hu hn ht hR
 rcases hd with⟨p,rfl,h1,h2⟩|⟨h0,h1,h2⟩
 ·refine⟨?_,h2⟩
  rw[hr,h1,hy]
  congr 3
  simp
 ·have hj:joinMade ⟨⟨[]⟩⟩ parts=.str (Builtin.Str.glued ⟨⟨[]⟩⟩ (parts.map (·.1))):=by
   match parts,h0 with
   | [],_=>rfl
   | [p],h0=>exact absurd rfl (h0 p)
   | _::_::_,_=>rfl
  have hg:Builtin.Str.glued ⟨⟨[]⟩⟩ (parts.map (·.1))=y:=by
   rw[hy]
   have h3:=glued_nil_list (parts.map (·.1))
   rw[List.map_map]at h3
   cases hq:Builtin.Str.glued ⟨⟨[]⟩⟩ (parts.map (·.1))with
   | mk c =>
    have h4:c.toList=(parts.map (·.1.cps.toList)).flatten:=by
     have:(Builtin.Str.glued ⟨#[]⟩ (parts.map (·.1))).cps.toList=c.toList:=by rw[hq]
     rw[←this,h3]; rfl
    congr 1
    exact Array.toList_inj.mp h4
  rw[hj,hg]
  refine⟨?_,by rw[hr,h1],h2⟩
  rw[hy]
  have h6:(2:Nat) ^ 20≤sizeLine:=by decide
  show((parts.map (·.1.cps.toList)).flatten).length≤sizeLine
  omega
theorem eff_str_add{x y z:Str}{t v u:Tok}(hc:e.c=.call (.builtin "str.__add__") ⟨[.str x t,.str y v],[]⟩)(hu:e.upd=none)(hn:e.new=[])(hz:z=⟨⟨x.cps.toList++y.cps.toList⟩⟩)(hsz:x.cps.size+y.cps.size<2 ^ 20)(hr:e.r=.ok (.ret (.str z u)))
  (hd:(x.cps.size=0∧u=v∧e.dt=0)∨(x.cps.size≠0∧y.cps.size=0∧u=t∧e.dt=0)∨(x.cps.size≠0∧y.cps.size≠0∧u=e.t∧e.dt=1)):e.Ok prog w:=by
 refine eff_gives hc F.slot_str_add F.entry_str_add (F.args_str_add_2 _ _) (fun s _=>typeIs_str s x t) (gives_str_add x y t v) hu hn ?_
 have e1:(x.length==0)=decide (x.cps.size=0):=by show(x.cps.size==0)=_; by_cases h:x.cps.size=0<;>simp[h]
 have e2:(y.length==0)=decide (y.cps.size=0):=by show(y.cps.size==0)=_; by_cases h:y.cps.size=0<;>simp[h]
 rcases hd with⟨h1,h2,h3⟩|⟨h0,h1,h2,h3⟩|⟨h0,h1,h2,h3⟩
 ·rw[if_pos (by rw[e1]; simpa using h1)]
  refine⟨?_,h3⟩
  have hx:x.cps.toList=[]:=by
   have:x.cps.toList.length=0:=by simpa using h1
   exact List.length_eq_zero_iff.mp this
  rw[hr,hz,h2,hx]; rfl
 ·rw[if_neg (by rw[e1]; simpa using h0),if_pos (by rw[e2]; simpa using h1)]
  refine⟨?_,h3⟩
  have hx:y.cps.toList=[]:=by
   have:y.cps.toList.length=0:=by simpa using h1
   exact List.length_eq_zero_iff.mp this
  rw[hr,hz,h2,hx,List.append_nil]
 ·rw[if_neg (by rw[e1]; simpa using h0),if_neg (by rw[e2]; simpa using h1)]
  have hzz:x++y=z:=by
   rw[hz]
   apply Str.ext'
   rw[Str.cps_append]
   apply Array.toList_inj.mp
   simp
  refine⟨?_,by rw[hr,h2,hzz],h3⟩
  have h6:(2:Nat) ^ 20≤sizeLine:=by decide
  rw[Str.length_append]
  show x.cps.size+y.cps.size≤sizeLine
  omega
theorem eff_len_str{x:Str}{t:Tok}(hc:e.c=.call (.builtin "len") ⟨[.str x t],[]⟩)(hu:e.upd=none)(hnew:e.new=[])(hsz:x.cps.size<2 ^ 20)
  (hr:e.r=.ok (.ret (.int (x.cps.size:Int) (e.t+1)))) (hdt:e.dt=2):e.Ok prog w:=by
 refine eff_builtin hc plain_len entry_len (chk_len _) fun A s R hA hpre hn ht hR=>?_
 unfold Builtin.«len»
 refine wpAny_bind (m:=oneArg "len" _) (wpAny_pure ?_)
 refine wpAny_bind (m:=callSpecial? (.str x t) (Str.ofString "__len__")) (wpAny_callSpecial?_slot (name:=Str.ofString "__len__") (typeIs_str s x t) F.slot_str_len (call_gives F.slot_str_len (typeIs_str s x t) F.entry_str_len (F.args_str_len_1 _) (gives_str_len x t) ?_))
 show wpAny _ _ _ _ _ {s with toks:=s.toks+1}
 refine wpAny_bind (wpAny_holding (wpAny_pure ?_))
 refine wpAny_bind (wpAny_letGo ?_)
 show wpAny _ _ (if((x.length:Nat):Int)<0 then _ else _) _ _ _
 rw[if_neg (by omega)]
 have hl:x.length=x.cps.size:=rfl
 show wpAny _ _ (if((x.length:Nat):Int) ≥ 2 ^ 63 then _ else _) _ _ _
 rw[if_neg (by omega)]
 refine wpAny_bind (wpAny_mkInt (wpAny_pure ?_))
 unfold Eff.heap at hR
 rw[hr,hu,hnew,hdt,←ht]at hR
 exact hR
end
namespace SQ
structure Pr where
 n:Nat
 t:Nat
 x:Str
 tx:Nat
 g:Nat
 gg:Nat
 tn:Nat
 n2:Nat
 t2:Nat
noncomputable def sStart:Str:=U16
noncomputable def sOpen:Str:=⟨⟨[111,112,101,110,95,112,111,115]⟩⟩
noncomputable def sRes:Str:=⟨⟨[114,101,115,117,108,116]⟩⟩
noncomputable def frL(W:Wd)(p:Pr)(st:Int)(ts:Nat)(ov:Value):Obj:=fr W.w.params [(G.sAddr,p.t,.str p.x p.tx),(sStart,p.t+3,.int st ts),(sOpen,p.t+4,ov),(sRes,p.t+5,.ref (p.n+1))]
structure Tn where
 kp:Nat
 j:Int
 tj:Nat
 kc:Nat
 c:Str
 tc:Nat
noncomputable def frT(W:Wd)(p:Pr)(st:Int)(ts:Nat)(ov:Value)(q:Tn):Obj:=fr W.w.params [(G.sAddr,p.t,.str p.x p.tx),(sStart,p.t+3,.int st ts),(sOpen,p.t+4,ov),(sRes,p.t+5,.ref (p.n+1)),(G.sPos,q.kp,.int q.j q.tj),(G.sCh,q.kc,.str q.c q.tc)]
noncomputable def p0(n t:Nat)(x:Str)(tx:Nat):Pr:=⟨n,t,x,tx,0,0,0,0,0⟩
noncomputable def sli(a b:Value):Obj:=⟨.type "slice",none,.fields #[a,b,.none],#[]⟩
noncomputable def eSli(x:Str)(tx:Nat)(a b:Value)(ad:Nat)(z:Str)(u d n t:Nat):Eff:=⟨.call (.builtin "str.__getitem__") ⟨[.str x tx,.ref ad],[]⟩,[(ad,sli a b)],none,[],.ok (.ret (.str z u)),d,n,t⟩
noncomputable def eApp(l:Nat)(vs:List Value)(e:Nat)(v:Value)(n t:Nat):Eff:=⟨.call (.builtin "list.append") ⟨[.ref l,v],[]⟩,[(l,lst vs e)],some (l,lst (vs++[v]) (e+1)),[],.ok (.ret .none),0,n,t⟩
noncomputable def eLen(x:Str)(tx n t:Nat):Eff:=⟨.call (.builtin "len") ⟨[.str x tx],[]⟩,[],none,[],.ok (.ret (.int (zN x.cps.size) (t+1))),2,n,t⟩
noncomputable def eJoin(l:Nat)(vs:List Value)(e t0:Nat)(z:Str)(u d n t:Nat):Eff:=⟨.call (.builtin "str.join") ⟨[.str ⟨⟨[]⟩⟩ t0,.ref l],[]⟩,[(l,lst vs e)],none,[],.ok (.ret (.str z u)),d,n,t⟩
noncomputable def eCon(x:Str)(tx t2:Nat)(b:Bool)(n t:Nat):Eff:=⟨.call (.builtin "str.__contains__") ⟨[.str x tx,.str ⟨⟨[34]⟩⟩ t2],[]⟩,[],none,[],.ok (.ret (.bool b)),0,n,t⟩
noncomputable def a0F a W n t x c:=startF (S1 a W n t 60) 28 ⟨[.str x c],[]⟩ [] (Hx 0x421441 (.i [] (.bool false) 0::[.m 0]))
noncomputable def E_a0F kt W:=∀n t x a,RetIs (a0F kt W n t x a) [] [eCon x a (t+1) false (n+1) (t+2)] (.ok (.ret (.str x a))) []
noncomputable def a0T a W n t x c:=startF (S1 a W n t 60) 28 ⟨[.str x c],[]⟩ [] (Hx 0x421441 (.i [] (.bool true) 0::Hx 0x3141444444 []))
noncomputable def E_a0T kt W:=∀n t x a,StopIs (a0T kt W n t x a) [] [eCon x a (t+1) true (n+1) (t+2)] (.call (.ref 21) ⟨[.str x a],[]⟩) 1 [(0,n,frL W (p0 n t x a) 0 (t+2) .none),(1,n+1,lst [] 0)]
noncomputable def a1 a W p:=on a W p.n2 p.t2 (a0T a W p.n p.t p.x p.tx) (rt (.ref p.g)) [(p.n,frL W p 0 (p.t+2) .none),(p.n+1,lst [] 0),(p.g,G.genO p.gg p.tn)] (Hx 0x3626266 [])
noncomputable def E_a1 kt W:=∀p,StopIs (a1 kt W p) [] [] (oC (a1 kt W p)) 1 [(0,p.n,frL W p 0 (p.t+2) .none),(1,p.n+1,lst [] 0),(2,p.g,G.genO p.gg p.tn)]
noncomputable def LC(kt:Params→KT)(W:Wd)(p:Pr):Code:=oC (a1 kt W p)
noncomputable def b0 a W p F b e n t:=startC (S1 a W n t 60) (LC a W p) (.own []) [(p.n,F),(p.n+1,lst b e),(p.g,G.genO p.gg p.tn)] [.m 2,.z]
noncomputable def E_b0 kt W:=∀p F a e n t,StopIs (b0 kt W p F a e n t) [] [] (G.gNext p.g) 1 [(0,p.n,F),(1,p.n+1,lst a e),(2,p.g,G.genO p.gg p.tn)]
noncomputable def cL_other a W p b e n t y j d c f h i:=on a W h i (b0 a W p (frL W p 0 (p.t+2) .none) b e n t) (rt (.ref y)) [(p.n,frL W p 0 (p.t+2) .none),(p.n+1,lst b e),(p.g,G.genO p.gg p.tn),(y,tup [.int j d,.str c f])] (Hx Y3 (.v (.bool false)::Hx 0x32 []))
noncomputable def E_cL_other kt W:=∀p b e n t y j d c f h a,AgainIs (cL_other kt W p b e n t y j d c f h a) [(.bool (CP.sEq c [34]),.bool false)] [] (LC kt W p) [(0,p.n,frT W p 0 (p.t+2) .none ⟨a,j,d,a+1,c,f⟩),(1,p.n+1,lst b e),(2,p.g,G.genO p.gg p.tn)]
noncomputable def cL_open a W p b e n t y j d c f h i:=on a W h i (b0 a W p (frL W p 0 (p.t+2) .none) b e n t) (rt (.ref y)) [(p.n,frL W p 0 (p.t+2) .none),(p.n+1,lst b e),(p.g,G.genO p.gg p.tn),(y,tup [.int j d,.str c f])] (Hx Y3 (.v (.bool true)::Hx 0x344442 []))
noncomputable def E_cL_open kt W:=∀p d e n t y j a c f h b,AgainIs (cL_open kt W p d e n t y j a c f h b) [(.bool (CP.sEq c [34]),.bool true)] [] (LC kt W p) [(0,p.n,frT W p 0 (p.t+2) (.int j a) ⟨b,j,a,b+1,c,f⟩),(1,p.n+1,lst d e),(2,p.g,G.genO p.gg p.tn)]
noncomputable def cT_other a W p q b d f h e n t y j i c k l o:=on a W l o (b0 a W p (frT W p b d f q) h e n t) (rt (.ref y)) [(p.n,frT W p b d f q),(p.n+1,lst h e),(p.g,G.genO p.gg p.tn),(y,tup [.int j i,.str c k])] (Hx Y3 (.v (.bool false)::Hx 0x32 []))
noncomputable def E_cT_other kt W:=∀p q a b d f e n t y j h c i k l,AgainIs (cT_other kt W p q a b d f e n t y j h c i k l) [(.bool (CP.sEq c [34]),.bool false)] [] (LC kt W p) [(0,p.n,frT W p a b d ⟨q.kp,j,h,q.kc,c,i⟩),(1,p.n+1,lst f e),(2,p.g,G.genO p.gg p.tn)]
noncomputable def cT_open a W p q b d f e n t y j h c i k l:=on a W k l (b0 a W p (frT W p b d .none q) f e n t) (rt (.ref y)) [(p.n,frT W p b d .none q),(p.n+1,lst f e),(p.g,G.genO p.gg p.tn),(y,tup [.int j h,.str c i])] (Hx Y3 (.v (.bool true)::Hx 0x344442 []))
noncomputable def E_cT_open kt W:=∀p q b d f e n t y j a c h i k,AgainIs (cT_open kt W p q b d f e n t y j a c h i k) [(.bool (CP.sEq c [34]),.bool true)] [] (LC kt W p) [(0,p.n,frT W p b d (.int j a) ⟨q.kp,j,a,q.kc,c,h⟩),(1,p.n+1,lst f e),(2,p.g,G.genO p.gg p.tn)]
noncomputable def cT_cleq a W p q b d f h i e n t y j k c l o r:=on a W o r (b0 a W p (frT W p b d (.int f h) q) i e n t) (rt (.ref y)) [(p.n,frT W p b d (.int f h) q),(p.n+1,lst i e),(p.g,G.genO p.gg p.tn),(y,tup [.int j k,.str c l])] (Hx Y3 (.v (.bool true)::Hx 0x4442 (.v (.bool false)::Hx 0x344442242 [])))
noncomputable def E_cT_cleq kt W:=∀p q a k b l d e n t y j f c h m i,AgainIs (cT_cleq kt W p q a k b l d e n t y j f c h m i) [(.bool (!(dEq a b)),.bool false),(.bool (CP.sEq c [34]),.bool true)] [] (LC kt W p) [(0,p.n,frT W p (j+1) (i+4) .none ⟨q.kp,j,f,q.kc,c,h⟩),(1,p.n+1,lst d e),(2,p.g,G.genO p.gg p.tn)]
noncomputable def cT_clne b W p q f h i k a e n t y j l c o r w z u d:=on b W r w (b0 b W p (frT W p f h (.int i k) q) a e n t) (rt (.ref y)) [(p.n,frT W p f h (.int i k) q),(p.n+1,lst a e),(p.g,G.genO p.gg p.tn),(y,tup [.int j l,.str c o])] (Hx Y3 (.v (.bool true)::Hx 0x4442 (.v (.bool true)::Hx 0x444555542 (.i [7] (.str z u) d::.u [] 1 (lst (a++[.str z u]) (e+1)) .none 0::Hx 0x34444224 []))))
noncomputable def E_cT_clne kt W:=∀p q f k h l i e n t y j m c o a b z u d,AgainIs (cT_clne kt W p q f k h l i e n t y j m c o a b z u d) [(.bool (!(dEq f h)),.bool true),(.bool (CP.sEq c [34]),.bool true)] [eApp (p.n+1) i e (.str z u) (a+4) (b+(3+d)),eSli p.x p.tx (.int f k) (.int h l) (a+3) z u d (a+4) (b+3)] (LC kt W p) [(0,p.n,frT W p (j+1) (b+(3+d+1)) .none ⟨q.kp,j,m,q.kc,c,o⟩),(1,p.n+1,lst (i++[.str z u]) (e+1)),(2,p.g,G.genO p.gg p.tn)]
noncomputable def d0 a W p F b e n t y c d f:=on a W d f (b0 a W p F b e n t) (.error (.ref y)) [(p.n,F),(p.n+1,lst b e),(p.g,G.genO p.gg p.tn),(y,G.stopIt c)] [.m 3,.s]
noncomputable def E_d0 kt W:=∀p F a e n t y b c d,RetIs (d0 kt W p F a e n t y b c d) [] [] (.ok .next) [(0,p.n,F),(1,p.n+1,lst a e)]
noncomputable def eLF a W p c e n t d f g:=on a W n t (a1 a W p) (.ok .next) [(p.n,frL W p 0 (p.t+2) .none),(p.n+1,lst c e)] (Hx 0x4114 (.i [] (.int (zN p.x.cps.size) (t+1)) 2::.v (.bool false)::Hx 0x42 [.i [1] (.str d f) g]))
noncomputable def E_eLF kt W:=∀p c e n t a b d,RetIs (eLF kt W p c e n t a b d) [(.bool (dLt 0 (zN p.x.cps.size)),.bool false)] [eJoin (p.n+1) c e (t+2) a b d n (t+3),eLen p.x p.tx n t] (.ok (.ret (.str a b))) []
noncomputable def eLT a W p c e n t z u d f g h:=on a W n t (a1 a W p) (.ok .next) [(p.n,frL W p 0 (p.t+2) .none),(p.n+1,lst c e)] (Hx 0x4114 (.i [] (.int (zN p.x.cps.size) (t+1)) 2::.v (.bool true)::Hx 0x44555542 (.i [2] (.str z u) d::.u [] 1 (lst (c++[.str z u]) (e+1)) .none 0::.m 0::[.i [1] (.str f g) h])))
noncomputable def E_eLT kt W:=∀p a e n t z u d b c f,RetIs (eLT kt W p a e n t z u d b c f) [(.bool (dLt 0 (zN p.x.cps.size)),.bool true)] [eJoin (p.n+1) (a++[.str z u]) (e+1) (t+(2+d)) b c f (n+1) (t+(2+d+1)),eApp (p.n+1) a e (.str z u) (n+1) (t+(2+d)),eSli p.x p.tx (.int 0 (p.t+2)) .none n z u d (n+1) (t+2),eLen p.x p.tx n t] (.ok (.ret (.str b c))) []
noncomputable def eTF a W p q c d f g e n t h i j:=on a W n t (a1 a W p) (.ok .next) [(p.n,frT W p c d f q),(p.n+1,lst g e)] (Hx 0x4114 (.i [] (.int (zN p.x.cps.size) (t+1)) 2::.v (.bool false)::Hx 0x42 [.i [1] (.str h i) j]))
noncomputable def E_eTF kt W:=∀p q c g h d e n t a b f,RetIs (eTF kt W p q c g h d e n t a b f) [(.bool (dLt c (zN p.x.cps.size)),.bool false)] [eJoin (p.n+1) d e (t+2) a b f n (t+3),eLen p.x p.tx n t] (.ok (.ret (.str a b))) []
noncomputable def eTT a W p q f g h c e n t z u d i j k:=on a W n t (a1 a W p) (.ok .next) [(p.n,frT W p f g h q),(p.n+1,lst c e)] (Hx 0x4114 (.i [] (.int (zN p.x.cps.size) (t+1)) 2::.v (.bool true)::Hx 0x44555542 (.i [2] (.str z u) d::.u [] 1 (lst (c++[.str z u]) (e+1)) .none 0::.m 0::[.i [1] (.str i j) k])))
noncomputable def E_eTT kt W:=∀p q a g i b e n t z u d c f h,RetIs (eTT kt W p q a g i b e n t z u d c f h) [(.bool (dLt a (zN p.x.cps.size)),.bool true)] [eJoin (p.n+1) (b++[.str z u]) (e+1) (t+(2+d)) c f h (n+1) (t+(2+d+1)),eApp (p.n+1) b e (.str z u) (n+1) (t+(2+d)),eSli p.x p.tx (.int a g) .none n z u d (n+1) (t+2),eLen p.x p.tx n t] (.ok (.ret (.str c f))) []
abbrev Evs:=nF [E_a0F,E_a0T,E_a1,E_b0,E_cL_other,E_cL_open,E_cT_other,E_cT_open,E_cT_cleq,E_cT_clne,E_d0,E_eLF,E_eLT,E_eTF,E_eTT]
end SQ
noncomputable def strE(x:List Nat):List Nat→Nat→Bool→Nat→Option Nat→List (List Nat)→Nat×List (List Nat)
 | [],_,_,st,_,ps=>(st,ps)
 | _::r,i,true,st,op,ps=>strE x r (i+1) false st op ps
 | c::r,i,false,st,op,ps=>if c=92 then strE x r (i+1) true st op ps else if c=34 then
   (match op with
    | none=>strE x r (i+1) false st (some i) ps
    | some o=>strE x r (i+1) false (i+1) none (if st=o then ps else ps++[(x.drop st).take (o-st)]))else strE x r (i+1) false st op ps
theorem strE_b{x:List Nat}{c:Nat}(h:c=92){r:List Nat}{i st:Nat}{op:Option Nat}{ps:List (List Nat)}:strE x (c::r) i false st op ps=strE x r (i+1) true st op ps:=if_pos h
theorem strE_c{x:List Nat}{c:Nat}(h1:c≠92)(h2:c≠34){r:List Nat}{i st:Nat}{op:Option Nat}{ps:List (List Nat)}:strE x (c::r) i false st op ps=strE x r (i+1) false st op ps:=(if_neg h1).trans (if_neg h2)
theorem strE_q{x r:List Nat}{i st:Nat}{ps:List (List Nat)}:strE x (34::r) i false st none ps=strE x r (i+1) false st (some i) ps:=rfl
theorem strE_r{x r:List Nat}{i st o:Nat}{ps:List (List Nat)}:strE x (34::r) i false st (some o) ps=strE x r (i+1) false (i+1) none (if st=o then ps else ps++[(x.drop st).take (o-st)]):=rfl
noncomputable def stripL(x:List Nat):List Nat :=
 let z:=strE x x 0 false 0 none []
 (if z.1<x.length then z.2++[x.drop z.1]else z.2).flatten
namespace SQ
noncomputable def OV(op:Option Nat)(ov:Value):Prop:=(op=none∧ov=.none)∨∃o to,op=some o∧ov=.int (zN o) to
noncomputable def FO(W:Wd)(p:Pr)(st:Nat)(op:Option Nat)(F:Obj):Prop:=(st=0∧op=none∧F=frL W p 0 (p.t+2) .none)∨∃ts ov q,OV op ov∧F=frT W p (zN st) ts ov q
noncomputable def PS(parts:List (Str×Tok))(ps:List (List Nat)):Prop:=parts.map (·.1.cps.toList)=ps
section
theorem he2{a b:Eff}(h:a.Ok prog w)(h':b.Ok prog w):∀e∈[a,b],e.Ok prog w:=by
 refine fc ?_ (fc ?_ fz)<;>assumption
theorem he1{a:Eff}(h:a.Ok prog w):∀e∈[a],e.Ok prog w:=by
 refine fc ?_ fz; assumption
theorem nx_rng{r r':List Nat}{i j i' n:Nat}{cs:List Nat}(h:G.Nx r i j cs i' r')(hi:i≤n)(hl:r.length=n-i):j<n∧i'≤n∧i≤j∧j<i':=by
 cases h with
 | plain c i r hc=>simp only[List.length_cons]at hl; omega
 | esc c i r=>simp only[List.length_cons]at hl; omega
theorem nx_c34{x r r':List Nat}{i j i' st:Nat}{op:Option Nat}{ps:List (List Nat)}{cs:List Nat}(hnx:G.Nx r i j cs i' r')(h:cs=[34]):j=i∧i'=i+1∧strE x r i false st op ps=(match op with
  | none=>strE x r' (i+1) false st (some i) ps
  | some o=>strE x r' (i+1) false (i+1) none (if st=o then ps else ps++[(x.drop st).take (o-st)])):=by
 cases hnx with
 | plain c i r hc=>cases h; exact⟨rfl,rfl,rfl⟩
 | esc c i r=>cases h
theorem nx_cot{x r r':List Nat}{i j i' st:Nat}{op:Option Nat}{ps:List (List Nat)}{cs:List Nat}(hnx:G.Nx r i j cs i' r')(h:cs≠[34]):strE x r i false st op ps=strE x r' i' false st op ps:=by
 cases hnx with
 | plain c i r hc =>
  have h1:c≠34:=fun z=>h (by rw[z])
  exact strE_c hc h1
 | esc c i r=>rfl
theorem loop(E:Evs kt)(EG:G.EvsG kt)(NL:EvNL kt){p:Pr}(hA:A.handled=none)(hd:A.depth+65<1000)(asc:p.x.cps.all (·<128)=true)(hsz:p.x.cps.size<2 ^ 20){s0:Shared}:
  ∀(k:Nat) {r:List Nat} {i st:Nat} {op:Option Nat} {ps:List (List Nat)} {parts:List (Str×Tok)} {e:Nat} {F:Obj} {s:Shared} {fp:List Addr},r.length=k→p.x.cps.toList.drop i=r→i≤p.x.cps.size→G.wf r false=true→FO W p st op F→PS parts ps →
   st≤i→(∀o,op=some o→st≤o∧o<i)→ps.length≤i →
   Cur kt W s0 [] [] s [(p.n,F),(p.n+1,lst (strValues parts) e),(p.g,G.genO p.gg p.tn)]→G.GenAt kt W s p.g p.gg p.tn p.x i fp →
   (∀b∈fp,s0.heap.objs.size≤b)→p.n∉fp→p.n+1∉fp→s0.gens.size≤p.gg →
   (∀s' F' st' op' ps' parts' e',Cur kt W s0 [] [] s' [(p.n,F'),(p.n+1,lst (strValues parts') e')]→FO W p st' op' F'→PS parts' ps'→strE p.x.cps.toList r i false st op ps=(st',ps')→st'≤p.x.cps.size→ps'.length≤p.x.cps.size→R (.ok .next) s') →
   Mean W A R P (LC kt W p) (.own []) (denote table (LC kt W p)) s:=by
 intro k
 induction k using Nat.strongRecOn with
 | _ k ih =>
 intro r i st op ps parts e F s fp hk hr hi hw hF hps hst hop hpl C H hfp hnf hnf2 hgg h1
 have dA:A.depth+60<1000:=by omega
 refine C.startC hA dA (C.stop (E 3 W p F (strValues parts) e s.heap.objs.size s.toks) hA noV noE rfl ?_)
 intro s₁ A1 C1 hg1 F1 hA1 hd1 ke0
 have H1:=H.fut' F1 (by
  refine fc ?_ (fc ?_ (fc ?_ fz))
  ·exact hnf
  ·exact hnf2
  ·exact H.na) (C1.ix 2 (p.g,G.genO p.gg p.tn) rfl) (fun h=>nomatch h)
 have dj:∀b∈fp,b∉ks [(p.n,F),(p.n+1,lst (strValues parts) e),(p.g,G.genO p.gg p.tn)]:=fun b hb z=>by
  simp only[ks,mp,mn,mf,nn,or_false]at z
  rcases z with rfl|rfl|rfl
  ·exact hnf hb
  ·exact hnf2 hb
  ·exact H.na hb
 have lo:∀b∈fp,b∈([]:List Addr)∨s0.heap.objs.size≤b:=fun b hb=>.inr (hfp b hb)
 have log:∀g∈[p.gg],g∈([]:List Nat)∨s0.gens.size≤g:=fun g hg=>.inr (by simp only[ms]at hg; subst hg; exact hgg)
 refine G.gen_step EG NL H1 C1.B hA1 (by omega) asc hr hw ?_ ?_
 ·intro hr0 s2 y tp F2 hy hsy
  have C3:Cur kt W s0 [] [] s2 [(p.n,F),(p.n+1,lst (strValues parts) e),(p.g,G.genO p.gg p.tn),(y,G.stopIt tp)]:=C1.callMade F2 H1.hi dj lo log hy hsy
  refine C3.startT ke0 hA dA (C3.ret (E 10 W p F (strValues parts) e _ _ y tp _ _) noV noE rfl ?_)
  intro s3 C4 _ _
  exact h1 s3 F st op ps parts e C4 hF hps (by rw[hr0]; rfl) (by omega) (by omega)
 ·intro j cs i' r' hnx hdr hw' hlen s2 y ti tc fp' F2 hy hsy H' hny hfp'
  have C3:Cur kt W s0 [] [] s2 [(p.n,F),(p.n+1,lst (strValues parts) e),(p.g,G.genO p.gg p.tn),(y,tup [.int (zN j) ti,.str ⟨⟨cs⟩⟩ tc])]:=C1.callMade F2 H1.hi dj lo log hy hsy
  have nf:∀{b o},(b,o)∈[(p.n,F),(p.n+1,lst (strValues parts) e)]→b∉fp→b∉fp':=fun {b o} hm hb z=>by
   rcases hfp' _ z with z|z
   ·exact hb z
   ·refine absurd (C1.klt (a:=b) ?_) (Nat.not_lt.mpr z)
    simp only[mc,nn,or_false]at hm
    rcases hm with hm|hm
    ·cases hm; exact .head _
    ·cases hm; exact Z1
  have hnf':p.n∉fp':=nf Z0 hnf
  have hnf2':p.n+1∉fp':=nf Z1 hnf2
  have hji:=nx_rng hnx hi (by rw[←hr]; simp)
  have fin:∀{s3 F' st' op' ps' parts' e'},FO W p st' op' F'→PS parts' ps'→st'≤i'→(∀o,op'=some o→st'≤o∧o<i')→ps'.length≤i'→Cur kt W s0 [] [] s3 [(p.n,F'),(p.n+1,lst (strValues parts') e'),(p.g,G.genO p.gg p.tn)] →
    Fut [p.n,p.n+1,p.g,y] [] s2 s3→strE p.x.cps.toList r i false st op ps=strE p.x.cps.toList r' i' false st' op' ps' →
    Mean W A R P (LC kt W p) (.own []) (denote table (LC kt W p)) s3:=by
   intro s3 F' st' op' ps' parts' e' hF' hps' g1 g2 g3 C4 F4 he
   have H4:=H'.fut' F4 (by
    refine fc ?_ (fc ?_ (fc ?_ (fc ?_ fz)))
    ·exact hnf'
    ·exact hnf2'
    ·exact H'.na
    ·exact hny) (C4.ix 2 (p.g,G.genO p.gg p.tn) rfl) (fun h=>nomatch h)
   refine ih r'.length (by omega) rfl hdr hji.2.1 hw' hF' hps' g1 g2 g3 C4 H4 (fun b hb=>?_) hnf' hnf2' hgg ?_
   ·rcases hfp' b hb with z|z
    ·exact hfp b z
    ·exact nT C1.size z
   ·rw[←he]; exact h1
  have c34:=nx_c34 (x:=p.x.cps.toList) (st:=st) (op:=op) (ps:=ps) hnx
  have cot:=nx_cot (x:=p.x.cps.toList) (st:=st) (op:=op) (ps:=ps) hnx
  have v0:∀{b:Bool},(cs=[34]↔b=true)→CP.sEq ⟨⟨cs⟩⟩ [34]=b:=fun {b} h=>by
   unfold CP.sEq; rw[sEq_eq]; cases b<;>simp_all
  clear ih hnf' hnf2' nf hfp' hny H' dj H1 C1 F1 F2 hy hsy H C hnx hdr hw' hlen lo log hfp hnf hnf2 hgg
  by_cases h34:cs=[34]
  ·have q0:=v0 (b:=true) (by simp[h34])
   obtain⟨hj,hi',hE⟩:=c34 h34
   subst hj hi'
   rcases hF with⟨hst0,hop0,rfl⟩|⟨ts,ov,q,hov,rfl⟩
   ·subst hst0 hop0
    refine C3.startT ke0 hA dA (C3.again (E 5 W p (strValues parts) e _ _ y _ ti _ tc _ _) (CP.hv1 q0) noE rfl ?_)
    intro s3 C4 _ F4
    exact fin (st':=0) (op':=some j) (.inr ⟨p.t+2,.int (zN j) ti,_,.inr ⟨j,ti,rfl,rfl⟩,rfl⟩) hps (Nat.zero_le _) (fun o ho=>by cases ho; omega) (by omega) C4 F4 hE
   ·rcases hov with⟨hop0,rfl⟩|⟨o,to,hop0,rfl⟩
    ·subst hop0
     refine C3.startT ke0 hA dA (C3.again (E 7 W p q (zN st) ts (strValues parts) e _ _ y _ ti _ tc _ _) (CP.hv1 q0) noE rfl ?_)
     intro s3 C4 _ F4
     exact fin (st':=st) (op':=some j) (.inr ⟨ts,.int (zN j) ti,_,.inr ⟨j,ti,rfl,rfl⟩,rfl⟩) hps (by omega) (fun o ho=>by cases ho; omega) (by omega) C4 F4 hE
    ·subst hop0
     obtain⟨o1,o2⟩:=hop o rfl
     by_cases hso:st=o
     ·have q1:(!(dEq (zN st) (zN o)))=false:=by rw[dEq_eq,hso]; simp
      refine C3.startT ke0 hA dA (C3.again (E 8 W p q (zN st) ts (zN o) to (strValues parts) e _ _ y _ ti _ tc _ _) (CP.hv2 q1 q0) noE rfl ?_)
      intro s3 C4 _ F4
      exact fin (st':=j+1) (op':=none) (.inr ⟨_,.none,_,.inl ⟨rfl,rfl⟩,rfl⟩) hps (nR _) (fun o ho=>nomatch ho) (by omega) C4 F4 (by rw[hE]; simp[hso])
     ·have q1:(!(dEq (zN st) (zN o)))=true:=by
       rw[dEq_eq]
       have:¬(zN st=zN o):=fun z=>hso (zN.inj z)
       simp only[this,decide_false,Bool.not_false]
      obtain⟨z,hz⟩:∃z:Str,z=⟨⟨(p.x.cps.toList.drop st).take (o-st)⟩⟩:=⟨_,rfl⟩
      have hne:o-st≠p.x.cps.size:=by omega
      have hsl:=eff_str_slice (prog:=PW) (w:=W.w) (e:=eSli p.x p.tx (.int (zN st) ts) (.int (zN o) to) (s2.heap.objs.size+3) z (s2.toks+3) 1 (s2.heap.objs.size+4) (s2.toks+3)) (x:=p.x) (y:=z) (t:=p.tx) (u:=s2.toks+3) (i:=st) (j:=o) (ti:=ts) (up:=some (zN o,to))
       rfl rfl rfl Z0 ⟨rfl,rfl⟩ rfl o1 (by show o≤p.x.cps.size; omega) hsz (by rw[hz]) rfl (.inr ⟨rfl,rfl,hne⟩)
      have hap:=eff_append (prog:=PW) (w:=W.w) (e:=eApp (p.n+1) (strValues parts) e (.str z (s2.toks+3)) (s2.heap.objs.size+4) (s2.toks+(3+1))) rfl Z0 (by
       have:parts.length=ps.length:=by rw[←hps]; simp
       have:(strValues parts).length=parts.length:=by simp[strValues]
       omega) rfl rfl rfl rfl
      refine C3.startT ke0 hA dA (C3.again (E 9 W p q (zN st) ts (zN o) to (strValues parts) e _ _ y _ ti _ tc _ _ z (s2.toks+3) 1) (CP.hv2 q1 q0) (he2 hap hsl) rfl ?_)
      intro s3 C4 _ F4
      have hpl':ps.length+1≤j+1:=by omega
      refine fin (st':=j+1) (op':=none) (ps':=ps++[(p.x.cps.toList.drop st).take (o-st)]) (parts':=parts++[(z,s2.toks+3)]) (.inr ⟨_,.none,_,.inl ⟨rfl,rfl⟩,rfl⟩) (by unfold PS; rw[List.map_append,hps,hz]; rfl) (nR _) (fun o ho=>nomatch ho) (by simpa using hpl) (by
       have:strValues (parts++[(z,s2.toks+3)])=strValues parts++[.str z (s2.toks+3)]:=by simp[strValues]
       rw[this]
       exact C4) F4 (by rw[hE]; simp[hso])
  ·have q0:=v0 (b:=false) (by simp[h34])
   rcases hF with⟨hst0,hop0,rfl⟩|⟨ts,ov,q,hov,rfl⟩
   ·subst hst0 hop0
    refine C3.startT ke0 hA dA (C3.again (E 4 W p (strValues parts) e _ _ y _ ti _ tc _ _) (CP.hv1 q0) noE rfl ?_)
    intro s3 C4 _ F4
    exact fin (st':=0) (op':=none) (.inr ⟨_,.none,_,.inl ⟨rfl,rfl⟩,rfl⟩) hps (Nat.zero_le _) (fun o ho=>nomatch ho) (by omega) C4 F4 (cot h34)
   ·refine C3.startT ke0 hA dA (C3.again (E 6 W p q (zN st) ts ov (strValues parts) e _ _ y _ ti _ tc _ _) (CP.hv1 q0) noE rfl ?_)
    intro s3 C4 _ F4
    exact fin (st':=st) (op':=op) (.inr ⟨_,ov,_,hov,rfl⟩) hps (by omega) (fun o ho=>by have:=hop o ho; omega) (by omega) C4 F4 (cot h34)
end
end SQ
theorem strE_none{x:List Nat}:∀{r:List Nat} {i:Nat} {b:Bool} {st:Nat} {op:Option Nat} {ps:List (List Nat)},(34∉r)→strE x r i b st op ps=(st,ps)
 | [],i,b,st,op,ps,h=>by cases b<;>rfl
 | c::r,i,true,st,op,ps,h=>strE_none (r:=r) fun z=>h (.tail _ z)
 | c::r,i,false,st,op,ps,h=>by
  have h1:c≠34:=fun z=>h (by rw[z]; exact .head _)
  have h2:34∉r:=fun z=>h (.tail _ z)
  by_cases hc:c=92
  ·rw[strE_b hc]; exact strE_none h2
  ·rw[strE_c hc h1]; exact strE_none h2
theorem stripL_none{x:List Nat}(h:34∉x):stripL x=x:=by
 unfold stripL
 rw[strE_none h]
 by_cases hl:0<x.length
 ·simp[hl]
 ·have:x=[]:=List.length_eq_zero_iff.mp (by omega)
  simp[this]
theorem strE_len{x:List Nat}:∀{r:List Nat} {i:Nat} {b:Bool} {st:Nat} {op:Option Nat} {ps:List (List Nat)},x.drop i=r→i≤x.length→st≤i→(∀o,op=some o→st≤o∧o≤i)→ps.flatten.length≤st →
  (strE x r i b st op ps).1≤x.length∧(strE x r i b st op ps).2.flatten.length≤(strE x r i b st op ps).1
 | [],i,b,st,op,ps,h,h1,h2,h3,h4=>by cases b<;>exact⟨by show st≤_; omega,h4⟩
 | c::r,i,true,st,op,ps,h,h1,h2,h3,h4=>by
  have hi:i<x.length:=by
   have:(x.drop i).length=r.length+1:=by rw[h]; rfl
   rw[List.length_drop]at this; omega
  have hr:x.drop (i+1)=r:=by have:=congrArg List.tail h; simpa using this
  exact strE_len (r:=r) hr (by omega) (by omega) (fun o ho=>by have:=h3 o ho; omega) h4
 | c::r,i,false,st,op,ps,h,h1,h2,h3,h4=>by
  have hi:i<x.length:=by
   have:(x.drop i).length=r.length+1:=by rw[h]; rfl
   rw[List.length_drop]at this; omega
  have hr:x.drop (i+1)=r:=by have:=congrArg List.tail h; simpa using this
  by_cases hc:c=92
  ·rw[strE_b hc]
   exact strE_len (r:=r) hr (by omega) (by omega) (fun o ho=>by have:=h3 o ho; omega) h4
  ·by_cases h34:c=34
   ·cases op with
    | none =>
     rw[h34,strE_q]
     exact strE_len (r:=r) hr (by omega) (by omega) (fun o ho=>by cases ho; omega) h4
    | some o =>
     have ho:=h3 o rfl
     rw[h34,strE_r]
     refine strE_len (r:=r) hr (by omega) (by omega) (fun o ho=>nomatch ho) ?_
     split
     ·omega
     ·rw[List.flatten_append,lap]
      simp only[List.flatten_cons,List.flatten_nil,List.append_nil,List.length_take,List.length_drop]
      omega
   ·rw[strE_c hc h34]
    exact strE_len (r:=r) hr (by omega) (by omega) (fun o ho=>by have:=h3 o ho; omega) h4
theorem slice_end{a len:Nat}(h:a≤len):Builtin.Str.strSliceIndices (some (a:Int)) none 1 len=Builtin.Str.strSliceIndices (some (a:Int)) (some (len:Int)) 1 len:=by
 have h2:¬((len:Int)<0):=by omega
 have e2:max (0:Int) (min (len:Int) (len:Int))=len:=by omega
 simp[Builtin.Str.strSliceIndices,h2]
namespace SQ
section
theorem he4{a b c d:Eff}(h1:a.Ok prog w)(h2:b.Ok prog w)(h3:c.Ok prog w)(h4:d.Ok prog w):∀e∈[a,b,c,d],e.Ok prog w:=by
 refine fc ?_ (fc ?_ (fc ?_ (fc ?_ fz)))<;>assumption
theorem join_ok{l:Nat}{parts:List (Str×Tok)}{e t0 n t:Nat}{ps:List (List Nat)}(h:PS parts ps)(hsz:ps.flatten.length<2 ^ 20):∃u d,∀t',t'=t→(eJoin l (strValues parts) e t0 ⟨⟨ps.flatten⟩⟩ u d n t').Ok prog w:=by
 by_cases h1:∃p,parts=[p]
 ·obtain⟨p,hp⟩:=h1
  exact⟨p.2,0,fun t' ht=>eff_str_join (parts:=parts) rfl rfl rfl Z0 (by rw[h]) (by rw[h]; exact hsz) rfl (.inl ⟨p,hp,rfl,rfl⟩)⟩
 ·exact⟨t,1,fun t' ht=>eff_str_join (parts:=parts) rfl rfl rfl Z0 (by rw[h]) (by rw[h]; exact hsz) rfl (.inr ⟨fun p hp=>h1 ⟨p,hp⟩,ht.symm,rfl⟩)⟩
theorem sli_ok{x:Str}{tx st ts ad n t:Nat}(hst:st≤x.cps.size)(hsz:x.cps.size<2 ^ 20):∃u d,(eSli x tx (.int (zN st) ts) .none ad ⟨⟨x.cps.toList.drop st⟩⟩ u d n t).Ok prog w:=by
 have hz:(⟨⟨x.cps.toList.drop st⟩⟩:Str)=⟨((x.cps.toList.drop st).take (x.cps.size-st)).toArray⟩:=by
  rw[List.take_of_length_le (by simp)]
 by_cases h0:st=0
 ·refine⟨tx,0,eff_str_slice (x:=x) (t:=tx) (u:=tx) (i:=st) (j:=x.cps.size) (ti:=ts) (up:=none) rfl rfl rfl Z0 ⟨rfl,rfl⟩ (slice_end hst) hst (nR _) hsz hz rfl (.inl ⟨rfl,rfl,?_⟩)⟩
  show x.cps.size-st=x.cps.size
  omega
 ·refine⟨t,1,eff_str_slice (x:=x) (t:=tx) (u:=t) (i:=st) (j:=x.cps.size) (ti:=ts) (up:=none) rfl rfl rfl Z0 ⟨rfl,rfl⟩ (slice_end hst) hst (nR _) hsz hz rfl (.inr ⟨rfl,rfl,?_⟩)⟩
  show x.cps.size-st≠x.cps.size
  omega
theorem tail(E:Evs kt){p:Pr}{s':Shared}{F:Obj}{st:Nat}{op:Option Nat}{ps:List (List Nat)}{parts:List (Str×Tok)}{e:Nat}(hA:A.handled=none)(hd:A.depth+60<1000)(hsz:p.x.cps.size<2 ^ 20)(hg:(oMd (a1 kt W p)).isGen=false)
  (C:Cur kt W s [] [] s' [(p.n,F),(p.n+1,lst (strValues parts) e)]) (hF:FO W p st op F) (hps:PS parts ps) (hst:st≤p.x.cps.size) (hpl:ps.length≤p.x.cps.size) (hfl:(ps++[p.x.cps.toList.drop st]).flatten.length<2 ^ 20)
  (k:∀s' ty,Fut [] [] s s'→R (.ok (.ret (.str ⟨⟨(if st<p.x.cps.toList.length then ps++[p.x.cps.toList.drop st]else ps).flatten⟩⟩ ty))) s') :
  Mean W A R P (oCc (a1 kt W p)) (oMd (a1 kt W p)) (oK (a1 kt W p) (.ok .next)) s':=by
 have hlen:∀{n t},(eLen p.x p.tx n t).Ok PW W.w:=eff_len_str rfl rfl rfl hsz rfl rfl
 have hxl:p.x.cps.toList.length=p.x.cps.size:=by simp
 by_cases hlt:st<p.x.cps.size
 ·have q0:dLt (zN st) (zN p.x.cps.size)=true:=by rw[dLt_eq]; exact decide_eq_true (Int.ofNat_lt.mpr hlt)
  obtain⟨z,hz⟩:∃z:Str,z=⟨⟨p.x.cps.toList.drop st⟩⟩:=⟨_,rfl⟩
  have hk:=k
  rw[hxl,if_pos hlt]at hk
  have hsv:∀u,strValues (parts++[(z,u)])=strValues parts++[.str z u]:=fun u=>by simp[strValues]
  have hps':∀u,PS (parts++[(z,u)]) (ps++[p.x.cps.toList.drop st]):=fun u=>by unfold PS; rw[List.map_append,hps,hz]; rfl
  have hap:∀u n t,(eApp (p.n+1) (strValues parts) e (.str z u) n t).Ok PW W.w:=fun u n t=>eff_append rfl Z0 (by
   have:parts.length=ps.length:=by rw[←hps]; simp
   have:(strValues parts).length=parts.length:=by simp[strValues]
   omega) rfl rfl rfl rfl
  rcases hF with⟨hst0,hop0,rfl⟩|⟨ts,ov,q,hov,rfl⟩
  ·subst hst0
   obtain⟨u,d,hsl⟩:=sli_ok (prog:=PW) (w:=W.w) (x:=p.x) (tx:=p.tx) (st:=0) (ts:=p.t+2) (ad:=s'.heap.objs.size) (n:=s'.heap.objs.size+1) (t:=s'.toks+2) hst hsz
   rw[←hz]at hsl
   obtain⟨u2,d2,hj⟩:=join_ok (prog:=PW) (w:=W.w) (l:=p.n+1) (e:=e+1) (t0:=s'.toks+(2+d)) (n:=s'.heap.objs.size+1) (t:=s'.toks+(2+d+1)) (hps' u) hfl
   rw[hsv]at hj
   refine C.startT hg hA hd (C.ret (E 12 W p (strValues parts) e _ _ z u d ⟨⟨(ps++[p.x.cps.toList.drop 0]).flatten⟩⟩ u2 d2) (CP.hv1 q0) (he4 (hj _ rfl) (hap _ _ _) hsl hlen) rfl ?_)
   intro s3 C4 _ _
   exact hk s3 u2 C4.fut
  ·obtain⟨u,d,hsl⟩:=sli_ok (prog:=PW) (w:=W.w) (x:=p.x) (tx:=p.tx) (st:=st) (ts:=ts) (ad:=s'.heap.objs.size) (n:=s'.heap.objs.size+1) (t:=s'.toks+2) hst hsz
   rw[←hz]at hsl
   obtain⟨u2,d2,hj⟩:=join_ok (prog:=PW) (w:=W.w) (l:=p.n+1) (e:=e+1) (t0:=s'.toks+(2+d)) (n:=s'.heap.objs.size+1) (t:=s'.toks+(2+d+1)) (hps' u) hfl
   rw[hsv]at hj
   refine C.startT hg hA hd (C.ret (E 14 W p q (zN st) ts ov (strValues parts) e _ _ z u d ⟨⟨(ps++[p.x.cps.toList.drop st]).flatten⟩⟩ u2 d2) (CP.hv1 q0) (he4 (hj _ rfl) (hap _ _ _) hsl hlen) rfl ?_)
   intro s3 C4 _ _
   exact hk s3 u2 C4.fut
 ·have q0:dLt (zN st) (zN p.x.cps.size)=false:=by rw[dLt_eq]; exact decide_eq_false (fun h=>hlt (Int.ofNat_lt.mp h))
  have hfl':ps.flatten.length<2 ^ 20:=by rw[List.flatten_append,lap]at hfl; omega
  obtain⟨u,d,hj⟩:=join_ok (prog:=PW) (w:=W.w) (l:=p.n+1) (e:=e) (t0:=s'.toks+2) (n:=s'.heap.objs.size) (t:=s'.toks+3) hps hfl'
  have hk:=k
  rw[hxl,if_neg hlt]at hk
  rcases hF with⟨hst0,hop0,rfl⟩|⟨ts,ov,q,hov,rfl⟩
  ·subst hst0
   refine C.startT hg hA hd (C.ret (E 11 W p (strValues parts) e _ _ ⟨⟨ps.flatten⟩⟩ u d) (CP.hv1 q0) (he2 (hj _ rfl) hlen) rfl ?_)
   intro s3 C4 _ _
   exact hk s3 u C4.fut
  ·refine C.startT hg hA hd (C.ret (E 13 W p q (zN st) ts ov (strValues parts) e _ _ ⟨⟨ps.flatten⟩⟩ u d) (CP.hv1 q0) (he2 (hj _ rfl) hlen) rfl ?_)
   intro s3 C4 _ _
   exact hk s3 u C4.fut
theorem part2(E:Evs kt)(EG:G.EvsG kt)(NL:EvNL kt){p:Pr}{s4:Shared}{fp:List Addr}(hA:A.handled=none)(hd:A.depth+70<1000)(asc:p.x.cps.all (·<128)=true)(hsz:p.x.cps.size<2 ^ 19)(hw:G.wf p.x.cps.toList false=true)
  (C4:Cur kt W s [] [] s4 [(p.n,frL W p 0 (p.t+2) .none),(p.n+1,lst [] 0),(p.g,G.genO p.gg p.tn)]) (H4:G.GenAt kt W s4 p.g p.gg p.tn p.x 0 fp) (hfp:∀b∈fp,s.heap.objs.size≤b) (nfp:p.n∉fp) (nfp2:p.n+1∉fp) (hg:s.gens.size≤p.gg)
  (e0o:(oMd (a0T kt W p.n p.t p.x p.tx)).isGen=false) (h2:s4.heap.objs.size=p.n2) (h3:s4.toks=p.t2)
  (k:∀s' ty,Fut [] [] s s'→R (.ok (.ret (.str ⟨⟨stripL p.x.cps.toList⟩⟩ ty))) s') :
  Mean W A R P (oCc (a0T kt W p.n p.t p.x p.tx)) (oMd (a0T kt W p.n p.t p.x p.tx)) (oK (a0T kt W p.n p.t p.x p.tx) (.ok (.ret (.ref p.g)))) s4:=by
 have st:∀{Q:Out→Prop},Q (a1 kt W p)→Q (on kt W s4.heap.objs.size s4.toks (a0T kt W p.n p.t p.x p.tx) (.ok (.ret (.ref p.g))) [(p.n,frL W p 0 (p.t+2) .none),(p.n+1,lst [] 0),(p.g,G.genO p.gg p.tn)] (Hx 0x3626266 [])):=fun h=>by rw[h2,h3]; exact h
 have dA:A.depth+60<1000:=by omega
 refine C4.startT e0o hA dA (st (Q:=fun o=>Post _ _ false o) (C4.stop (E 2 W p) hA noV noE rfl ?_))
 intro s5 A5 C5 hg5 F5 hA5 hd5 ke2
 have H5:=H4.fut' F5 (by
  refine fc ?_ (fc ?_ (fc ?_ fz))
  ·exact nfp
  ·exact nfp2
  ·exact H4.na) (C5.ix 2 (p.g,G.genO p.gg p.tn) rfl) (fun h=>nomatch h)
 refine code_of_mean (P:=fun _ _=>False) (loop E EG NL hA5 (by omega) asc (by omega) _ (r:=p.x.cps.toList) (i:=0) (st:=0) (op:=none) (ps:=[]) (parts:=[]) (e:=0) rfl rfl (Nat.zero_le _) hw (.inl ⟨rfl,rfl,rfl⟩) rfl (nR _) (fun o ho=>nomatch ho) (nR _) C5 H5 hfp nfp nfp2 hg ?_)
 intro s6 F' st' op' ps' parts' e' C6 hF hps hE hst hpl
 have hl:=strE_len (x:=p.x.cps.toList) (r:=p.x.cps.toList) (i:=0) (b:=false) (st:=0) (op:=none) (ps:=[]) rfl (Nat.zero_le _) (nR _) (fun o ho=>nomatch ho) (nR _)
 rw[hE]at hl
 refine tail E hA dA (by omega) ke2 C6 hF hps hst hpl ?_ ?_
 ·rw[List.flatten_append,lap]
  simp only[List.flatten_cons,List.flatten_nil,List.append_nil,List.length_drop,Array.length_toList]at hl ⊢
  omega
 ·intro s7 ty F7
  have:=k s7 ty F7
  unfold stripL at this
  rw[hE]at this
  exact this
theorem spec(E:Evs kt)(EG:G.EvsG kt)(NL:EvNL kt){x:Str}{tx:Nat}(B:Base kt W s.heap)(hA:A.handled=none)(hd:A.depth+130<1000)(asc:x.cps.all (·<128)=true)(hsz:x.cps.size<2 ^ 19)(hw:G.wf x.cps.toList false=true)
  (k:∀s' ty,Fut [] [] s s'→R (.ok (.ret (.str ⟨⟨stripL x.cps.toList⟩⟩ ty))) s'):codeAny W.M A (.call (.ref 28) ⟨[.str x tx],[]⟩) R s:=by
 have C0:=Cur.start B [] []
 have dA:A.depth+60<1000:=by omega
 cases hb:!(Builtin.Str.occurrences x ⟨⟨[34]⟩⟩ 0 x.length 1).isEmpty with
 | false =>
  have hno:34∉x.cps.toList:=fun z=>by
   obtain⟨i,hi⟩:=List.getElem?_of_mem z
   have:=(StrLaws.found_iff x ⟨⟨[34]⟩⟩).mpr ⟨i,(StrLaws.subAt_one x 34 i).mpr hi⟩
   rw[hb]at this
   cases this
  refine C0.startF hA dA (by decide) (C0.ret (E 0 W s.heap.objs.size s.toks x tx) noV (he1 (eff_str_contains rfl rfl rfl rfl rfl hb.symm)) rfl ?_)
  intro s₁ C1 _ _
  have:=k s₁ tx C1.fut
  rw[stripL_none hno]at this
  exact this
 | true =>
  refine C0.startF hA dA (by decide) (C0.stop (E 1 W s.heap.objs.size s.toks x tx) hA noV (he1 (eff_str_contains rfl rfl rfl rfl rfl hb.symm)) rfl ?_)
  intro s3 A3 C3 hg3 F3 hA3 hd3 ke0
  refine G.gen_call EG C3.B hA3 (by omega) ?_
  intro s4 a g tn fp F4 H4 hfp ha hg
  have C4:=C3.callMade F4 fz fz fz fz H4.obj ha
  have h1:s.heap.objs.size<s3.heap.objs.size:=C3.klt (a:=s.heap.objs.size) Z0
  have h1':s.heap.objs.size+1<s3.heap.objs.size:=C3.klt (a:=s.heap.objs.size+1) Z1
  exact part2 E EG NL (p:=⟨s.heap.objs.size,s.toks,x,tx,a,g,tn,s4.heap.objs.size,s4.toks⟩) hA (by omega) asc hsz hw C4 H4 (fun b hb=>nT C3.size (hfp b hb)) (fun z=>absurd (hfp _ z) (Nat.not_le.mpr h1)) (fun z=>absurd (hfp _ z) (Nat.not_le.mpr h1')) (nT C3.fut.gsz hg) ke0 rfl rfl k
end
end SQ
theorem strip_spec(E:SQ.Evs kt)(EG:G.EvsG kt)(NL:EvNL kt):StripSpec kt W stripL:=fun B hA hd asc hsz hw k=>SQ.spec E EG NL B hA hd asc hsz hw k
namespace SY
structure Pr where
 n:Nat
 t:Nat
 x:Str
 tx:Nat
 g:Nat
 gg:Nat
 tn:Nat
 n2:Nat
 t2:Nat
noncomputable def sText:Str:=U1
noncomputable def sQuoted:Str:=⟨⟨[113,117,111,116,101,100]⟩⟩
noncomputable def sName:Str:=⟨⟨[110,97,109,101]⟩⟩
noncomputable def sSym:Str:=U17
noncomputable def sPlace:Str:=U18
noncomputable def sPiece:Str:=⟨⟨[112,105,101,99,101]⟩⟩
noncomputable def frL(W:Wd)(p:Pr):Obj:=fr W.w.params [(sText,p.t,.str p.x p.tx),(sQuoted,p.t+1,.bool false),(sName,p.t+3,.str ⟨⟨[]⟩⟩ (p.t+2)),(sSym,p.t+4,.ref (p.n+1))]
structure Tn where
 kp:Nat
 j:Int
 tj:Nat
 kc:Nat
 c:Str
 tc:Nat
noncomputable def frT(W:Wd)(p:Pr)(b:Bool)(nm:Str)(tm:Nat)(q:Tn):Obj:=fr W.w.params [(sText,p.t,.str p.x p.tx),(sQuoted,p.t+1,.bool b),(sName,p.t+3,.str nm tm),(sSym,p.t+4,.ref (p.n+1)),(sPlace,q.kp,.int q.j q.tj),(sPiece,q.kc,.str q.c q.tc)]
noncomputable def p0(n t:Nat)(x:Str)(tx:Nat):Pr:=⟨n,t,x,tx,0,0,0,0,0⟩
noncomputable def eAdd(x:Str)(tx:Nat)(y:Str)(ty:Nat)(z:Str)(u d n t:Nat):Eff:=⟨.call (.builtin "str.__add__") ⟨[.str x tx,.str y ty],[]⟩,[],none,[],.ok (.ret (.str z u)),d,n,t⟩
noncomputable def getTok(nm:Str)(tm:Nat):Code:=.call (.builtin "dict.__getitem__") ⟨[.ref 78,.str nm tm],[]⟩
noncomputable def a0 a W n t x c:=startF (S1 a W n t 60) 139 ⟨[.str x c],[]⟩ [] (Hx 0x314144444421441 [])
noncomputable def E_a0 kt W:=∀n t x a,StopIs (a0 kt W n t x a) [] [] (.call (.ref 21) ⟨[.str x a],[]⟩) 1 [(0,n,frL W (p0 n t x a)),(1,n+1,lst [] 0)]
noncomputable def a1 a W p:=on a W p.n2 p.t2 (a0 a W p.n p.t p.x p.tx) (rt (.ref p.g)) [(p.n,frL W p),(p.n+1,lst [] 0),(p.g,G.genO p.gg p.tn)] (Hx 0x3626266 [])
noncomputable def E_a1 kt W:=∀p,StopIs (a1 kt W p) [] [] (oC (a1 kt W p)) 1 [(0,p.n,frL W p),(1,p.n+1,lst [] 0),(2,p.g,G.genO p.gg p.tn)]
noncomputable def LC(kt:Params→KT)(W:Wd)(p:Pr):Code:=oC (a1 kt W p)
noncomputable def b0 a W p F b e n t:=startC (S1 a W n t 60) (LC a W p) (.own []) [(p.n,F),(p.n+1,lst b e),(p.g,G.genO p.gg p.tn)] [.m 2,.z]
noncomputable def E_b0 kt W:=∀p F a e n t,StopIs (b0 kt W p F a e n t) [] [] (G.gNext p.g) 1 [(0,p.n,F),(1,p.n+1,lst a e),(2,p.g,G.genO p.gg p.tn)]
noncomputable def cL_s0 a W p d e n t y j f c h i k:=on a W i k (b0 a W p (frL W p) d e n t) (rt (.ref y)) [(p.n,frL W p),(p.n+1,lst d e),(p.g,G.genO p.gg p.tn),(y,tup [.int j f,.str ⟨⟨[c]⟩⟩ h])] (Hx Y3 (.v (.bool false)::Hx Y21 (.v (.bool false)::Hx 0x3111414555542 [])))
noncomputable def E_cL_s0 kt W:=∀p d e n t y j f c a h b,StopIs (cL_s0 kt W p d e n t y j f c a h b) [(.bool false,.bool false),(.bool (CP.sEq ⟨⟨[c]⟩⟩ [34]),.bool false)] [] (getTok ⟨⟨[c]⟩⟩ a) 1 [(0,p.n,frT W p false ⟨⟨[]⟩⟩ (p.t+2) ⟨b,j,f,b+1,⟨⟨[c]⟩⟩,a⟩),(1,p.n+1,lst d e),(2,p.g,G.genO p.gg p.tn)]
noncomputable def cT_qF a W p q b d f e n t y j h c i k l:=on a W k l (b0 a W p (frT W p false b d q) f e n t) (rt (.ref y)) [(p.n,frT W p false b d q),(p.n+1,lst f e),(p.g,G.genO p.gg p.tn),(y,tup [.int j h,.str ⟨⟨[c]⟩⟩ i])] (Hx Y3 (.v (.bool true)::Hx 0x34442 []))
noncomputable def E_cT_qF kt W:=∀p q a b d e n t y j f c h i k,AgainIs (cT_qF kt W p q a b d e n t y j f c h i k) [(.bool (CP.sEq ⟨⟨[c]⟩⟩ [34]),.bool true)] [] (LC kt W p) [(0,p.n,frT W p true a b ⟨q.kp,j,f,q.kc,⟨⟨[c]⟩⟩,h⟩),(1,p.n+1,lst d e),(2,p.g,G.genO p.gg p.tn)]
noncomputable def cT_qT a W p q b d f e n t y j h c i k l:=on a W k l (b0 a W p (frT W p true b d q) f e n t) (rt (.ref y)) [(p.n,frT W p true b d q),(p.n+1,lst f e),(p.g,G.genO p.gg p.tn),(y,tup [.int j h,.str ⟨⟨[c]⟩⟩ i])] (Hx Y3 (.v (.bool true)::Hx 0x34442 []))
noncomputable def E_cT_qT kt W:=∀p q a b d e n t y j f c h i k,AgainIs (cT_qT kt W p q a b d e n t y j f c h i k) [(.bool (CP.sEq ⟨⟨[c]⟩⟩ [34]),.bool true)] [] (LC kt W p) [(0,p.n,frT W p false a b ⟨q.kp,j,f,q.kc,⟨⟨[c]⟩⟩,h⟩),(1,p.n+1,lst d e),(2,p.g,G.genO p.gg p.tn)]
noncomputable def cT_nq a W p q b f h e n t y j i c k l o z u d:=on a W l o (b0 a W p (frT W p true b f q) h e n t) (rt (.ref y)) [(p.n,frT W p true b f q),(p.n+1,lst h e),(p.g,G.genO p.gg p.tn),(y,tup [.int j i,.str ⟨⟨[c]⟩⟩ k])] (Hx Y3 (.v (.bool false)::Hx 0x22224442 (.i [] (.str z u) d::Hx 0x344 [])))
noncomputable def E_cT_nq kt W:=∀p q b f h e n t y j i c k l a z u d,AgainIs (cT_nq kt W p q b f h e n t y j i c k l a z u d) [(.bool (CP.sEq ⟨⟨[c]⟩⟩ [34]),.bool false)] [eAdd b f ⟨⟨[c]⟩⟩ (a+5) z u d (l+3) (a+6)] (LC kt W p) [(0,p.n,frT W p true z u ⟨q.kp,j,i,q.kc,⟨⟨[c]⟩⟩,k⟩),(1,p.n+1,lst h e),(2,p.g,G.genO p.gg p.tn)]
noncomputable def cT_esc a W p q f h i e n t y j k c l o r z u d:=on a W o r (b0 a W p (frT W p false f h q) i e n t) (rt (.ref y)) [(p.n,frT W p false f h q),(p.n+1,lst i e),(p.g,G.genO p.gg p.tn),(y,tup [.int j k,.str ⟨⟨[92,c]⟩⟩ l])] (Hx Y3 (.v (.bool false)::Hx 0x22224422222241142 (.i [] (.str z u) d::Hx 0x344 [])))
noncomputable def E_cT_esc kt W:=∀p q b f h e n t y j i c k l a z u d,AgainIs (cT_esc kt W p q b f h e n t y j i c k l a z u d) [(.bool (CP.sEq ⟨⟨[92,c]⟩⟩ [34]),.bool false)] [eAdd b f ⟨⟨[c]⟩⟩ (a+8) z u d (l+3) (a+9)] (LC kt W p) [(0,p.n,frT W p false z u ⟨q.kp,j,i,q.kc,⟨⟨[92,c]⟩⟩,k⟩),(1,p.n+1,lst h e),(2,p.g,G.genO p.gg p.tn)]
noncomputable def cT_s0 a W p q d f h e n t y j i c k l o:=on a W l o (b0 a W p (frT W p false d f q) h e n t) (rt (.ref y)) [(p.n,frT W p false d f q),(p.n+1,lst h e),(p.g,G.genO p.gg p.tn),(y,tup [.int j i,.str ⟨⟨[c]⟩⟩ k])] (Hx Y3 (.v (.bool false)::Hx Y21 (.v (.bool false)::Hx 0x3111414555542 [])))
noncomputable def E_cT_s0 kt W:=∀p q a d f e n t y j h c b i k,StopIs (cT_s0 kt W p q a d f e n t y j h c b i k) [(.bool (!(a.cps.toList==([]:List Nat))),.bool false),(.bool (CP.sEq ⟨⟨[c]⟩⟩ [34]),.bool false)] [] (getTok ⟨⟨[c]⟩⟩ b) 1 [(0,p.n,frT W p false a d ⟨q.kp,j,h,q.kc,⟨⟨[c]⟩⟩,b⟩),(1,p.n+1,lst f e),(2,p.g,G.genO p.gg p.tn)]
noncomputable def cT_s1 a W p q d f h e n t y j i c k l o:=on a W l o (b0 a W p (frT W p false d f q) h e n t) (rt (.ref y)) [(p.n,frT W p false d f q),(p.n+1,lst h e),(p.g,G.genO p.gg p.tn),(y,tup [.int j i,.str ⟨⟨[c]⟩⟩ k])] (Hx Y3 (.v (.bool false)::Hx Y21 (.v (.bool true)::Hx 0x31114114555542 [])))
noncomputable def E_cT_s1 kt W:=∀p q a b d e n t y j f c h i k,StopIs (cT_s1 kt W p q a b d e n t y j f c h i k) [(.bool (!(a.cps.toList==([]:List Nat))),.bool true),(.bool (CP.sEq ⟨⟨[c]⟩⟩ [34]),.bool false)] [] (getTok a b) 1 [(0,p.n,frT W p false a b ⟨q.kp,j,f,q.kc,⟨⟨[c]⟩⟩,h⟩),(1,p.n+1,lst d e),(2,p.g,G.genO p.gg p.tn)]
noncomputable def rL_s0 d W p a e n t y j f c h l b k m i o:=on d W i o (cL_s0 d W p a e n t y j f c h l b) (rt (.int k m)) [(p.n,frT W p false ⟨⟨[]⟩⟩ (p.t+2) ⟨b,j,f,b+1,⟨⟨[c]⟩⟩,h⟩),(p.n+1,lst a e),(p.g,G.genO p.gg p.tn)] [.u [] 1 (lst (a++[.ref i]) (e+1)) .none 0,.z]
noncomputable def E_rL_s0 kt W:=∀p b e n t y j d c h m f k i a l,AgainIs (rL_s0 kt W p b e n t y j d c h m f k i a l) [] [SQ.eApp (p.n+1) b e (.ref a) (a+1) l] (LC kt W p) [(0,p.n,frT W p false ⟨⟨[]⟩⟩ (p.t+2) ⟨f,j,d,f+1,⟨⟨[c]⟩⟩,h⟩),(1,p.n+1,lst (b++[.ref a]) (e+1)),(2,p.g,G.genO p.gg p.tn),(3,a,tup [.int j d,.int k i])]
noncomputable def rT_s0 b W p q d f a e n t y j h c i m o k r l s:=on b W l s (cT_s0 b W p q d f a e n t y j h c i m o) (rt (.int k r)) [(p.n,frT W p false d f ⟨q.kp,j,h,q.kc,⟨⟨[c]⟩⟩,i⟩),(p.n+1,lst a e),(p.g,G.genO p.gg p.tn)] [.u [] 1 (lst (a++[.ref l]) (e+1)) .none 0,.z]
noncomputable def E_rT_s0 kt W:=∀p q f h b e n t y j d c i o r k l a m,AgainIs (rT_s0 kt W p q f h b e n t y j d c i o r k l a m) [] [SQ.eApp (p.n+1) b e (.ref a) (a+1) m] (LC kt W p) [(0,p.n,frT W p false f h ⟨q.kp,j,d,q.kc,⟨⟨[c]⟩⟩,i⟩),(1,p.n+1,lst (b++[.ref a]) (e+1)),(2,p.g,G.genO p.gg p.tn),(3,a,tup [.int j d,.int k l])]
noncomputable def rT_s1 d W p q f h a e n t y j i c l r u k v o w:=on d W o w (cT_s1 d W p q f h a e n t y j i c l r u) (rt (.int k v)) [(p.n,frT W p false f h ⟨q.kp,j,i,q.kc,⟨⟨[c]⟩⟩,l⟩),(p.n+1,lst a e),(p.g,G.genO p.gg p.tn)] (Hx 0x22 (.u [] 1 (lst (a++[.ref o]) (e+1)) .none 0::Hx 0x31114145555444 []))
noncomputable def E_rT_s1 kt W:=∀p q i l d e n t y j f c h m o k r a b,StopIs (rT_s1 kt W p q i l d e n t y j f c h m o k r a b) [] [SQ.eApp (p.n+1) d e (.ref a) (a+1) (b+1)] (getTok ⟨⟨[c]⟩⟩ h) 1 [(0,p.n,frT W p false ⟨⟨[]⟩⟩ (b+1) ⟨q.kp,j,f,q.kc,⟨⟨[c]⟩⟩,h⟩),(1,p.n+1,lst (d++[.ref a]) (e+1)),(2,p.g,G.genO p.gg p.tn),(3,a,tup [.int j f,.int (256+k) b])]
noncomputable def rT_s1b d W p q o r a e n t y j f c h s u k v b i w l m x:=on d W m x (rT_s1 d W p q o r a e n t y j f c h s u k v b i) (rt (.int w l)) [(p.n,frT W p false ⟨⟨[]⟩⟩ (i+1) ⟨q.kp,j,f,q.kc,⟨⟨[c]⟩⟩,h⟩),(p.n+1,lst (a++[.ref b]) (e+1)),(p.g,G.genO p.gg p.tn)] [.u [] 1 (lst (a++[.ref b]++[.ref m]) (e+1+1)) .none 0,.z]
noncomputable def E_rT_s1b kt W:=∀p q r s d e n t y j f c i u v k w h l m b a o,AgainIs (rT_s1b kt W p q r s d e n t y j f c i u v k w h l m b a o) [] [SQ.eApp (p.n+1) (d++[.ref h]) (e+1) (.ref a) (a+1) o] (LC kt W p) [(0,p.n,frT W p false ⟨⟨[]⟩⟩ (l+1) ⟨q.kp,j,f,q.kc,⟨⟨[c]⟩⟩,i⟩),(1,p.n+1,lst (d++[.ref h]++[.ref a]) (e+1+1)),(2,p.g,G.genO p.gg p.tn),(3,a,tup [.int j f,.int m b])]
noncomputable def d0 a W p F b e n t y c d f:=on a W d f (b0 a W p F b e n t) (.error (.ref y)) [(p.n,F),(p.n+1,lst b e),(p.g,G.genO p.gg p.tn),(y,G.stopIt c)] [.m 3,.s]
noncomputable def E_d0 kt W:=∀p F a e n t y b c d,RetIs (d0 kt W p F a e n t y b c d) [] [] (.ok .next) [(0,p.n,F),(1,p.n+1,lst a e)]
noncomputable def eT a W p b q c d f e n t:=on a W n t (a1 a W p) (.ok .next) [(p.n,frT W p b c d q),(p.n+1,lst f e)] [.m 0]
noncomputable def E_eT kt W:=∀p b q c d a e n t,RetIs (eT kt W p b q c d a e n t) [] [] (.ok (.ret (.ref (p.n+1)))) [(1,p.n+1,lst a e)]
abbrev Evs:=nF [E_a0,E_a1,E_b0,E_cL_s0,E_cT_qF,E_cT_qT,E_cT_nq,E_cT_esc,E_cT_s0,E_cT_s1,E_rL_s0,E_rT_s0,E_rT_s1,E_rT_s1b,E_d0,E_eT]
end SY
noncomputable def tokTab:List (List Nat×Nat):=[([33],54),([33,61],28),([37],24),([37,61],40),([38],19),([38,61],41),([40],7),([41],8),([42],16),([42,42],35),([42,42,61],46),([42,61],38),([43],14),([43,61],36),([44],12),([45],15),([45,61],37),([45,62],51),([46],23),([46,46,46],52),([47],17),([47,47],47),([47,47,61],48),([47,61],39),([58],11),([58,61],53),([59],13),([60],20),([60,60],33),([60,60,61],44),([60,61],29),([61],22),([61,61],27),([62],21),([62,61],30),([62,62],34),([62,62,61],45),([64],49),([64,61],50),([91],9),([93],10),([94],32),([94,61],43),([123],25),([124],18),([124,61],42),([125],26),([126],31)]
noncomputable def namesL:List (List Nat):=[[40],[41],[91],[93],[58],[44],[59],[43],[45],[42],[47],[124],[38],[60],[62],[61],[46],[37],[123],[125],[61,61],[33,61],[60,61],[62,61],[126],[94],[60,60],[62,62],[42,42],[43,61],[45,61],[42,61],[47,61],[37,61],[38,61],[124,61],[94,61],[60,60,61],[62,62,61],[42,42,61],[47,47],[47,47,61],[64],[64,61],[45,62],[46,46,46],[58,61],[33]]
noncomputable def keyTok(i:Nat):Nat:=match Nat.ble i 34 with|true=>403+2*i|false=>437+i
noncomputable def tokEs(P:Params):List (List Nat×Nat)→Nat→List DictEntry
 | [],_=>[]
 | q::r,i=>⟨PyData.keyHash P ⟨⟨q.1⟩⟩,.str ⟨⟨q.1⟩⟩ (keyTok i),.int (zN q.2) (291+2*q.2)⟩::tokEs P r (i+1)
noncomputable def EvTk(kt:Params→KT):Prop:=∀W:Wd,kt1 kt W.w.params 78=some ⟨.type "dict",none,.dict ⟨tokEs W.w.params tokTab 0⟩ 48,#[]⟩
noncomputable def tokOf(l:List Nat):Option Nat:=(tokTab.find? (·.1==l)).map (·.2)
theorem tokEs_keys(prog:Program)(w:World)(l:List (List Nat×Nat)):∀(i:Nat),∀e∈tokEs w.params l i,∃k,(PySem.strKind prog w).is k e.key=true∧e.hash=(PySem.strKind prog w).hash k:=by
 induction l with
 | nil=>intro i e he; cases he
 | cons q r ih =>
  intro i e he
  rcases mc.mp he with rfl|he
  ·refine⟨⟨⟨q.1⟩⟩,?_,rfl⟩
   show Value.isStrOf ⟨⟨q.1⟩⟩ (.str ⟨⟨q.1⟩⟩ (keyTok i))=true
   exact beq_self_eq_true (⟨⟨q.1⟩⟩:Str)
  ·exact ih (i+1) e he
theorem tokEs_find(P:Params)(x:List Nat):∀(l:List (List Nat×Nat)) (i:Nat),((tokEs P l i).find? (fun e=>Value.isStrOf ⟨⟨x⟩⟩ e.key)).map (·.val)=(l.find? (·.1==x)).map fun q=>.int (zN q.2) (291+2*q.2)
 | [],_=>rfl
 | q::r,i=>by
  have ih:=tokEs_find P x r (i+1)
  have hk:Value.isStrOf ⟨⟨x⟩⟩ (Value.str ⟨⟨q.1⟩⟩ (keyTok i))=(q.1==x):=by
   show((⟨⟨q.1⟩⟩:Str)==⟨⟨x⟩⟩)=(q.1==x)
   by_cases h:q.1=x
   ·simp[h]
   ·have:¬((⟨⟨q.1⟩⟩:Str)=⟨⟨x⟩⟩):=fun z=>h (by injection z with z; injection z)
    rw[beq_eq_false_iff_ne.mpr this,beq_eq_false_iff_ne.mpr h]
  show(List.find? _ (_::tokEs P r (i+1))).map _=_
  rw[List.find?_cons,List.find?_cons]
  simp only[hk]
  cases q.1==x with
  | true=>rfl
  | false=>exact ih
section
theorem tok_spec(E:EvTk kt)(B:Base kt W s.heap){l:List Nat}{k:Nat}{tm:Tok}(h:tokOf l=some k)(hR:∀s' tk,Fut [] [] s s'→R (.ok (.ret (.int (zN k) tk))) s'):codeAny W.M A (SY.getTok ⟨⟨l⟩⟩ tm) R s:=by
 have ho:=B.at_ _ _ (E W)
 have hT:s.TypeIs (.ref 78) "dict":=⟨_,ho,rfl⟩
 have hm:s.heap.MapOf (PySem.strKind PW W.w) 78 (fun x=>findBy (PySem.strKind PW W.w).is ⟨tokEs W.w.params tokTab 0⟩ x) :=
  ⟨_,_,_,ho,⟨rfl,rfl,rfl⟩,rfl,fun e he=>tokEs_keys _ W.w tokTab 0 e (by simpa using he),fun _=>rfl⟩
 refine codeAny_call_builtin F.slot_dict_getitem.plain F.entry_dict_getitem (F.slot_dict_getitem.check _ _ _ _ _ _ _ _ hT (F.args_dict_getitem_2 _ _) ?_)
 show wpAny _ A.in1 (Builtin.«dict.__getitem__» ⟨[.ref 78,.str ⟨⟨l⟩⟩ tm],[]⟩) _ _ s
 unfold Builtin.«dict.__getitem__»
 refine wpAny_bind (wpAny_pure ?_)
 show wpAny _ A.in1 (do
  if let some v ←dictGet 78 (.str ⟨⟨l⟩⟩ tm)then return ←ret v
  _) _ _ s
 refine wpAny_bind (wpAny_dictGet_of (knd:=PySem.strKind PW W.w) (k:=⟨⟨l⟩⟩) (beq_self_eq_true (⟨⟨l⟩⟩:Str)) hm ?_)
 have hf:findBy (PySem.strKind PW W.w).is ⟨tokEs W.w.params tokTab 0⟩ (⟨⟨l⟩⟩:Str)=some (.int (zN k) (291+2*k)):=by
  unfold findBy
  have:=tokEs_find W.w.params l tokTab 0
  unfold tokOf at h
  obtain⟨q,hq,rfl⟩:=Option.map_eq_some_iff.mp h
  rw[hq]at this
  rw[←Array.find?_toList]
  exact this
 rw[hf]
 exact wpAny_pure (hR _ _ ⟨fun _ _ h _=>h,nR _,fun _ _ h _=>h,nR _,fun h=>h,rfl,rfl⟩)
end
noncomputable def TT(s:Shared)(X:List Addr)(MT:Mem1):Prop:=∀q∈MT,s.heap.get? q.1=some q.2∧q.1∉X∧160≤q.1
theorem TT.step{X X' L:List Addr}{G:List Nat}{MT:Mem1}(h:TT s X MT)(F:Fut L G s s')(hL:∀b∈L,b∈X∨s.heap.objs.size≤b)(hX:∀b∈X',b∈X∨s.heap.objs.size≤b):TT s' X' MT:=fun q hq=>by
 obtain⟨h1,h2,h3⟩:=h q hq
 have hlt:=Heap.lt_size h1
 refine⟨F.keep _ _ h1 fun z=>(hL _ z).elim h2 fun y=>absurd hlt (Nat.not_lt.mpr y),fun z=>(hX _ z).elim h2 fun y=>absurd hlt (Nat.not_lt.mpr y),h3⟩
theorem TT.add{X:List Addr}{MT:Mem1}(h:TT s X MT){a:Addr}{o:Obj}(ho:s.heap.get? a=some o)(hx:a∉X)(h160:160≤a):TT s X (MT++[(a,o)]):=fun q hq=>by
 rcases mpp.mp hq with hq|hq
 ·exact h q hq
 ·simp only[mg]at hq
  subst hq
  exact⟨ho,hx,h160⟩
theorem TT.sub{X X':List Addr}{MT:Mem1}(h:TT s X MT)(hX:∀b∈X',b∈X):TT s X' MT:=fun q hq=>⟨(h q hq).1,fun z=>(h q hq).2.1 (hX _ z),(h q hq).2.2⟩
noncomputable def symE:List Nat→Nat→Bool→Bool→List Nat→List (Nat×Nat)→Option (List (Nat×Nat))
 | [],_,_,_,_,acc=>some acc
 | c::r,i,true,q,nm,acc=>match q with|true=>none|false=>symE r (i+1) false false (nm++[c]) acc
 | c::r,i,false,q,nm,acc=>if c=92 then symE r (i+1) true q nm acc else if c=34 then symE r (i+1) false (!q) nm acc else
   match q with
   | true=>symE r (i+1) false true (nm++[c]) acc
   | false=>match tokOf [c]with
    | none=>none
    | some k=>match nm with
     | []=>symE r (i+1) false false [] (acc++[(i,k)])
     | a::l=>match tokOf (a::l)with
      | none=>none
      | some k'=>symE r (i+1) false false [] (acc++[(i,256+k'),(i,k)])
section
variable{c i:Nat}{r nm:List Nat}{acc:List (Nat×Nat)}
theorem symE_q(h:c≠92)(h':c≠34):symE (c::r) i false true nm acc=symE r (i+1) false true (nm++[c]) acc:=(if_neg h).trans (if_neg h')
theorem symE_0(h:c≠92)(h':c≠34)(k:tokOf [c]=none):symE (c::r) i false false nm acc=none:=((if_neg h).trans (if_neg h')).trans (by simp only[k])
theorem symE_1(h:c≠92)(h':c≠34){k0:Nat}(k:tokOf [c]=some k0):symE (c::r) i false false [] acc=symE r (i+1) false false [] (acc++[(i,k0)]):=((if_neg h).trans (if_neg h')).trans (by simp only[k])
theorem symE_2{a:Nat}{l:List Nat}(h:c≠92)(h':c≠34){k0:Nat}(k:tokOf [c]=some k0)(k':tokOf (a::l)=none):symE (c::r) i false false (a::l) acc=none:=((if_neg h).trans (if_neg h')).trans (by simp only[k,k'])
theorem symE_3{a:Nat}{l:List Nat}(h:c≠92)(h':c≠34){k0 k1:Nat}(k:tokOf [c]=some k0)(k':tokOf (a::l)=some k1):symE (c::r) i false false (a::l) acc=symE r (i+1) false false [] (acc++[(i,256+k1),(i,k0)]):=((if_neg h).trans (if_neg h')).trans (by simp only[k,k'])
end
inductive SymRel:Mem1→List (Nat×Nat)→Prop
 | nil:SymRel [] []
 | cons (a i k t1 t2:Nat) {MT:Mem1} {ys:List (Nat×Nat)}:SymRel MT ys→SymRel ((a,tup [.int (zN i) t1,.int (zN k) t2])::MT) ((i,k)::ys)
theorem SymRel.add{MT:Mem1}{ys:List (Nat×Nat)}(h:SymRel MT ys){a i k t1 t2:Nat}:SymRel (MT++[(a,tup [.int (zN i) t1,.int (zN k) t2])]) (ys++[(i,k)]):=by
 induction h with
 | nil=>exact .cons a i k t1 t2 .nil
 | cons a' i' k' t1' t2' h ih=>exact .cons a' i' k' t1' t2' ih
noncomputable abbrev refs(MT:Mem1):List Value:=MT.map fun q=>.ref q.1
namespace SY
section
theorem add_ok{nm:List Nat}{tm c ty n t:Nat}(hsz:nm.length<2 ^ 19):∃u d,(eAdd ⟨⟨nm⟩⟩ tm ⟨⟨[c]⟩⟩ ty ⟨⟨nm++[c]⟩⟩ u d n t).Ok prog w:=by
 by_cases h:nm=[]
 ·subst h
  exact⟨ty,0,eff_str_add (x:=⟨⟨[]⟩⟩) (y:=⟨⟨[c]⟩⟩) (z:=⟨⟨[]++[c]⟩⟩) (t:=tm) (v:=ty) (u:=ty) rfl rfl rfl rfl (show 0+1<2 ^ 20 by decide) rfl (.inl ⟨rfl,rfl,rfl⟩)⟩
 ·have h1:(⟨⟨nm⟩⟩:Str).cps.size≠0:=by
   show nm.length≠0
   exact fun z=>h (List.length_eq_zero_iff.mp z)
  exact⟨t,1,eff_str_add (x:=⟨⟨nm⟩⟩) (y:=⟨⟨[c]⟩⟩) (z:=⟨⟨nm++[c]⟩⟩) (t:=tm) (v:=ty) (u:=t) rfl rfl rfl rfl (by show nm.length+1<2 ^ 20; omega) rfl (.inr (.inr ⟨h1,(show(1:Nat)≠0 by decide),rfl,rfl⟩))⟩
theorem refs_add(MT:Mem1)(a:Addr)(o:Obj):refs MT++[.ref a]=refs (MT++[(a,o)]):=by simp[refs]
noncomputable abbrev XX(p:Pr)(fp:List Addr):List Addr:=p.n::(p.n+1)::p.g::fp
theorem app_ok{l:Nat}{e:Nat}{v:Value}{n t:Nat}(h:vs.length<2 ^ 20):(SQ.eApp l vs e v n t).Ok prog w:=eff_append rfl Z0 (by omega) rfl rfl rfl rfl
theorem loop(E:Evs kt)(EG:G.EvsG kt)(NL:EvNL kt)(ET:EvTk kt){p:Pr}(hA:A.handled=none)(hd:A.depth+65<1000)(asc:p.x.cps.all (·<128)=true)(hsz:p.x.cps.size<2 ^ 18){s0:Shared}{ys:List (Nat×Nat)}:
  ∀(k:Nat) {r:List Nat} {i:Nat} {b:Bool} {nm:List Nat} {tm:Nat} {q:Tn} {acc:List (Nat×Nat)} {MT:Mem1} {e:Nat} {s:Shared} {fp:List Addr},r.length=k→p.x.cps.toList.drop i=r→i≤p.x.cps.size→G.wf r false=true→nm.length≤i→MT.length≤2*i →
   Cur kt W s0 [] [] s [(p.n,frT W p b ⟨⟨nm⟩⟩ tm q),(p.n+1,lst (refs MT) e),(p.g,G.genO p.gg p.tn)]→G.GenAt kt W s p.g p.gg p.tn p.x i fp→TT s (XX p fp) MT→SymRel MT acc →
   (∀b∈fp,s0.heap.objs.size≤b)→p.n∉fp→p.n+1∉fp→s0.gens.size≤p.gg→symE r i false b nm acc=some ys →
   (∀s' b' nm' tm' q' MT' e',Cur kt W s0 [] [] s' [(p.n,frT W p b' nm' tm' q'),(p.n+1,lst (refs MT') e')]→TT s' [p.n,p.n+1] MT'→SymRel MT' ys→R (.ok .next) s') →
   Mean W A R P (LC kt W p) (.own []) (denote table (LC kt W p)) s:=by
 intro k
 induction k using Nat.strongRecOn with
 | _ k ih =>
 intro r i b nm tm q acc MT e s fp hk hr hi hw hnm hmt C H hT hS hfp hnf hnf2 hgg hsy h1
 have dA:A.depth+60<1000:=by omega
 refine C.startC hA dA (C.stop (E 2 W p (frT W p b ⟨⟨nm⟩⟩ tm q) (refs MT) e s.heap.objs.size s.toks) hA noV noE rfl ?_)
 intro s₁ A1 C1 hg1 F1 hA1 hd1 ke0
 have sub3:∀{F:Obj} {L:Obj} {b:Addr},b∈ks [(p.n,F),(p.n+1,L),(p.g,G.genO p.gg p.tn)]→b∈XX p fp:=fun {F L b} hb=>by
  simp only[ks,mp,mn,mf,nn,or_false]at hb
  rcases hb with rfl|rfl|rfl<;>simp
 have nd3:∀{F:Obj} {L:Obj} {b:Addr},b∈ks [(p.n,F),(p.n+1,L),(p.g,G.genO p.gg p.tn)]→b∉fp:=fun {F L b} hb=>by
  simp only[ks,mp,mn,mf,nn,or_false]at hb
  rcases hb with rfl|rfl|rfl
  ·exact hnf
  ·exact hnf2
  ·exact H.na
 have H1:=H.fut' F1 (fun b hb=>nd3 hb) (C1.ix 2 (p.g,G.genO p.gg p.tn) rfl) (fun h=>nomatch h)
 have hT1:TT s₁ (XX p fp) MT:=hT.step F1 (fun b hb=>.inl (sub3 hb)) (fun b hb=>.inl hb)
 have dj:∀x∈fp,x∉ks [(p.n,frT W p b ⟨⟨nm⟩⟩ tm q),(p.n+1,lst (refs MT) e),(p.g,G.genO p.gg p.tn)]:=fun x hx z=>nd3 z hx
 have lo:∀b∈fp,b∈([]:List Addr)∨s0.heap.objs.size≤b:=fun b hb=>.inr (hfp b hb)
 have log:∀g∈[p.gg],g∈([]:List Nat)∨s0.gens.size≤g:=fun g hg=>.inr (by simp only[ms]at hg; subst hg; exact hgg)
 refine G.gen_step EG NL H1 C1.B hA1 (by omega) asc hr hw ?_ ?_
 ·intro hr0 s2 y tp F2 hy hsy2
  have C3:Cur kt W s0 [] [] s2 [(p.n,frT W p b ⟨⟨nm⟩⟩ tm q),(p.n+1,lst (refs MT) e),(p.g,G.genO p.gg p.tn),(y,G.stopIt tp)]:=C1.callMade F2 H1.hi dj lo log hy hsy2
  have hT2:TT s2 (XX p fp) MT:=hT1.step F2 (fun b hb=>.inl (by simp[hb])) (fun b hb=>.inl hb)
  refine C3.startT ke0 hA dA (C3.ret (E 14 W p _ (refs MT) e _ _ y tp _ _) noV noE rfl ?_)
  intro s3 C4 _ F4
  have:ys=acc:=by rw[hr0]at hsy; exact(Option.some.inj hsy).symm
  subst this
  refine h1 s3 b ⟨⟨nm⟩⟩ tm q MT e C4 ?_ hS
  intro z hz
  obtain⟨z1,z2,z3⟩:=hT2 z hz
  refine⟨F4.keep _ _ z1 fun w=>?_,fun w=>z2 (by
   simp only[mc,nn,or_false]at w
   rcases w with w|w<;>simp[w]),z3⟩
  simp only[ks,mp,mn,mc,nn,or_false]at w
  rcases w with w|w|w|w
  ·exact z2 (by simp[w])
  ·exact z2 (by simp[w])
  ·exact z2 (by simp[w])
  ·exact absurd (Heap.lt_size (hT1 z hz).1) (Nat.not_lt.mpr (w▸hsy2))
 ·intro j cs i' r' hnx hdr hw' hlen s2 y ti tc fp' F2 hy hsy2 H' hny hfp'
  have C3:Cur kt W s0 [] [] s2 [(p.n,frT W p b ⟨⟨nm⟩⟩ tm q),(p.n+1,lst (refs MT) e),(p.g,G.genO p.gg p.tn),(y,tup [.int (zN j) ti,.str ⟨⟨cs⟩⟩ tc])]:=C1.callMade F2 H1.hi dj lo log hy hsy2
  have hX':∀x∈XX p fp',x∈XX p fp∨s₁.heap.objs.size≤x:=fun x hx=>by
   simp only[XX,mc]at hx ⊢
   rcases hx with h|h|h|h
   ·exact .inl (.inl h)
   ·exact .inl (.inr (.inl h))
   ·exact .inl (.inr (.inr (.inl h)))
   ·rcases hfp' x h with z|z
    ·exact .inl (.inr (.inr (.inr z)))
    ·exact .inr z
  have hT2:TT s2 (XX p fp') MT:=hT1.step F2 (fun b hb=>.inl (by simp[hb])) hX'
  have hyT:∀z∈MT,z.1≠y:=fun z hz w=>absurd (Heap.lt_size (hT1 z hz).1) (Nat.not_lt.mpr (w▸hsy2))
  have nf:∀{x},x∈ks [(p.n,frT W p b ⟨⟨nm⟩⟩ tm q),(p.n+1,lst (refs MT) e),(p.g,G.genO p.gg p.tn)]→x∉fp':=fun {x} hm z=>by
   rcases hfp' _ z with z|z
   ·exact nd3 hm z
   ·exact absurd (C1.klt hm) (Nat.not_lt.mpr z)
  have hnf':p.n∉fp':=nf Z0
  have hnf2':p.n+1∉fp':=nf Z1
  have hji:=SQ.nx_rng hnx hi (by rw[←hr]; simp)
  have hrl:(refs MT).length=MT.length:=by simp
  have fin:∀{s3 b' nm' tm' q' acc' MT' e'},nm'.length≤i'→MT'.length≤2*i'→Cur kt W s0 [] [] s3 [(p.n,frT W p b' ⟨⟨nm'⟩⟩ tm' q'),(p.n+1,lst (refs MT') e'),(p.g,G.genO p.gg p.tn)]→G.GenAt kt W s3 p.g p.gg p.tn p.x i' fp'→TT s3 (XX p fp') MT'→SymRel MT' acc' →
    symE r' i' false b' nm' acc'=some ys→Mean W A R P (LC kt W p) (.own []) (denote table (LC kt W p)) s3:=by
   intro s3 b' nm' tm' q' acc' MT' e' g1 g2 C4 H4 T4 S4 he
   refine ih r'.length (by omega) rfl hdr hji.2.1 hw' g1 g2 C4 H4 T4 S4 (fun b hb=>?_) hnf' hnf2' hgg he h1
   rcases hfp' b hb with z|z
   ·exact hfp b z
   ·exact nT C1.size z
  have keepH:∀{s3 F' L'},Cur kt W s0 [] [] s3 [(p.n,F'),(p.n+1,L'),(p.g,G.genO p.gg p.tn)]→Fut [p.n,p.n+1,p.g,y] [] s2 s3 →
    G.GenAt kt W s3 p.g p.gg p.tn p.x i' fp'∧TT s3 (XX p fp') MT:=by
   intro s3 F' L' C4 F4
   refine⟨H'.fut' F4 (fun b hb=>?_) (C4.ix 2 (p.g,G.genO p.gg p.tn) rfl) (fun h=>nomatch h),fun z hz=>⟨F4.keep _ _ (hT2 z hz).1 fun w=>?_,(hT2 z hz).2⟩⟩
   ·revert b
    refine fc ?_ (fc ?_ (fc ?_ (fc ?_ fz)))
    ·exact hnf'
    ·exact hnf2'
    ·exact H'.na
    ·exact hny
   ·simp only[ks,mp,mn,mc,nn,or_false]at w
    rcases w with w|w|w|w
    ·exact(hT2 z hz).2.1 (by simp[w])
    ·exact(hT2 z hz).2.1 (by simp[w])
    ·exact(hT2 z hz).2.1 (by simp[w])
    ·exact hyT z hz w
  have keepG:∀{s3 s4:Shared} {F' L':Obj} {MT':Mem1},G.GenAt kt W s3 p.g p.gg p.tn p.x i' fp'→TT s3 (XX p fp') MT'→Cur kt W s0 [] [] s4 [(p.n,F'),(p.n+1,L'),(p.g,G.genO p.gg p.tn)]→Fut [p.n,p.n+1,p.g] [] s3 s4 →
    G.GenAt kt W s4 p.g p.gg p.tn p.x i' fp'∧TT s4 (XX p fp') MT':=by
   intro s3 s4 F' L' MT' H3 T3 C4 F4
   refine⟨H3.fut' F4 (fun b hb=>?_) (C4.ix 2 (p.g,G.genO p.gg p.tn) rfl) (fun h=>nomatch h),T3.step F4 (fun b hb=>.inl ?_) (fun b hb=>.inl hb)⟩
   ·revert b
    refine fc ?_ (fc ?_ (fc ?_ fz))
    ·exact hnf'
    ·exact hnf2'
    ·exact H'.na
   ·revert b
    refine fc ?_ (fc ?_ (fc ?_ fz))<;>simp
  have newT:∀{s3 s4:Shared} {MT':Mem1} {a:Addr} {o:Obj} {F' L'},Cur kt W s0 [] [] s3 [(p.n,F'),(p.n+1,L'),(p.g,G.genO p.gg p.tn)]→G.GenAt kt W s3 p.g p.gg p.tn p.x i' fp'→TT s4 (XX p fp') MT'→s4.heap.get? a=some o→a=s3.heap.objs.size→TT s4 (XX p fp') (MT'++[(a,o)]):=by
   intro s3 s4 MT' a o F' L' C3' H3 T3 ho ha
   refine T3.add ho (fun z=>?_) (ha▸C3'.B.sz)
   simp only[XX,mc]at z
   have h1:=C3'.klt (a:=p.n) Z0
   have h2:=C3'.klt (a:=p.n+1) Z1
   have h3:=C3'.klt (a:=p.g) Z2
   rcases z with z|z|z|z
   ·exact absurd h1 (Nat.not_lt.mpr (Nat.le_of_eq (ha.symm.trans z)))
   ·exact absurd h2 (Nat.not_lt.mpr (Nat.le_of_eq (ha.symm.trans z)))
   ·exact absurd h3 (Nat.not_lt.mpr (Nat.le_of_eq (ha.symm.trans z)))
   ·exact absurd (H3.lt _ z) (Nat.not_lt.mpr (Nat.le_of_eq ha.symm))
  have v0:∀{v:Bool},(cs=[34]↔v=true)→CP.sEq ⟨⟨cs⟩⟩ [34]=v:=fun {v} h=>by
   unfold CP.sEq; rw[sEq_eq]; cases v<;>simp_all
  clear ih h1 hnf' hnf2' nf hny H' hX' hyT hfp' H1 H hfp hnf hnf2 hgg hr hw hdr hw' hlen hk hT1 log dj
  cases hnx with
  | esc c i r =>
   have q0:=v0 (v:=false) (by simp)
   cases b with
   | true=>exact nomatch (show none=some ys from hsy)
   | false =>
    have hsy:symE r' (i+1+1) false false (nm++[c]) acc=some ys:=hsy
    obtain⟨u,d,hadd⟩:=add_ok (prog:=PW) (w:=W.w) (nm:=nm) (tm:=tm) (c:=c) (ty:=s2.toks+8) (n:=s2.heap.objs.size+3) (t:=s2.toks+9) (by omega)
    refine C3.startT ke0 hA dA (C3.again (E 7 W p q ⟨⟨nm⟩⟩ tm (refs MT) e _ _ y _ ti c tc _ _ ⟨⟨nm++[c]⟩⟩ u d) (CP.hv1 q0) (SQ.he1 hadd) rfl ?_)
    intro s3 C4 _ F4
    obtain⟨H4,T4⟩:=keepH C4 F4
    exact fin (by simp; omega) (by omega) C4 H4 T4 hS hsy
  | plain c i r hc =>
   by_cases h34:c=34
   ·subst h34
    have q0:=v0 (v:=true) (by simp)
    have hsy:symE r' (i+1) false (!b) nm acc=some ys:=hsy
    cases b with
    | false =>
     refine C3.startT ke0 hA dA (C3.again (E 4 W p q ⟨⟨nm⟩⟩ tm (refs MT) e _ _ y _ ti 34 tc _ _) (CP.hv1 q0) noE rfl ?_)
     intro s3 C4 _ F4
     obtain⟨H4,T4⟩:=keepH C4 F4
     exact fin (by omega) (by omega) C4 H4 T4 hS hsy
    | true =>
     refine C3.startT ke0 hA dA (C3.again (E 5 W p q ⟨⟨nm⟩⟩ tm (refs MT) e _ _ y _ ti 34 tc _ _) (CP.hv1 q0) noE rfl ?_)
     intro s3 C4 _ F4
     obtain⟨H4,T4⟩:=keepH C4 F4
     exact fin (by omega) (by omega) C4 H4 T4 hS hsy
   ·have q0:=v0 (v:=false) (by simp[h34])
    cases b with
    | true =>
     rw[symE_q hc h34]at hsy
     obtain⟨u,d,hadd⟩:=add_ok (prog:=PW) (w:=W.w) (nm:=nm) (tm:=tm) (c:=c) (ty:=s2.toks+5) (n:=s2.heap.objs.size+3) (t:=s2.toks+6) (by omega)
     refine C3.startT ke0 hA dA (C3.again (E 6 W p q ⟨⟨nm⟩⟩ tm (refs MT) e _ _ y _ ti c tc _ _ ⟨⟨nm++[c]⟩⟩ u d) (CP.hv1 q0) (SQ.he1 hadd) rfl ?_)
     intro s3 C4 _ F4
     obtain⟨H4,T4⟩:=keepH C4 F4
     exact fin (by simp; omega) (by omega) C4 H4 T4 hS hsy
    | false =>
     cases hk0:tokOf [c]with
     | none=>rw[symE_0 hc h34 hk0]at hsy; cases hsy
     | some k0 =>
      cases nm with
      | nil =>
       rw[symE_1 hc h34 hk0]at hsy
       have ec:=E 8 W p q ⟨⟨[]⟩⟩ tm (refs MT) e s.heap.objs.size s.toks y (zN i) ti c tc s2.heap.objs.size s2.toks
       refine C3.startT ke0 hA dA (C3.stop ec hA (CP.hv2 rfl q0) noE rfl ?_)
       intro s3 A3 C4 _ F4 hA3 hd3 kec
       obtain⟨H4,T4⟩:=keepH C4 F4
       refine tok_spec ET C4.B hk0 ?_
       intro s4 tk F5
       have C5:=C4.call0 F5
       have H5:=H4.fut F5 fz (fun h=>nomatch h) (fun h=>nomatch h)
       have T5:=T4.step F5 fz (fun b hb=>.inl hb)
       refine C5.startT kec hA dA (C5.again (E 11 W p q ⟨⟨[]⟩⟩ tm (refs MT) e _ _ y (zN i) ti c tc _ _ (zN k0) tk s4.heap.objs.size s4.toks) noV (SQ.he1 (app_ok (by omega))) rfl ?_)
       intro s5 C6 _ F6
       have C7:=C6.sub (M':=[(p.n,frT W p false ⟨⟨[]⟩⟩ tm ⟨q.kp,zN i,ti,q.kc,⟨⟨[c]⟩⟩,tc⟩),(p.n+1,lst (refs MT++[.ref s4.heap.objs.size]) (e+1)),(p.g,G.genO p.gg p.tn)]) (.cons_cons _ (.cons_cons _ (.cons_cons _ (List.nil_sublist _))))
       obtain⟨H7,T7⟩:=keepG H5 T5 C7 F6
       have hn:=C6.ix 3 (s4.heap.objs.size,tup [.int (zN i) ti,.int (zN k0) tk]) rfl
       have T8:=newT C5 H5 T7 hn rfl
       rw[refs_add MT s4.heap.objs.size (tup [.int (zN i) ti,.int (zN k0) tk])]at C7
       exact fin (by simp) (by simp; omega) C7 H7 T8 hS.add hsy
      | cons a l =>
       cases hk1:tokOf (a::l)with
       | none=>rw[symE_2 hc h34 hk0 hk1]at hsy; cases hsy
       | some k1 =>
        rw[symE_3 hc h34 hk0 hk1]at hsy
        refine C3.startT ke0 hA dA (C3.stop (E 9 W p q ⟨⟨a::l⟩⟩ tm (refs MT) e s.heap.objs.size s.toks y (zN i) ti c tc s2.heap.objs.size s2.toks) hA (CP.hv2 rfl q0) noE rfl ?_)
        intro s3 A3 C4 _ F4 hA3 hd3 kec
        obtain⟨H4,T4⟩:=keepH C4 F4
        refine tok_spec ET C4.B hk1 ?_
        intro s4 tk F5
        have C5:=C4.call0 F5
        have H5:=H4.fut F5 fz (fun h=>nomatch h) (fun h=>nomatch h)
        have T5:=T4.step F5 fz (fun b hb=>.inl hb)
        refine C5.startT kec hA dA (C5.stop (E 12 W p q ⟨⟨a::l⟩⟩ tm (refs MT) e s.heap.objs.size s.toks y (zN i) ti c tc s2.heap.objs.size s2.toks (zN k1) tk s4.heap.objs.size s4.toks) hA noV (SQ.he1 (app_ok (by omega))) rfl ?_)
        intro s5 A5 C6 _ F6 hA5 hd5 ked
        have C7:=C6.sub (M':=[(p.n,frT W p false ⟨⟨[]⟩⟩ (s4.toks+1) ⟨q.kp,zN i,ti,q.kc,⟨⟨[c]⟩⟩,tc⟩),(p.n+1,lst (refs MT++[.ref s4.heap.objs.size]) (e+1)),(p.g,G.genO p.gg p.tn)]) (.cons_cons _ (.cons_cons _ (.cons_cons _ (List.nil_sublist _))))
        obtain⟨H7,T7⟩:=keepG H5 T5 C7 F6
        have hn:=C6.ix 3 (s4.heap.objs.size,tup [.int (zN i) ti,.int (256+zN k1) s4.toks]) rfl
        have hn':s5.heap.get? s4.heap.objs.size=some (tup [.int (zN i) ti,.int (zN (256+k1)) s4.toks]):=hn
        have T8:=newT C5 H5 T7 hn' rfl
        refine tok_spec ET C7.B hk0 ?_
        intro s6 tk2 F8
        have C8:=C7.call0 F8
        have H8:=H7.fut F8 fz (fun h=>nomatch h) (fun h=>nomatch h)
        have T9:=T8.step F8 fz (fun b hb=>.inl hb)
        refine C8.startT ked hA dA (C8.again (E 13 W p q ⟨⟨a::l⟩⟩ tm (refs MT) e _ _ y (zN i) ti c tc _ _ (zN k1) tk _ _ (zN k0) tk2 s6.heap.objs.size s6.toks) noV (SQ.he1 (app_ok (by simp; omega))) rfl ?_)
        intro s7 C9 _ F9
        have C10:=C9.sub (M':=[(p.n,frT W p false ⟨⟨[]⟩⟩ (s4.toks+1) ⟨q.kp,zN i,ti,q.kc,⟨⟨[c]⟩⟩,tc⟩),(p.n+1,lst (refs MT++[.ref s4.heap.objs.size]++[.ref s6.heap.objs.size]) (e+1+1)),(p.g,G.genO p.gg p.tn)]) (.cons_cons _ (.cons_cons _ (.cons_cons _ (List.nil_sublist _))))
        obtain⟨H10,T10⟩:=keepG H8 T9 C10 F9
        have hm:=C9.ix 3 (s6.heap.objs.size,tup [.int (zN i) ti,.int (zN k0) tk2]) rfl
        have T11:=newT C8 H8 T10 hm rfl
        rw[refs_add MT s4.heap.objs.size (tup [.int (zN i) ti,.int (zN (256+k1)) s4.toks]),refs_add _ s6.heap.objs.size (tup [.int (zN i) ti,.int (zN k0) tk2])]at C10
        refine fin (by simp) (by simp; omega) C10 H10 T11 hS.add.add ?_
        rw[←hsy]
        simp
end
end SY
namespace SY
section
theorem part2(E:Evs kt)(EG:G.EvsG kt)(NL:EvNL kt)(ET:EvTk kt){p:Pr}{s4:Shared}{fp:List Addr}{ys:List (Nat×Nat)}(hA:A.handled=none)(hd:A.depth+70<1000)(asc:p.x.cps.all (·<128)=true)(hsz:p.x.cps.size<2 ^ 18)(hw:G.wf p.x.cps.toList false=true)
  {c:Nat} {r:List Nat} (hx:p.x.cps.toList=c::r) (hc:c≠92) (h34:c≠34) (hsy:symE p.x.cps.toList 0 false false [] []=some ys)
  (C4:Cur kt W s [] [] s4 [(p.n,frL W p),(p.n+1,lst [] 0),(p.g,G.genO p.gg p.tn)]) (H4:G.GenAt kt W s4 p.g p.gg p.tn p.x 0 fp) (hfp:∀b∈fp,s.heap.objs.size≤b) (hpn:s.heap.objs.size≤p.n) (nfp:p.n∉fp) (nfp2:p.n+1∉fp) (hg:s.gens.size≤p.gg)
  (e0o:(oMd (a0 kt W p.n p.t p.x p.tx)).isGen=false) (h2:s4.heap.objs.size=p.n2) (h3:s4.toks=p.t2)
  (k:∀s' MT e,Fut [] [] s s'→s'.heap.get? (p.n+1)=some (lst (refs MT) e)→TT s' [p.n+1] MT→SymRel MT ys→R (.ok (.ret (.ref (p.n+1)))) s') :
  Mean W A R P (oCc (a0 kt W p.n p.t p.x p.tx)) (oMd (a0 kt W p.n p.t p.x p.tx)) (oK (a0 kt W p.n p.t p.x p.tx) (.ok (.ret (.ref p.g)))) s4:=by
 have st:∀{Q:Out→Prop},Q (a1 kt W p)→Q (on kt W s4.heap.objs.size s4.toks (a0 kt W p.n p.t p.x p.tx) (.ok (.ret (.ref p.g))) [(p.n,frL W p),(p.n+1,lst [] 0),(p.g,G.genO p.gg p.tn)] (Hx 0x3626266 [])):=fun h=>by rw[h2,h3]; exact h
 have dA:A.depth+60<1000:=by omega
 refine C4.startT e0o hA dA (st (Q:=fun o=>Post _ _ false o) (C4.stop (E 1 W p) hA noV noE rfl ?_))
 intro s5 A5 C5 hg5 F5 hA5 hd5 ke2
 have nd3:∀{F:Obj} {L:Obj} {b:Addr},b∈ks [(p.n,F),(p.n+1,L),(p.g,G.genO p.gg p.tn)]→b∉fp:=fun {F L b} hb=>by
  simp only[ks,mp,mn,mf,nn,or_false]at hb
  rcases hb with rfl|rfl|rfl
  ·exact nfp
  ·exact nfp2
  ·exact H4.na
 have H5:=H4.fut' F5 (fun b hb=>nd3 hb) (C5.ix 2 (p.g,G.genO p.gg p.tn) rfl) (fun h=>nomatch h)
 have dA5:A5.depth+60<1000:=by omega
 refine code_of_mean (P:=fun _ _=>False) (C5.startC hA5 dA5 (C5.stop (E 2 W p (frL W p) [] 0 s5.heap.objs.size s5.toks) hA5 noV noE rfl ?_))
 intro s6 A6 C6 hg6 F6 hA6 hd6 ke0
 have H6:=H5.fut' F6 (fun b hb=>nd3 hb) (C6.ix 2 (p.g,G.genO p.gg p.tn) rfl) (fun h=>nomatch h)
 have dj:∀x∈fp,x∉ks [(p.n,frL W p),(p.n+1,lst [] 0),(p.g,G.genO p.gg p.tn)]:=fun x hx z=>nd3 z hx
 have lo:∀b∈fp,b∈([]:List Addr)∨s.heap.objs.size≤b:=fun b hb=>.inr (hfp b hb)
 have log:∀g∈[p.gg],g∈([]:List Nat)∨s.gens.size≤g:=fun g hg=>.inr (by simp only[ms]at hg; subst hg; assumption)
 refine G.gen_step EG NL H6 C6.B hA6 (by omega) asc rfl hw ?_ ?_
 ·intro hr0
  have:p.x.cps.toList=[]:=hr0
  rw[hx]at this; cases this
 intro j cs i' r' hnx hdr hw' hlen s7 y ti tc fp' F7 hy hsy2 H' hny hfp'
 have C7:Cur kt W s [] [] s7 [(p.n,frL W p),(p.n+1,lst [] 0),(p.g,G.genO p.gg p.tn),(y,tup [.int (zN j) ti,.str ⟨⟨cs⟩⟩ tc])]:=C6.callMade F7 H6.hi dj lo log hy hsy2
 have nf:∀{x},x∈ks [(p.n,frL W p),(p.n+1,lst [] 0),(p.g,G.genO p.gg p.tn)]→x∉fp':=fun {x} hm z=>by
  rcases hfp' _ z with z|z
  ·exact nd3 hm z
  ·exact absurd (C6.klt hm) (Nat.not_lt.mpr z)
 have hnf':p.n∉fp':=nf Z0
 have hnf2':p.n+1∉fp':=nf Z1
 have hx0:p.x.cps.toList.drop 0=c::r:=hx
 rw[hx0]at hnx
 cases hnx with
 | esc c i r=>exact absurd rfl hc
 | plain =>
  have q0:CP.sEq ⟨⟨[c]⟩⟩ [34]=false:=by unfold CP.sEq; rw[sEq_eq]; simp[h34]
  rw[hx]at hsy
  cases hk0:tokOf [c]with
  | none=>rw[symE_0 hc h34 hk0]at hsy; cases hsy
  | some k0 =>
   rw[symE_1 hc h34 hk0]at hsy
   refine C7.startT ke0 hA5 dA5 (C7.stop (E 3 W p [] 0 s5.heap.objs.size s5.toks y (zN 0) ti c tc s7.heap.objs.size s7.toks) hA5 (CP.hv2 rfl q0) noE rfl ?_)
   intro s8 A8 C8 _ F8 hA8 hd8 kec
   have H8:=H'.fut' F8 (by
    refine fc ?_ (fc ?_ (fc ?_ (fc ?_ fz)))
    ·exact hnf'
    ·exact hnf2'
    ·exact H'.na
    ·exact hny) (C8.ix 2 (p.g,G.genO p.gg p.tn) rfl) (fun h=>nomatch h)
   refine tok_spec ET C8.B hk0 ?_
   intro s9 tk F9
   have C9:=C8.call0 F9
   have H9:=H8.fut F9 fz (fun h=>nomatch h) (fun h=>nomatch h)
   refine C9.startT kec hA5 dA5 (C9.again (E 10 W p [] 0 _ _ y (zN 0) ti c tc _ _ (zN k0) tk s9.heap.objs.size s9.toks) noV (SQ.he1 (app_ok (by decide))) rfl ?_)
   intro s10 C10 _ F10
   have C11:=C10.sub (M':=[(p.n,frT W p false ⟨⟨[]⟩⟩ (p.t+2) ⟨s7.toks,zN 0,ti,s7.toks+1,⟨⟨[c]⟩⟩,tc⟩),(p.n+1,lst ([]++[.ref s9.heap.objs.size]) (0+1)),(p.g,G.genO p.gg p.tn)]) (.cons_cons _ (.cons_cons _ (.cons_cons _ (List.nil_sublist _))))
   have H10:=H9.fut' F10 (by
    refine fc ?_ (fc ?_ (fc ?_ fz))
    ·exact hnf'
    ·exact hnf2'
    ·exact H'.na) (C11.ix 2 (p.g,G.genO p.gg p.tn) rfl) (fun h=>nomatch h)
   have hn:=C10.ix 3 (s9.heap.objs.size,tup [.int (zN 0) ti,.int (zN k0) tk]) rfl
   have T10:TT s10 (XX p fp') [(s9.heap.objs.size,tup [.int (zN 0) ti,.int (zN k0) tk])]:=by
    refine fc ?_ fz
    refine⟨hn,fun w=>?_,C9.B.sz⟩
    simp only[XX,mc]at w
    rcases w with w|w|w|w
    ·exact absurd (C9.klt (a:=p.n) Z0) (Nat.not_lt.mpr (Nat.le_of_eq w))
    ·exact absurd (C9.klt (a:=p.n+1) Z1) (Nat.not_lt.mpr (Nat.le_of_eq w))
    ·exact absurd (C9.klt (a:=p.g) Z2) (Nat.not_lt.mpr (Nat.le_of_eq w))
    ·exact absurd (H9.lt _ w) (Nat.lt_irrefl _)
   have hlen':0+1≤p.x.cps.size:=by
    have:p.x.cps.toList.length=r.length+1:=by rw[hx]; rfl
    simp only[Array.length_toList]at this
    omega
   refine loop E EG NL ET hA5 (by omega) asc hsz _ (r:=r) (i:=0+1) (b:=false) (nm:=[]) (acc:=[(0,k0)]) (MT:=[(s9.heap.objs.size,tup [.int (zN 0) ti,.int (zN k0) tk])]) rfl hdr hlen' hw' (by simp) (by simp) C11 H10 T10 (.cons _ 0 k0 ti tk .nil) (fun b hb=>?_) hnf' hnf2' hg (by simpa using hsy) ?_
   ·rcases hfp' b hb with z|z
    ·exact hfp b z
    ·exact nT C6.size z
   ·intro s12 b' nm' tm' q' MT' e' C12 T12 S12
    refine C12.startT ke2 hA dA (C12.ret (E 15 W p b' q' nm' tm' (refs MT') e' _ _) noV noE rfl ?_)
    intro s13 C13 _ F13
    refine k s13 MT' e' C13.fut (C13.ix 0 (p.n+1,lst (refs MT') e') rfl) ((T12.step F13 (fun b hb=>.inl hb) (fun b hb=>.inl hb)).sub (fun b hb=>.tail _ hb)) S12
theorem spec(E:Evs kt)(EG:G.EvsG kt)(NL:EvNL kt)(ET:EvTk kt){x:Str}{tx:Nat}{ys:List (Nat×Nat)}(B:Base kt W s.heap)(hA:A.handled=none)(hd:A.depth+70<1000)(asc:x.cps.all (·<128)=true)(hsz:x.cps.size<2 ^ 18)(hw:G.wf x.cps.toList false=true)
  {c:Nat} {r:List Nat} (hx:x.cps.toList=c::r) (hc:c≠92) (h34:c≠34) (hsy:symE x.cps.toList 0 false false [] []=some ys)
  (k:∀s' l MT e,Fut [] [] s s'→s.heap.objs.size≤l→s'.heap.get? l=some (lst (refs MT) e)→TT s' [l] MT→SymRel MT ys→R (.ok (.ret (.ref l))) s'):codeAny W.M A (.call (.ref 139) ⟨[.str x tx],[]⟩) R s:=by
 have C0:=Cur.start B [] []
 have dA:A.depth+60<1000:=by omega
 refine C0.startF hA dA (by decide) (C0.stop (E 0 W s.heap.objs.size s.toks x tx) hA noV noE rfl ?_)
 intro s3 A3 C3 hg3 F3 hA3 hd3 ke0
 refine G.gen_call EG C3.B hA3 (by omega) ?_
 intro s4 a g tn fp F4 H4 hfp ha hg
 have C4:=C3.callMade F4 fz fz fz fz H4.obj ha
 have h1:s.heap.objs.size<s3.heap.objs.size:=C3.klt (a:=s.heap.objs.size) Z0
 have h1':s.heap.objs.size+1<s3.heap.objs.size:=C3.klt (a:=s.heap.objs.size+1) Z1
 exact part2 E EG NL ET (p:=⟨s.heap.objs.size,s.toks,x,tx,a,g,tn,s4.heap.objs.size,s4.toks⟩) hA hd asc hsz hw hx hc h34 hsy C4 H4 (fun b hb=>nT C3.size (hfp b hb)) (nR _) (fun z=>absurd (hfp _ z) (Nat.not_le.mpr h1)) (fun z=>absurd (hfp _ z) (Nat.not_le.mpr h1')) (nT C3.fut.gsz hg) ke0 rfl rfl
  (fun s' MT e F h T S=>k s' _ MT e F (Nat.le_succ _) h T S)
end
end SY
section
variable{e:Eff}
noncomputable def isI(x:Int):Value→Bool
 | .int y _=>y==x
 | _=>false
noncomputable def intsOf:List Value→Option (List Int)
 | []=>some []
 | .int x _::r=>(intsOf r).map (x::·)
 | _::_=>none
theorem ints_inv{v:Value}{r:List Value}(h:intsOf (v::r)=some xs):∃x t zs,v=.int x t∧intsOf r=some zs∧xs=x::zs:=by
 cases v with
 | int x t =>
  obtain⟨zs,hz,e⟩:=Option.map_eq_some_iff.mp (show(intsOf r).map (x::·)=some xs from h)
  exact⟨x,t,zs,rfl,hz,e.symm⟩
 | _=>cases h
theorem ints_ind{P:List Value→List Int→Prop}(n:P [] [])(c:∀{x t vs xs},intsOf vs=some xs→P vs xs→P (.int x t::vs) (x::xs)):∀{vs:List Value} {xs:List Int},intsOf vs=some xs→P vs xs:=by
 intro vs
 induction vs with
 | nil=>intro xs h; cases h; exact n
 | cons v r ih =>
  intro xs h
  obtain⟨x,t,zs,rfl,hz,rfl⟩:=ints_inv h
  exact c hz (ih hz)
theorem intsOf_len'(h:intsOf vs=some xs):vs.length=xs.length:=ints_ind (P:=fun vs xs=>vs.length=xs.length) rfl (fun _ h=>congrArg Nat.succ h) h
theorem intsOf_at(h:intsOf vs=some xs):∀{j:Nat} (h:j<vs.length) (h':j<xs.length),∃t,vs[j]=.int xs[j] t:=ints_ind (P:=fun vs xs=>∀{j:Nat} (h:j<vs.length) (h':j<xs.length),∃t,vs[j]=.int xs[j] t) (fun h=>nomatch h) (fun {_ t _ _} _ ih {j} h h'=>match j,h,h' with
 | 0,_,_=>⟨t,rfl⟩
 | _+1,h,h'=>ih (Nat.lt_of_succ_lt_succ h) (Nat.lt_of_succ_lt_succ h')) h
theorem intsOf_cons_get(h:intsOf vs=some xs):∀i:Nat,(vs[i]?=none∧xs[i]?=none)∨∃x t,vs[i]?=some (.int x t)∧xs[i]?=some x:=ints_ind (P:=fun vs xs=>∀i:Nat,(vs[i]?=none∧xs[i]?=none)∨∃x t,vs[i]?=some (.int x t)∧xs[i]?=some x) (fun _=>.inl ⟨rfl,rfl⟩) (fun {x t _ _} _ ih i=>match i with
 | 0=>.inr ⟨x,t,rfl,rfl⟩
 | i+1=>ih i) h
theorem intsOf_eq(h:intsOf vs=some xs):∀(x:Int) (t:Tok),(∀y∈vs,MeetsSeq.EqGives y (.int x t) (isI x y))∧vs.any (isI x)=decide (x∈xs):=by
 refine ints_ind (P:=fun vs xs=>∀(x:Int) (t:Tok),(∀y∈vs,MeetsSeq.EqGives y (.int x t) (isI x y))∧vs.any (isI x)=decide (x∈xs)) (fun _ _=>⟨fz,rfl⟩) ?_ h
 intro y u vs ys hys ih x t
 obtain⟨h1,h2⟩:=ih x t
 refine⟨fc (MeetsSeq.EqGives.int y x u t) h1,?_⟩
 rw[List.any_cons,h2]
 show((y==x)||_)=_
 by_cases hyx:y=x
 ·subst hyx; simp
 ·have:x≠y:=fun z=>hyx z.symm
  simp[hyx,this]
theorem eff_tuple_contains{l:Addr}{x:Int}{t:Tok}{b:Bool}(hc:e.c=.call (.builtin "tuple.__contains__") ⟨[.ref l,.int x t],[]⟩)(hp:(l,tup vs)∈e.pre)(hi:intsOf vs=some xs)(hu:e.upd=none)(hn:e.new=[])(hr:e.r=.ok (.ret (.bool b)))(hd:e.dt=0)
  (hb:b=decide (x∈xs)):e.Ok prog w:=by
 obtain⟨h1,h2⟩:=intsOf_eq hi x t
 refine eff_meets hc F.slot_tuple_contains F.entry_tuple_contains (F.args_tuple_contains_2 _ _) (fun s h=>tup_typeIs (h _ hp)) (MeetsSeq2.tuple_contains l ⟨vs⟩ 0 (.int x t) (isI x) (fun y hy=>h1 y (by simpa using hy))) fun A s R hA hpre hn' ht hR=>⟨hpre _ hp,?_⟩
 unfold Eff.heap at hR
 rw[hr,hu,hn,hd]at hR
 have:((⟨vs⟩:Array Value).any (isI x))=b:=by rw[hb,←h2]; simp
 rw[this]
 exact hR
theorem eff_list_contains{l:Addr}{n:Nat}{x:Int}{t:Tok}{b:Bool}(hc:e.c=.call (.builtin "list.__contains__") ⟨[.ref l,.int x t],[]⟩)(hp:(l,lst vs n)∈e.pre)(hi:intsOf vs=some xs)(hu:e.upd=none)(hn:e.new=[])(hr:e.r=.ok (.ret (.bool b)))(hd:e.dt=0)
  (hb:b=decide (x∈xs)):e.Ok prog w:=by
 obtain⟨h1,h2⟩:=intsOf_eq hi x t
 refine eff_meets hc F.slot_list_contains F.entry_list_contains (F.args_list_contains_2 _ _) (fun s h=>lst_typeIs (h _ hp)) (MeetsSeq.list_contains l ⟨vs⟩ n (.int x t) (isI x) (fun y hy=>h1 y (by simpa using hy))) fun A s R hA hpre hn' ht hR=>⟨hpre _ hp,?_⟩
 unfold Eff.heap at hR
 rw[hr,hu,hn,hd]at hR
 have:((⟨vs⟩:Array Value).any (isI x))=b:=by rw[hb,←h2]; simp
 rw[this]
 exact hR
noncomputable def rgo(a b c:Int)(t u v:Tok):Obj:=⟨.type "range",none,.fields #[.int a t,.int b u,.int c v],#[]⟩
noncomputable def rgi(x left step:Int):Obj:=⟨.type "range_iterator",none,.fields #[.int x 0,.int left 0,.int step 0],#[]⟩
theorem eff_range_iter{r:Addr}{a b c:Int}{t u v:Tok}(hc:e.c=.call (.builtin "range.__iter__") ⟨[.ref r],[]⟩)(hp:(r,rgo a b c t u v)∈e.pre)(hs:Builtin.Range.small a b c=true)(hu:e.upd=none)
  (hn:e.new=[rgi a (Builtin.Range.rangeSize a b c) c]) (hr:e.r=.ok (.ret (.ref e.n))) (hd:e.dt=0):e.Ok prog w:=by
 refine eff_meets hc F.slot_range_iter F.entry_range_iter (F.args_range_iter_1 _) (fun s h=>⟨_,h _ hp,rfl⟩) (AutoRange.range___iter___range_1 r a b c t u v (by unfold Builtin.Range.small at hs; simp[hs])) fun A s R hA hpre hn' ht hR=>⟨hpre _ hp,?_⟩
 unfold Builtin.Range.small at hs
 simp only[hs,if_true]
 unfold Eff.heap at hR
 rw[hr,hu,hn,hd,←hn']at hR
 exact hR
theorem eff_range_next{it:Addr}{x left step:Int}(hc:e.c=.call (.builtin "range_iterator.__next__") ⟨[.ref it],[]⟩)(hp:(it,rgi x left step)∈e.pre)(hl:0<left)(hu:e.upd=some (it,rgi (x+step) (left-1) step))(hn:e.new=[])
  (hr:e.r=.ok (.ret (.int x e.t))) (hd:e.dt=1):e.Ok prog w:=by
 refine eff_meets hc F.slot_range_iterator_next F.entry_range_iterator_next (F.args_range_iterator_next_1 _) (fun s h=>⟨_,h _ hp,rfl⟩) (AutoRange.range_iterator___next___range_iterator_1 it x left step (by omega)) fun A s R hA hpre hn' ht hR=>⟨hpre _ hp,?_⟩
 unfold Eff.heap at hR
 rw[hr,hu,hn,hd,←ht]at hR
 have ho:=hpre _ hp
 have e1:=update_const (f:=Obj.mapFields fun x_1=>x_1.setIfInBounds 0 (rawInt (x+step))) ho
 have h2:(s.heap.update it (Obj.mapFields fun x_1=>x_1.setIfInBounds 0 (rawInt (x+step)))).get? it=some (rgi (x+step) left step):=Heap.get?_update_self _ ho rfl
 have e2:=update_const (f:=Obj.mapFields fun x=>x.setIfInBounds 1 (rawInt (left-1))) h2
 have e3:(s.heap.update it (fun _=>rgi (x+step) (left-1) step))=(s.heap.update it (Obj.mapFields fun x_1=>x_1.setIfInBounds 0 (rawInt (x+step)))).update it (Obj.mapFields fun x=>x.setIfInBounds 1 (rawInt (left-1))):=by
  rw[←e2]
  cases s.heap with|mk objs l =>
  show(⟨objs.modify it _,l⟩:Heap)=⟨(objs.modify it _).modify it _,l⟩
  congr 1
  apply Array.ext
  ·simp
  ·intro i h1 h2
   simp only[Array.getElem_modify]
   by_cases hi:it=i
   ·simp only[hi,if_true]; rfl
   ·simp only[hi,if_false]
 rw[←e3]
 exact hR
end
namespace PA
structure Pr where
 n:Nat
 t:Nat
 x:Str
 tx:Nat
 l:Nat
 i:Int
 ti:Nat
 vs:List Value
 e:Nat
 a:Nat
 pl:Int
 tp:Nat
 sy:Int
 ts:Nat
 m:Int
noncomputable def ari(p:Pr):Args:=⟨[.str p.x p.tx,.ref p.l,.int p.i p.ti],[]⟩
noncomputable def M0(p:Pr):Mem1:=[(p.l,lst p.vs p.e),(p.a,tup [.int p.pl p.tp,.int p.sy p.ts])]
noncomputable def sText:Str:=U1
noncomputable def sSym:Str:=U17
noncomputable def sI:Str:=⟨⟨[105]⟩⟩
noncomputable def sPlace:Str:=U18
noncomputable def sSymbol:Str:=⟨⟨[115,121,109,98,111,108]⟩⟩
noncomputable def sJ:Str:=⟨⟨[106]⟩⟩
noncomputable def frN(W:Wd)(p:Pr):Obj:=fr W.w.params [(sText,p.t,.str p.x p.tx),(sSym,p.t+1,.ref p.l),(sI,p.t+2,.int p.i p.ti),(sPlace,p.t+3,.int p.pl p.tp),(sSymbol,p.t+4,.int p.sy p.ts)]
noncomputable def frJ(W:Wd)(p:Pr)(kj:Nat)(j:Int)(tj:Nat):Obj:=fr W.w.params [(sText,p.t,.str p.x p.tx),(sSym,p.t+1,.ref p.l),(sI,p.t+2,.int p.i p.ti),(sPlace,p.t+3,.int p.pl p.tp),(sSymbol,p.t+4,.int p.sy p.ts),(sJ,kj,.int j tj)]
noncomputable def eGet(l:Nat)(vs:List Value)(e:Nat)(k:Int)(tk:Nat)(v:Value)(n t:Nat):Eff:=⟨.call (.builtin "list.__getitem__") ⟨[.ref l,.int k tk],[]⟩,[(l,lst vs e)],none,[],.ok (.ret v),0,n,t⟩
noncomputable def eLenL(l:Nat)(vs:List Value)(e n t:Nat):Eff:=⟨.call (.builtin "len") ⟨[.ref l],[]⟩,[(l,lst vs e)],none,[],.ok (.ret (.int (zN vs.length) (t+1))),2,n,t⟩
noncomputable def eRIter(r:Nat)(a b c:Int)(t1 t2 t3:Nat)(m:Int)(n t:Nat):Eff:=⟨.call (.builtin "range.__iter__") ⟨[.ref r],[]⟩,[(r,rgo a b c t1 t2 t3)],none,[rgi a m c],.ok (.ret (.ref n)),0,n,t⟩
noncomputable def eRNext(it:Nat)(x left:Int)(n t:Nat):Eff:=⟨.call (.builtin "range_iterator.__next__") ⟨[.ref it],[]⟩,[(it,rgi x left (-1))],some (it,rgi (x-1) (left-1) (-1)),[],.ok (.ret (.int x t)),1,n,t⟩
noncomputable def eTCon(l:Nat)(vs:List Value)(x:Int)(tx:Nat)(b:Bool)(n t:Nat):Eff:=⟨.call (.builtin "tuple.__contains__") ⟨[.ref l,.int x tx],[]⟩,[(l,tup vs)],none,[],.ok (.ret (.bool b)),0,n,t⟩
noncomputable def sLeft:Str:=⟨⟨[108,101,102,116]⟩⟩
noncomputable def frK(W:Wd)(p:Pr)(kj:Nat)(j:Int)(tj kl la:Nat):Obj:=fr W.w.params [(sText,p.t,.str p.x p.tx),(sSym,p.t+1,.ref p.l),(sI,p.t+2,.int p.i p.ti),(sPlace,p.t+3,.int p.pl p.tp),(sSymbol,p.t+4,.int p.sy p.ts),(sJ,kj,.int j tj),(sLeft,kl,.ref la)]
noncomputable def a0L c W p:=startF (S1 c W p.n p.t 60) 146 (ari p) (M0 p) (Hx Y22 (.i [0] (.ref p.a) 0::Hx Y23 (.f::Hx 0x1a21aa1 (.v (.bool true)::Hx 0x22162 []))))
noncomputable def E_a0L kt W:=∀p,RetIs (a0L kt W p) [(.bool (dLe 256 p.sy),.bool true)] [eGet p.l p.vs p.e p.i p.ti (.ref p.a) (p.n+1) (p.t+3)] (.ok (.ret (.ref (p.n+7)))) [(0,p.l,lst p.vs p.e),(1,p.a,tup [.int p.pl p.tp,.int p.sy p.ts]),(9,p.n+7,tup [.int 0 (p.t+6),.ref (p.n+5),.ref (p.n+6),.int (p.sy-256) (p.t+7),.int 1 (p.t+8)])]
noncomputable def a0N c W p:=startF (S1 c W p.n p.t 60) 146 (ari p) (M0 p) (Hx Y22 (.i [0] (.ref p.a) 0::Hx Y23 (.f::Hx 0x1a21aa1 (.v (.bool false)::Hx 0x611112 (.i [0] (.int (zN p.vs.length) (p.t+7)) 2::Hx 0xbbb2b2bb222222622 (.e [7] none [rgi (zN p.vs.length-1) p.m (-1)] (rt (.ref (p.n+6))) 0::Hx 0x3c []))))))
noncomputable def E_a0N kt W:=∀p,StopIs (a0N kt W p) [(.bool (dLe 256 p.sy),.bool false)] [eRIter (p.n+5) (zN p.vs.length-1) p.i (-1) (p.t+9) p.ti (p.t+11) p.m (p.n+6) (p.t+12),eLenL p.l p.vs p.e (p.n+5) (p.t+6),eGet p.l p.vs p.e p.i p.ti (.ref p.a) (p.n+1) (p.t+3)] (oC (a0N kt W p)) 1 [(0,p.l,lst p.vs p.e),(1,p.a,tup [.int p.pl p.tp,.int p.sy p.ts]),(2,p.n,frN W p),(8,p.n+6,rgi (zN p.vs.length-1) p.m (-1))]
noncomputable def LC(kt:Params→KT)(W:Wd)(p:Pr):Code:=oC (a0N kt W p)
noncomputable def bA_no b W p n t j a c d f g h:=startC (S1 b W n t 60) (LC b W p) (.own []) [(p.n,frN W p),(p.n+6,rgi j a (-1)),(p.l,lst p.vs p.e),(c,tup [.int d f,.int g h])] (.m 1::.u [] 1 (rgi (j-1) (a-1) (-1)) (.int j (t+0)) 1::Hx Y4 (.i [2] (.ref c) 0::Hx Y18 (.i [4] (.bool false) 0::[.z])))
noncomputable def E_bA_no kt W:=∀p n t j a g d f b c,AgainIs (bA_no kt W p n t j a g d f b c) [] [eTCon n [.int 14 (t+3),.int 18 (t+4)] b c false (n+1) (t+5),eGet p.l p.vs p.e j t (.ref g) (n) (t+2),eRNext (p.n+6) j a n t] (LC kt W p) [(0,p.n,frJ W p (t+1) j t),(1,p.n+6,rgi (j-1) (a-1) (-1)),(2,p.l,lst p.vs p.e),(3,g,tup [.int d f,.int b c])]
noncomputable def bA_op f W p n t j a c g h i k z u d:=startC (S1 f W n t 60) (LC f W p) (.own []) [(p.n,frN W p),(p.n+6,rgi j a (-1)),(p.l,lst p.vs p.e),(c,tup [.int g h,.int i k])] (.m 1::.u [] 1 (rgi (j-1) (a-1) (-1)) (.int j (t+0)) 1::Hx Y4 (.i [2] (.ref c) 0::Hx Y18 (.i [4] (.bool true) 0::Hx 0x6664422441 (.i [2] (.ref c) 0::Hx 0x27272777 (.i [5] (.str z u) d::Hx 0x31 [])))))
noncomputable def E_bA_op kt W:=∀p n t j a h b c f g z u d,StopIs (bA_op kt W p n t j a h b c f g z u d) [] [SQ.eSli p.x p.tx (.int (p.pl+1) (t+6)) (.int b c) (n+1) z u d (n+2) (t+8),eGet p.l p.vs p.e j t (.ref h) (n+1) (t+7),eTCon n [.int 14 (t+3),.int 18 (t+4)] f g true (n+1) (t+5),eGet p.l p.vs p.e j t (.ref h) (n) (t+2),eRNext (p.n+6) j a n t] (.call (.ref 35) ⟨[.str z u],[]⟩) 1 [(0,p.n,frJ W p (t+1) j t),(1,p.n+6,rgi (j-1) (a-1) (-1)),(2,p.l,lst p.vs p.e),(3,h,tup [.int b c,.int f g])]
noncomputable def dA_F b W p n t j a i c f g h z u d k m:=on b W k m (bA_op b W p n t j a i c f g h z u d) (rt (.bool false)) [(p.n,frJ W p (t+1) j t),(p.n+6,rgi (j-1) (a-1) (-1)),(p.l,lst p.vs p.e)] [.z]
noncomputable def E_dA_F kt W:=∀p n t j a h b c f g z u d i k,AgainIs (dA_F kt W p n t j a h b c f g z u d i k) [] [] (LC kt W p) [(0,p.n,frJ W p (t+1) j t),(1,p.n+6,rgi (j-1) (a-1) (-1)),(2,p.l,lst p.vs p.e)]
noncomputable def dA_T b W p n t j a i c f g h z u d k m:=on b W k m (bA_op b W p n t j a i c f g h z u d) (rt (.bool true)) [(p.n,frJ W p (t+1) j t),(p.n+6,rgi (j-1) (a-1) (-1)),(p.l,lst p.vs p.e)] []
noncomputable def E_dA_T kt W:=∀p n t j a h b c f g z u d i k,RetIs (dA_T kt W p n t j a h b c f g z u d i k) [] [] (.ok .next) [(0,p.n,frJ W p (t+1) j t),(1,p.n+6,rgi (j-1) (a-1) (-1)),(2,p.l,lst p.vs p.e)]
noncomputable def bB_no b W p i k o n t j a c d f g h:=startC (S1 b W n t 60) (LC b W p) (.own []) [(p.n,frJ W p i k o),(p.n+6,rgi j a (-1)),(p.l,lst p.vs p.e),(c,tup [.int d f,.int g h])] (.m 1::.u [] 1 (rgi (j-1) (a-1) (-1)) (.int j (t+0)) 1::Hx Y4 (.i [2] (.ref c) 0::Hx Y18 (.i [4] (.bool false) 0::[.z])))
noncomputable def E_bB_no kt W:=∀p h i k n t j a g d f b c,AgainIs (bB_no kt W p h i k n t j a g d f b c) [] [eTCon n [.int 14 (t+3),.int 18 (t+4)] b c false (n+1) (t+5),eGet p.l p.vs p.e j t (.ref g) (n) (t+2),eRNext (p.n+6) j a n t] (LC kt W p) [(0,p.n,frJ W p (h) j t),(1,p.n+6,rgi (j-1) (a-1) (-1)),(2,p.l,lst p.vs p.e),(3,g,tup [.int d f,.int b c])]
noncomputable def bB_op f W p o q r n t j a c g h i k z u d:=startC (S1 f W n t 60) (LC f W p) (.own []) [(p.n,frJ W p o q r),(p.n+6,rgi j a (-1)),(p.l,lst p.vs p.e),(c,tup [.int g h,.int i k])] (.m 1::.u [] 1 (rgi (j-1) (a-1) (-1)) (.int j (t+0)) 1::Hx Y4 (.i [2] (.ref c) 0::Hx Y18 (.i [4] (.bool true) 0::Hx 0x6664422441 (.i [2] (.ref c) 0::Hx 0x27272777 (.i [5] (.str z u) d::Hx 0x31 [])))))
noncomputable def E_bB_op kt W:=∀p i k m n t j a h b c f g z u d,StopIs (bB_op kt W p i k m n t j a h b c f g z u d) [] [SQ.eSli p.x p.tx (.int (p.pl+1) (t+6)) (.int b c) (n+1) z u d (n+2) (t+8),eGet p.l p.vs p.e j t (.ref h) (n+1) (t+7),eTCon n [.int 14 (t+3),.int 18 (t+4)] f g true (n+1) (t+5),eGet p.l p.vs p.e j t (.ref h) (n) (t+2),eRNext (p.n+6) j a n t] (.call (.ref 35) ⟨[.str z u],[]⟩) 1 [(0,p.n,frJ W p (i) j t),(1,p.n+6,rgi (j-1) (a-1) (-1)),(2,p.l,lst p.vs p.e),(3,h,tup [.int b c,.int f g])]
noncomputable def dB_F b W p c k m n t j a o f g h i z u d q r:=on b W q r (bB_op b W p c k m n t j a o f g h i z u d) (rt (.bool false)) [(p.n,frJ W p (c) j t),(p.n+6,rgi (j-1) (a-1) (-1)),(p.l,lst p.vs p.e)] [.z]
noncomputable def E_dB_F kt W:=∀p b i k n t j a m c f g h z u d o q,AgainIs (dB_F kt W p b i k n t j a m c f g h z u d o q) [] [] (LC kt W p) [(0,p.n,frJ W p (b) j t),(1,p.n+6,rgi (j-1) (a-1) (-1)),(2,p.l,lst p.vs p.e)]
noncomputable def dB_T b W p c k m n t j a o f g h i z u d q r:=on b W q r (bB_op b W p c k m n t j a o f g h i z u d) (rt (.bool true)) [(p.n,frJ W p (c) j t),(p.n+6,rgi (j-1) (a-1) (-1)),(p.l,lst p.vs p.e)] []
noncomputable def E_dB_T kt W:=∀p b i k n t j a m c f g h z u d o q,RetIs (dB_T kt W p b i k n t j a m c f g h z u d o q) [] [] (.ok .next) [(0,p.n,frJ W p (b) j t),(1,p.n+6,rgi (j-1) (a-1) (-1)),(2,p.l,lst p.vs p.e)]
noncomputable def e0 a W p c j d n t:=on a W n t (a0N a W p) (.ok .next) [(p.n,frJ W p c j d)] (Hx 0x31224441 [])
noncomputable def E_e0 kt W:=∀p a j b n t,StopIs (e0 kt W p a j b n t) [] [] (.call (.ref 146) ⟨[.str p.x p.tx,.ref p.l,.int (p.i+1) (t+1)],[]⟩) 1 [(0,p.n,frJ W p a j b)]
noncomputable def e1 a W p c j d n t e f g:=on a W f g (e0 a W p c j d n t) (rt (.ref e)) [(p.n,frJ W p c j d)] (Hx 0x3122444144 [])
noncomputable def E_e1 kt W:=∀p b j c n t d e a,StopIs (e1 kt W p b j c n t d e a) [] [] (.call (.ref 146) ⟨[.str p.x p.tx,.ref p.l,.int (j+1) (a+2)],[]⟩) 1 [(0,p.n,frK W p b j c a d)]
noncomputable def e2_ser c W p d j f n t b z g h A a i k o q r B C D E u G w H I J K x L y M N O:=on c W A a (e1 c W p d j f n t b z g) (rt (.ref h)) [(p.n,frK W p d j f g b),(b,tup [B,C,D,.int E u,.int G w]),(h,tup [H,I,J,.int K x,.int L y]),(p.l,lst p.vs p.e),(i,tup [.int k o,.int q r])] (Hx 0x626266645252555444 (.i [] (.int M (a+3)) 1::Hx 0x6262666452525554 (.i [] (.int N (a+6)) 1::Hx 0x777444422 (.i [3] (.ref i) 0::Hx 0x28282888 (.v (.bool true)::Hx 0x62626664525255544442 [.i [] (.int O (a+14)) 1])))))
noncomputable def E_e2_ser kt W:=∀p I j A n t r J K s d a u i k f m B C D v g o b E G H w h q c x y z,RetIs (e2_ser kt W p I j A n t r J K s d a u i k f m B C D v g o b E G H w h q c x y z) [(.bool (dEq f 14),.bool true)] [eInt "int.__mul__" [.int o b,.int q c] z d (a+14),eGet p.l p.vs p.e j A (.ref u) d (a+9),eInt "int.__mul__" [.int o b,.int w h] y d (a+6),eInt "int.__mul__" [.int v g,.int q c] x d (a+3)] (.ok (.ret (.ref d))) [(1,r,tup [B,C,D,.int v g,.int o b]),(2,s,tup [E,G,H,.int w h,.int q c]),(3,p.l,lst p.vs p.e),(4,u,tup [.int i k,.int f m]),(5,d,tup [.int 14 (a+11),.ref r,.ref s,.int (x+y) (a+7),.int z (a+14)])]
noncomputable def e2_bar c W p d j f n t b z g h A a i k o q r B C D E u G w H I J K x L y M N O:=on c W A a (e1 c W p d j f n t b z g) (rt (.ref h)) [(p.n,frK W p d j f g b),(b,tup [B,C,D,.int E u,.int G w]),(h,tup [H,I,J,.int K x,.int L y]),(p.l,lst p.vs p.e),(i,tup [.int k o,.int q r])] (Hx 0x626266645252555444 (.i [] (.int M (a+3)) 1::Hx 0x6262666452525554 (.i [] (.int N (a+6)) 1::Hx 0x777444422 (.i [3] (.ref i) 0::Hx 0x28282888 (.v (.bool false)::Hx 0x6262666452525554442 (.i [] (.int O (a+14)) 1::[.m 0]))))))
noncomputable def E_e2_bar kt W:=∀p I j A n t r J K s d a u i k f m B C D o b v g E G H q c w h x y z,RetIs (e2_bar kt W p I j A n t r J K s d a u i k f m B C D o b v g E G H q c w h x y z) [(.bool (dEq f 14),.bool false)] [eInt "int.__mul__" [.int o b,.int q c] z d (a+14),eGet p.l p.vs p.e j A (.ref u) d (a+9),eInt "int.__mul__" [.int v g,.int q c] y d (a+6),eInt "int.__mul__" [.int o b,.int w h] x d (a+3)] (.ok (.ret (.ref d))) [(1,r,tup [B,C,D,.int o b,.int v g]),(2,s,tup [E,G,H,.int q c,.int w h]),(3,p.l,lst p.vs p.e),(4,u,tup [.int i k,.int f m]),(5,d,tup [.int 18 (a+11),.ref r,.ref s,.int z (a+14),.int (x+y) (a+7)])]
abbrev Evs:=nF [E_a0L,E_a0N,E_bA_no,E_bA_op,E_dA_F,E_dA_T,E_bB_no,E_bB_op,E_dB_F,E_dB_T,E_e0,E_e1,E_e2_ser,E_e2_bar]
end PA
theorem bits_le{a:Int}{k:Nat}(h:a.natAbs<2 ^ k):Builtin.Int.intBits a≤k:=by
 unfold Builtin.Int.intBits
 split
 ·exact Nat.zero_le _
 ·rename_i h0
  have:a.natAbs≠0:=by simpa using h0
  have:=(Nat.log2_lt this).mpr h
  omega
set_option genCtorIdx true in
inductive Part where
 | leaf (r:Nat)
 | node (ser:Bool) (l r:Part)
namespace Part
mutual
noncomputable def pq:Part→Int×Int
 | leaf r=>(r,1)
 | node true l r=>(l.pq.1*r.pq.2+l.pq.2*r.pq.1,l.pq.2*r.pq.2)
 | node false l r=>(l.pq.1*r.pq.1,l.pq.1*r.pq.2+l.pq.2*r.pq.1)
end
noncomputable def size:Part→Nat
 | leaf _=>1
 | node _ l r=>l.size+r.size
noncomputable def Ok:Part→Prop
 | leaf r=>r<64
 | node _ l r=>l.Ok∧r.Ok
noncomputable def height:Part→Nat
 | leaf _=>0
 | node _ l r=>l.height+r.height+1
theorem pq_e:(∀r,(leaf r).pq=((r:Int),1))∧(∀l r,(node true l r).pq=(l.pq.1*r.pq.2+l.pq.2*r.pq.1,l.pq.2*r.pq.2))∧∀l r,(node false l r).pq=(l.pq.1*r.pq.1,l.pq.1*r.pq.2+l.pq.2*r.pq.1):=⟨fun _=>rfl,fun _ _=>rfl,fun _ _=>rfl⟩
theorem bound:∀(x:Part),x.Ok→0≤x.pq.1∧0≤x.pq.2∧x.pq.1*2≤2 ^ (7*x.size)∧x.pq.2*2≤2 ^ (7*x.size)
 | leaf r,h=>by
  have:r<64:=h
  show(0:Int)≤r∧(0:Int)≤1∧(r:Int)*2≤2 ^ 7∧(1:Int)*2≤2 ^ 7
  omega
 | node b l r,h=>by
  obtain⟨a1,a2,a3,a4⟩:=bound l h.1
  obtain⟨b1,b2,b3,b4⟩:=bound r h.2
  have hp:(2:Int) ^ (7*(l.size+r.size))=2 ^ (7*l.size)*2 ^ (7*r.size):=by rw[Nat.mul_add,Int.pow_add]
  generalize (2:Int) ^ (7*l.size)=X at *
  generalize (2:Int) ^ (7*r.size)=Y at *
  have m1:=Int.mul_nonneg a1 b2
  have m2:=Int.mul_nonneg a2 b1
  have m3:=Int.mul_nonneg a2 b2
  have m4:=Int.mul_nonneg a1 b1
  have hX:0≤X:=by omega
  have hY:0≤Y:=by omega
  have k:∀u v:Int,0≤u→0≤v→u*2≤X→v*2≤Y→u*v*4≤X*Y:=fun u v hu hv h1 h2=>by
   have h3:=Int.mul_le_mul h1 h2 (by omega) hX
   have:u*2*(v*2)=u*v*4:=by
    rw[Int.mul_assoc,Int.mul_left_comm 2,Int.mul_assoc u v 4,show(4:Int)=2*2 from rfl,←Int.mul_assoc v 2 2]
   omega
  have e1:=k _ _ a1 b2 a3 b4
  have e2:=k _ _ a2 b1 a4 b3
  have e3:=k _ _ a2 b2 a4 b4
  have e4:=k _ _ a1 b1 a3 b3
  show _∧_∧_*2≤(2:Int) ^ (7*(l.size+r.size))∧_*2≤(2:Int) ^ (7*(l.size+r.size))
  rw[hp]
  cases b<;>simp only[pq_e]<;>omega
end Part
inductive PartAt(h:Heap):Value→Part→Prop
 | leaf (a t0:Nat) (e1 e2:Value) (r tr t1:Nat):160≤a→h.get? a=some (tup [.int 0 t0,e1,e2,.int (Part.leaf r).pq.1 tr,.int (Part.leaf r).pq.2 t1])→PartAt h (.ref a) (.leaf r)
 | node (a t0 la ra tp tq:Nat) (b:Bool) (l r:Part):160≤a→(a≠la∧a≠ra∧la≠ra)→h.get? a=some (tup [.int (if b then 14 else 18) t0,.ref la,.ref ra,.int (Part.node b l r).pq.1 tp,.int (Part.node b l r).pq.2 tq])→PartAt h (.ref la) l→PartAt h (.ref ra) r→PartAt h (.ref a) (.node b l r)
theorem PartAt.fut0{G:List Nat}{v:Value}{x:Part}(h:PartAt s.heap v x)(F:Fut [] G s s'):PartAt s'.heap v x:=by
 induction h with
 | leaf a t0 e1 e2 r tr t1 g h=>exact .leaf a t0 e1 e2 r tr t1 g (F.keep _ _ h (fun z=>nomatch z))
 | node a t0 la ra tp tq b l r g g2 h _ _ i1 i2=>exact .node a t0 la ra tp tq b l r g g2 (F.keep _ _ h (fun z=>nomatch z)) i1 i2
theorem PartAt.obj{h:Heap}{a:Addr}{x:Part}(H:PartAt h (.ref a) x):∃o1 v1 v2 tp tq,h.get? a=some (tup [o1,v1,v2,.int x.pq.1 tp,.int x.pq.2 tq]):=by
 cases H with
 | leaf _ t0 e1 e2 r tr t1 g h=>exact⟨_,_,_,_,_,h⟩
 | node _ t0 la ra tp tq b l r g g2 h _ _=>exact⟨_,_,_,_,_,h⟩
noncomputable def slc(x:List Nat)(a b:Nat):List Nat:=(x.drop a).take (b-a)
noncomputable def isOp(k:Nat):Prop:=k=14∨k=18
inductive Parse(x:List Nat)(ys:List (Nat×Nat)):Nat→Part→Prop
 | leaf (i pl r:Nat):ys[i]?=some (pl,256+r)→Parse x ys i (.leaf r)
 | node (i j pl plj sy syj:Nat) (b:Bool) (l r:Part):ys[i]?=some (pl,sy)→sy<256→ys[j]?=some (plj,syj)→i<j→syj=(if b then 14 else 18)→chkB (stripL (slc x (pl+1) plj))=true →
   (∀j' plj' syj',j<j'→ys[j']?=some (plj',syj')→isOp syj'→chkB (stripL (slc x (pl+1) plj'))=false)→Parse x ys (i+1) l→Parse x ys (j+1) r→Parse x ys i (.node b l r)
structure GoodL(z:List Nat):Prop where
 asc:z.all (fun c:Nat=>decide (c<128))=true
 wf:G.wf z false=true
 asc':(stripL z).all (fun c:Nat=>decide (c<128))=true
 wf':G.wf (stripL z) false=true
noncomputable def GoodS(x:List Nat)(ys:List (Nat×Nat)):Prop:=∀i j pl sy plj syj:Nat,ys[i]?=some (pl,sy)→sy<256→ys[j]?=some (plj,syj)→i<j→isOp syj→pl+1≤plj∧plj≤x.length∧GoodL (slc x (pl+1) plj)
theorem SymRel.get{MT:Mem1}{ys:List (Nat×Nat)}(h:SymRel MT ys):∀{i pl k:Nat},ys[i]?=some (pl,k)→∃a t1 t2,MT[i]?=some (a,tup [.int (zN pl) t1,.int (zN k) t2]):=by
 induction h with
 | nil=>intro i pl k h; simp at h
 | cons a i k t1 t2 h ih =>
  intro i pl k h
  cases i with
  | zero=>simp only[List.getElem?_cons_zero,Option.some.injEq,Prod.mk.injEq]at h; obtain⟨rfl,rfl⟩:=h; exact⟨a,t1,t2,rfl⟩
  | succ i=>exact ih (by simpa using h)
theorem SymRel.len{MT:Mem1}{ys:List (Nat×Nat)}(h:SymRel MT ys):MT.length=ys.length:=by
 induction h with
 | nil=>rfl
 | cons a i k t1 t2 h ih=>simp[ih]
structure SymOK(s:Shared)(l:Addr)(MT:Mem1)(e:Nat):Prop where
 lst:s.heap.get? l=some (lst (refs MT) e)
 tt:TT s [l] MT
 hl:160≤l
theorem SymOK.keep{l:Addr}{MT:Mem1}{e:Nat}{G:List Nat}(h:SymOK s l MT e)(F:Fut L G s s')(hk:∀b∈L,(b∉l::MT.map (·.1))∨s'.heap.get? b=s.heap.get? b):SymOK s' l MT e:=by
 have key:∀b o,b∈l::MT.map (·.1)→s.heap.get? b=some o→s'.heap.get? b=some o:=fun b o hb ho=>by
  by_cases hL:b∈L
  ·rcases hk b hL with h|h
   ·exact absurd hb h
   ·rw[h]; exact ho
  ·exact F.keep _ _ ho hL
 refine⟨key _ _ Z0 h.lst,fun q hq=>⟨key _ _ (.tail _ (mmm (f:=(·.1)) hq)) (h.tt q hq).1,(h.tt q hq).2⟩,h.hl⟩
theorem SymOK.lt{l:Addr}{MT:Mem1}{e:Nat}(h:SymOK s l MT e):∀b∈l::MT.map (·.1),b<s.heap.objs.size:=by
 intro b hb
 rcases mc.mp hb with rfl|hb
 ·exact Heap.lt_size h.lst
 ·obtain⟨q,hq,rfl⟩:=List.mem_map.mp hb
  exact Heap.lt_size (h.tt q hq).1
theorem same_of{A:Mem1}{n:Nat}(h':∀q∈A,s'.heap.get? q.1=some q.2)(h:∀q∈A,s.heap.get? q.1=some q.2):∀b∈ks A,b∈L∨n≤b∨s'.heap.get? b=s.heap.get? b:=fun b hb=>by
 obtain⟨q,hq,rfl⟩:=List.mem_map.mp hb
 exact .inr (.inr ((h' q hq).trans (h q hq).symm))
theorem Fut.same{L L':List Addr}{G:List Nat}(F:Fut L G s s')(h:∀b∈L,b∈L'∨s.heap.objs.size≤b∨s'.heap.get? b=s.heap.get? b):Fut L' G s s' :=
 ⟨fun a o e q=>by
  by_cases z:a∈L
  ·rcases h a z with y|y|y
   ·exact absurd y q
   ·exact absurd (Heap.lt_size e) (Nat.not_lt.mpr y)
   ·rw[y]; exact e
  ·exact F.keep a o e z,F.size,F.gens,F.gsz,F.bare,F.d,F.os⟩
structure TextEvs(kt:Params→KT):Prop where
 c:CP.Evs kt
 s:SQ.Evs kt
 g:G.EvsG kt
 nl:EvNL kt
namespace PA
section
theorem he5{a b c d e:Eff}(h1:a.Ok prog w)(h2:b.Ok prog w)(h3:c.Ok prog w)(h4:d.Ok prog w)(h5:e.Ok prog w):∀x∈[a,b,c,d,e],x.Ok prog w:=by
 refine fc ?_ (fc ?_ (fc ?_ (fc ?_ (fc ?_ fz))))<;>assumption
theorem he3{a b c:Eff}(h1:a.Ok prog w)(h2:b.Ok prog w)(h3:c.Ok prog w):∀x∈[a,b,c],x.Ok prog w:=by
 refine fc ?_ (fc ?_ (fc ?_ fz))<;>assumption
theorem get_ok{l:Nat}{e k tk:Nat}{v:Value}{n t:Nat}(h:vs[k]?=some v)(hs:vs.length<2 ^ 20):(eGet l vs e (zN k) tk v n t).Ok prog w :=
 eff_getitem rfl Z0 (Int.natCast_nonneg k) (by simpa using h) (by omega) rfl rfl rfl rfl
theorem next_ok{it:Nat}{x left:Int}{n t:Nat}(h:0<left):(eRNext it x left n t).Ok prog w:=eff_range_next rfl Z0 h rfl rfl rfl rfl
theorem tcon_ok{l k tk t1 t2 n t:Nat}{b:Bool}(h:b=true↔isOp k):(eTCon l [.int 14 t1,.int 18 t2] (zN k) tk b n t).Ok prog w:=by
 refine eff_tuple_contains (xs:=[14,18]) rfl Z0 rfl rfl rfl rfl rfl ?_
 unfold isOp at h
 have e1:((k:Int)=14↔k=14):=by omega
 have e2:((k:Int)=18↔k=18):=by omega
 cases b
 ·have:=mt h.mpr Bool.false_ne_true
  simp only[mc,nn,or_false,Int.ofNat_eq_natCast,e1,e2,this,decide_false]
 ·have:=h.mp rfl
  simp only[mc,nn,or_false,Int.ofNat_eq_natCast,e1,e2,this,decide_true]
theorem slice_ok{x:Str}{tx a b ta tb ad n t:Nat}(h1:a≤b)(h2:b≤x.cps.size)(h3:0<a)(hsz:x.cps.size<2 ^ 20):(SQ.eSli x tx (.int (zN a) ta) (.int (zN b) tb) ad ⟨⟨slc x.cps.toList a b⟩⟩ t 1 n t).Ok prog w :=
 eff_str_slice (x:=x) (t:=tx) (u:=t) (i:=a) (j:=b) (ti:=ta) (up:=some (zN b,tb)) rfl rfl rfl Z0 ⟨rfl,rfl⟩ rfl h1 h2 hsz rfl rfl (.inr ⟨rfl,rfl,by show b-a≠x.cps.size; omega⟩)
noncomputable def FJ(W:Wd)(p:Pr)(F:Obj):Prop:=F=frN W p∨∃kj j0 tj,F=frJ W p kj j0 tj
inductive TOp(kt:Params→KT)(W:Wd)(p:Pr)(F:Obj)(n t:Nat)(j a:Int)(h:Nat)(b:Int)(c:Nat)(f:Int)(g:Nat)(z:Str)(u d:Nat):Prop
 | mk (x:Nat) (o:Out) (hs:List H) (ho:o=startC (S1 kt W n t 60) (LC kt W p) (.own []) [(p.n,F),(p.n+6,rgi j a (-1)),(p.l,lst p.vs p.e),(h,tup [.int b c,.int f g])] hs)
  (e:StopIs o [] [SQ.eSli p.x p.tx (.int (p.pl+1) (t+6)) (.int b c) (n+1) z u d (n+2) (t+8),eGet p.l p.vs p.e j t (.ref h) (n+1) (t+7),eTCon n [.int 14 (t+3),.int 18 (t+4)] f g true (n+1) (t+5),eGet p.l p.vs p.e j t (.ref h) n (t+2),eRNext (p.n+6) j a n t] (.call (.ref 35) ⟨[.str z u],[]⟩) 1 [(0,p.n,frJ W p x j t),(1,p.n+6,rgi (j-1) (a-1) (-1)),(2,p.l,lst p.vs p.e),(3,h,tup [.int b c,.int f g])])
  (qF:∀n' t',∃hs',AgainIs (on kt W n' t' o (.ok (.ret (.bool false))) [(p.n,frJ W p x j t),(p.n+6,rgi (j-1) (a-1) (-1)),(p.l,lst p.vs p.e)] hs') [] [] (LC kt W p) [(0,p.n,frJ W p x j t),(1,p.n+6,rgi (j-1) (a-1) (-1)),(2,p.l,lst p.vs p.e)])
  (qT:∀n' t',∃hs',RetIs (on kt W n' t' o (.ok (.ret (.bool true))) [(p.n,frJ W p x j t),(p.n+6,rgi (j-1) (a-1) (-1)),(p.l,lst p.vs p.e)] hs') [] [] (.ok .next) [(0,p.n,frJ W p x j t),(1,p.n+6,rgi (j-1) (a-1) (-1)),(2,p.l,lst p.vs p.e)])
theorem t_op(E:Evs kt){p:Pr}{F:Obj}(hF:FJ W p F)(n t:Nat)(j a:Int)(h:Nat)(b:Int)(c:Nat)(f:Int)(g:Nat)(z:Str)(u d:Nat):TOp kt W p F n t j a h b c f g z u d:=by
 rcases hF with rfl|⟨kj,j0,tj,rfl⟩
 ·exact⟨_,_,_,rfl,E 3 W p n t j a h b c f g z u d,fun n' t'=>⟨_,E 4 W p n t j a h b c f g z u d n' t'⟩,fun n' t'=>⟨_,E 5 W p n t j a h b c f g z u d n' t'⟩⟩
 ·exact⟨_,_,_,rfl,E 7 W p kj j0 tj n t j a h b c f g z u d,fun n' t'=>⟨_,E 8 W p kj j0 tj n t j a h b c f g z u d n' t'⟩,fun n' t'=>⟨_,E 9 W p kj j0 tj n t j a h b c f g z u d n' t'⟩⟩
theorem t_no(E:Evs kt){p:Pr}{F:Obj}(hF:FJ W p F)(n t:Nat)(j a:Int)(h:Nat)(b:Int)(c:Nat)(f:Int)(g:Nat):∃x hs,AgainIs (startC (S1 kt W n t 60) (LC kt W p) (.own []) [(p.n,F),(p.n+6,rgi j a (-1)),(p.l,lst p.vs p.e),(h,tup [.int b c,.int f g])] hs) [] [eTCon n [.int 14 (t+3),.int 18 (t+4)] f g false (n+1) (t+5),eGet p.l p.vs p.e j t (.ref h) n (t+2),eRNext (p.n+6) j a n t] (LC kt W p) [(0,p.n,frJ W p x j t),(1,p.n+6,rgi (j-1) (a-1) (-1)),(2,p.l,lst p.vs p.e),(3,h,tup [.int b c,.int f g])]:=by
 rcases hF with rfl|⟨kj,j0,tj,rfl⟩
 ·exact⟨_,_,E 2 W p n t j a h b c f g⟩
 ·exact⟨_,_,E 6 W p kj j0 tj n t j a h b c f g⟩
theorem turn(E:Evs kt)(TE:TextEvs kt){p:Pr}(hA:A.handled=none)(hd:A.depth+145<1000){s0:Shared}{ys:List (Nat×Nat)}{MT:Mem1}{pl:Nat}(asc:p.x.cps.all (·<128)=true)(hsz:p.x.cps.size<2 ^ 18)(hS:SymRel MT ys)(hn:ys.length<1000)
  (hvs:p.vs=refs MT) (hpl:p.pl=zN pl) (hnl:p.n∉p.l::MT.map (·.1)) (hnl6:p.n+6∉p.l::MT.map (·.1)) {j plj syj:Nat} {left:Int} {F:Obj} {s:Shared} (hj:ys[j]?=some (plj,syj)) (hleft:0<left) (hF:FJ W p F)
  (C:Cur kt W s0 (p.l::MT.map (·.1)) [] s [(p.n,F),(p.n+6,rgi (zN j) left (-1))]) (hT:SymOK s p.l MT p.e)
  (good:isOp syj→pl+1≤plj∧plj≤p.x.cps.size∧GoodL (slc p.x.cps.toList (pl+1) plj))
  (h0:(isOp syj→chkB (stripL (slc p.x.cps.toList (pl+1) plj))=false)→∀s' kj tj,Cur kt W s0 (p.l::MT.map (·.1)) [] s' [(p.n,frJ W p kj (zN j) tj),(p.n+6,rgi (zN j-1) (left-1) (-1))]→SymOK s' p.l MT p.e→Mean W A R P (LC kt W p) (.own []) (denote table (LC kt W p)) s')
  (h1:isOp syj→chkB (stripL (slc p.x.cps.toList (pl+1) plj))=true→∀s' kj tj,Cur kt W s0 (p.l::MT.map (·.1)) [] s' [(p.n,frJ W p kj (zN j) tj)]→SymOK s' p.l MT p.e→R (.ok .next) s'):Mean W A R P (LC kt W p) (.own []) (denote table (LC kt W p)) s:=by
 have dA:A.depth+60<1000:=by omega
 obtain⟨aj,t1,t2,hm⟩:=hS.get hj
 have hmem:(aj,tup [.int (zN plj) t1,.int (zN syj) t2])∈MT:=List.mem_of_getElem? hm
 obtain⟨ho,hnX,h160⟩:=hT.tt _ hmem
 have hajl:aj≠p.l:=fun z=>hnX (by simp[z])
 have hajm:aj∈p.l::MT.map (·.1):=.tail _ (mmm (f:=(·.1)) hmem)
 have ne:∀{b},b∈p.l::MT.map (·.1)→p.n≠b∧p.n+6≠b:=fun {b} hb=>⟨fun z=>hnl (z▸hb),fun z=>hnl6 (z▸hb)⟩
 have C1:Cur kt W s0 (p.l::MT.map (·.1)) [] s [(p.n,F),(p.n+6,rgi (zN j) left (-1)),(p.l,lst p.vs p.e),(aj,tup [.int (zN plj) t1,.int (zN syj) t2])]:=by
  refine(C.add (a:=p.l) (o:=lst p.vs p.e) (by rw[hvs]; exact hT.lst) (.inl hT.hl) ?_ (.inl Z0)).add ho (.inl h160) ?_ (.inl hajm)
  ·simp only[ks,mp,mn,mc,nn,or_false,not_or]
   exact⟨fun z=>(ne Z0).1 z.symm,fun z=>(ne Z0).2 z.symm⟩
  ·simp only[ks,ca,List.nil_append,mp,mn,mc,nn,or_false,not_or]
   exact⟨fun z=>(ne hajm).1 z.symm,fun z=>(ne hajm).2 z.symm,hajl⟩
 have hlen:p.vs.length<2 ^ 20:=by rw[hvs]; simp only[refs,List.length_map]; rw[hS.len]; omega
 have hget:p.vs[j]?=some (.ref aj):=by rw[hvs]; simp[refs,hm]
 have hg:∀n t tk,(eGet p.l p.vs p.e (zN j) tk (.ref aj) n t).Ok PW W.w:=fun n t tk=>get_ok hget hlen
 have hx:∀n t,(eRNext (p.n+6) (zN j) left n t).Ok PW W.w:=fun n t=>next_ok hleft
 have keepS:∀{s':Shared} {F' G':Obj},Cur kt W s0 (p.l::MT.map (·.1)) [] s' [(p.n,F'),(p.n+6,G'),(p.l,lst p.vs p.e),(aj,tup [.int (zN plj) t1,.int (zN syj) t2])]→Fut (ks [(p.n,F),(p.n+6,rgi (zN j) left (-1)),(p.l,lst p.vs p.e),(aj,tup [.int (zN plj) t1,.int (zN syj) t2])]) [] s s'→SymOK s' p.l MT p.e:=by
  intro s' F' G' C' F''
  refine hT.keep F'' fun b hb=>?_
  simp only[ks,mp,mn,mc,nn,or_false]at hb
  rcases hb with rfl|rfl|rfl|rfl
  ·exact .inl hnl
  ·exact .inl hnl6
  ·right
   rw[C'.own (p.l,lst p.vs p.e) (by simp),C1.own (p.l,lst p.vs p.e) (by simp)]
  ·right
   rw[C'.own (b,tup [.int (zN plj) t1,.int (zN syj) t2]) (by simp),C1.own (b,tup [.int (zN plj) t1,.int (zN syj) t2]) (by simp)]
 by_cases hop:isOp syj
 ·obtain⟨g1,g2,g3⟩:=good hop
  have hsl:∀ad n t ta,(SQ.eSli p.x p.tx (.int (p.pl+1) ta) (.int (zN plj) t1) ad ⟨⟨slc p.x.cps.toList (pl+1) plj⟩⟩ t 1 n t).Ok PW W.w:=fun ad n t ta=>by
   rw[hpl]
   exact slice_ok (a:=pl+1) g1 g2 (Nat.succ_pos _) (by omega)
  have htc:∀l n t ta tb,(eTCon l [.int 14 ta,.int 18 tb] (zN syj) t2 true n t).Ok PW W.w:=fun l n t ta tb=>tcon_ok (by simp[hop])
  have zl:(slc p.x.cps.toList (pl+1) plj).length<2 ^ 18:=by
   unfold slc
   rw[List.length_take,List.length_drop,Array.length_toList]
   exact Nat.lt_of_le_of_lt (nT (Nat.min_le_right _ _) (Nat.sub_le _ _)) (by assumption)
  have go:∀{s₁:Shared} {A1:Around} {c:Code} {κ:Md} {k:Result→Sem PySem.Fin} {FJ':Obj},A1.handled=none→A1.depth≤A.depth+1→Cur kt W s0 (p.l::MT.map (·.1)) [] s₁ [(p.n,FJ'),(p.n+6,rgi (zN j-1) (left-1) (-1)),(p.l,lst p.vs p.e)]→SymOK s₁ p.l MT p.e →
    (∀s2,Cur kt W s0 (p.l::MT.map (·.1)) [] s2 [(p.n,FJ'),(p.n+6,rgi (zN j-1) (left-1) (-1)),(p.l,lst p.vs p.e)]→SymOK s2 p.l MT p.e→Mean W A R P c κ (k (.ok (.ret (.bool (chkB (stripL (slc p.x.cps.toList (pl+1) plj))))))) s2) →
    codeAny W.M A1 (.call (.ref 35) ⟨[.str ⟨⟨slc p.x.cps.toList (pl+1) plj⟩⟩ (s.toks+8)],[]⟩) (fun r s''=>Mean W A R P c κ (k r) s'') s₁:=by
   intro s₁ A1 c κ k FJ' hA1 hd1 C₁ T1 hk
   refine CP.spec TE.c TE.g TE.nl (strip_spec TE.s TE.g TE.nl) C₁.B hA1 (by omega) (by simpa using g3.asc) (by show(slc p.x.cps.toList (pl+1) plj).length<_; omega) g3.wf g3.asc' g3.wf' ?_
   intro s2 F2
   exact hk s2 (C₁.call0 F2) (T1.keep F2 fz)
  have aft:∀{s2 s3:Shared} {FJ' FJ'' G'':Obj},Cur kt W s0 (p.l::MT.map (·.1)) [] s2 [(p.n,FJ'),(p.n+6,rgi (zN j-1) (left-1) (-1)),(p.l,lst p.vs p.e)]→SymOK s2 p.l MT p.e→Cur kt W s0 (p.l::MT.map (·.1)) [] s3 [(p.n,FJ''),(p.n+6,G''),(p.l,lst p.vs p.e)]→Fut (ks [(p.n,FJ'),(p.n+6,rgi (zN j-1) (left-1) (-1)),(p.l,lst p.vs p.e)]) [] s2 s3→SymOK s3 p.l MT p.e:=by
   intro s2 s3 FJ' FJ'' G'' C2 T2 C3 F3
   refine T2.keep F3 fun b hb=>?_
   simp only[ks,mp,mn,mf,nn,or_false]at hb
   rcases hb with rfl|rfl|rfl
   ·exact .inl hnl
   ·exact .inl hnl6
   ·right
    rw[C3.own (p.l,lst p.vs p.e) (by simp),C2.own (p.l,lst p.vs p.e) (by simp)]
  obtain⟨kj,o,hs,ho,ec,qF,qT⟩:=t_op E hF s.heap.objs.size s.toks (zN j) left aj (zN plj) t1 (zN syj) t2 ⟨⟨slc p.x.cps.toList (pl+1) plj⟩⟩ (s.toks+8) 1
  refine C1.startC hA dA (hs:=hs) (ho▸C1.stop ec hA noV (he5 (hsl _ _ _ _) (hg _ _ _) (htc _ _ _ _ _) (hg _ _ _) (hx _ _)) rfl ?_)
  intro s₁ A1 C2 _ F2 hA1 hd1 kec
  refine go hA1 hd1 (C2.sub (.cons_cons _ (.cons_cons _ (.cons_cons _ (List.nil_sublist _))))) (keepS C2 F2) ?_
  intro s2 C3 T3
  cases hb:chkB (stripL (slc p.x.cps.toList (pl+1) plj))with
  | false =>
   obtain⟨h3,e3⟩:=qF s2.heap.objs.size s2.toks
   refine C3.startT kec hA dA (C3.again e3 noV noE rfl ?_)
   intro s3 C4 _ F4
   exact h0 (fun _=>hb) s3 _ _ (C4.sub (.cons_cons _ (.cons_cons _ (List.nil_sublist _)))) (aft C3 T3 C4 F4)
  | true =>
   obtain⟨h3,e3⟩:=qT s2.heap.objs.size s2.toks
   refine C3.startT kec hA dA (C3.ret e3 noV noE rfl ?_)
   intro s3 C4 _ F4
   exact h1 hop hb s3 _ _ (C4.sub (.cons_cons _ (List.nil_sublist _))) (aft C3 T3 C4 F4)
 ·have htc:∀l n t ta tb,(eTCon l [.int 14 ta,.int 18 tb] (zN syj) t2 false n t).Ok PW W.w:=fun l n t ta tb=>tcon_ok (by simp[hop])
  obtain⟨kj,hs,ec⟩:=t_no E hF s.heap.objs.size s.toks (zN j) left aj (zN plj) t1 (zN syj) t2
  refine C1.startC hA dA (hs:=hs) (C1.again ec noV (he3 (htc _ _ _ _ _) (hg _ _ _) (hx _ _)) rfl ?_)
  intro s₁ C2 _ F2
  exact h0 (fun h=>absurd h hop) s₁ _ _ (C2.sub (.cons_cons _ (.cons_cons _ (List.nil_sublist _)))) (keepS C2 F2)
theorem scan(E:Evs kt)(TE:TextEvs kt){p:Pr}(hA:A.handled=none)(hd:A.depth+145<1000){s0:Shared}{ys:List (Nat×Nat)}{MT:Mem1}{j₀ pl:Nat}(asc:p.x.cps.all (·<128)=true)(hsz:p.x.cps.size<2 ^ 18)(hS:SymRel MT ys)(hn:ys.length<1000)
  (hvs:p.vs=refs MT) (hpl:p.pl=zN pl) (hnl:p.n∉p.l::MT.map (·.1)) (hnl6:p.n+6∉p.l::MT.map (·.1))
  (good:∀j plj syj:Nat,ys[j]?=some (plj,syj)→j₀≤j→isOp syj→pl+1≤plj∧plj≤p.x.cps.size∧GoodL (slc p.x.cps.toList (pl+1) plj))
  {plj0 syj0:Nat} (hj0:ys[j₀]?=some (plj0,syj0)) (hop0:isOp syj0) (hck:chkB (stripL (slc p.x.cps.toList (pl+1) plj0))=true) (hlater:∀j' plj' syj':Nat,j₀<j'→ys[j']?=some (plj',syj')→isOp syj'→chkB (stripL (slc p.x.cps.toList (pl+1) plj'))=false) :
  ∀(k:Nat) {j:Nat} {left:Int} {F:Obj} {s:Shared},j=j₀+k→j<ys.length→(k:Int)<left→FJ W p F→Cur kt W s0 (p.l::MT.map (·.1)) [] s [(p.n,F),(p.n+6,rgi (zN j) left (-1))]→SymOK s p.l MT p.e →
   (∀s' kj tj,Cur kt W s0 (p.l::MT.map (·.1)) [] s' [(p.n,frJ W p kj (zN j₀) tj)]→SymOK s' p.l MT p.e→R (.ok .next) s')→Mean W A R P (LC kt W p) (.own []) (denote table (LC kt W p)) s:=by
 intro k
 induction k with
 | zero =>
  intro j left F s hj hjl hleft hF C hT h1
  have hj':j=j₀:=by omega
  subst hj'
  refine turn E TE hA hd asc hsz hS hn hvs hpl hnl hnl6 hj0 (by omega) hF C hT (fun h=>good j _ _ hj0 (nR _) h) (fun h=>?_) (fun _ _=>h1)
  rw[h hop0]at hck; cases hck
 | succ k ih =>
  intro j left F s hj hjl hleft hF C hT h1
  obtain⟨y,hy⟩:∃y,ys[j]?=some y:=⟨ys[j],by simp[hjl]⟩
  obtain⟨plj,syj⟩:=y
  refine turn E TE hA hd asc hsz hS hn hvs hpl hnl hnl6 hy (by omega) hF C hT (fun h=>good j _ _ hy (by omega) h) (fun _ s' kj tj C' T'=>?_) (fun hop hck'=>?_)
  ·have e1:zN j-1=zN (j-1):=by simp only[Int.ofNat_eq_natCast]; omega
   rw[e1]at C'
   exact ih (j:=j-1) (by omega) (by omega) (by omega) (.inr ⟨kj,_,tj,rfl⟩) C' T' h1
  ·rw[hlater j _ _ (by omega) hy hop]at hck'; cases hck'
end
end PA
theorem range_down{n i:Nat}(h:i<n)(hn:n<1000):Builtin.Range.small (zN n-1) (zN i) (-1)=true∧Builtin.Range.rangeSize (zN n-1) (zN i) (-1)=((n-1-i:Nat):Int):=by
 have e1:Builtin.Range.rangeSize (zN n-1) (zN i) (-1)=((n-1-i:Nat):Int):=by
  unfold Builtin.Range.rangeSize
  simp only[Int.ofNat_eq_natCast]
  split
  ·omega
  ·split
   ·simp only[Int.neg_neg,Int.ediv_one]; omega
   ·omega
 refine⟨?_,e1⟩
 unfold Builtin.Range.small
 rw[e1]
 simp only[Builtin.Range.rangeFitsLong,Int.ofNat_eq_natCast,Bool.and_eq_true,Bool.or_eq_true,decide_eq_true_eq]
 refine⟨⟨⟨⟨?_,?_⟩,?_⟩,?_⟩,.inr ?_⟩<;>first|omega (config:={})|(rw[if_neg (by decide)]; simp only[Bool.and_eq_true,decide_eq_true_eq]; omega)|(simp; omega)
theorem PartAt.futN{G:List Nat}{v:Value}{x:Part}(h:PartAt s.heap v x)(F:Fut L G s s')(hL:∀b∈L,b<160∨∀vs,s.heap.get? b≠some (tup vs)):PartAt s'.heap v x:=by
 induction h with
 | leaf a t0 e1 e2 r tr t1 g h=>exact .leaf a t0 e1 e2 r tr t1 g (F.keep _ _ h (fun z=>(hL _ z).elim (fun y=>absurd y (Nat.not_lt.mpr g)) (fun y=>y _ h)))
 | node a t0 la ra tp tq b l r g g2 h _ _ i1 i2=>exact .node a t0 la ra tp tq b l r g g2 (F.keep _ _ h (fun z=>(hL _ z).elim (fun y=>absurd y (Nat.not_lt.mpr g)) (fun y=>y _ h))) i1 i2
namespace PA
section
theorem spec(E:Evs kt)(TE:TextEvs kt){x:Str}{ys:List (Nat×Nat)}(asc:x.cps.all (·<128)=true)(hsz:x.cps.size<2 ^ 18)(hn:ys.length<1000)(good:GoodS x.cps.toList ys){i:Nat}{part:Part}(HP:Parse x.cps.toList ys i part):
  ∀{A:Around} {R:Result→Shared→Prop} {s:Shared} {tx ti:Tok} {l:Addr} {MT:Mem1} {e:Nat},part.Ok→part.size≤8→Base kt W s.heap→A.handled=none→A.depth+150+part.height<1000→SymOK s l MT e→SymRel MT ys →
   (∀s' a,Fut [] [] s s'→s.heap.objs.size≤a→PartAt s'.heap (.ref a) part→R (.ok (.ret (.ref a))) s')→codeAny W.M A (.call (.ref 146) ⟨[.str x tx,.ref l,.int (zN i) ti],[]⟩) R s:=by
 induction HP with
 | leaf i pl r hi =>
  intro A R s tx ti l MT e hok hps B hA hd hT hS k
  obtain⟨ai,t1,t2,hm⟩:=hS.get hi
  have hmem:(ai,tup [.int (zN pl) t1,.int (zN (256+r)) t2])∈MT:=List.mem_of_getElem? hm
  obtain⟨ho,hnX,h160⟩:=hT.tt _ hmem
  have dA:A.depth+60<1000:=by omega
  have C1:Cur kt W s (l::MT.map (·.1)) [] s [(l,lst (refs MT) e),(ai,tup [.int (zN pl) t1,.int (zN (256+r)) t2])] :=
   ((Cur.start B (l::MT.map (·.1)) []).add (a:=l) hT.lst (.inl hT.hl) (fun h=>nomatch h) (.inl Z0)).add ho (.inl h160) (by simpa using hnX) (.inl (.tail _ (mmm (f:=(·.1)) hmem)))
  have hlen:(refs MT).length<2 ^ 20:=by simp only[refs,List.length_map]; rw[hS.len]; omega
  have hg:=get_ok (prog:=PW) (w:=W.w) (l:=l) (vs:=refs MT) (e:=e) (k:=i) (tk:=ti) (v:=.ref ai) (n:=s.heap.objs.size+1) (t:=s.toks+3) (by simp[refs,hm]) hlen
  have hv:dLe 256 (zN (256+r))=true:=by rw[dLe_eq]; simp only[Int.ofNat_eq_natCast,decide_eq_true_eq]; omega
  refine C1.startF hA dA (by decide) (C1.ret (E 0 W ⟨s.heap.objs.size,s.toks,x,tx,l,zN i,ti,refs MT,e,ai,zN pl,t1,zN (256+r),t2,0⟩) (CP.hv1 hv) (SQ.he1 hg) rfl ?_)
  intro s' C' _ F'
  have hp:=C'.ix 2 (s.heap.objs.size+7,_) rfl
  have hnL:∀q∈[(l,lst (refs MT) e),(ai,tup [.int (zN pl) t1,.int (zN (256+r)) t2])],s'.heap.get? q.1=some q.2:=fun q hq=>C'.own q (by
   simp only[mf,nn,or_false]at hq
   rcases hq with rfl|rfl
   ·exact .head _
   ·exact Z1)
  refine k s' _ (F'.same fun b hb=>?_) (lU ..) ?_
  ·obtain⟨q,hq,rfl⟩:=List.mem_map.mp hb
   exact .inr (.inr ((hnL q hq).trans (C1.own q hq).symm))
  ·refine .leaf _ (s.toks+6) (.ref (s.heap.objs.size+5)) (.ref (s.heap.objs.size+6)) r (s.toks+7) (s.toks+8) (nT B.sz (lU ..)) ?_
   have e1:zN (256+r)-256=(Part.leaf r).pq.1:=by simp only[Part.pq_e,Int.ofNat_eq_natCast]; omega
   have hp2:s'.heap.get? (s.heap.objs.size+7)=some (tup [.int 0 (s.toks+6),.ref (s.heap.objs.size+5),.ref (s.heap.objs.size+6),.int (zN (256+r)-256) (s.toks+7),.int 1 (s.toks+8)]):=hp
   rw[e1]at hp2
   exact hp2
 | node i j pl plj sy syj b l r hi hsy hj hij hsyj hck hlat _ _ ihl ihr =>
  intro A R s tx ti l0 MT e hok hps B hA hd hT hS k
  have hd:A.depth+150+(l.height+r.height+1)<1000:=hd
  have hps:l.size+r.size≤8:=hps
  obtain⟨ai,t1,t2,hm⟩:=hS.get hi
  have hmem:(ai,tup [.int (zN pl) t1,.int (zN sy) t2])∈MT:=List.mem_of_getElem? hm
  obtain⟨ho,hnX,h160⟩:=hT.tt _ hmem
  have dA:A.depth+60<1000:=by omega
  have hjl:j<ys.length:=(List.getElem?_eq_some_iff.mp hj).1
  have hil:i<ys.length:=by omega
  obtain⟨rs1,rs2⟩:=range_down (n:=ys.length) (i:=i) hil hn
  have hlm:(refs MT).length=ys.length:=by simp only[refs,List.length_map]; rw[hS.len]
  have hlen:(refs MT).length<2 ^ 20:=by omega
  obtain⟨p,hp⟩:∃p:Pr,p=⟨s.heap.objs.size,s.toks,x,tx,l0,zN i,ti,refs MT,e,ai,zN pl,t1,zN sy,t2,((ys.length-1-i:Nat):Int)⟩:=⟨_,rfl⟩
  have pn:p.n=s.heap.objs.size:=by rw[hp]
  have pl':p.l=l0:=by rw[hp]
  have C1:Cur kt W s (l0::MT.map (·.1)) [] s (M0 p):=by
   rw[hp]
   exact((Cur.start B (l0::MT.map (·.1)) []).add (a:=l0) hT.lst (.inl hT.hl) (fun h=>nomatch h) (.inl Z0)).add ho (.inl h160) (by simpa using hnX) (.inl (.tail _ (mmm (f:=(·.1)) hmem)))
  have hg:∀k tk v n t,(refs MT)[k]?=some v→(eGet p.l p.vs p.e (zN k) tk v n t).Ok PW W.w:=fun k tk v n t h=>by
   rw[hp]; exact get_ok h hlen
  have hln:(eLenL p.l p.vs p.e (p.n+5) (p.t+6)).Ok PW W.w:=by
   rw[hp]; exact eff_len_list rfl Z0 rfl rfl (show(refs MT).length<2 ^ 62 by omega) rfl rfl
  have hri:(eRIter (p.n+5) (zN p.vs.length-1) p.i (-1) (p.t+9) p.ti (p.t+11) p.m (p.n+6) (p.t+12)).Ok PW W.w:=by
   refine eff_range_iter rfl Z0 ?_ rfl ?_ rfl rfl
   ·rw[hp]; show Builtin.Range.small (zN (refs MT).length-1) (zN i) (-1)=true
    rw[hlm]; exact rs1
   ·rw[hp]; show[rgi (zN (refs MT).length-1) ((ys.length-1-i:Nat):Int) (-1)]=[rgi (zN (refs MT).length-1) (Builtin.Range.rangeSize (zN (refs MT).length-1) (zN i) (-1)) (-1)]
    rw[hlm,rs2]
  have hgi:(eGet p.l p.vs p.e p.i p.ti (.ref p.a) (p.n+1) (p.t+3)).Ok PW W.w:=by
   have:=hg i ti (.ref ai) (p.n+1) (p.t+3) (by simp[refs,hm])
   rw[hp]at this ⊢
   exact this
  have hv:dLe 256 p.sy=false:=by rw[dLe_eq,hp]; simp only[Int.ofNat_eq_natCast,decide_eq_false_iff_not]; omega
  have st:∀{Q:Out→Prop},Q (a0N kt W p)→Q (startF (S1 kt W s.heap.objs.size s.toks 60) 146 (ari p) (M0 p) (Hx Y22 (.i [0] (.ref p.a) 0::Hx Y23 (.f::Hx 0x1a21aa1 (.v (.bool false)::Hx 0x611112 (.i [0] (.int (zN p.vs.length) (p.t+7)) 2::Hx 0xbbb2b2bb222222622 (.e [7] none [rgi (zN p.vs.length-1) p.m (-1)] (.ok (.ret (.ref (p.n+6)))) 0::Hx 0x3c []))))))):=fun h=>by rw[hp]at h ⊢; exact h
  have hargs:(⟨[.str x tx,.ref l0,.int (zN i) ti],[]⟩:Args)=ari p:=by rw[hp]; rfl
  rw[hargs]
  refine C1.startF hA dA (by decide) (st (Q:=fun o=>Post _ _ false o) (C1.stop (E 1 W p) hA (CP.hv1 hv) (he3 hri hln hgi) rfl ?_))
  intro s₁ A1 C2 _ F2 hA1 hd1 kea
  have own2:=C2.own
  have T2:SymOK s₁ p.l MT p.e:=by
   have h0:SymOK s p.l MT p.e:=by rw[hp]; exact hT
   refine h0.keep F2 fun b hb=>.inr ?_
   obtain⟨q,hq,rfl⟩:=List.mem_map.mp hb
   rw[C1.own q hq]
   refine own2 q ?_
   simp only[M0,mf,nn,or_false]at hq
   rcases hq with rfl|rfl
   ·exact .head _
   ·exact Z1
  have C3:Cur kt W s (l0::MT.map (·.1)) [] s₁ [(p.n,frN W p),(p.n+6,rgi (zN p.vs.length-1) p.m (-1))]:=C2.sub (.cons _ (.cons _ (.cons_cons _ (.cons_cons _ (List.nil_sublist _)))))
  have e2:zN p.vs.length-1=zN (ys.length-1):=by rw[hp]; show zN (refs MT).length-1=_; rw[hlm]; simp only[Int.ofNat_eq_natCast]; omega
  have e3:p.m=((ys.length-1-i:Nat):Int):=by rw[hp]
  rw[e2,e3,←pl']at C3
  have hlt:=hT.lt
  have hnl:p.n∉p.l::MT.map (·.1):=fun z=>by rw[pl',pn]at z; exact absurd (hlt _ z) (Nat.lt_irrefl _)
  have hnl6:p.n+6∉p.l::MT.map (·.1):=fun z=>by rw[pl',pn]at z; exact absurd (hlt _ z) (Nat.not_lt.mpr (lU _ _))
  have hop:isOp syj:=by rw[hsyj]; cases b<;>simp[isOp]
  have px:p.x=x:=by rw[hp]
  have hpt:p.tx=tx:=by rw[hp]
  have hpi:p.i=zN i:=by rw[hp]
  refine code_of_mean (P:=fun _ _=>False) (scan E TE hA1 (by omega) (by rw[px]; exact asc) (by rw[px]; exact hsz) hS hn (by rw[hp]) (pl:=pl) (by rw[hp]) hnl hnl6 (j₀:=j) (fun j' plj' syj' h1 h2 h3=>by rw[px]; have:=good i j' pl sy plj' syj' hi hsy h1 (by omega) h3; simpa using this) hj hop (by rw[px]; exact hck) (fun j' plj' syj' h1 h2 h3=>by rw[px]; exact hlat j' plj' syj' h1 h2 h3) (ys.length-1-j) (j:=ys.length-1) (Nat.add_sub_of_le (Nat.le_sub_one_of_lt (by assumption))).symm (Nat.sub_lt (Nat.lt_of_le_of_lt (Nat.zero_le j) (by assumption)) Nat.one_pos) (by clear hp; omega) (.inl rfl) C3 T2 ?_)
  intro s2 kj tj C4 T4
  refine C4.startT kea hA dA (C4.stop (E 10 W p kj (zN j) tj s2.heap.objs.size s2.toks) hA noV noE rfl ?_)
  intro s3 A3 C5 _ F5 hA3 hd3 ked
  have nfr:∀{s':Shared} {o:Obj},s'.heap.get? p.n=some o→o.cls≠.type "tuple"→∀b∈ks [(p.n,o)],b<160∨∀vs,s'.heap.get? b≠some (tup vs):=fun {s' o} h1 h2 b hb=>.inr fun vs hv=>by
   simp only[ks,mp,mn,mg]at hb
   subst hb
   rw[h1]at hv
   injection hv with hv
   rw[hv]at h2
   exact h2 rfl
  have T5:SymOK s3 p.l MT p.e:=T4.keep F5 <|by
   refine fc ?_ fz
   exact .inl hnl
  have n3:p.n<s3.heap.objs.size:=C5.klt (a:=p.n) Z0
  have hargs2:(⟨[.str p.x p.tx,.ref p.l,.int (p.i+1) (s2.toks+1)],[]⟩:Args)=⟨[.str x tx,.ref p.l,.int (zN (i+1)) (s2.toks+1)],[]⟩:=by rw[px,hpt,hpi]; rfl
  rw[hargs2]
  refine ihl hok.1 (by omega) C5.B hA3 (by omega) T5 hS ?_
  intro s4 la F6 hla HL
  have C6:=C5.call0 F6
  have T6:=T5.keep F6 fz
  refine C6.startT ked hA dA (C6.stop (E 11 W p kj (zN j) tj s2.heap.objs.size s2.toks la s4.heap.objs.size s4.toks) hA noV noE rfl ?_)
  intro s5 A5 C7 _ F7 hA5 hd5 kee
  have HL7:=HL.futN F7 (nfr (C6.ix 0 (p.n,_) rfl) kA)
  have T7:SymOK s5 p.l MT p.e:=T6.keep F7 <|by
   refine fc ?_ fz
   exact .inl hnl
  have hargs3:(⟨[.str p.x p.tx,.ref p.l,.int (zN j+1) (s4.toks+2)],[]⟩:Args)=⟨[.str x tx,.ref p.l,.int (zN (j+1)) (s4.toks+2)],[]⟩:=by rw[px,hpt]; rfl
  rw[hargs3]
  refine ihr hok.2 (by omega) C7.B hA5 (by omega) T7 hS ?_
  intro s6 ra F8 hra HR
  have HL8:=HL7.fut0 F8
  have T8:=T7.keep F8 fz
  obtain⟨o1,v1,v2,tlp,tlq,gl⟩:=HL8.obj
  obtain⟨o3,v3,v4,trp,trq,gr⟩:=HR.obj
  obtain⟨aj,u1,u2,hmj⟩:=hS.get hj
  have hmemj:(aj,tup [.int (zN plj) u1,.int (zN syj) u2])∈MT:=List.mem_of_getElem? hmj
  obtain⟨hoj,hnXj,h160j⟩:=T8.tt _ hmemj
  have hajm:aj∈p.l::MT.map (·.1):=.tail _ (mmm (f:=(·.1)) hmemj)
  have b160:=B.sz
  have s3le:s.heap.objs.size≤s3.heap.objs.size:=C5.size
  have s5le:s.heap.objs.size≤s5.heap.objs.size:=C7.size
  have n5:p.n<s5.heap.objs.size:=C7.klt (a:=p.n) Z0
  have la5:la<s5.heap.objs.size:=by
   obtain⟨_,_,_,_,_,gl7⟩:=HL7.obj
   exact Heap.lt_size gl7
  have hdist:s6.heap.objs.size≠la∧s6.heap.objs.size≠ra∧la≠ra :=
   ⟨fun z=>absurd (Heap.lt_size gl) (Nat.not_lt.mpr (Nat.le_of_eq z)),fun z=>absurd (Heap.lt_size gr) (Nat.not_lt.mpr (Nat.le_of_eq z)),fun z=>absurd la5 (Nat.not_lt.mpr (z▸hra))⟩
  have oldl:∀b∈p.l::MT.map (·.1),b<s.heap.objs.size:=by rw[pl']; exact hlt
  have C8:Cur kt W s (p.l::MT.map (·.1)) [] s6 [(p.n,frK W p kj (zN j) tj s4.toks la),(la,tup [o1,v1,v2,.int l.pq.1 tlp,.int l.pq.2 tlq]),(ra,tup [o3,v3,v4,.int r.pq.1 trp,.int r.pq.2 trq]),(p.l,lst p.vs p.e),(aj,tup [.int (zN plj) u1,.int (zN syj) u2])]:=by
   refine(((((C7.call0 F8).add gl (.inl (nT b160 (nT s3le hla))) ?_ (.inr (nT s3le hla))).add gr (.inl (nT b160 (nT s5le hra))) ?_ (.inr (nT s5le hra))).add (a:=p.l) (o:=lst p.vs p.e) (by have:=T8.lst; rw[hp]at this ⊢; exact this) (.inl T8.hl) ?_ (.inl Z0)).add hoj (.inl h160j) ?_ (.inl hajm))
   ·simp only[ks,mp,mn,ms]
    exact fun z=>absurd n3 (Nat.not_lt.mpr (z▸hla))
   ·simp only[ks,ca,List.nil_append,mp,mn,mc,nn,or_false,not_or]
    exact⟨fun z=>absurd n5 (Nat.not_lt.mpr (z▸hra)),fun z=>absurd la5 (Nat.not_lt.mpr (z▸hra))⟩
   ·simp only[ks,ca,List.nil_append,mp,mn,mc,nn,or_false,not_or]
    exact⟨fun z=>hnl (z▸.head _),fun z=>absurd (oldl p.l Z0) (Nat.not_lt.mpr (z▸nT s3le hla)),fun z=>absurd (oldl p.l Z0) (Nat.not_lt.mpr (z▸nT s5le hra))⟩
   ·simp only[ks,ca,List.nil_append,mp,mn,mc,nn,or_false,not_or]
    exact⟨fun z=>hnl (z▸hajm),fun z=>absurd (oldl aj hajm) (Nat.not_lt.mpr (z▸nT s3le hla)),fun z=>absurd (oldl aj hajm) (Nat.not_lt.mpr (z▸nT s5le hra)),fun z=>hnXj (by simp[z])⟩
  obtain⟨bl1,bl2,bl3,bl4⟩:=l.bound hok.1
  obtain⟨br1,br2,br3,br4⟩:=r.bound hok.2
  have pw:∀{n:Nat},n≤8→(2:Int) ^ (7*n)≤2 ^ 56:=fun {n} h=>by
   have:(2:Nat) ^ (7*n)≤2 ^ 56:=Nat.pow_le_pow_right (by decide) (by omega)
   exact_mod_cast this
  have bl5:=pw (n:=l.size) (by omega)
  have mulOk:∀{u v:Int},0≤u→u*2≤2 ^ 56→IntMulOk u v:=fun {u v} h1 h2=>IntMulOk.of_left (bits_le (by omega))
  have hmul:∀{u v:Int} {tu tv n t},0≤u→u*2≤2 ^ 56→(eInt "int.__mul__" [.int u tu,.int v tv] (u*v) n t).Ok PW W.w:=fun h1 h2=>eff_mul rfl ⟨rfl,rfl,rfl,rfl⟩ (mulOk h1 h2)
  have hgj:∀n t,(eGet p.l p.vs p.e (zN j) tj (.ref aj) n t).Ok PW W.w:=fun n t=>hg j tj _ n t (by simp[refs,hmj])
  have endF:∀{s7:Shared} {o7:Obj},Cur kt W s (p.l::MT.map (·.1)) [] s7 [(la,tup [o1,v1,v2,.int l.pq.1 tlp,.int l.pq.2 tlq]),(ra,tup [o3,v3,v4,.int r.pq.1 trp,.int r.pq.2 trq]),(p.l,lst p.vs p.e),(aj,tup [.int (zN plj) u1,.int (zN syj) u2]),(s6.heap.objs.size,o7)] →
    Fut [p.n,la,ra,p.l,aj] [] s6 s7 →
    Fut [] [] s s7∧PartAt s7.heap (.ref la) l∧PartAt s7.heap (.ref ra) r:=by
   intro s7 o7 C9 F9
   have F10:Fut [p.n] [] s6 s7:=F9.same (fc (.inl Z0) (same_of (fun q hq=>C9.own q (List.mem_append_left [(s6.heap.objs.size,o7)] hq)) (fun q hq=>C8.own q (.tail _ hq))))
   have nt:=nfr (C8.ix 0 (p.n,_) rfl) kA
   have T9:=T8.keep F10 <|by
    refine fc ?_ fz
    exact .inl hnl
   refine⟨C9.fut.same fun b hb=>.inr (.inr ?_),HL8.futN F10 (fun b hb=>nt b (by simpa using hb)),HR.futN F10 (fun b hb=>nt b (by simpa using hb))⟩
   rcases mc.mp hb with rfl|hb
   ·rw[T9.lst,pl',hT.lst,hp]
   ·obtain⟨q,hq,rfl⟩:=List.mem_map.mp hb
    rw[(T9.tt q hq).1,(hT.tt q hq).1]
  cases b with
  | true =>
   have hsyj:syj=14:=hsyj
   have hv2:dEq (zN syj) 14=true:=by rw[dEq_eq,hsyj]; rfl
   refine C8.startT kee hA dA (C8.ret (E 12 W p kj (zN j) tj _ _ la _ _ ra s6.heap.objs.size s6.toks aj (zN plj) u1 (zN syj) u2 o1 v1 v2 _ tlp _ tlq o3 v3 v4 _ trp _ trq (l.pq.1*r.pq.2) (l.pq.2*r.pq.1) (l.pq.2*r.pq.2)) (CP.hv1 hv2) (SQ.he4 (hmul bl2 (by omega)) (hgj _ _) (hmul bl2 (by omega)) (hmul bl1 (by omega))) rfl ?_)
   intro s7 C9 _ F9
   obtain⟨FF,PL,PR⟩:=endF C9 F9
   have C10:=C9.ix 4 (s6.heap.objs.size,_) rfl
   refine k s7 s6.heap.objs.size FF (nT s5le F8.size) (.node _ (s6.toks+11) la ra (s6.toks+7) (s6.toks+14) true l r (nT b160 (nT s5le F8.size)) hdist ?_ PL PR)
   exact C10
  | false =>
   have hsyj:syj=18:=hsyj
   have hv2:dEq (zN syj) 14=false:=by rw[dEq_eq,hsyj]; rfl
   refine C8.startT kee hA dA (C8.ret (E 13 W p kj (zN j) tj _ _ la _ _ ra s6.heap.objs.size s6.toks aj (zN plj) u1 (zN syj) u2 o1 v1 v2 _ tlp _ tlq o3 v3 v4 _ trp _ trq (l.pq.1*r.pq.2) (l.pq.2*r.pq.1) (l.pq.1*r.pq.1)) (CP.hv1 hv2) (SQ.he4 (hmul bl1 (by omega)) (hgj _ _) (hmul bl2 (by omega)) (hmul bl1 (by omega))) rfl ?_)
   intro s7 C9 _ F9
   obtain⟨FF,PL,PR⟩:=endF C9 F9
   have C10:=C9.ix 4 (s6.heap.objs.size,_) rfl
   refine k s7 s6.heap.objs.size FF (nT s5le F8.size) (.node _ (s6.toks+11) la ra (s6.toks+14) (s6.toks+7) false l r (nT b160 (nT s5le F8.size)) hdist ?_ PL PR)
   exact C10
end
end PA
namespace SH
structure Pr where
 n:Nat
 t:Nat
 a:Nat
 v:Int
 tv:Nat
 T:Nat
 R:Nat
noncomputable def ars(p:Pr):Args:=⟨[.ref p.a,.int p.v p.tv,.ref p.T,.ref p.R],[]⟩
noncomputable def sPart:Str:=U19
noncomputable def sVolts:Str:=⟨⟨[118,111,108,116,115]⟩⟩
noncomputable def sTold:Str:=U20
noncomputable def sRests:Str:=U21
noncomputable def frS(W:Wd)(p:Pr):Obj:=fr W.w.params [(sPart,p.t,.ref p.a),(sVolts,p.t+1,.int p.v p.tv),(sTold,p.t+2,.ref p.T),(sRests,p.t+3,.ref p.R)]
noncomputable def sOne:Str:=⟨⟨[111,110,101]⟩⟩
noncomputable def sRest:Str:=U2
noncomputable def frO(W:Wd)(p:Pr)(k:Nat)(d:Int)(td:Nat)(m:Int)(tm:Nat):Obj:=fr W.w.params [(sPart,p.t,.ref p.a),(sVolts,p.t+1,.int p.v p.tv),(sTold,p.t+2,.ref p.T),(sRests,p.t+3,.ref p.R),(sOne,k,.int d td),(sRest,k+1,.int m tm)]
noncomputable def a0 c W p d e f r g q h:=startF (S1 c W p.n p.t 60) 153 (ars p) [(p.a,tup [.int 0 d,e,f,.int r g,.int q h])] (Hx 0x314242444551224242444521555555551 [])
noncomputable def E_a0 kt W:=∀p c d e r b q f,StopIs (a0 kt W p c d e r b q f) [] [] (.call (.ref 77) ⟨[.int p.v p.tv,.int r b],[]⟩) 1 [(0,p.a,tup [.int 0 c,d,e,.int r b,.int q f]),(1,p.n,frS W p)]
noncomputable def a1 j W p c d k P l Q o q r u v f w g x y A B h C i D E:=startF (S1 j W p.n p.t 60) 153 (ars p) [(p.a,tup [.int 14 k,.ref c,.ref d,.int P l,.int Q o]),(c,tup [q,r,u,.int v f,.int w g]),(d,tup [x,y,A,.int B h,.int C i])] (Hx Y30 (.i [] (.int D (p.t+10)) 1::Hx 0x2626266642424447 (.i [] (.int E (p.t+13)) 1::Hx 0x3142424447 [])))
noncomputable def E_a1 kt W:=∀p f g m P h Q o q r s i b u d w x y z e j c k l,StopIs (a1 kt W p f g m P h Q o q r s i b u d w x y z e j c k l) [] [eInt "int.__mul__" [.int k (p.t+10),.int j c] l (p.n+1) (p.t+13),eInt "int.__mul__" [.int p.v p.tv,.int i b] k (p.n+1) (p.t+10)] (.call (.ref 77) ⟨[.int l (p.t+13),.int P h],[]⟩) 1 [(0,p.a,tup [.int 14 m,.ref f,.ref g,.int P h,.int Q o]),(1,f,tup [q,r,s,.int i b,.int u d]),(2,g,tup [w,x,y,.int z e,.int j c]),(3,p.n,frS W p)]
noncomputable def a2 c W p d e f P g Q h:=startF (S1 c W p.n p.t 60) 153 (ars p) [(p.a,tup [.int 18 f,.ref d,.ref e,.int P g,.int Q h])] (Hx Y31 [])
noncomputable def E_a2 kt W:=∀p b c d P e Q f,StopIs (a2 kt W p b c d P e Q f) [] [] (.call (.ref 153) ⟨[.ref b,.int p.v p.tv,.ref p.T,.ref p.R],[]⟩) 1 [(0,p.a,tup [.int 18 d,.ref b,.ref c,.int P e,.int Q f]),(1,p.n,frS W p)]
noncomputable def b0 a W p j k l r o q u b c f g x d h m i n t:=on a W n t (a0 a W p j k l r o q u) (rt (.ref x)) [(p.n,frS W p),(x,tup [.int d h,.int m i]),(p.T,lst b c),(p.R,lst f g)] (Hx Y32 (.u [] 2 (lst (b++[.int d h]) (c+1)) .none 0::Hx 0x477774 [.u [] 3 (lst (f++[.int m i]) (g+1)) .none 0]))
noncomputable def E_b0 kt W:=∀p h i j r k q l a b c e x d f m g n t,RetIs (b0 kt W p h i j r k q l a b c e x d f m g n t) [] [SQ.eApp p.R c e (.int m g) (n+3) (t+2),SQ.eApp p.T a b (.int d f) (n+3) (t+2)] (.ok (.ret .none)) [(2,p.T,lst (a++[.int d f]) (b+1)),(3,p.R,lst (c++[.int m g]) (e+1))]
noncomputable def b1 c W p f g h P i Q j w y A B k C l D E G H o I q J K r u x d L m v n t:=on c W n t (a1 c W p f g h P i Q j w y A B k C l D E G H o I q J K) (rt (.ref x)) [(p.n,frS W p),(x,tup [.int d L,.int m v]),(p.R,lst r u),(p.a,tup [.int 14 h,.ref f,.ref g,.int P i,.int Q j])] (Hx Y32 (.u [] 2 (lst (r++[.int m v]) (u+1)) .none 0::Hx 0x31444727277741 []))
noncomputable def E_b1 kt W:=∀p e h i P j Q k s u v w l y o z A B C q D r E G f g x d c m b n t,StopIs (b1 kt W p e h i P j Q k s u v w l y o z A B C q D r E G f g x d c m b n t) [] [SQ.eApp p.R f g (.int m b) (n+3) (t+2)] (.call (.ref 153) ⟨[.ref e,.int d c,.ref p.T,.ref p.R],[]⟩) 1 [(0,p.n,frO W p t d c m b),(1,x,tup [.int d c,.int m b]),(2,p.R,lst (f++[.int m b]) (g+1)),(3,p.a,tup [.int 14 i,.ref e,.ref h,.int P j,.int Q k])]
noncomputable def c1 c W p e f g P h Q i u v w y j A k B C D E l G o H I J K x d q m r n t L M:=on c W L M (b1 c W p e f g P h Q i u v w y j A k B C D E l G o H I J K x d q m r n t) (rt .none) [(p.n,frO W p t d q m r),(p.a,tup [.int 14 g,.ref e,.ref f,.int P h,.int Q i])] (Hx 0x31442244525255541 [])
noncomputable def E_c1 kt W:=∀p c b e P f Q g r s u w h y i z A B C j D k E G H I x d l m o n t J q,StopIs (c1 kt W p c b e P f Q g r s u w h y i z A B C j D k E G H I x d l m o n t J q) [] [] (.call (.ref 153) ⟨[.ref b,.int (p.v-d) (q+1),.ref p.T,.ref p.R],[]⟩) 1 [(0,p.n,frO W p t d l m o),(1,p.a,tup [.int 14 e,.ref c,.ref b,.int P f,.int Q g])]
noncomputable def d1 a W p i j k P l Q o q r s u b v c w y z A e B f C D E G x d g m h n t H I J K:=on a W J K (c1 a W p i j k P l Q o q r s u b v c w y z A e B f C D E G x d g m h n t H I) (rt .none) [(p.n,frO W p t d g m h)] []
noncomputable def E_d1 kt W:=∀p h i j P k Q l o q r s a u b v w y z c A e B C D E x d f m g n t G H I J,RetIs (d1 kt W p h i j P k Q l o q r s a u b v w y z c A e B C D E x d f m g n t G H I J) [] [] (.ok (.ret .none)) [(0,p.n,frO W p t d f m g)]
noncomputable def c2 c W p d e f P g Q h n t:=on c W n t (a2 c W p d e f P g Q h) (rt .none) [(p.n,frS W p),(p.a,tup [.int 18 f,.ref d,.ref e,.int P g,.int Q h])] (Hx 0x31444525255541 [])
noncomputable def E_c2 kt W:=∀p c b d P e Q f n t,StopIs (c2 kt W p c b d P e Q f n t) [] [] (.call (.ref 153) ⟨[.ref b,.int p.v p.tv,.ref p.T,.ref p.R],[]⟩) 1 [(0,p.n,frS W p),(1,p.a,tup [.int 18 d,.ref c,.ref b,.int P e,.int Q f])]
noncomputable def d2 a W p b c d P e Q f n t g h:=on a W g h (c2 a W p b c d P e Q f n t) (rt .none) [(p.n,frS W p)] []
noncomputable def E_d2 kt W:=∀p a b c P d Q e n t f g,RetIs (d2 kt W p a b c P d Q e n t f g) [] [] (.ok (.ret .none)) [(0,p.n,frS W p)]
abbrev Evs:=nF [E_a0,E_a1,E_a2,E_b0,E_b1,E_c1,E_d1,E_c2,E_d2]
end SH
namespace Part
noncomputable def flows:Part→Int→List Int
 | leaf _,m=>[m]
 | node true l r,m=>l.flows (m*r.pq.2)++r.flows (m*l.pq.2)
 | node false l r,m=>l.flows (m*r.pq.1)++r.flows (m*l.pq.1)
theorem flows_e:(∀l r m,(node true l r).flows m=l.flows (m*r.pq.2)++r.flows (m*l.pq.2))∧∀l r m,(node false l r).flows m=l.flows (m*r.pq.1)++r.flows (m*l.pq.1):=⟨fun _ _ _=>rfl,fun _ _ _=>rfl⟩
noncomputable def Pos:Part→Prop
 | leaf r=>0<r
 | node _ l r=>l.Pos∧r.Pos
theorem pos:∀x:Part,x.Pos→0<x.pq.1∧0<x.pq.2
 | leaf r,h=>by
  have:0<r:=h
  simp only[pq_e]; omega
 | node b l r,h=>by
  obtain⟨a1,a2⟩:=pos l h.1
  obtain⟨b1,b2⟩:=pos r h.2
  have m1:=Int.mul_pos a1 b2
  have m2:=Int.mul_pos a2 b1
  have m3:=Int.mul_pos a2 b2
  have m4:=Int.mul_pos a1 b1
  cases b<;>simp only[pq_e]<;>omega
end Part
structure NumEvs(kt:Params→KT):Prop where
 m:DM.Evs kt
 i:EvI2 kt
 d:EvD2 kt
 e:ID.EvID kt
namespace SH
section
structure LS(kt:Params→KT)(W:Wd)(s:Shared)(T R:Addr)(xs:List Int)(nz:Nat):Prop where
 tl:∃vt et,s.heap.get? T=some (lst vt et)∧intsOf vt=some xs
 rl:∃vr er,s.heap.get? R=some (lst vr er)∧intsOf vr=some (List.replicate nz 0)
 t1:I2.T51 kt W s.heap
 t2:D2.T58 kt W s.heap
 hT:160≤T
 hR:160≤R
 ne:T≠R
theorem tables(NE:NumEvs kt){G:List Nat}(h1:I2.T51 kt W s.heap)(h2:D2.T58 kt W s.heap)(F:Fut L G s s')(hL:∀b∈L,160≤b∧∃o,s.heap.get? b=some o∧o.cls≠.type "code"):I2.T51 kt W s'.heap∧D2.T58 kt W s'.heap:=by
 refine⟨DM.T51.fut' (NE.i 10) h1 (fun a ha=>?_) F,DM.T58.fut' (NE.d 10) h2 (fun a ha=>?_) F⟩
 ·obtain⟨g1,o,g2,g3⟩:=hL a ha
  exact⟨.inr (.inr ⟨o,g2,g3⟩),fun z=>by subst z; exact absurd g1 (by decide)⟩
 ·obtain⟨g1,o,g2,g3⟩:=hL a ha
  exact⟨.inr (.inr ⟨o,g2,g3⟩),fun z=>by subst z; exact absurd g1 (by decide)⟩
theorem intsOf_append{a:List Value}(h:intsOf a=some xs):∀{b:List Value} {ys:List Int},intsOf b=some ys→intsOf (a++b)=some (xs++ys) :=
 ints_ind (P:=fun a xs=>∀{b:List Value} {ys:List Int},intsOf b=some ys→intsOf (a++b)=some (xs++ys)) id (fun {_ _ r _} _ ih b _ h=>by
  show(intsOf (r++b)).map _=_
  rw[ih h]; rfl) h
theorem intsOf_len{a:List Value}(h:intsOf a=some xs):a.length=xs.length:=ints_ind (P:=fun vs xs=>vs.length=xs.length) rfl (fun _ h=>congrArg Nat.succ h) h
end
end SH
namespace SH
section
noncomputable def Mild(s:Shared)(L:List Addr):Prop:=∀b∈L,160≤b∧∃o,s.heap.get? b=some o∧o.cls≠.type "code"∧o.cls≠.type "list"
theorem Mild.of(h:∀q∈M,160≤q.1∧s.heap.get? q.1=some q.2∧q.2.cls≠.type "code"∧q.2.cls≠.type "list"):Mild s (ks M):=fun b hb=>by
 obtain⟨q,hq,rfl⟩:=List.mem_map.mp hb
 obtain⟨h1,h2,h3⟩:=h q hq
 exact⟨h1,q.2,h2,h3⟩
theorem Mild.lst(h:Mild s L){a:Addr}{e:Nat}(ha:s.heap.get? a=some (lst vs e)):a∉L:=fun z=>by
 obtain⟨_,o,h2,_,h4⟩:=h a z
 rw[ha]at h2
 cases h2
 exact h4 rfl
theorem LS.keep(NE:NumEvs kt){T R:Addr}{nz:Nat}{G:List Nat}(h:LS kt W s T R xs nz)(F:Fut L G s s')(hL:Mild s L):LS kt W s' T R xs nz:=by
 obtain⟨⟨vt,et,g1,g2⟩,⟨vr,er,g3,g4⟩,t1,t2,hT,hR,ne⟩:=h
 obtain⟨k1,k2⟩:=tables NE t1 t2 F (fun b hb=>by obtain⟨h1,o,h2,h3,_⟩:=hL b hb; exact⟨h1,o,h2,h3⟩)
 exact⟨⟨vt,et,F.keep _ _ g1 (hL.lst g1),g2⟩,⟨vr,er,F.keep _ _ g3 (hL.lst g3),g4⟩,k1,k2,hT,hR,ne⟩
theorem LS.div{T R:Addr}{nz:Nat}(h:LS kt W s T R xs nz)(F:Fut [51,58] [] s s')(t1:I2.T51 kt W s'.heap)(t2:D2.T58 kt W s'.heap):LS kt W s' T R xs nz:=by
 obtain⟨⟨vt,et,g1,g2⟩,⟨vr,er,g3,g4⟩,_,_,hT,hR,ne⟩:=h
 have q:∀{b:Addr},160≤b→b∉[51,58]:=fun {b} hb z=>by
  simp only[mf,nn,or_false]at z
  rcases z with rfl|rfl<;>exact absurd hb (by decide)
 exact⟨⟨vt,et,F.keep _ _ g1 (q hT),g2⟩,⟨vr,er,F.keep _ _ g3 (q hR),g4⟩,t1,t2,hT,hR,ne⟩
theorem _root_.Mine.PartAt.div{v:Value}{x:Part}(h:PartAt s.heap v x)(F:Fut [51,58] [] s s'):PartAt s'.heap v x:=h.futN F fun b hb=>.inl (by
 simp only[mf,nn,or_false]at hb
 rcases hb with rfl|rfl<;>decide)
theorem _root_.Mine.PartAt.lists{T R:Addr}{nz:Nat}{v:Value}{x:Part}(h:PartAt s.heap v x)(L:LS kt W s T R xs nz)(F:Fut [T,R,51,58] [] s s'):PartAt s'.heap v x:=h.futN F fun b hb=>by
 obtain⟨⟨vt,et,g1,g2⟩,⟨vr,er,g3,g4⟩,_,_,hT,hR,ne⟩:=L
 simp only[mf,nn,or_false]at hb
 rcases hb with rfl|rfl|rfl|rfl
 ·exact .inr fun vs h=>by rw[g1]at h; exact Oc h (by first|exact kB|exact kD)
 ·exact .inr fun vs h=>by rw[g3]at h; exact Oc h (by first|exact kB|exact kD)
 ·exact .inl (by decide)
 ·exact .inl (by decide)
theorem tup_mild{a:Addr}(h:s.heap.get? a=some (tup vs))(h1:160≤a):160≤(a,tup vs).1∧s.heap.get? (a,tup vs).1=some (a,tup vs).2∧(a,tup vs).2.cls≠.type "code"∧(a,tup vs).2.cls≠.type "list":=⟨h1,h,by simp[tup],by simp[tup]⟩
theorem _root_.Mine.PartAt.hi{h:Heap}{a:Addr}{x:Part}(H:PartAt h (.ref a) x):160≤a:=by
 cases H with
 | leaf _ t0 e1 e2 r tr t1 g _=>exact g
 | node _ t0 la ra tp tq b l r g _ _ _ _=>exact g
theorem spec_leaf(E:Evs kt)(NE:NumEvs kt){r:Nat}{a T Rr:Addr}{tv:Tok}{m:Int}{nz:Nat}(hr:r<64)(hr0:0<r)(hm:m.natAbs<2 ^ 200)(B:Base kt W s.heap)(hA:A.handled=none)(hd:A.depth+450<1000)
  (HP:PartAt s.heap (.ref a) (.leaf r)) (HL:LS kt W s T Rr xs nz) (hx:xs.length<1000) (hz:nz<1000)
  (k:∀s',Fut [T,Rr,51,58] [] s s'→LS kt W s' T Rr (xs++[m]) (nz+1)→R (.ok (.ret .none)) s'):codeAny W.M A (.call (.ref 153) ⟨[.ref a,.int (m*(r:Int)) tv,.ref T,.ref Rr],[]⟩) R s:=by
 have dA:A.depth+60<1000:=by omega
 have ha:=HP.hi
 cases HP with
 | leaf _ t0 e1 e2 _ tr t1 g ho =>
  obtain⟨⟨vt,et,g1,g2⟩,⟨vr,er,g3,g4⟩,k1,k2,hT,hR,ne⟩:=id HL
  have hq1:(Part.leaf r).pq.1=(r:Int):=rfl
  rw[hq1]at ho
  have C1:Cur kt W s [T,Rr,51,58,a] [] s [(a,tup [.int 0 t0,e1,e2,.int (r:Int) tr,.int (Part.leaf r).pq.2 t1])] :=
   (Cur.start B [T,Rr,51,58,a] []).add ho (.inl ha) (fun h=>nomatch h) (.inl (by first|exact Z0|exact Z1|exact Z2|exact Z3|simp))
  refine C1.startF hA dA (by decide) (C1.stop (E 0 W ⟨s.heap.objs.size,s.toks,a,m*(r:Int),tv,T,Rr⟩ t0 e1 e2 (r:Int) tr (Part.leaf r).pq.2 t1) hA noV noE rfl ?_)
  intro s₁ A1 C2 _ F2 hA1 hd1 kea
  have own2:=C2.own
  have ho1:s₁.heap.get? a=some (tup [.int 0 t0,e1,e2,.int (r:Int) tr,.int (Part.leaf r).pq.2 t1]):=own2 (a,_) Z0
  have L1:LS kt W s₁ T Rr xs nz:=HL.keep NE F2 (Mild.of <|by
   refine fc ?_ fz
   exact tup_mild ho ha)
  have F2':Fut [] [] s s₁:=F2.same fun b hb=>.inr (.inr (by
   simp only[ks,mp,mn,mg]at hb
   subst hb
   rw[ho1,ho]))
  have hb1:Builtin.Int.intBits (m*(r:Int))≤290:=bits_le (by
   rw[Int.natAbs_mul,Int.natAbs_natCast]
   calc m.natAbs*r≤m.natAbs*64:=Nat.mul_le_mul_left _ (by omega)
    _<2 ^ 290:=by omega)
  have hb2:Builtin.Int.intBits (r:Int)≤290:=bits_le (by rw[Int.natAbs_natCast]; exact Nat.lt_of_lt_of_le hr (by decide))
  have hfd:(m*(r:Int)).fdiv r=m:=Int.mul_fdiv_cancel _ (by omega)
  have hfm:(m*(r:Int)).fmod r=0:=Int.mul_fmod_left ..
  refine ID.int_divmod_spec NE.m NE.i NE.d NE.e C2.B L1.t1 L1.t2 hA1 (by omega) (by omega) hb1 hb2 ?_
  intro s2 x u1 u2 F3 hx2 hsx t51 t58
  rw[hfd,hfm]at hx2
  have C3:=C2.call F3 (by
   refine fc ?_ (fc ?_ fz)
   ·exact .inr (.inl rfl)
   ·exact .inr (.inr rfl)) (fun b hb z=>by
   have hz:160≤b:=by
    simp only[ks,mp,mn,mf,nn,or_false]at z
    rcases z with rfl|rfl
    ·exact ha
    ·exact B.sz
   simp only[mf,nn,or_false]at hb
   rcases hb with rfl|rfl<;>exact absurd hz (by decide)) (fun b hb=>.inl (by
   simp only[mf,nn,or_false]at hb
   rcases hb with rfl|rfl<;>simp)) fz
  have L2:=L1.div F3 t51 t58
  obtain⟨⟨vt2,et2,f1,f2⟩,⟨vr2,er2,f3,f4⟩,_,_,_,_,_⟩:=id L2
  have b160:=B.sz
  have sz1:s.heap.objs.size<s₁.heap.objs.size:=C2.klt (a:=s.heap.objs.size) Z1
  have Tlt:=Heap.lt_size g1
  have Rlt:=Heap.lt_size g3
  have C4:Cur kt W s [T,Rr,51,58,a] [] s2 [(s.heap.objs.size,frS W ⟨s.heap.objs.size,s.toks,a,m*(r:Int),tv,T,Rr⟩),(x,tup [.int m u1,.int 0 u2]),(T,lst vt2 et2),(Rr,lst vr2 er2)]:=by
   refine((((C3.sub (M':=[(s.heap.objs.size,frS W ⟨s.heap.objs.size,s.toks,a,m*(r:Int),tv,T,Rr⟩)]) (.cons _ (.cons_cons _ (List.nil_sublist _)))).add hx2 (.inl (nT (nT b160 (Nat.le_of_lt sz1)) hsx)) ?_ (.inr (nT (Nat.le_of_lt sz1) hsx))).add f1 (.inl hT) ?_ (.inl (by first|exact Z0|exact Z1|exact Z2|exact Z3|simp))).add f3 (.inl hR) ?_ (.inl (by first|exact Z0|exact Z1|exact Z2|exact Z3|simp)))
   ·simp only[ks,mp,mn,ms]
    exact fun z=>absurd sz1 (Nat.not_lt.mpr (z▸hsx))
   ·simp only[ks,ca,List.nil_append,mp,mn,mc,nn,or_false,not_or]
    exact⟨fun z=>absurd Tlt (Nat.not_lt.mpr (Nat.le_of_eq z.symm)),fun z=>absurd (Nat.lt_trans Tlt sz1) (Nat.not_lt.mpr (z▸hsx))⟩
   ·simp only[ks,ca,List.nil_append,mp,mn,mc,nn,or_false,not_or]
    exact⟨fun z=>absurd Rlt (Nat.not_lt.mpr (Nat.le_of_eq z.symm)),fun z=>absurd (Nat.lt_trans Rlt sz1) (Nat.not_lt.mpr (z▸hsx)),fun z=>ne z.symm⟩
  have hl1:vt2.length<2 ^ 20:=by rw[intsOf_len f2]; omega
  have hl2:vr2.length<2 ^ 20:=by rw[intsOf_len f4]; simp; omega
  refine C4.startT kea hA dA (C4.ret (E 3 W ⟨s.heap.objs.size,s.toks,a,m*(r:Int),tv,T,Rr⟩ t0 e1 e2 (r:Int) tr (Part.leaf r).pq.2 t1 vt2 et2 vr2 er2 x m u1 0 u2 s2.heap.objs.size s2.toks) noV (SQ.he2 (SY.app_ok hl2) (SY.app_ok hl1)) rfl ?_)
  intro s3 C5 _ F4
  have hT3:=C5.ix 0 (T,lst (vt2++[.int m u1]) (et2+1)) rfl
  have hR3:=C5.ix 1 (Rr,lst (vr2++[.int 0 u2]) (er2+1)) rfl
  obtain⟨q1,q2⟩:=tables NE t51 t58 F4 (fun b hb=>by
   obtain⟨q,hq,rfl⟩:=List.mem_map.mp hb
   refine⟨?_,q.2,C4.own q hq,?_⟩
   ·simp only[mf,nn,or_false]at hq
    rcases hq with rfl|rfl|rfl|rfl
    ·exact b160
    ·exact nT (nT b160 (Nat.le_of_lt sz1)) hsx
    ·exact hT
    ·exact hR
   ·simp only[mf,nn,or_false]at hq
    rcases hq with rfl|rfl|rfl|rfl
    ·first|exact kC|exact kE|simp[frS,fr]
    ·first|exact kD|exact kG|simp[tup]
    ·first|exact kF|simp[lst]
    ·simp[lst])
  have F13:Fut [T,Rr,51,58] [] s s3:=C5.fut.same <|by
   refine fc ?_ (fc ?_ (fc ?_ (fc ?_ (fc ?_ fz))))
   ·exact .inl (by first|exact Z0|exact Z1|exact Z2|exact Z3|simp)
   ·exact .inl (by first|exact Z0|exact Z1|exact Z2|exact Z3|simp)
   ·exact .inl (by first|exact Z0|exact Z1|exact Z2|exact Z3|simp)
   ·exact .inl (by first|exact Z0|exact Z1|exact Z2|exact Z3|simp)
   ·right; right
    have h2:s2.heap.get? a=some (tup [.int 0 t0,e1,e2,.int (r:Int) tr,.int (Part.leaf r).pq.2 t1]):=C3.ix 0 (a,_) rfl
    have:a∉ks [(s.heap.objs.size,frS W ⟨s.heap.objs.size,s.toks,a,m*(r:Int),tv,T,Rr⟩),(x,tup [.int m u1,.int 0 u2]),(T,lst vt2 et2),(Rr,lst vr2 er2)]:=by
     simp only[ks,mp,mn,mc,nn,or_false,not_or]
     refine⟨fun z=>absurd (Heap.lt_size ho) (Nat.not_lt.mpr (Nat.le_of_eq z.symm)),fun z=>absurd (Nat.lt_trans (Heap.lt_size ho) sz1) (Nat.not_lt.mpr (z▸hsx)),fun z=>?_,fun z=>?_⟩
     ·rw[z,f1]at h2; exact Oc h2 (by first|exact kB|exact kD)
     ·rw[z,f3]at h2; exact Oc h2 (by first|exact kB|exact kD)
    rw[F4.keep _ _ h2 this,ho]
  exact k s3 F13 ⟨⟨_,_,hT3,intsOf_append f2 rfl⟩,⟨_,_,hR3,by rw[List.replicate_succ']; exact intsOf_append f4 rfl⟩,q1,q2,hT,hR,ne⟩
end
end SH
namespace SH
section
noncomputable abbrev FL(n T R:Addr):List Addr:=[n,T,R,51,58]
theorem l4{b T R:Addr}(P:Addr→Prop)(h1:P T)(h2:P R)(h3:P 51)(h4:P 58)(hb:b∈[T,R,51,58]):P b:=by
 simp only[mf,nn,or_false]at hb
 rcases hb with rfl|rfl|rfl|rfl<;>assumption
theorem callee{s0 s s':Shared}{T R:Addr}{nz:Nat}(HL:LS kt W s T R xs nz)(C:Cur kt W s0 L [] s M)(F:Fut [T,R,51,58] [] s s')(hM:∀q∈M,q.2.cls≠.type "list"∧160≤q.1)(h1:∀b∈[T,R,51,58],b∈L):Cur kt W s0 L [] s' M:=by
 obtain⟨⟨vt,et,g1,g2⟩,⟨vr,er,g3,g4⟩,_,_,hT,hR,ne⟩:=HL
 have nl:∀{b:Addr} {vs e},s.heap.get? b=some (lst vs e)→b∉ks M:=fun {b vs e} hb z=>by
  obtain⟨q,hq,rfl⟩:=List.mem_map.mp z
  have:=C.own q hq
  rw[hb]at this
  have h2:=(hM q hq).1
  rw[←Option.some.inj this]at h2
  exact h2 rfl
 have lo:∀{b:Addr},b<160→b∉ks M:=fun {b} hb z=>by
  obtain⟨q,hq,rfl⟩:=List.mem_map.mp z
  exact absurd (hM q hq).2 (Nat.not_le.mpr hb)
 refine C.call F (fun b hb=>l4 (fun b=>hiA b) (.inl hT) (.inl hR) (.inr (.inl rfl)) (.inr (.inr rfl)) hb) (fun b hb=>l4 (fun b=>b∉ks M) (nl g1) (nl g3) (lo (by decide)) (lo (by decide)) hb) (fun b hb=>.inl (h1 b hb)) fz
theorem mild1{a:Addr}{o:Obj}(h:s.heap.get? a=some o)(h1:160≤a)(hc:o.cls=.type "frame"∨o.cls=.type "tuple"):Mild s [a]:=by
 refine fc ?_ fz
 refine⟨h1,o,h,?_⟩
 rcases hc with hc|hc<;>simp[hc]
structure Ask(x:Part)(m:Int):Prop where
 ok:x.Ok
 pos:x.Pos
 sz:x.size≤6
 m:m.natAbs*2 ^ (7*x.size)<2 ^ 200
theorem Ask.sub{l r:Part}{b:Bool}{m:Int}(h:Ask (.node b l r) m):(∀k:Int,0≤k→k*2≤2 ^ (7*r.size)→Ask l (m*k))∧(∀k:Int,0≤k→k*2≤2 ^ (7*l.size)→Ask r (m*k)):=by
 have hs:l.size+r.size≤6:=h.sz
 have hm:m.natAbs*2 ^ (7*(l.size+r.size))<2 ^ 200:=h.m
 rw[Nat.mul_add,Nat.pow_add]at hm
 have key:∀{k:Int} {A B:Nat},0≤k→k*2≤(2:Int) ^ B→m.natAbs*(2 ^ A*2 ^ B)<2 ^ 200→(m*k).natAbs*2 ^ A<2 ^ 200:=fun {k A B} h1 h2 h3=>by
  have e:k.natAbs≤2 ^ B:=by
   have:((2:Nat) ^ B:Nat)=((2:Int) ^ B).natAbs:=by rw[Int.natAbs_pow]; rfl
   rw[this]; omega
  rw[Int.natAbs_mul]
  calc m.natAbs*k.natAbs*2 ^ A≤m.natAbs*2 ^ B*2 ^ A:=Nat.mul_le_mul_right _ (Nat.mul_le_mul_left _ e)
   _=m.natAbs*(2 ^ A*2 ^ B):=by rw[Nat.mul_assoc,Nat.mul_comm (2 ^ B)]
   _<2 ^ 200:=h3
 refine⟨fun k h1 h2=>⟨h.ok.1,h.pos.1,by omega,key h1 h2 hm⟩,fun k h1 h2=>⟨h.ok.2,h.pos.2,by omega,key h1 h2 (by rw[Nat.mul_comm (2 ^ (7*r.size))]; exact hm)⟩⟩
theorem fl_sub{n T R b:Addr}(h:b∈[T,R,51,58]):b∈FL n T R:=.tail _ h
end
end SH
namespace SH
section
theorem flows_len:∀(x:Part) (m:Int),(x.flows m).length=x.size
 | .leaf _,_=>rfl
 | .node true l r,m=>by show(l.flows _++r.flows _).length=_; rw[lap,flows_len l,flows_len r]; rfl
 | .node false l r,m=>by show(l.flows _++r.flows _).length=_; rw[lap,flows_len l,flows_len r]; rfl
theorem size_pos:∀(x:Part),1≤x.size
 | .leaf _=>nR _
 | .node _ l r=>by have:=size_pos l; show 1≤l.size+r.size; omega
theorem spec(E:Evs kt)(NE:NumEvs kt):∀(part:Part) {A:Around} {R:Result→Shared→Prop} {s:Shared} {a T Rr:Addr} {tv:Tok} {m:Int} {xs:List Int} {nz:Nat},Ask part m→Base kt W s.heap→A.handled=none→A.depth+450+part.height<1000 →
  PartAt s.heap (.ref a) part→LS kt W s T Rr xs nz→xs.length+part.size<1000→nz+2*part.size<1000 →
  (∀s' nz',Fut [T,Rr,51,58] [] s s'→LS kt W s' T Rr (xs++part.flows m) nz'→nz'<nz+2*part.size→R (.ok (.ret .none)) s')→codeAny W.M A (.call (.ref 153) ⟨[.ref a,.int (m*part.pq.1) tv,.ref T,.ref Rr],[]⟩) R s
 | .leaf r,A,R,s,a,T,Rr,tv,m,xs,nz,ask,B,hA,hd,HP,HL,hx,hz,k=>by
  have hq1:(Part.leaf r).pq.1=(r:Int):=rfl
  rw[hq1]
  have hm:m.natAbs*2 ^ 7<2 ^ 200:=ask.m
  have hsz:(Part.leaf r).size=1:=rfl
  refine spec_leaf E NE ask.ok ask.pos (by omega) B hA (by omega) HP HL (by omega) (by omega) fun s' F L=>k s' (nz+1) F L (by omega)
 | .node false l r,A,R,s,a,T,Rr,tv,m,xs,nz,ask,B,hA,hd,HP,HL,hx,hz,k=>by
  have dA:A.depth+60<1000:=by omega
  have hh:(Part.node false l r).height=l.height+r.height+1:=rfl
  have hsz:(Part.node false l r).size=l.size+r.size:=rfl
  have lsz:=size_pos l
  have rsz:=size_pos r
  obtain⟨sl,sr⟩:=ask.sub
  obtain⟨bl1,bl2,bl3,bl4⟩:=l.bound ask.ok.1
  obtain⟨br1,br2,br3,br4⟩:=r.bound ask.ok.2
  have b160:=B.sz
  cases HP with
  | node _ t0 la ra tp tq _ _ _ g hdist ho PL PR =>
   have hsn:s.heap.objs.size≠a:=fun z=>absurd (Heap.lt_size ho) (Nat.not_lt.mpr (Nat.le_of_eq z))
   obtain⟨p,hp⟩:∃p:Pr,p=⟨s.heap.objs.size,s.toks,a,m*(Part.node false l r).pq.1,tv,T,Rr⟩:=⟨_,rfl⟩
   have pn:p.n=s.heap.objs.size:=by rw[hp]
   have pa:p.a=a:=by rw[hp]
   have pT:p.T=T:=by rw[hp]
   have pR:p.R=Rr:=by rw[hp]
   have pv:p.v=m*(l.pq.1*r.pq.1):=by rw[hp]; rfl
   have hargs:(⟨[.ref a,.int (m*(Part.node false l r).pq.1) tv,.ref T,.ref Rr],[]⟩:Args)=ars p:=by rw[hp]; rfl
   rw[hargs]
   have ho':s.heap.get? p.a=some (tup [.int 18 t0,.ref la,.ref ra,.int (Part.node false l r).pq.1 tp,.int (Part.node false l r).pq.2 tq]):=by rw[pa]; exact ho
   have C1:Cur kt W s (p.a::FL p.n T Rr) [] s [(p.a,tup [.int 18 t0,.ref la,.ref ra,.int (Part.node false l r).pq.1 tp,.int (Part.node false l r).pq.2 tq])] :=
    (Cur.start B _ []).add ho' (.inl (by rw[pa]; exact g)) (fun h=>nomatch h) (.inl Z0)
   have ea:=E 2 W p la ra t0 (Part.node false l r).pq.1 tp (Part.node false l r).pq.2 tq
   have st:∀{Q:Out→Prop},Q (a2 kt W p la ra t0 (Part.node false l r).pq.1 tp (Part.node false l r).pq.2 tq)→Q (startF (S1 kt W s.heap.objs.size s.toks 60) 153 (ars p) [(p.a,tup [.int 18 t0,.ref la,.ref ra,.int (Part.node false l r).pq.1 tp,.int (Part.node false l r).pq.2 tq])] (Hx Y31 [])):=fun h=>by rw[hp]at h ⊢; exact h
   refine C1.startF hA dA (by decide) (st (Q:=fun o=>Post _ _ false o) (C1.stop ea hA noV noE rfl ?_))
   intro s₁ A1 C2 _ F1 hA1 hd1 kea
   have ga1:=C2.ix 0 (p.a,_) rfl
   have gn1:=C2.ix 1 (p.n,_) rfl
   have F1':Fut [] [] s s₁:=F1.same fun b hb=>.inr (.inr (by
    simp only[ks,mp,mn,mg]at hb
    subst hb
    rw[ga1,ho']))
   have L1:LS kt W s₁ T Rr xs nz:=HL.keep NE F1' fz
   have n160:160≤p.n:=by rw[pn]; exact b160
   have a160:160≤p.a:=by rw[pa]; exact g
   have hcode:(⟨[.ref la,.int p.v p.tv,.ref p.T,.ref p.R],[]⟩:Args)=⟨[.ref la,.int ((m*r.pq.1)*l.pq.1) p.tv,.ref T,.ref Rr],[]⟩:=by
    rw[pv,pT,pR,Int.mul_assoc,Int.mul_comm r.pq.1]
   rw[hcode]
   refine spec E NE l (sl r.pq.1 br1 br3) C2.B hA1 (by omega) (PL.fut0 F1') L1 (by omega) (by omega) ?_
   intro s2 nz1 F2 L2 hnz1
   have PR1:=PR.fut0 F1'
   have PR2:=PR1.lists L1 F2
   have C3:=callee L1 C2 F2 (by
    refine fc ?_ (fc ?_ fz)
    ·exact⟨kD,a160⟩
    ·exact⟨kC,n160⟩) (fun b hb=>.tail _ (fl_sub hb))
   have C3':Cur kt W s (p.a::FL p.n T Rr) [] s2 [(p.n,frS W p),(p.a,tup [.int 18 t0,.ref la,.ref ra,.int (Part.node false l r).pq.1 tp,.int (Part.node false l r).pq.2 tq])]:=by
    refine(C3.sub (M':=[(p.n,frS W p)]) (.cons _ (.cons_cons _ (List.nil_sublist _)))).add (C3.ix 0 (p.a,_) rfl) (.inl a160) ?_ (.inl Z0)
    simp only[ks,mp,mn,ms]
    rw[pn,pa]; exact fun z=>hsn z.symm
   have ec:=E 7 W p la ra t0 (Part.node false l r).pq.1 tp (Part.node false l r).pq.2 tq s2.heap.objs.size s2.toks
   refine C3'.startT kea hA dA (C3'.stop ec hA noV noE rfl ?_)
   intro s3 A3 C4 _ F3 hA3 hd3 kec
   have gn2:=C3'.ix 0 (p.n,_) rfl
   have ga2:=C3'.ix 1 (p.a,_) rfl
   have ga3:=C4.ix 1 (p.a,_) rfl
   have F3':Fut [p.n] [] s2 s3:=F3.same <|by
    refine fc ?_ (fc ?_ fz)
    ·exact .inl Z0
    ·exact .inr (.inr (ga3.trans ga2.symm))
   have L3:=L2.keep NE F3' (mild1 gn2 n160 (.inl rfl))
   have PR3:=PR2.futN F3' (by
    refine fc ?_ fz
    exact .inr fun vs h=>by rw[gn2]at h; exact Oc h kA)
   have hcode2:(⟨[.ref ra,.int p.v p.tv,.ref p.T,.ref p.R],[]⟩:Args)=⟨[.ref ra,.int ((m*l.pq.1)*r.pq.1) p.tv,.ref T,.ref Rr],[]⟩:=by
    rw[pv,pT,pR,Int.mul_assoc]
   rw[hcode2]
   have hlf:∀(x:Part) (m:Int),(x.flows m).length=x.size:=flows_len
   refine spec E NE r (sr l.pq.1 bl1 bl3) C4.B hA3 (by omega) PR3 L3 (by rw[lap,hlf]; omega) (by omega) ?_
   intro s4 nz2 F4 L4 hnz2
   have C5:=callee L3 C4 F4 (by
    refine fc ?_ (fc ?_ fz)
    ·exact⟨kC,n160⟩
    ·exact⟨kD,a160⟩) (fun b hb=>.tail _ (fl_sub hb))
   have C5':Cur kt W s (p.a::FL p.n T Rr) [] s4 [(p.n,frS W p)]:=C5.sub (.cons_cons _ (List.nil_sublist _))
   refine C5'.startT kec hA dA (C5'.ret (E 8 W p la ra t0 (Part.node false l r).pq.1 tp (Part.node false l r).pq.2 tq _ _ s4.heap.objs.size s4.toks) noV noE rfl ?_)
   intro s5 C6 _ F5
   have gn4:=C5'.ix 0 (p.n,_) rfl
   have L5:=L4.keep NE F5 (mild1 gn4 n160 (.inl rfl))
   have mo:∀{u v:Shared},Fut [p.n] [] u v→Fut (FL p.n T Rr) [] u v:=fun F=>F.mono (fc (by first|exact Z0|exact Z1|exact Z2|simp) fz) (fun _ h=>h)
   have mo4:∀{u v:Shared},Fut [T,Rr,51,58] [] u v→Fut (FL p.n T Rr) [] u v:=fun F=>F.mono (fun b hb=>fl_sub hb) (fun _ h=>h)
   have FT:=(((F1'.mono fz (fun _ h=>h):Fut (FL p.n T Rr) [] s s₁).trans (mo4 F2)).trans (mo F3')).trans (mo4 F4) |>.trans (mo F5)
   refine k s5 nz2 (FT.drop (fun b hb=>?_) fz) (by rw[Part.flows_e.2,←List.append_assoc]; exact L5) (by omega)
   rcases mc.mp hb with rfl|hb
   ·exact .inr (by rw[pn]; exact nR _)
   ·exact .inl hb
 | .node true l r,A,R,s,a,T,Rr,tv,m,xs,nz,ask,B,hA,hd,HP,HL,hx,hz,k=>by
  have dA:A.depth+60<1000:=by omega
  have hh:(Part.node true l r).height=l.height+r.height+1:=rfl
  have hsz:(Part.node true l r).size=l.size+r.size:=rfl
  have lsz:=size_pos l
  have rsz:=size_pos r
  obtain⟨sl,sr⟩:=ask.sub
  obtain⟨bl1,bl2,bl3,bl4⟩:=l.bound ask.ok.1
  obtain⟨br1,br2,br3,br4⟩:=r.bound ask.ok.2
  obtain⟨P1,P2,P3,P4⟩:=(Part.node true l r).bound ask.ok
  have Ppos:=((Part.node true l r).pos ask.pos).1
  have b160:=B.sz
  have pw:∀{n:Nat},n≤8→(2:Int) ^ (7*n)≤2 ^ 56:=fun {n} h=>by
   have:(2:Nat) ^ (7*n)≤2 ^ 56:=Nat.pow_le_pow_right (by decide) (by omega)
   exact_mod_cast this
  have szb:l.size+r.size≤6:=ask.sz
  have pl8:=pw (n:=l.size) (by omega)
  have pr8:=pw (n:=r.size) (by omega)
  have pp8:=pw (n:=(Part.node true l r).size) (by rw[hsz]; omega)
  cases HP with
  | node _ t0 la ra tp tq _ _ _ g hdist ho PL PR =>
   have hsn:s.heap.objs.size≠a:=fun z=>absurd (Heap.lt_size ho) (Nat.not_lt.mpr (Nat.le_of_eq z))
   obtain⟨o1,v1,v2,tlp,tlq,gl⟩:=PL.obj
   obtain⟨o3,v3,v4,trp,trq,gr⟩:=PR.obj
   have gl160:=PL.hi
   have gr160:=PR.hi
   obtain⟨p,hp⟩:∃p:Pr,p=⟨s.heap.objs.size,s.toks,a,m*(Part.node true l r).pq.1,tv,T,Rr⟩:=⟨_,rfl⟩
   have pn:p.n=s.heap.objs.size:=by rw[hp]
   have pa:p.a=a:=by rw[hp]
   have pT:p.T=T:=by rw[hp]
   have pR:p.R=Rr:=by rw[hp]
   have pv:p.v=m*(Part.node true l r).pq.1:=by rw[hp]
   have hpq:(Part.node true l r).pq.1=l.pq.1*r.pq.2+l.pq.2*r.pq.1:=rfl
   obtain⟨PP,hPP⟩:∃PP,PP=(Part.node true l r).pq.1:=⟨_,rfl⟩
   obtain⟨QQ,hQQ⟩:∃QQ,QQ=(Part.node true l r).pq.2:=⟨_,rfl⟩
   have hargs:(⟨[.ref a,.int (m*(Part.node true l r).pq.1) tv,.ref T,.ref Rr],[]⟩:Args)=ars p:=by rw[hp]; rfl
   rw[hargs]
   have n160:160≤p.n:=by rw[pn]; exact b160
   have a160:160≤p.a:=by rw[pa]; exact g
   have ho':s.heap.get? p.a=some (tup [.int 14 t0,.ref la,.ref ra,.int PP tp,.int QQ tq]):=by rw[pa,hPP,hQQ]; exact ho
   have C1:Cur kt W s (p.a::la::ra::FL p.n T Rr) [] s [(p.a,tup [.int 14 t0,.ref la,.ref ra,.int PP tp,.int QQ tq]),(la,tup [o1,v1,v2,.int l.pq.1 tlp,.int l.pq.2 tlq]),(ra,tup [o3,v3,v4,.int r.pq.1 trp,.int r.pq.2 trq])]:=by
    refine(((Cur.start B _ []).add ho' (.inl a160) (fun h=>nomatch h) (.inl Z0)).add gl (.inl gl160) ?_ (.inl Z1)).add gr (.inl gr160) ?_ (.inl Z2)
    ·simp only[ks,List.nil_append,mp,mn,ms]
     rw[pa]; exact hdist.1.symm
    ·simp only[ks,List.nil_append,ca,mp,mn,mc,nn,or_false,not_or]
     rw[pa]; exact⟨hdist.2.1.symm,hdist.2.2.symm⟩
   obtain⟨m1,hm1⟩:∃m1,m1=p.v*l.pq.1:=⟨_,rfl⟩
   obtain⟨m2,hm2⟩:∃m2,m2=m1*r.pq.2:=⟨_,rfl⟩
   have st:∀{Q:Out→Prop},Q (a1 kt W p la ra t0 PP tp QQ tq o1 v1 v2 l.pq.1 tlp l.pq.2 tlq o3 v3 v4 r.pq.1 trp r.pq.2 trq m1 m2)→Q (startF (S1 kt W s.heap.objs.size s.toks 60) 153 (ars p) [(p.a,tup [.int 14 t0,.ref la,.ref ra,.int PP tp,.int QQ tq]),(la,tup [o1,v1,v2,.int l.pq.1 tlp,.int l.pq.2 tlq]),(ra,tup [o3,v3,v4,.int r.pq.1 trp,.int r.pq.2 trq])] (Hx Y30 (.i [] (.int m1 (p.t+10)) 1::Hx 0x2626266642424447 (.i [] (.int m2 (p.t+13)) 1::Hx 0x3142424447 [])))):=fun h=>by rw[hp]at h ⊢; exact h
   have e1:(eInt "int.__mul__" [.int p.v p.tv,.int l.pq.1 tlp] m1 (p.n+1) (p.t+10)).Ok PW W.w:=by
    rw[hm1]; exact eff_mul rfl ⟨rfl,rfl,rfl,rfl⟩ (IntMulOk.of_right (bits_le (by omega)))
   have e2:(eInt "int.__mul__" [.int m1 (p.t+10),.int r.pq.2 trq] m2 (p.n+1) (p.t+13)).Ok PW W.w:=by
    rw[hm2]; exact eff_mul rfl ⟨rfl,rfl,rfl,rfl⟩ (IntMulOk.of_right (bits_le (by omega)))
   refine C1.startF hA dA (by decide) (st (Q:=fun o=>Post _ _ false o) (C1.stop (E 1 W p la ra t0 PP tp QQ tq o1 v1 v2 l.pq.1 tlp l.pq.2 tlq o3 v3 v4 r.pq.1 trp r.pq.2 trq m1 m2) hA noV (SQ.he2 e2 e1) rfl ?_))
   intro s₁ A1 C2 _ F1 hA1 hd1 kea
   have F1':Fut [] [] s s₁:=F1.same (same_of (fun q hq=>C2.own q (List.mem_append_left [(p.n,frS W p)] hq)) C1.own)
   have L1:LS kt W s₁ T Rr xs nz:=HL.keep NE F1' fz
   have hval:m2=(m*r.pq.2*l.pq.1)*PP:=by
    rw[hm2,hm1,pv,←hPP]
    simp only[Int.mul_assoc,Int.mul_comm,Int.mul_left_comm]
   have mm:m.natAbs*2 ^ (7*(l.size+r.size))<2 ^ 200:=ask.m
   have mb:m.natAbs<2 ^ 200:=Nat.lt_of_le_of_lt (Nat.le_mul_of_pos_right _ (Nat.pow_pos (by decide))) mm
   have hb1:Builtin.Int.intBits m2≤290:=bits_le (by
    rw[hm2,hm1,pv,←hPP,Int.natAbs_mul,Int.natAbs_mul,Int.natAbs_mul]
    have h1:PP.natAbs≤2 ^ (7*(l.size+r.size)):=by
     have e:((2:Nat) ^ (7*(l.size+r.size)):Nat)=((2:Int) ^ (7*(l.size+r.size))).natAbs:=by rw[Int.natAbs_pow]; rfl
     rw[e,hPP]
     have:(Part.node true l r).size=l.size+r.size:=rfl
     rw[this]at P3
     omega
    have h2:l.pq.1.natAbs≤2 ^ 42:=by
     have h5:(2:Int) ^ (7*l.size)≤2 ^ 42:=by
      have:(2:Nat) ^ (7*l.size)≤2 ^ 42:=Nat.pow_le_pow_right (by decide) (by omega)
      exact_mod_cast this
     omega
    have h3:r.pq.2.natAbs≤2 ^ 42:=by
     have h5:(2:Int) ^ (7*r.size)≤2 ^ 42:=by
      have:(2:Nat) ^ (7*r.size)≤2 ^ 42:=Nat.pow_le_pow_right (by decide) (by omega)
      exact_mod_cast this
     omega
    have h6:m.natAbs*PP.natAbs<2 ^ 200:=Nat.lt_of_le_of_lt (Nat.mul_le_mul_left _ h1) mm
    calc m.natAbs*PP.natAbs*l.pq.1.natAbs*r.pq.2.natAbs≤2 ^ 200*2 ^ 42*2 ^ 42:=Nat.mul_le_mul (Nat.mul_le_mul (Nat.le_of_lt h6) h2) h3
     _<2 ^ 290:=by decide)
   have hb2:Builtin.Int.intBits PP≤290:=bits_le (by rw[hPP]; have:(2:Nat) ^ 56≤2 ^ 290:=(by decide); omega)
   have hfd:m2.fdiv PP=m*r.pq.2*l.pq.1:=by rw[hval]; exact Int.mul_fdiv_cancel _ (by omega)
   have hfm:m2.fmod PP=0:=by rw[hval]; exact Int.mul_fmod_left ..
   refine ID.int_divmod_spec NE.m NE.i NE.d NE.e C2.B L1.t1 L1.t2 hA1 (by omega) (by omega) hb1 hb2 ?_
   intro s2 x u1 u2 F2 hx2 hsx t51 t58
   rw[hfd,hfm]at hx2
   have L2:=L1.div F2 t51 t58
   have PL2:=(PL.fut0 F1').div F2
   have PR2:=(PR.fut0 F1').div F2
   obtain⟨⟨vt2,et2,f1,f2⟩,⟨vr2,er2,f3,f4⟩,_,_,hT,hR,ne⟩:=id L2
   have n0:=C2.ix 3 (p.n,_) rfl
   have a0:=C2.ix 0 (p.a,_) rfl
   have lo:∀{b:Addr},160≤b→b∉[51,58]:=fun {b} hb z=>by
    simp only[mf,nn,or_false]at z
    rcases z with rfl|rfl<;>exact absurd hb (by decide)
   have n2:=F2.keep _ _ n0 (lo n160)
   have a2':=F2.keep _ _ a0 (lo a160)
   have sz1:p.n<s₁.heap.objs.size:=Heap.lt_size n0
   have alt:p.a<s.heap.objs.size:=Heap.lt_size ho'
   have x160:160≤x:=nT (nT n160 (Nat.le_of_lt sz1)) hsx
   have C3:Cur kt W s (p.a::la::ra::FL p.n T Rr) [] s2 [(p.n,frS W p),(x,tup [.int (m*r.pq.2*l.pq.1) u1,.int 0 u2]),(Rr,lst vr2 er2),(p.a,tup [.int 14 t0,.ref la,.ref ra,.int PP tp,.int QQ tq])]:=by
    have C':=(C2.sub (M':=[(p.n,frS W p)]) (.cons _ (.cons _ (.cons _ (.cons_cons _ (List.nil_sublist _)))))).call F2 (by
     refine fc ?_ (fc ?_ fz)
     ·exact .inr (.inl rfl)
     ·exact .inr (.inr rfl)) (fun b hb z=>by
     simp only[ks,mp,mn,mg]at z
     subst z
     exact lo n160 hb) (fun b hb=>.inl (by
     simp only[mf,nn,or_false]at hb
     rcases hb with rfl|rfl<;>simp)) fz
    refine(((C'.add hx2 (.inl x160) ?_ (.inr (by rw[pn]at sz1; exact nT (Nat.le_of_lt sz1) hsx))).add f3 (.inl hR) ?_ (.inl (by first|exact Z0|exact Z1|exact Z2|exact Z3|simp))).add a2' (.inl a160) ?_ (.inl Z0))
    ·simp only[ks,mp,mn,ms]
     exact fun z=>absurd sz1 (Nat.not_lt.mpr (z▸hsx))
    ·simp only[ks,ca,List.nil_append,mp,mn,mc,nn,or_false,not_or]
     refine⟨fun z=>?_,fun z=>?_⟩
     ·rw[z,n2]at f3; exact Oc f3 (by first|exact kC|exact kC.symm)
     ·rw[z,hx2]at f3; exact Oc f3 (by first|exact kB|exact kD)
    ·simp only[ks,ca,List.nil_append,mp,mn,mc,nn,or_false,not_or]
     refine⟨fun z=>absurd alt (Nat.not_lt.mpr (by rw[z,pn]; exact nR _)),fun z=>absurd (Nat.lt_of_lt_of_le alt (nT (by rw[pn]at sz1; exact Nat.le_of_lt sz1) hsx)) (Nat.not_lt.mpr (Nat.le_of_eq z.symm)),fun z=>?_⟩
     rw[z,f3]at a2'; exact Oc a2' (by first|exact kB|exact kD)
   have hl2:vr2.length<2 ^ 20:=by rw[intsOf_len f4]; simp; omega
   have C3p:Cur kt W s (p.a::la::ra::FL p.n T Rr) [] s2 [(p.n,frS W p),(x,tup [.int (m*r.pq.2*l.pq.1) u1,.int 0 u2]),(p.R,lst vr2 er2),(p.a,tup [.int 14 t0,.ref la,.ref ra,.int PP tp,.int QQ tq])]:=by rw[pR]; exact C3
   refine C3p.startT kea hA dA (C3p.stop (E 4 W p la ra t0 PP tp QQ tq o1 v1 v2 l.pq.1 tlp l.pq.2 tlq o3 v3 v4 r.pq.1 trp r.pq.2 trq m1 m2 vr2 er2 x (m*r.pq.2*l.pq.1) u1 0 u2 s2.heap.objs.size s2.toks) hA noV (SQ.he1 (SY.app_ok hl2)) rfl ?_)
   intro s3 A3 C4 _ F3 hA3 hd3 keb
   have gn3:=C4.ix 0 (p.n,_) rfl
   have gx3:=C4.ix 1 (x,_) rfl
   have gR3:=C4.ix 2 (p.R,_) rfl
   have ga3:=C4.ix 3 (p.a,_) rfl
   rw[pR]at gR3
   have F3':Fut [p.n,Rr] [] s2 s3:=F3.same <|by
    refine fc ?_ (fc ?_ (fc ?_ (fc ?_ fz)))
    ·exact .inl (by first|exact Z0|exact Z1|exact Z2|exact Z3|simp)
    ·exact .inr (.inr (gx3.trans hx2.symm))
    ·exact .inl (by rw[pR]; simp)
    ·exact .inr (.inr (ga3.trans a2'.symm))
   obtain⟨q1,q2⟩:=tables NE t51 t58 F3' (by
    refine fc ?_ (fc ?_ fz)
    ·exact⟨n160,_,n2,kE⟩
    ·exact⟨hR,_,f3,kF⟩)
   have Tn:T∉[p.n,Rr]:=by
    simp only[mc,nn,or_false,not_or]
    refine⟨fun z=>?_,ne⟩
    rw[z,n2]at f1; exact Oc f1 (by first|exact kC|exact kC.symm)
   have L3:LS kt W s3 T Rr xs (nz+1):=⟨⟨vt2,et2,F3'.keep _ _ f1 Tn,f2⟩,⟨_,_,gR3,by rw[List.replicate_succ']; exact intsOf_append f4 rfl⟩,q1,q2,hT,hR,ne⟩
   have nt3:∀b∈[p.n,Rr],b<160∨∀vs,s2.heap.get? b≠some (tup vs):=by
    refine fc ?_ (fc ?_ fz)
    ·exact .inr fun vs h=>by rw[n2]at h; exact Oc h kA
    ·exact .inr fun vs h=>by rw[f3]at h; exact Oc h (by first|exact kB|exact kD)
   have PL3:=PL2.futN F3' nt3
   have PR3:=PR2.futN F3' nt3
   have hlf:∀(x:Part) (m:Int),(x.flows m).length=x.size:=flows_len
   have hcode:(⟨[.ref la,.int (m*r.pq.2*l.pq.1) u1,.ref p.T,.ref p.R],[]⟩:Args)=⟨[.ref la,.int ((m*r.pq.2)*l.pq.1) u1,.ref T,.ref Rr],[]⟩:=by rw[pT,pR]
   rw[hcode]
   refine spec E NE l (sl r.pq.2 br2 br4) C4.B hA3 (by omega) PL3 L3 (by omega) (by omega) ?_
   intro s4 nz1 F4 L4 hnz1
   have PR4:=PR3.lists L3 F4
   have C4':Cur kt W s (p.a::la::ra::FL p.n T Rr) [] s3 [(p.n,frO W p s2.toks (m*r.pq.2*l.pq.1) u1 0 u2),(p.a,tup [.int 14 t0,.ref la,.ref ra,.int PP tp,.int QQ tq])]:=C4.sub (.cons_cons _ (.cons _ (.cons _ (.cons_cons _ (List.nil_sublist _)))))
   have C5:=callee L3 C4' F4 (by
    refine fc ?_ (fc ?_ fz)
    ·exact⟨kC,n160⟩
    ·exact⟨kD,a160⟩) (fun b hb=>.tail _ (.tail _ (.tail _ (fl_sub hb))))
   refine C5.startT keb hA dA (C5.stop (E 5 W p la ra t0 PP tp QQ tq o1 v1 v2 l.pq.1 tlp l.pq.2 tlq o3 v3 v4 r.pq.1 trp r.pq.2 trq m1 m2 vr2 er2 x (m*r.pq.2*l.pq.1) u1 0 u2 s2.heap.objs.size s2.toks s4.heap.objs.size s4.toks) hA noV noE rfl ?_)
   intro s5 A5 C6 _ F5 hA5 hd5 kec
   have gn4:=C5.ix 0 (p.n,_) rfl
   have ga4:=C5.ix 1 (p.a,_) rfl
   have ga5:=C6.ix 1 (p.a,_) rfl
   have F5':Fut [p.n] [] s4 s5:=F5.same <|by
    refine fc ?_ (fc ?_ fz)
    ·exact .inl Z0
    ·exact .inr (.inr (ga5.trans ga4.symm))
   have L5:=L4.keep NE F5' (mild1 gn4 n160 (.inl rfl))
   have PR5:=PR4.futN F5' (by
    refine fc ?_ fz
    exact .inr fun vs h=>by rw[gn4]at h; exact Oc h kA)
   have hcode2:∀tk,(⟨[.ref ra,.int (p.v-m*r.pq.2*l.pq.1) tk,.ref p.T,.ref p.R],[]⟩:Args)=⟨[.ref ra,.int ((m*l.pq.2)*r.pq.1) tk,.ref T,.ref Rr],[]⟩:=fun tk=>by
    have:p.v-m*r.pq.2*l.pq.1=(m*l.pq.2)*r.pq.1:=by
     rw[pv,hpq,Int.mul_add,Int.mul_assoc m r.pq.2,Int.mul_comm r.pq.2,Int.mul_assoc m l.pq.2]
     omega
    rw[this,pT,pR]
   rw[hcode2]
   refine spec E NE r (sr l.pq.2 bl2 bl4) C6.B hA5 (by omega) PR5 L5 (by rw[lap,hlf]; omega) (by omega) ?_
   intro s6 nz2 F6 L6 hnz2
   have C7:=callee L5 C6 F6 (by
    refine fc ?_ (fc ?_ fz)
    ·exact⟨kC,n160⟩
    ·exact⟨kD,a160⟩) (fun b hb=>.tail _ (.tail _ (.tail _ (fl_sub hb))))
   have C7':Cur kt W s (p.a::la::ra::FL p.n T Rr) [] s6 [(p.n,frO W p s2.toks (m*r.pq.2*l.pq.1) u1 0 u2)]:=C7.sub (.cons_cons _ (List.nil_sublist _))
   refine C7'.startT kec hA dA (C7'.ret (E 6 W p la ra t0 PP tp QQ tq o1 v1 v2 l.pq.1 tlp l.pq.2 tlq o3 v3 v4 r.pq.1 trp r.pq.2 trq m1 m2 vr2 er2 x (m*r.pq.2*l.pq.1) u1 0 u2 s2.heap.objs.size s2.toks _ _ s6.heap.objs.size s6.toks) noV noE rfl ?_)
   intro s7 C8 _ F7
   have gn6:=C7'.ix 0 (p.n,_) rfl
   have L7:=L6.keep NE F7 (mild1 gn6 n160 (.inl rfl))
   have mo:∀{u v:Shared},Fut [p.n] [] u v→Fut (FL p.n T Rr) [] u v:=fun F=>F.mono (fc (by first|exact Z0|exact Z1|exact Z2|simp) fz) (fun _ h=>h)
   have mo4:∀{u v:Shared},Fut [T,Rr,51,58] [] u v→Fut (FL p.n T Rr) [] u v:=fun F=>F.mono (fun b hb=>fl_sub hb) (fun _ h=>h)
   have FT:=(((((F1'.mono fz (fun _ h=>h):Fut (FL p.n T Rr) [] s s₁).trans (F2.mono (by
    refine fc ?_ (fc ?_ fz)<;>simp) (fun _ h=>h))).trans (F3'.mono (by
    refine fc ?_ (fc ?_ fz)<;>simp) (fun _ h=>h))).trans (mo4 F4)).trans (mo F5')).trans (mo4 F6) |>.trans (mo F7)
   refine k s7 nz2 (FT.drop (fun b hb=>?_) fz) (by rw[Part.flows_e.1,←List.append_assoc]; exact L7) (by omega)
   rcases mc.mp hb with rfl|hb
   ·exact .inr (by rw[pn]; exact nR _)
   ·exact .inl hb
end
end SH
namespace WR
structure Pr where
 n:Nat
 t:Nat
 a:Nat
 ml:Nat
noncomputable def sNet:Str:=U3
noncomputable def sMarks:Str:=⟨⟨[109,97,114,107,115]⟩⟩
noncomputable def frW(W:Wd)(p:Pr):Obj:=fr W.w.params [(sNet,p.t,.ref p.a),(sMarks,p.t+1,.ref p.ml)]
structure Pl where
 n:Nat
 t:Nat
 a:Nat
 s:Int
 ts:Nat
 e:Int
 te:Nat
 pt:Nat
 wy:Nat
noncomputable def arl(p:Pl)(v:Value):Args:=⟨[v,.int p.s p.ts,.int p.e p.te,.ref p.pt,.ref p.wy],[]⟩
noncomputable def frL(W:Wd)(p:Pl)(b a:Value):Obj:=fr W.w.params [(sNet,p.t,.ref p.a),(U16,p.t+1,.int p.s p.ts),(⟨⟨[115,116,111,112]⟩⟩,p.t+2,.int p.e p.te),(U5,p.t+3,.ref p.pt),(U0,p.t+4,.ref p.wy),(⟨⟨[98,101,104,105,110,100]⟩⟩,p.t+6,b),(⟨⟨[97,104,101,97,100]⟩⟩,p.t+7,a)]
noncomputable def frLT(W:Wd)(p:Pl)(np:Nat):Obj:=frL W p (.int (zN np) (p.t+11)) (.int (zN np) (p.t+11))
noncomputable def frLF(W:Wd)(p:Pl):Obj:=frL W p (.int p.e p.te) (.int p.s p.ts)
noncomputable def op(b:Bool):Str:=match b with|true=>⟨⟨[43]⟩⟩|false=>⟨⟨[124]⟩⟩
noncomputable def w0 a W (p:Pr) k c d e v:=startF (S1 a W p.n p.t 60) 113 ⟨[.int k c,.ref p.ml],[]⟩ [(p.ml,lst d e)] (Hx 0x44455222115112155551 [.i [0] v 0])
noncomputable def E_w0 kt W:=∀p k b a e v,RetIs (w0 kt W p k b a e v) [] [PA.eGet p.ml a e k b v (p.n+1) (p.t+2)] (.ok (.ret v)) [(0,p.ml,lst a e)]
noncomputable def w1I c W (p:Pr) d e f g h:=startF (S1 c W p.n p.t 60) 113 ⟨[.ref p.a,.ref p.ml],[]⟩ [(p.a,tup [.str d e,(.int f g),h])] (Hx Y33 [])
noncomputable def E_w1I kt W:=∀p d e b c f,StopIs (w1I kt W p d e b c f) [] [] (.call (.ref 113) ⟨[(.int b c),.ref p.ml],[]⟩) 1 [(0,p.a,tup [.str d e,(.int b c),f]),(1,p.n,frW W p)]
noncomputable def w2II c W p d f g h i j n t k l o q r u v w:=on c W n t (w1I c W p d f g h (.int i j)) (rt (.str k l)) [(p.n,frW W p),(p.a,tup [.str d f,(.int g h),(.int i j)])] (.i [] (.str o q) r::Hx Y16 (.i [] (.str u v) w::Hx Y19 []))
noncomputable def E_w2II kt W:=∀p b c i j d e n t k l f g h m o q,StopIs (w2II kt W p b c i j d e n t k l f g h m o q) [] [SY.eAdd f g b c m o q n (t+(0+h+1)),SY.eAdd ⟨⟨[40]⟩⟩ (p.t+3) k l f g h n t] (.call (.ref 113) ⟨[(.int d e),.ref p.ml],[]⟩) 1 [(0,p.n,frW W p),(1,p.a,tup [.str b c,(.int i j),(.int d e)])]
noncomputable def w3II a W p b c d f g h n t i j k l m o q r s u v w x y z A B C:=on a W s u (w2II a W p b c d f g h n t i j k l m o q r) (rt (.str v w)) [(p.n,frW W p)] [.i [] (.str x y) z,.i [] (.str A B) C]
noncomputable def E_w3II kt W:=∀p m o q r s u n t v w x y z h i A c a j k d e b f g l,RetIs (w3II kt W p m o q r s u n t v w x y z h i A c a j k d e b f g l) [] [SY.eAdd d e ⟨⟨[41]⟩⟩ (a+(0+b)) f g l c (a+(0+b+1)),SY.eAdd h i j k d e b c a] (.ok (.ret (.str f g))) [(0,p.n,frW W p)]
noncomputable def w2IR c W p d f g h i n t j k l o q r u v:=on c W n t (w1I c W p d f g h (.ref i)) (rt (.str j k)) [(p.n,frW W p),(p.a,tup [.str d f,(.int g h),(.ref i)])] (.i [] (.str l o) q::Hx Y16 (.i [] (.str r u) v::Hx Y19 []))
noncomputable def E_w2IR kt W:=∀p b c h i d n t j k e f g l m o,StopIs (w2IR kt W p b c h i d n t j k e f g l m o) [] [SY.eAdd e f b c l m o n (t+(0+g+1)),SY.eAdd ⟨⟨[40]⟩⟩ (p.t+3) j k e f g n t] (.call (.ref 113) ⟨[(.ref d),.ref p.ml],[]⟩) 1 [(0,p.n,frW W p),(1,p.a,tup [.str b c,(.int h i),(.ref d)])]
noncomputable def w3IR a W p b c d f g n t h i j k l m o q r s u v w x y z A B:=on a W r s (w2IR a W p b c d f g n t h i j k l m o q) (rt (.str u v)) [(p.n,frW W p)] [.i [] (.str w x) y,.i [] (.str z A) B]
noncomputable def E_w3IR kt W:=∀p m o q r s n t u v w x y h i z c a j k d e b f g l,RetIs (w3IR kt W p m o q r s n t u v w x y h i z c a j k d e b f g l) [] [SY.eAdd d e ⟨⟨[41]⟩⟩ (a+(0+b)) f g l c (a+(0+b+1)),SY.eAdd h i j k d e b c a] (.ok (.ret (.str f g))) [(0,p.n,frW W p)]
noncomputable def w1R c W (p:Pr) d e f g:=startF (S1 c W p.n p.t 60) 113 ⟨[.ref p.a,.ref p.ml],[]⟩ [(p.a,tup [.str d e,(.ref f),g])] (Hx Y33 [])
noncomputable def E_w1R kt W:=∀p c d b e,StopIs (w1R kt W p c d b e) [] [] (.call (.ref 113) ⟨[(.ref b),.ref p.ml],[]⟩) 1 [(0,p.a,tup [.str c d,(.ref b),e]),(1,p.n,frW W p)]
noncomputable def w2RI c W p d f g h i n t j k l o q r u v:=on c W n t (w1R c W p d f g (.int h i)) (rt (.str j k)) [(p.n,frW W p),(p.a,tup [.str d f,(.ref g),(.int h i)])] (.i [] (.str l o) q::Hx Y16 (.i [] (.str r u) v::Hx Y19 []))
noncomputable def E_w2RI kt W:=∀p b c i d e n t j k f g h l m o,StopIs (w2RI kt W p b c i d e n t j k f g h l m o) [] [SY.eAdd f g b c l m o n (t+(0+h+1)),SY.eAdd ⟨⟨[40]⟩⟩ (p.t+3) j k f g h n t] (.call (.ref 113) ⟨[(.int d e),.ref p.ml],[]⟩) 1 [(0,p.n,frW W p),(1,p.a,tup [.str b c,(.ref i),(.int d e)])]
noncomputable def w3RI a W p b c d f g n t h i j k l m o q r s u v w x y z A B:=on a W r s (w2RI a W p b c d f g n t h i j k l m o q) (rt (.str u v)) [(p.n,frW W p)] [.i [] (.str w x) y,.i [] (.str z A) B]
noncomputable def E_w3RI kt W:=∀p m o q r s n t u v w x y h i z c a j k d e b f g l,RetIs (w3RI kt W p m o q r s n t u v w x y h i z c a j k d e b f g l) [] [SY.eAdd d e ⟨⟨[41]⟩⟩ (a+(0+b)) f g l c (a+(0+b+1)),SY.eAdd h i j k d e b c a] (.ok (.ret (.str f g))) [(0,p.n,frW W p)]
noncomputable def w2RR c W p d f g h n t i j k l o q r u:=on c W n t (w1R c W p d f g (.ref h)) (rt (.str i j)) [(p.n,frW W p),(p.a,tup [.str d f,(.ref g),(.ref h)])] (.i [] (.str k l) o::Hx Y16 (.i [] (.str q r) u::Hx Y19 []))
noncomputable def E_w2RR kt W:=∀p b c h d n t i j e f g k l m,StopIs (w2RR kt W p b c h d n t i j e f g k l m) [] [SY.eAdd e f b c k l m n (t+(0+g+1)),SY.eAdd ⟨⟨[40]⟩⟩ (p.t+3) i j e f g n t] (.call (.ref 113) ⟨[(.ref d),.ref p.ml],[]⟩) 1 [(0,p.n,frW W p),(1,p.a,tup [.str b c,(.ref h),(.ref d)])]
noncomputable def w3RR a W p b c d f n t g h i j k l m o q r s u v w x y z A:=on a W q r (w2RR a W p b c d f n t g h i j k l m o) (rt (.str s u)) [(p.n,frW W p)] [.i [] (.str v w) x,.i [] (.str y z) A]
noncomputable def E_w3RR kt W:=∀p m o q r n t s u v w x h i y c a j k d e b f g l,RetIs (w3RR kt W p m o q r n t s u v w x h i y c a j k d e b f g l) [] [SY.eAdd d e ⟨⟨[41]⟩⟩ (a+(0+b)) f g l c (a+(0+b+1)),SY.eAdd h i j k d e b c a] (.ok (.ret (.str f g))) [(0,p.n,frW W p)]
noncomputable def l0 d W p k f a c:=startF (S1 d W p.n p.t 60) 120 (arl p (.int k f)) [(p.wy,lst a c)] (Hx 0x5544445222115112155555555551 [.u [] 0 (lst (a++[.ref (p.n+1)]) (c+1)) .none 0])
noncomputable def E_l0 kt W:=∀p k c a b,RetIs (l0 kt W p k c a b) [] [SQ.eApp p.wy a b (.ref (p.n+1)) (p.n+2) (p.t+5)] (.ok (.ret .none)) [(0,p.wy,lst (a++[.ref (p.n+1)]) (b+1)),(2,p.n+1,tup [.int p.s p.ts,.int p.e p.te])]
noncomputable def l1TI f W p g h i j c d:=startF (S1 f W p.n p.t 60) 120 (arl p (.ref p.a)) [(p.a,tup [.str (op true) g,(.int h i),j]),(p.pt,lst c d)] (Hx Y34 (.i [1] (.int (zN c.length) (p.t+11)) 2::Hx 0x6555566666 (.u [] 1 (lst (c++[.int (zN c.length) (p.t+11)]) (d+1)) .none 0::Hx 0x316666424244461 [])))
noncomputable def E_l1TI kt W:=∀p f d e g b c,StopIs (l1TI kt W p f d e g b c) [] [SQ.eApp p.pt b c (.int (zN b.length) (p.t+11)) (p.n+5) (p.t+14),PA.eLenL p.pt b c (p.n+5) (p.t+10)] (.call (.ref 120) ⟨[(.int d e),.int p.s p.ts,.int (zN b.length) (p.t+11),.ref p.pt,.ref p.wy],[]⟩) 1 [(0,p.a,tup [.str (op true) f,(.int d e),g]),(1,p.pt,lst (b++[.int (zN b.length) (p.t+11)]) (c+1)),(2,p.n,frLT W p b.length)]
noncomputable def l2TII c W p d e f g h i j n t:=on c W n t (l1TI c W p d e f (.int g h) i j) (rt .none) [(p.n,frLT W p i.length),(p.a,tup [.str (op true) d,(.int e f),(.int g h)])] (Hx Y8 [])
noncomputable def E_l2TII kt W:=∀p f g h b c d i n t,StopIs (l2TII kt W p f g h b c d i n t) [] [] (.call (.ref 120) ⟨[(.int b c),.int (zN d.length) (p.t+11),.int p.e p.te,.ref p.pt,.ref p.wy],[]⟩) 1 [(0,p.n,frLT W p d.length),(1,p.a,tup [.str (op true) f,(.int g h),(.int b c)])]
noncomputable def l3TII a W p c d e f g b h n t i j:=on a W i j (l2TII a W p c d e f g b h n t) (rt .none) [(p.n,frLT W p b.length)] []
noncomputable def E_l3TII kt W:=∀p b c d e f a g n t h i,RetIs (l3TII kt W p b c d e f a g n t h i) [] [] (.ok (.ret .none)) [(0,p.n,frLT W p a.length)]
noncomputable def l2TIR c W p d e f g h i n t:=on c W n t (l1TI c W p d e f (.ref g) h i) (rt .none) [(p.n,frLT W p h.length),(p.a,tup [.str (op true) d,(.int e f),(.ref g)])] (Hx Y8 [])
noncomputable def E_l2TIR kt W:=∀p d f g b c h n t,StopIs (l2TIR kt W p d f g b c h n t) [] [] (.call (.ref 120) ⟨[(.ref b),.int (zN c.length) (p.t+11),.int p.e p.te,.ref p.pt,.ref p.wy],[]⟩) 1 [(0,p.n,frLT W p c.length),(1,p.a,tup [.str (op true) d,(.int f g),(.ref b)])]
noncomputable def l3TIR a W p c d e f b g n t h i:=on a W h i (l2TIR a W p c d e f b g n t) (rt .none) [(p.n,frLT W p b.length)] []
noncomputable def E_l3TIR kt W:=∀p b c d e a f n t g h,RetIs (l3TIR kt W p b c d e a f n t g h) [] [] (.ok (.ret .none)) [(0,p.n,frLT W p a.length)]
noncomputable def l1TR f W p g h i c d:=startF (S1 f W p.n p.t 60) 120 (arl p (.ref p.a)) [(p.a,tup [.str (op true) g,(.ref h),i]),(p.pt,lst c d)] (Hx Y34 (.i [1] (.int (zN c.length) (p.t+11)) 2::Hx 0x6555566666 (.u [] 1 (lst (c++[.int (zN c.length) (p.t+11)]) (d+1)) .none 0::Hx 0x316666424244461 [])))
noncomputable def E_l1TR kt W:=∀p e d f b c,StopIs (l1TR kt W p e d f b c) [] [SQ.eApp p.pt b c (.int (zN b.length) (p.t+11)) (p.n+5) (p.t+14),PA.eLenL p.pt b c (p.n+5) (p.t+10)] (.call (.ref 120) ⟨[(.ref d),.int p.s p.ts,.int (zN b.length) (p.t+11),.ref p.pt,.ref p.wy],[]⟩) 1 [(0,p.a,tup [.str (op true) e,(.ref d),f]),(1,p.pt,lst (b++[.int (zN b.length) (p.t+11)]) (c+1)),(2,p.n,frLT W p b.length)]
noncomputable def l2TRI c W p d e f g h i n t:=on c W n t (l1TR c W p d e (.int f g) h i) (rt .none) [(p.n,frLT W p h.length),(p.a,tup [.str (op true) d,(.ref e),(.int f g)])] (Hx Y8 [])
noncomputable def E_l2TRI kt W:=∀p f g b c d h n t,StopIs (l2TRI kt W p f g b c d h n t) [] [] (.call (.ref 120) ⟨[(.int b c),.int (zN d.length) (p.t+11),.int p.e p.te,.ref p.pt,.ref p.wy],[]⟩) 1 [(0,p.n,frLT W p d.length),(1,p.a,tup [.str (op true) f,(.ref g),(.int b c)])]
noncomputable def l3TRI a W p c d e f b g n t h i:=on a W h i (l2TRI a W p c d e f b g n t) (rt .none) [(p.n,frLT W p b.length)] []
noncomputable def E_l3TRI kt W:=∀p b c d e a f n t g h,RetIs (l3TRI kt W p b c d e a f n t g h) [] [] (.ok (.ret .none)) [(0,p.n,frLT W p a.length)]
noncomputable def l2TRR c W p d e f g h n t:=on c W n t (l1TR c W p d e (.ref f) g h) (rt .none) [(p.n,frLT W p g.length),(p.a,tup [.str (op true) d,(.ref e),(.ref f)])] (Hx Y8 [])
noncomputable def E_l2TRR kt W:=∀p d f b c g n t,StopIs (l2TRR kt W p d f b c g n t) [] [] (.call (.ref 120) ⟨[(.ref b),.int (zN c.length) (p.t+11),.int p.e p.te,.ref p.pt,.ref p.wy],[]⟩) 1 [(0,p.n,frLT W p c.length),(1,p.a,tup [.str (op true) d,(.ref f),(.ref b)])]
noncomputable def l3TRR a W p c d e b f n t g h:=on a W g h (l2TRR a W p c d e b f n t) (rt .none) [(p.n,frLT W p b.length)] []
noncomputable def E_l3TRR kt W:=∀p b c d a e n t f g,RetIs (l3TRR kt W p b c d a e n t f g) [] [] (.ok (.ret .none)) [(0,p.n,frLT W p a.length)]
noncomputable def l1FI c W p d e f g:=startF (S1 c W p.n p.t 60) 120 (arl p (.ref p.a)) [(p.a,tup [.str (op false) d,(.int e f),g])] (Hx Y35 [])
noncomputable def E_l1FI kt W:=∀p d b c f,StopIs (l1FI kt W p d b c f) [] [] (.call (.ref 120) ⟨[(.int b c),.int p.s p.ts,.int p.e p.te,.ref p.pt,.ref p.wy],[]⟩) 1 [(0,p.a,tup [.str (op false) d,(.int b c),f]),(1,p.n,frLF W p)]
noncomputable def l2FII c W p d e f g h n t:=on c W n t (l1FI c W p d e f (.int g h) ) (rt .none) [(p.n,frLF W p),(p.a,tup [.str (op false) d,(.int e f),(.int g h)])] (Hx Y8 [])
noncomputable def E_l2FII kt W:=∀p d f g b c n t,StopIs (l2FII kt W p d f g b c n t) [] [] (.call (.ref 120) ⟨[(.int b c),.int p.s p.ts,.int p.e p.te,.ref p.pt,.ref p.wy],[]⟩) 1 [(0,p.n,frLF W p),(1,p.a,tup [.str (op false) d,(.int f g),(.int b c)])]
noncomputable def l3FII a W p b c d e f n t g h:=on a W g h (l2FII a W p b c d e f n t) (rt .none) [(p.n,frLF W p)] []
noncomputable def E_l3FII kt W:=∀p a b c d e n t f g,RetIs (l3FII kt W p a b c d e n t f g) [] [] (.ok (.ret .none)) [(0,p.n,frLF W p)]
noncomputable def l2FIR c W p d e f g n t:=on c W n t (l1FI c W p d e f (.ref g) ) (rt .none) [(p.n,frLF W p),(p.a,tup [.str (op false) d,(.int e f),(.ref g)])] (Hx Y8 [])
noncomputable def E_l2FIR kt W:=∀p c d f b n t,StopIs (l2FIR kt W p c d f b n t) [] [] (.call (.ref 120) ⟨[(.ref b),.int p.s p.ts,.int p.e p.te,.ref p.pt,.ref p.wy],[]⟩) 1 [(0,p.n,frLF W p),(1,p.a,tup [.str (op false) c,(.int d f),(.ref b)])]
noncomputable def l3FIR a W p b c d e n t f g:=on a W f g (l2FIR a W p b c d e n t) (rt .none) [(p.n,frLF W p)] []
noncomputable def E_l3FIR kt W:=∀p a b c d n t e f,RetIs (l3FIR kt W p a b c d n t e f) [] [] (.ok (.ret .none)) [(0,p.n,frLF W p)]
noncomputable def l1FR c W p d e f:=startF (S1 c W p.n p.t 60) 120 (arl p (.ref p.a)) [(p.a,tup [.str (op false) d,(.ref e),f])] (Hx Y35 [])
noncomputable def E_l1FR kt W:=∀p c b d,StopIs (l1FR kt W p c b d) [] [] (.call (.ref 120) ⟨[(.ref b),.int p.s p.ts,.int p.e p.te,.ref p.pt,.ref p.wy],[]⟩) 1 [(0,p.a,tup [.str (op false) c,(.ref b),d]),(1,p.n,frLF W p)]
noncomputable def l2FRI c W p d e f g n t:=on c W n t (l1FR c W p d e (.int f g) ) (rt .none) [(p.n,frLF W p),(p.a,tup [.str (op false) d,(.ref e),(.int f g)])] (Hx Y8 [])
noncomputable def E_l2FRI kt W:=∀p d f b c n t,StopIs (l2FRI kt W p d f b c n t) [] [] (.call (.ref 120) ⟨[(.int b c),.int p.s p.ts,.int p.e p.te,.ref p.pt,.ref p.wy],[]⟩) 1 [(0,p.n,frLF W p),(1,p.a,tup [.str (op false) d,(.ref f),(.int b c)])]
noncomputable def l3FRI a W p b c d e n t f g:=on a W f g (l2FRI a W p b c d e n t) (rt .none) [(p.n,frLF W p)] []
noncomputable def E_l3FRI kt W:=∀p a b c d n t e f,RetIs (l3FRI kt W p a b c d n t e f) [] [] (.ok (.ret .none)) [(0,p.n,frLF W p)]
noncomputable def l2FRR c W p d e f n t:=on c W n t (l1FR c W p d e (.ref f) ) (rt .none) [(p.n,frLF W p),(p.a,tup [.str (op false) d,(.ref e),(.ref f)])] (Hx Y8 [])
noncomputable def E_l2FRR kt W:=∀p c d b n t,StopIs (l2FRR kt W p c d b n t) [] [] (.call (.ref 120) ⟨[(.ref b),.int p.s p.ts,.int p.e p.te,.ref p.pt,.ref p.wy],[]⟩) 1 [(0,p.n,frLF W p),(1,p.a,tup [.str (op false) c,(.ref d),(.ref b)])]
noncomputable def l3FRR a W p b c d n t e f:=on a W e f (l2FRR a W p b c d n t) (rt .none) [(p.n,frLF W p)] []
noncomputable def E_l3FRR kt W:=∀p a b c n t d e,RetIs (l3FRR kt W p a b c n t d e) [] [] (.ok (.ret .none)) [(0,p.n,frLF W p)]
def LA:List ((Params→KT)→Wd→Prop):=[E_w0,E_w1I,E_w2II,E_w3II,E_w2IR,E_w3IR,E_w1R,E_w2RI,E_w3RI,E_w2RR,E_w3RR,E_l0,E_l1TI,E_l2TII,E_l3TII,E_l2TIR,E_l3TIR,E_l1TR,E_l2TRI,E_l3TRI,E_l2TRR,E_l3TRR,E_l1FI,E_l2FII,E_l3FII,E_l2FIR,E_l3FIR,E_l1FR,E_l2FRI,E_l3FRI,E_l2FRR,E_l3FRR]
abbrev Evs:=nF LA
end WR
set_option genCtorIdx true in
inductive Net where
 | leaf (k:Nat)
 | node (ser:Bool) (l r:Net)
namespace Net
noncomputable def size:Net→Nat
 | leaf _=>1
 | node _ l r=>l.size+r.size
noncomputable def height:Net→Nat
 | leaf _=>0
 | node _ l r=>l.height+r.height+1
theorem size_pos:∀x:Net,1≤x.size
 | leaf _=>nR _
 | node _ l r=>by have:=size_pos l; show 1≤l.size+r.size; omega
noncomputable def opc(b:Bool):Nat:=match b with|true=>43|false=>124
noncomputable def write(marks:List (List Nat)):Net→List Nat
 | leaf k=>marks.getD k []
 | node b l r=>40::l.write marks++opc b::(r.write marks++[41])
noncomputable def lay:Net→Nat→Nat→Nat→Nat×List (Nat×Nat)
 | leaf _,s,e,np=>(np,[(s,e)])
 | node true l r,s,e,np=>let z:=l.lay s np (np+1); let y:=r.lay np e z.1; (y.1,z.2++y.2)
 | node false l r,s,e,np=>let z:=l.lay s e np; let y:=r.lay s e z.1; (y.1,z.2++y.2)
noncomputable def In(n:Nat):Net→Prop
 | leaf k=>k<n
 | node _ l r=>l.In n∧r.In n
end Net
inductive NetAt(h:Heap):Value→Net→Prop
 | leaf (k t:Nat):NetAt h (.int (zN k) t) (.leaf k)
 | node (a to:Nat) (b:Bool) (vl vr:Value) (l r:Net):160≤a→h.get? a=some (tup [.str (WR.op b) to,vl,vr])→NetAt h vl l→NetAt h vr r→NetAt h (.ref a) (.node b l r)
theorem NetAt.node_inv{h:Heap}{v:Value}{b:Bool}{l r:Net}(H:NetAt h v (.node b l r)):∃(a to:Nat) (vl vr:Value),v=.ref a∧160≤a∧h.get? a=some (tup [.str (WR.op b) to,vl,vr])∧NetAt h vl l∧NetAt h vr r:=by
 cases H with
 | node a to _ vl vr _ _ g ho NL NR=>exact⟨a,to,vl,vr,rfl,g,ho,NL,NR⟩
theorem NetAt.futN{G:List Nat}{v:Value}{x:Net}(h:NetAt s.heap v x)(F:Fut L G s s')(hL:∀b∈L,b<160∨∀vs,s.heap.get? b≠some (tup vs)):NetAt s'.heap v x:=by
 induction h with
 | leaf k t=>exact .leaf k t
 | node a to b vl vr l r g h _ _ i1 i2=>exact .node a to b vl vr l r g (F.keep _ _ h (fun z=>(hL _ z).elim (fun y=>absurd y (Nat.not_lt.mpr g)) (fun y=>y _ h))) i1 i2
theorem NetAt.shape{h:Heap}{v:Value}{x:Net}(H:NetAt h v x):(∃k t:Nat,v=.int (zN k) t)∨∃a:Nat,v=.ref a:=by
 cases H with
 | leaf k t=>exact .inl ⟨k,t,rfl⟩
 | node a to b vl vr l r g h _ _=>exact .inr ⟨a,rfl⟩
theorem NetAt.fut0{G:List Nat}{v:Value}{x:Net}(h:NetAt s.heap v x)(F:Fut [] G s s'):NetAt s'.heap v x:=h.futN F fz
namespace WR
section
theorem add_ok{x y:List Nat}{tx ty n t:Nat}(h:x.length+y.length<2 ^ 20):∃u d,(SY.eAdd ⟨⟨x⟩⟩ tx ⟨⟨y⟩⟩ ty ⟨⟨x++y⟩⟩ u d n t).Ok prog w:=by
 by_cases hx:x.length=0
 ·exact⟨ty,0,eff_str_add (x:=⟨⟨x⟩⟩) (y:=⟨⟨y⟩⟩) (t:=tx) (v:=ty) (u:=ty) rfl rfl rfl rfl h rfl (.inl ⟨hx,rfl,rfl⟩)⟩
 ·by_cases hy:y.length=0
  ·exact⟨tx,0,eff_str_add (x:=⟨⟨x⟩⟩) (y:=⟨⟨y⟩⟩) (t:=tx) (v:=ty) (u:=tx) rfl rfl rfl rfl h rfl (.inr (.inl ⟨hx,hy,rfl,rfl⟩))⟩
  ·exact⟨t,1,eff_str_add (x:=⟨⟨x⟩⟩) (y:=⟨⟨y⟩⟩) (t:=tx) (v:=ty) (u:=t) rfl rfl rfl rfl h rfl (.inr (.inr ⟨hx,hy,rfl,rfl⟩))⟩
structure MarksAt(s:Shared)(ml:Addr)(marks:List (List Nat))(vs:List Value)(e:Nat):Prop where
 o:s.heap.get? ml=some (lst vs e)
 hi:160≤ml
 m:∀(k:Nat) (x:List Nat),marks[k]?=some x→∃t:Nat,vs[k]?=some (Value.str ⟨⟨x⟩⟩ t)
 len:vs.length<1000
theorem MarksAt.fut0{ml:Addr}{marks:List (List Nat)}{e:Nat}{G:List Nat}(h:MarksAt s ml marks vs e)(F:Fut [] G s s'):MarksAt s' ml marks vs e:=⟨F.keep _ _ h.o (fun z=>nomatch z),h.hi,h.m,h.len⟩
theorem write_len{marks:List (List Nat)}(hm:∀x∈marks,x.length≤10):∀x:Net,(x.write marks).length+3≤14*x.size
 | .leaf k=>by
  show(marks.getD k []).length+3≤14*1
  rw[List.getD_eq_getElem?_getD]
  cases h:marks[k]? with
  | none=>simp
  | some y=>have:=hm y (List.mem_of_getElem? h); simp; omega
 | .node b l r=>by
  have h1:=write_len hm l
  have h2:=write_len hm r
  have:=Net.size_pos l
  have:=Net.size_pos r
  show(40::l.write marks++Net.opc b::(r.write marks++[41])).length+3≤14*(l.size+r.size)
  simp only[List.length_cons,lap,List.length_nil]
  omega
inductive RunW2(kt:Params→KT)(W:Wd)(p:Pr)(op:Str)(to:Nat)(vl vr:Value)(o1:Out)(n t:Nat)(x:Str)(u:Nat)(z1:Str)(y1 d1:Nat)(z2:Str)(y2 d2:Nat):Prop
 | mk (o2:Out) (hs:List H) (ho:o2=on kt W n t o1 (.ok (.ret (.str x u))) [(p.n,frW W p),(p.a,tup [.str op to,vl,vr])] hs)
  (e:StopIs o2 [] [SY.eAdd z1 y1 op to z2 y2 d2 n (t+(0+d1+1)),SY.eAdd ⟨⟨[40]⟩⟩ (p.t+3) x u z1 y1 d1 n t] (.call (.ref 113) ⟨[vr,.ref p.ml],[]⟩) 1 [(0,p.n,frW W p),(1,p.a,tup [.str op to,vl,vr])])
  (q:∀(c a:Nat) (x':Str) (u':Nat) (z3:Str) (y3 d3:Nat) (z4:Str) (y4 d4:Nat),∃hs,RetIs (on kt W c a o2 (.ok (.ret (.str x' u'))) [(p.n,frW W p)] hs) [] [SY.eAdd z3 y3 ⟨⟨[41]⟩⟩ (a+(0+d3)) z4 y4 d4 c (a+(0+d3+1)),SY.eAdd z2 y2 x' u' z3 y3 d3 c a] (.ok (.ret (.str z4 y4))) [(0,p.n,frW W p)])
inductive RunW(kt:Params→KT)(W:Wd)(p:Pr)(op:Str)(to:Nat)(vl vr:Value):Prop
 | mk (o1:Out) (hs:List H) (ho:o1=startF (S1 kt W p.n p.t 60) 113 ⟨[.ref p.a,.ref p.ml],[]⟩ [(p.a,tup [.str op to,vl,vr])] hs)
  (e:StopIs o1 [] [] (.call (.ref 113) ⟨[vl,.ref p.ml],[]⟩) 1 [(0,p.a,tup [.str op to,vl,vr]),(1,p.n,frW W p)])
  (q:∀(n t:Nat) (x:Str) (u:Nat) (z1:Str) (y1 d1:Nat) (z2:Str) (y2 d2:Nat),RunW2 kt W p op to vl vr o1 n t x u z1 y1 d1 z2 y2 d2)
theorem runsW(E:Evs kt)(p:Pr)(op:Str)(to:Nat){vl vr:Value}(L:(∃k t,vl=.int (zN k) t)∨∃a,vl=.ref a)(R:(∃k t,vr=.int (zN k) t)∨∃a,vr=.ref a):RunW kt W p op to vl vr:=by
 rcases L with⟨kl,tl,rfl⟩|⟨al,rfl⟩<;>rcases R with⟨kr,tr,rfl⟩|⟨ar,rfl⟩
 ·exact⟨_,_,rfl,E 1 W p op to (zN kl) tl (.int (zN kr) tr),fun n t x u z1 y1 d1 z2 y2 d2=>⟨_,_,rfl,E 2 W p op to (zN kl) tl (zN kr) tr n t x u z1 y1 d1 z2 y2 d2,fun c a x' u' z3 y3 d3 z4 y4 d4=>⟨_,E 3 W p op to (zN kl) tl (zN kr) tr n t x u z1 y1 d1 z2 y2 d2 c a x' u' z3 y3 d3 z4 y4 d4⟩⟩⟩
 ·exact⟨_,_,rfl,E 1 W p op to (zN kl) tl (.ref ar),fun n t x u z1 y1 d1 z2 y2 d2=>⟨_,_,rfl,E 4 W p op to (zN kl) tl ar n t x u z1 y1 d1 z2 y2 d2,fun c a x' u' z3 y3 d3 z4 y4 d4=>⟨_,E 5 W p op to (zN kl) tl ar n t x u z1 y1 d1 z2 y2 d2 c a x' u' z3 y3 d3 z4 y4 d4⟩⟩⟩
 ·exact⟨_,_,rfl,E 6 W p op to al (.int (zN kr) tr),fun n t x u z1 y1 d1 z2 y2 d2=>⟨_,_,rfl,E 7 W p op to al (zN kr) tr n t x u z1 y1 d1 z2 y2 d2,fun c a x' u' z3 y3 d3 z4 y4 d4=>⟨_,E 8 W p op to al (zN kr) tr n t x u z1 y1 d1 z2 y2 d2 c a x' u' z3 y3 d3 z4 y4 d4⟩⟩⟩
 ·exact⟨_,_,rfl,E 6 W p op to al (.ref ar),fun n t x u z1 y1 d1 z2 y2 d2=>⟨_,_,rfl,E 9 W p op to al ar n t x u z1 y1 d1 z2 y2 d2,fun c a x' u' z3 y3 d3 z4 y4 d4=>⟨_,E 10 W p op to al ar n t x u z1 y1 d1 z2 y2 d2 c a x' u' z3 y3 d3 z4 y4 d4⟩⟩⟩
theorem w_spec(E:Evs kt){marks:List (List Nat)}{e:Nat}(hm:∀x∈marks,x.length≤10):∀(x:Net) {A:Around} {R:Result→Shared→Prop} {s:Shared} {v:Value} {ml:Addr},x.In marks.length→x.size≤8→Base kt W s.heap→A.handled=none→A.depth+70+x.height<1000→NetAt s.heap v x→MarksAt s ml marks vs e →
  (∀s' ty,Fut [] [] s s'→R (.ok (.ret (.str ⟨⟨x.write marks⟩⟩ ty))) s')→codeAny W.M A (.call (.ref 113) ⟨[v,.ref ml],[]⟩) R s
 | .leaf k,A,R,s,v,ml,hin,hsz,B,hA,hd,HN,HM,kk=>by
  have dA:A.depth+60<1000:=by omega
  cases HN with
  | leaf _ t =>
   have hk:k<marks.length:=hin
   obtain⟨x,hx⟩:∃x,marks[k]?=some x:=⟨marks[k],by simp[hk]⟩
   obtain⟨tx,hv⟩:=HM.m k x hx
   have C1:Cur kt W s [ml] [] s [(ml,lst vs e)]:=(Cur.start B [ml] []).add HM.o (.inl HM.hi) (fun h=>nomatch h) (.inl Z0)
   have hl:=HM.len
   refine C1.startF hA dA (by decide) (C1.ret (E 0 W ⟨s.heap.objs.size,s.toks,0,ml⟩ (zN k) t vs e (.str ⟨⟨x⟩⟩ tx)) noV (SQ.he1 (PA.get_ok hv (by omega))) rfl ?_)
   intro s' C' _ F'
   have ho:=C'.ix 0 (ml,lst vs e) rfl
   have hw:(Net.leaf k).write marks=x:=by show marks.getD k []=x; simp[hx]
   have:=kk s' tx (F'.same fun b hb=>.inr (.inr (by
    simp only[ks,mp,mn,mg]at hb
    subst hb
    rw[ho,HM.o])))
   rw[hw]at this
   exact this
 | .node b l r,A,R,s,v,ml,hin,hsz,B,hA,hd,HN,HM,kk=>by
  have dA:A.depth+60<1000:=by omega
  have hh:(Net.node b l r).height=l.height+r.height+1:=rfl
  have hs:l.size+r.size≤8:=hsz
  have b160:=B.sz
  obtain⟨a,to,vl,vr,rfl,g,ho,NL,NR⟩:=HN.node_inv
  have an:s.heap.objs.size≠a:=fun z=>absurd (Heap.lt_size ho) (Nat.not_lt.mpr (Nat.le_of_eq z))
  have lw:=write_len hm l
  have rw_:=write_len hm r
  have hop:(op b:Str)=⟨⟨[Net.opc b]⟩⟩:=by cases b<;>rfl
  have C1:Cur kt W s [a] [] s [(a,tup [.str (op b) to,vl,vr])]:=(Cur.start B [a] []).add ho (.inl g) (fun h=>nomatch h) (.inl Z0)
  have fin:∀{s₁:Shared} {t1:Nat} ,Fut [] [] s s₁→∀{y4},y4=t1→R (.ok (.ret (.str ⟨⟨40::l.write marks++[Net.opc b]++r.write marks++[41]⟩⟩ y4))) s₁:=fun {s₁ t1} F {y4} _=>by
   have e:40::l.write marks++[Net.opc b]++r.write marks++[41]=(Net.node b l r).write marks:=by show _=40::l.write marks++Net.opc b::(r.write marks++[41]); simp
   rw[e]
   exact kk s₁ y4 F
  obtain⟨o1,h1,ho1,e1,q1⟩:=runsW (kt:=kt) (W:=W) E ⟨s.heap.objs.size,s.toks,a,ml⟩ (op b) to NL.shape NR.shape
  refine Cur.startFo C1 rfl rfl ho1 hA dA (by decide) (C1.stop e1 hA noV noE rfl ?_)
  intro s₁ A1 C2 _ F1 hA1 hd1 ke1
  have ga1:=C2.ix 0 (a,_) rfl
  have F1':Fut [] [] s s₁:=F1.same (fc (.inr (.inr (ga1.trans ho.symm))) fz)
  refine w_spec E hm l hin.1 (by omega) C2.B hA1 (by omega) (NL.fut0 F1') (HM.fut0 F1') ?_
  intro s2 u1 F2
  have C3:=C2.call0 F2
  have C3':Cur kt W s [a] [] s2 [(s.heap.objs.size,frW W ⟨s.heap.objs.size,s.toks,a,ml⟩),(a,tup [.str (op b) to,vl,vr])]:=by
   refine(C3.sub (M':=[(s.heap.objs.size,frW W ⟨s.heap.objs.size,s.toks,a,ml⟩)]) (.cons _ (.cons_cons _ (List.nil_sublist _)))).add (C3.ix 0 (a,_) rfl) (.inl g) ?_ (.inl Z0)
   simp only[ks,mp,mn,ms]
   exact fun z=>an z.symm
  obtain⟨y1,d1,a1⟩:=add_ok (prog:=PW) (w:=W.w) (x:=[40]) (y:=l.write marks) (tx:=s.toks+3) (ty:=u1) (n:=s2.heap.objs.size) (t:=s2.toks) (by simp; omega)
  obtain⟨y2,d2,a2⟩:=add_ok (prog:=PW) (w:=W.w) (x:=[40]++l.write marks) (y:=[Net.opc b]) (tx:=y1) (ty:=to) (n:=s2.heap.objs.size) (t:=s2.toks+(0+d1+1)) (by simp; omega)
  rw[←hop]at a2
  obtain⟨o2,h2,ho2,e2,q2⟩:=q1 s2.heap.objs.size s2.toks ⟨⟨l.write marks⟩⟩ u1 ⟨⟨[40]++l.write marks⟩⟩ y1 d1 ⟨⟨[40]++l.write marks++[Net.opc b]⟩⟩ y2 d2
  refine C3'.startO ho2 ke1 hA dA (C3'.stop e2 hA noV (SQ.he2 a2 a1) rfl ?_)
  intro s3 A3 C4 _ F3 hA3 hd3 ke2
  have ga2:=C3'.ix 1 (a,_) rfl
  have ga3:=C4.ix 1 (a,_) rfl
  have F3':Fut [s.heap.objs.size] [] s2 s3:=F3.same (fc (.inl Z0) (fc (.inr (.inr (ga3.trans ga2.symm))) fz))
  have F03:Fut [] [] s s3:=(F1'.trans F2).trans' F3' (fc (.inr (nR _)) fz) fz
  refine w_spec E hm r hin.2 (by omega) C4.B hA3 (by omega) (NR.fut0 F03) (HM.fut0 F03) ?_
  intro s4 u2 F4
  have C5:=(C4.call0 F4).sub (M':=[(s.heap.objs.size,frW W ⟨s.heap.objs.size,s.toks,a,ml⟩)]) (.cons_cons _ (List.nil_sublist _))
  obtain⟨y3,d3,a3⟩:=add_ok (prog:=PW) (w:=W.w) (x:=[40]++l.write marks++[Net.opc b]) (y:=r.write marks) (tx:=y2) (ty:=u2) (n:=s4.heap.objs.size) (t:=s4.toks) (by simp; omega)
  obtain⟨y4,d4,a4⟩:=add_ok (prog:=PW) (w:=W.w) (x:=[40]++l.write marks++[Net.opc b]++r.write marks) (y:=[41]) (tx:=y3) (ty:=s4.toks+(0+d3)) (n:=s4.heap.objs.size) (t:=s4.toks+(0+d3+1)) (by simp; omega)
  obtain⟨h3,e3⟩:=q2 s4.heap.objs.size s4.toks ⟨⟨r.write marks⟩⟩ u2 _ y3 d3 _ y4 d4
  refine C5.startT ke2 hA dA (C5.ret e3 noV (SQ.he2 a4 a3) rfl ?_)
  intro s5 C6 _ F5
  have F05:Fut [] [] s s5:=(F03.trans F4).trans' F5 (fc (.inr (nR _)) fz) fz
  exact fin (t1:=y4) F05 rfl
end
end WR
noncomputable def lit(l:Addr)(i:Nat):Obj:=⟨.type "list_iterator",none,.fields #[.ref l,.int (zN i) 0],#[]⟩
noncomputable def litE(i:Nat):Obj:=⟨.type "list_iterator",none,.fields #[.none,.int (zN i) 0],#[]⟩
noncomputable def eLNext(it l:Nat)(vs:List Value)(e i:Nat)(v:Value)(n t:Nat):Eff:=⟨.call (.builtin "list_iterator.__next__") ⟨[.ref it],[]⟩,[(it,lit l i),(l,lst vs e)],some (it,lit l (i+1)),[],.ok (.ret v),0,n,t⟩
noncomputable def eLEnd(it l:Nat)(vs:List Value)(e i n t:Nat):Eff:=⟨.call (.builtin "list_iterator.__next__") ⟨[.ref it],[]⟩,[(it,lit l i),(l,lst vs e)],some (it,litE i),[tup [],G.stopIt n],.error (.ref (n+1)),0,n,t⟩
section
theorem wpAny_seqItems?{M:Model}{E:Value→Shared→Prop}{l:Addr}{e:Nat}{Q:Option (Array Value)→Shared→Prop}(ho:s.heap.get? l=some (lst vs e))(h:Q (some ⟨vs⟩) s):wpAny M A (seqItems? (.ref l)) Q E s:=by
 unfold seqItems?
 refine wpAny_bind (wpAny_load ho ?_)
 exact wpAny_pure h
theorem eff_lnext{it l:Nat}{e i:Nat}{v:Value}{n t:Nat}(hv:vs[i]?=some v):(eLNext it l vs e i v n t).Ok prog w:=by
 refine eff_slot (T:="list_iterator") rfl slot_listiter_next entry_listiter_next (args_listiter_next _) (fun s h=>⟨_,h _ Z0,rfl⟩) fun A s R hA hpre hn ht hR=>?_
 have ho:=hpre _ Z0
 have hl:=hpre _ Z1
 have hd:(lit l i).data=.fields #[.ref l,.int (zN i) 0]:=rfl
 show wpAny _ _ (field (.ref it) 0>>=_) _ _ s
 refine wpAny_bind (wpAny_field ho hd (x:=.ref l) rfl ?_)
 show wpAny _ _ (field (.ref it) 1>>=_) _ _ s
 refine wpAny_bind (wpAny_field ho hd (x:=.int (zN i) 0) rfl ?_)
 refine wpAny_bind (wpAny_seqItems? hl ?_)
 have hx:(⟨vs⟩:Array Value)[(zN i).toNat]?=some v:=by simpa using hv
 simp only[hx]
 refine wpAny_bind (wpAny_setField ho hd (Nat.lt_succ_self 1) (wpAny_pure ?_))
 have e2:=update_const (f:=Obj.mapFields (·.setIfInBounds 1 (rawInt ((i:Int)+1)))) ho
 have e3:Obj.mapFields (·.setIfInBounds 1 (rawInt ((i:Int)+1))) (lit l i)=lit l (i+1):=rfl
 rw[e3]at e2
 unfold Eff.heap at hR
 have hR':R (.ok (.ret v)) {s with heap:=s.heap.update it (fun _=>lit l (i+1)),toks:=s.toks+0}:=hR
 rw[e2]at hR'
 exact hR'
theorem eff_lend{it l:Nat}{e i n t:Nat}(hv:vs.length≤i):(eLEnd it l vs e i n t).Ok prog w:=by
 refine eff_slot (T:="list_iterator") rfl slot_listiter_next entry_listiter_next (args_listiter_next _) (fun s h=>⟨_,h _ Z0,rfl⟩) fun A s R hA hpre hn ht hR=>?_
 have ho:=hpre _ Z0
 have hl:=hpre _ Z1
 have hd:(lit l i).data=.fields #[.ref l,.int (zN i) 0]:=rfl
 show wpAny _ _ (field (.ref it) 0>>=_) _ _ s
 refine wpAny_bind (wpAny_field ho hd (x:=.ref l) rfl ?_)
 show wpAny _ _ (field (.ref it) 1>>=_) _ _ s
 refine wpAny_bind (wpAny_field ho hd (x:=.int (zN i) 0) rfl ?_)
 refine wpAny_bind (wpAny_seqItems? hl ?_)
 have hx:(⟨vs⟩:Array Value)[(zN i).toNat]?=none:=by simpa using hv
 simp only[hx]
 refine wpAny_bind (wpAny_rule (wpAny_bind (wpAny_setField ho hd (Nat.succ_pos 1) ?_)))
 show wpAny _ _ (newExc (.type "StopIteration") []>>=_) _ _ _
 refine wpAny_bind ?_
 simp only[newExc,newTuple]
 refine wpAny_bind (wpAny_newObj_type ?_ (by size_fits))
 refine wpAny_bind (m:=firstArgMember _ _) (wpAny_of_eq (a:=Value.none) (by first|rfl|(simp only[firstArgMember]; rfl)) ?_)
 refine wpAny_newObj_type ?_ (by size_fits)
 refine wpAny_raiseNew_none hA ?_
 have e2:=update_const (f:=Obj.mapFields (·.setIfInBounds 0 .none)) ho
 have e3:Obj.mapFields (·.setIfInBounds 0 .none) (lit l i)=litE i:=rfl
 have hn':s.heap.objs.size=n:=hn
 rw[e3]at e2
 unfold Eff.heap at hR
 have hz:(s.heap.update it (fun _=>litE i)).objs.size=s.heap.objs.size:=Heap.size_update ..
 show R (.error (.ref ((s.heap.update it (Obj.mapFields (·.setIfInBounds 0 .none))).push (tup [])).objs.size)) {s with heap:=((s.heap.update it (Obj.mapFields (·.setIfInBounds 0 .none))).push (tup [])).push (G.stopIt (s.heap.update it (Obj.mapFields (·.setIfInBounds 0 .none))).objs.size)}
 rw[←e2,Heap.size_push,hz,hn']
 exact hR
end
namespace RE
structure Pr where
 n:Nat
 t:Nat
 wy:Nat
 ch:Nat
 pt:Int
 tp:Nat
noncomputable def arr(p:Pr):Args:=⟨[.ref p.wy,.ref p.ch,.int p.pt p.tp],[]⟩
noncomputable def frA(W:Wd)(p:Pr)(a:Int)(ta:Nat):Obj:=fr W.w.params [(U0,p.t,.ref p.wy),(U6,p.t+1,.ref p.ch),(U12,p.t+2,.int p.pt p.tp),(U7,p.t+3,.ref (p.n+1)),(⟨⟨[97,116]⟩⟩,p.t+5,.int a ta)]
noncomputable def frB(W:Wd)(p:Pr)(a:Int)(ta k0:Nat)(k:Int)(tk:Nat):Obj:=fr W.w.params [(U0,p.t,.ref p.wy),(U6,p.t+1,.ref p.ch),(U12,p.t+2,.int p.pt p.tp),(U7,p.t+3,.ref (p.n+1)),(⟨⟨[97,116]⟩⟩,p.t+5,.int a ta),(⟨⟨[107]⟩⟩,k0,.int k tk)]
noncomputable def frC(W:Wd)(p:Pr)(a:Int)(ta k0:Nat)(k:Int)(tk ko:Nat)(o:Int)(to:Nat):Obj:=fr W.w.params [(U0,p.t,.ref p.wy),(U6,p.t+1,.ref p.ch),(U12,p.t+2,.int p.pt p.tp),(U7,p.t+3,.ref (p.n+1)),(⟨⟨[97,116]⟩⟩,p.t+5,.int a ta),(⟨⟨[107]⟩⟩,k0,.int k tk),(⟨⟨[111,116,104,101,114]⟩⟩,ko,.int o to)]
noncomputable def eLCon(l:Nat)(vs:List Value)(e:Nat)(x:Int)(tx:Nat)(b:Bool)(n t:Nat):Eff:=⟨.call (.builtin "list.__contains__") ⟨[.ref l,.int x tx],[]⟩,[(l,lst vs e)],none,[],.ok (.ret (.bool b)),0,n,t⟩
noncomputable def lfOf(c:Code)(it:Nat):Code:=match c with|.forLoop t _ b o e=>.forLoop t (.ref it) b o e|c=>c
noncomputable def a0 a W p:=startF (S1 a W p.n p.t 60) 127 (arr p) [] (Hx 0x344444214444441 [])
noncomputable def E_a0 kt W:=∀p,StopIs (a0 kt W p) [] [] (oC (a0 kt W p)) 1 [(0,p.n,frA W p 0 (p.t+4)),(1,p.n+1,lst [.int p.pt p.tp] 0)]
noncomputable def LW(kt:Params→KT)(W:Wd)(p:Pr):Code:=oC (a0 kt W p)
noncomputable def w00 a W p n:=startC (S1 a W n 0 60) (LW a W p) (.own []) [(p.n,frA W p 0 0),(p.n+1,lst [] 0),(p.ch,lst [] 0)] (Hx 0x4114 (.i [1] (.int (zN ([]:List Value).length) 1) 2::.v (.bool true)::Hx Y20 []))
noncomputable def LF(kt:Params→KT)(W:Wd)(p:Pr)(it:Nat):Code:=lfOf (oC (w00 kt W p it)) it
noncomputable def wAF c W p a f d g n t:=startC (S1 c W n t 60) (LW c W p) (.own []) [(p.n,frA W p a f),(p.n+1,lst d g)] (Hx 0x4114 (.i [1] (.int (zN d.length) (t+1)) 2::.v (.bool false)::[.s]))
noncomputable def E_wAF kt W:=∀p a d b c n t,RetIs (wAF kt W p a d b c n t) [(.bool (dLt a (zN b.length)),.bool false)] [PA.eLenL (p.n+1) b c n t] (.ok .next) [(0,p.n,frA W p a d),(1,p.n+1,lst b c)]
noncomputable def wAT c W p a f d g h i n t:=startC (S1 c W n t 60) (LW c W p) (.own []) [(p.n,frA W p a f),(p.n+1,lst d g),(p.ch,lst h i)] (Hx 0x4114 (.i [1] (.int (zN d.length) (t+1)) 2::.v (.bool true)::Hx Y20 []))
noncomputable def E_wAT kt W:=∀p a d b c e f n t,StopIs (wAT kt W p a d b c e f n t) [(.bool (dLt a (zN b.length)),.bool true)] [PA.eLenL (p.n+1) b c n t] (LF kt W p n) 1 [(0,p.n,frA W p a d),(1,p.n+1,lst b c),(2,p.ch,lst e f),(3,n,lit p.ch 0)]
noncomputable def wBF c W p a f g k h d i n t:=startC (S1 c W n t 60) (LW c W p) (.own []) [(p.n,frB W p a f g k h),(p.n+1,lst d i)] (Hx 0x4114 (.i [1] (.int (zN d.length) (t+1)) 2::.v (.bool false)::[.s]))
noncomputable def E_wBF kt W:=∀p a d e k f b c n t,RetIs (wBF kt W p a d e k f b c n t) [(.bool (dLt a (zN b.length)),.bool false)] [PA.eLenL (p.n+1) b c n t] (.ok .next) [(0,p.n,frB W p a d e k f),(1,p.n+1,lst b c)]
noncomputable def wBT c W p a f g k h d i j l n t:=startC (S1 c W n t 60) (LW c W p) (.own []) [(p.n,frB W p a f g k h),(p.n+1,lst d i),(p.ch,lst j l)] (Hx 0x4114 (.i [1] (.int (zN d.length) (t+1)) 2::.v (.bool true)::Hx Y20 []))
noncomputable def E_wBT kt W:=∀p a d e k f b c g h n t,StopIs (wBT kt W p a d e k f b c g h n t) [(.bool (dLt a (zN b.length)),.bool true)] [PA.eLenL (p.n+1) b c n t] (LF kt W p n) 1 [(0,p.n,frB W p a d e k f),(1,p.n+1,lst b c),(2,p.ch,lst g h),(3,n,lit p.ch 0)]
noncomputable def wCF c W p a f g k h i o j d l n t:=startC (S1 c W n t 60) (LW c W p) (.own []) [(p.n,frC W p a f g k h i o j),(p.n+1,lst d l)] (Hx 0x4114 (.i [1] (.int (zN d.length) (t+1)) 2::.v (.bool false)::[.s]))
noncomputable def E_wCF kt W:=∀p a d e k f g o h b c n t,RetIs (wCF kt W p a d e k f g o h b c n t) [(.bool (dLt a (zN b.length)),.bool false)] [PA.eLenL (p.n+1) b c n t] (.ok .next) [(0,p.n,frC W p a d e k f g o h),(1,p.n+1,lst b c)]
noncomputable def wCT c W p a f g k h i o j d l q r n t:=startC (S1 c W n t 60) (LW c W p) (.own []) [(p.n,frC W p a f g k h i o j),(p.n+1,lst d l),(p.ch,lst q r)] (Hx 0x4114 (.i [1] (.int (zN d.length) (t+1)) 2::.v (.bool true)::Hx Y20 []))
noncomputable def E_wCT kt W:=∀p a d e k f g o h b c i j n t,StopIs (wCT kt W p a d e k f g o h b c i j n t) [(.bool (dLt a (zN b.length)),.bool true)] [PA.eLenL (p.n+1) b c n t] (LF kt W p n) 1 [(0,p.n,frC W p a d e k f g o h),(1,p.n+1,lst b c),(2,p.ch,lst i j),(3,n,lit p.ch 0)]
noncomputable def fAno b W p a f g h c i k l o q d j r x u s v e w n t:=startC (S1 b W n t 60) (LF b W p c) (.own []) [(p.n,frA W p a f),(c,lit p.ch i),(p.n+1,lst g h),(p.ch,lst k l),(p.wy,lst o q),(d,tup [.int s v,.int e w])] (.m 1::.u [3] 1 (lit p.ch (i+1)) (.int j r) 0::Hx Y4 (.i [2] (.int x u) 0::Hx 0x88844 (.i [4] (.ref d) 0::Hx 0x99 (.i [5] (.bool false) 0::[.z]))))
noncomputable def E_fAno kt W:=∀p a f g h b i k l m o c j d x q s r e u n t,AgainIs (fAno kt W p a f g h b i k l m o c j d x q s r e u n t) [] [PA.eTCon c [.int s r,.int e u] x q false n (t+1),PA.eGet p.wy m o j d (.ref c) n (t+1),PA.eGet (p.n+1) g h a f (.int x q) n (t+1),eLNext b p.ch k l i (.int j d) n t] (LF kt W p b) [(0,p.n,frB W p a f t j d),(1,b,lit p.ch (i+1)),(2,p.n+1,lst g h),(3,p.ch,lst k l),(4,p.wy,lst m o),(5,c,tup [.int s r,.int e u])]
noncomputable def fAin c W p a g h k d i l o q r b j u x f s v e w n t:=startC (S1 c W n t 60) (LF c W p d) (.own []) [(p.n,frA W p a g),(d,lit p.ch i),(p.n+1,lst h k),(p.ch,lst l o),(p.wy,lst q r),(b,tup [.int s v,.int e w])] (.m 1::.u [3] 1 (lit p.ch (i+1)) (.int j u) 0::Hx Y4 (.i [2] (.int x f) 0::Hx 0x88844 (.i [4] (.ref b) 0::Hx 0x99 (.i [5] (.bool true) 0::Hx 0x88844 (.i [4] (.ref b) 0::Hx Y9 (.i [4] (.ref b) 0::Hx Y10 (.i [2] (.int x f) 0::Hx Y11 (.i [2] (.bool true) 0::[.z]))))))))
noncomputable def E_fAin kt W:=∀p a k d f l i o q g h b j c x m s r e u n t,AgainIs (fAin kt W p a k d f l i o q g h b j c x m s r e u n t) [] [eLCon (p.n+1) d f (s+e-x) (t+4) true n (t+6),PA.eGet (p.n+1) d f a k (.int x m) n (t+4),PA.eGet p.wy g h j c (.ref b) n (t+2),PA.eGet p.wy g h j c (.ref b) n (t+1),PA.eTCon b [.int s r,.int e u] x m true n (t+1),PA.eGet p.wy g h j c (.ref b) n (t+1),PA.eGet (p.n+1) d f a k (.int x m) n (t+1),eLNext l p.ch o q i (.int j c) n t] (LF kt W p l) [(0,p.n,frC W p a k t j c (t+5) (s+e-x) (t+4)),(1,l,lit p.ch (i+1)),(2,p.n+1,lst d f),(3,p.ch,lst o q),(4,p.wy,lst g h),(5,b,tup [.int s r,.int e u])]
noncomputable def fAnew c W p a k d f g i l o q r b j u x h s v e w n t:=startC (S1 c W n t 60) (LF c W p g) (.own []) [(p.n,frA W p a k),(g,lit p.ch i),(p.n+1,lst d f),(p.ch,lst l o),(p.wy,lst q r),(b,tup [.int s v,.int e w])] (.m 1::.u [3] 1 (lit p.ch (i+1)) (.int j u) 0::Hx Y4 (.i [2] (.int x h) 0::Hx 0x88844 (.i [4] (.ref b) 0::Hx 0x99 (.i [5] (.bool true) 0::Hx 0x88844 (.i [4] (.ref b) 0::Hx Y9 (.i [4] (.ref b) 0::Hx Y10 (.i [2] (.int x h) 0::Hx Y11 (.i [2] (.bool false) 0::Hx 0x466664 (.u [] 2 (lst (d++[.int (s+e-x) (t+4)]) (f+1)) .none 0::[.z])))))))))
noncomputable def E_fAnew kt W:=∀p a k b c l i o q g h d j f x m s r e u n t,AgainIs (fAnew kt W p a k b c l i o q g h d j f x m s r e u n t) [] [SQ.eApp (p.n+1) b c (.int (s+e-x) (t+4)) n (t+6),eLCon (p.n+1) b c (s+e-x) (t+4) false n (t+6),PA.eGet (p.n+1) b c a k (.int x m) n (t+4),PA.eGet p.wy g h j f (.ref d) n (t+2),PA.eGet p.wy g h j f (.ref d) n (t+1),PA.eTCon d [.int s r,.int e u] x m true n (t+1),PA.eGet p.wy g h j f (.ref d) n (t+1),PA.eGet (p.n+1) b c a k (.int x m) n (t+1),eLNext l p.ch o q i (.int j f) n t] (LF kt W p l) [(0,p.n,frC W p a k t j f (t+5) (s+e-x) (t+4)),(1,l,lit p.ch (i+1)),(2,p.n+1,lst (b++[.int (s+e-x) (t+4)]) (c+1)),(3,p.ch,lst o q),(4,p.wy,lst g h),(5,d,tup [.int s r,.int e u])]
noncomputable def fBno b W p a f g k h l o c i q r u v d j w x y s A e B n t:=startC (S1 b W n t 60) (LF b W p c) (.own []) [(p.n,frB W p a f g k h),(c,lit p.ch i),(p.n+1,lst l o),(p.ch,lst q r),(p.wy,lst u v),(d,tup [.int s A,.int e B])] (.m 1::.u [3] 1 (lit p.ch (i+1)) (.int j w) 0::Hx Y4 (.i [2] (.int x y) 0::Hx 0x88844 (.i [4] (.ref d) 0::Hx 0x99 (.i [5] (.bool false) 0::[.z]))))
noncomputable def E_fBno kt W:=∀p a f w k y g h b i l m o q c j d x r s u e v n t,AgainIs (fBno kt W p a f w k y g h b i l m o q c j d x r s u e v n t) [] [PA.eTCon c [.int s u,.int e v] x r false n (t+1),PA.eGet p.wy o q j d (.ref c) n (t+1),PA.eGet (p.n+1) g h a f (.int x r) n (t+1),eLNext b p.ch l m i (.int j d) n t] (LF kt W p b) [(0,p.n,frB W p a f w j d),(1,b,lit p.ch (i+1)),(2,p.n+1,lst g h),(3,p.ch,lst l m),(4,p.wy,lst o q),(5,c,tup [.int s u,.int e v])]
noncomputable def fBin c W p a g h k l o q d i r u v w b j y x f s A e B n t:=startC (S1 c W n t 60) (LF c W p d) (.own []) [(p.n,frB W p a g h k l),(d,lit p.ch i),(p.n+1,lst o q),(p.ch,lst r u),(p.wy,lst v w),(b,tup [.int s A,.int e B])] (.m 1::.u [3] 1 (lit p.ch (i+1)) (.int j y) 0::Hx Y4 (.i [2] (.int x f) 0::Hx 0x88844 (.i [4] (.ref b) 0::Hx 0x99 (.i [5] (.bool true) 0::Hx 0x88844 (.i [4] (.ref b) 0::Hx Y9 (.i [4] (.ref b) 0::Hx Y10 (.i [2] (.int x f) 0::Hx Y11 (.i [2] (.bool true) 0::[.z]))))))))
noncomputable def E_fBin kt W:=∀p a l w k y d f m i q r g h b j c x o s u e v n t,AgainIs (fBin kt W p a l w k y d f m i q r g h b j c x o s u e v n t) [] [eLCon (p.n+1) d f (s+e-x) (t+4) true n (t+6),PA.eGet (p.n+1) d f a l (.int x o) n (t+4),PA.eGet p.wy g h j c (.ref b) n (t+2),PA.eGet p.wy g h j c (.ref b) n (t+1),PA.eTCon b [.int s u,.int e v] x o true n (t+1),PA.eGet p.wy g h j c (.ref b) n (t+1),PA.eGet (p.n+1) d f a l (.int x o) n (t+1),eLNext m p.ch q r i (.int j c) n t] (LF kt W p m) [(0,p.n,frC W p a l w j c (t+5) (s+e-x) (t+4)),(1,m,lit p.ch (i+1)),(2,p.n+1,lst d f),(3,p.ch,lst q r),(4,p.wy,lst g h),(5,b,tup [.int s u,.int e v])]
noncomputable def fBnew c W p a l o k q d f g i r u v w b j y x h s A e B n t:=startC (S1 c W n t 60) (LF c W p g) (.own []) [(p.n,frB W p a l o k q),(g,lit p.ch i),(p.n+1,lst d f),(p.ch,lst r u),(p.wy,lst v w),(b,tup [.int s A,.int e B])] (.m 1::.u [3] 1 (lit p.ch (i+1)) (.int j y) 0::Hx Y4 (.i [2] (.int x h) 0::Hx 0x88844 (.i [4] (.ref b) 0::Hx 0x99 (.i [5] (.bool true) 0::Hx 0x88844 (.i [4] (.ref b) 0::Hx Y9 (.i [4] (.ref b) 0::Hx Y10 (.i [2] (.int x h) 0::Hx Y11 (.i [2] (.bool false) 0::Hx 0x466664 (.u [] 2 (lst (d++[.int (s+e-x) (t+4)]) (f+1)) .none 0::[.z])))))))))
noncomputable def E_fBnew kt W:=∀p a l w k y b c m i q r g h d j f x o s u e v n t,AgainIs (fBnew kt W p a l w k y b c m i q r g h d j f x o s u e v n t) [] [SQ.eApp (p.n+1) b c (.int (s+e-x) (t+4)) n (t+6),eLCon (p.n+1) b c (s+e-x) (t+4) false n (t+6),PA.eGet (p.n+1) b c a l (.int x o) n (t+4),PA.eGet p.wy g h j f (.ref d) n (t+2),PA.eGet p.wy g h j f (.ref d) n (t+1),PA.eTCon d [.int s u,.int e v] x o true n (t+1),PA.eGet p.wy g h j f (.ref d) n (t+1),PA.eGet (p.n+1) b c a l (.int x o) n (t+1),eLNext m p.ch q r i (.int j f) n t] (LF kt W p m) [(0,p.n,frC W p a l w j f (t+5) (s+e-x) (t+4)),(1,m,lit p.ch (i+1)),(2,p.n+1,lst (b++[.int (s+e-x) (t+4)]) (c+1)),(3,p.ch,lst q r),(4,p.wy,lst g h),(5,d,tup [.int s u,.int e v])]
noncomputable def fCno b W p a f g k h l o q r u c i v w y A d j B x C s D e E n t:=startC (S1 b W n t 60) (LF b W p c) (.own []) [(p.n,frC W p a f g k h l o q),(c,lit p.ch i),(p.n+1,lst r u),(p.ch,lst v w),(p.wy,lst y A),(d,tup [.int s D,.int e E])] (.m 1::.u [3] 1 (lit p.ch (i+1)) (.int j B) 0::Hx Y4 (.i [2] (.int x C) 0::Hx 0x88844 (.i [4] (.ref d) 0::Hx 0x99 (.i [5] (.bool false) 0::[.z]))))
noncomputable def E_fCno kt W:=∀p a f y k B z o A g h b i l m q r c j d x u s v e w n t,AgainIs (fCno kt W p a f y k B z o A g h b i l m q r c j d x u s v e w n t) [] [PA.eTCon c [.int s v,.int e w] x u false n (t+1),PA.eGet p.wy q r j d (.ref c) n (t+1),PA.eGet (p.n+1) g h a f (.int x u) n (t+1),eLNext b p.ch l m i (.int j d) n t] (LF kt W p b) [(0,p.n,frC W p a f y j d z o A),(1,b,lit p.ch (i+1)),(2,p.n+1,lst g h),(3,p.ch,lst l m),(4,p.wy,lst q r),(5,c,tup [.int s v,.int e w])]
noncomputable def fCin c W p a g h k l q o r u v d i w y A B b j C x f s D e E n t:=startC (S1 c W n t 60) (LF c W p d) (.own []) [(p.n,frC W p a g h k l q o r),(d,lit p.ch i),(p.n+1,lst u v),(p.ch,lst w y),(p.wy,lst A B),(b,tup [.int s D,.int e E])] (.m 1::.u [3] 1 (lit p.ch (i+1)) (.int j C) 0::Hx Y4 (.i [2] (.int x f) 0::Hx 0x88844 (.i [4] (.ref b) 0::Hx 0x99 (.i [5] (.bool true) 0::Hx 0x88844 (.i [4] (.ref b) 0::Hx Y9 (.i [4] (.ref b) 0::Hx Y10 (.i [2] (.int x f) 0::Hx Y11 (.i [2] (.bool true) 0::[.z]))))))))
noncomputable def E_fCin kt W:=∀p a l y k A z o B d f m i r u g h b j c x q s v e w n t,AgainIs (fCin kt W p a l y k A z o B d f m i r u g h b j c x q s v e w n t) [] [eLCon (p.n+1) d f (s+e-x) (t+4) true n (t+6),PA.eGet (p.n+1) d f a l (.int x q) n (t+4),PA.eGet p.wy g h j c (.ref b) n (t+2),PA.eGet p.wy g h j c (.ref b) n (t+1),PA.eTCon b [.int s v,.int e w] x q true n (t+1),PA.eGet p.wy g h j c (.ref b) n (t+1),PA.eGet (p.n+1) d f a l (.int x q) n (t+1),eLNext m p.ch r u i (.int j c) n t] (LF kt W p m) [(0,p.n,frC W p a l y j c z (s+e-x) (t+4)),(1,m,lit p.ch (i+1)),(2,p.n+1,lst d f),(3,p.ch,lst r u),(4,p.wy,lst g h),(5,b,tup [.int s v,.int e w])]
noncomputable def fCnew c W p a l q k r u o v d f g i w y A B b j C x h s D e E n t:=startC (S1 c W n t 60) (LF c W p g) (.own []) [(p.n,frC W p a l q k r u o v),(g,lit p.ch i),(p.n+1,lst d f),(p.ch,lst w y),(p.wy,lst A B),(b,tup [.int s D,.int e E])] (.m 1::.u [3] 1 (lit p.ch (i+1)) (.int j C) 0::Hx Y4 (.i [2] (.int x h) 0::Hx 0x88844 (.i [4] (.ref b) 0::Hx 0x99 (.i [5] (.bool true) 0::Hx 0x88844 (.i [4] (.ref b) 0::Hx Y9 (.i [4] (.ref b) 0::Hx Y10 (.i [2] (.int x h) 0::Hx Y11 (.i [2] (.bool false) 0::Hx 0x466664 (.u [] 2 (lst (d++[.int (s+e-x) (t+4)]) (f+1)) .none 0::[.z])))))))))
noncomputable def E_fCnew kt W:=∀p a l y k A z o B b c m i r u g h d j f x q s v e w n t,AgainIs (fCnew kt W p a l y k A z o B b c m i r u g h d j f x q s v e w n t) [] [SQ.eApp (p.n+1) b c (.int (s+e-x) (t+4)) n (t+6),eLCon (p.n+1) b c (s+e-x) (t+4) false n (t+6),PA.eGet (p.n+1) b c a l (.int x q) n (t+4),PA.eGet p.wy g h j f (.ref d) n (t+2),PA.eGet p.wy g h j f (.ref d) n (t+1),PA.eTCon d [.int s v,.int e w] x q true n (t+1),PA.eGet p.wy g h j f (.ref d) n (t+1),PA.eGet (p.n+1) b c a l (.int x q) n (t+1),eLNext m p.ch r u i (.int j f) n t] (LF kt W p m) [(0,p.n,frC W p a l y j f z (s+e-x) (t+4)),(1,m,lit p.ch (i+1)),(2,p.n+1,lst (b++[.int (s+e-x) (t+4)]) (c+1)),(3,p.ch,lst r u),(4,p.wy,lst g h),(5,d,tup [.int s v,.int e w])]
noncomputable def fE a W p F b i c d n t:=startC (S1 a W n t 60) (LF a W p b) (.own []) [(p.n,F),(b,lit p.ch i),(p.ch,lst c d)] (.m 1::.e [2] (some (1,litE i)) [tup [],G.stopIt n] (.error (.ref (n+1))) 0::Hx 0x28 [])
noncomputable def E_fE kt W:=∀p F a i b c n t,RetIs (fE kt W p F a i b c n t) [] [eLEnd a p.ch b c i n t] (.ok .next) [(0,p.n,F),(1,a,litE i),(2,p.ch,lst b c)]
noncomputable def vAA b W p a d e f g h n t i c j k:=on b W j k (wAT b W p a d e f g h n t) (.ok .next) [(p.n,frA W p i c)] (Hx Y6 [])
noncomputable def E_vAA kt W:=∀p a e f g h i n t b c j d,AgainIs (vAA kt W p a e f g h i n t b c j d) [] [] (LW kt W p) [(0,p.n,frA W p (b+1) (d+1))]
noncomputable def vAB b W p a f g h i j n t k c d l e o q:=on b W o q (wAT b W p a f g h i j n t) (.ok .next) [(p.n,frB W p k c d l e)] (Hx Y6 [])
noncomputable def E_vAB kt W:=∀p a h i j k l n t d e b f c m g,AgainIs (vAB kt W p a h i j k l n t d e b f c m g) [] [] (LW kt W p) [(0,p.n,frB W p (d+1) (g+1) b f c)]
noncomputable def vAC b W p a h i j k l n t o c d q e f r g u v:=on b W u v (wAT b W p a h i j k l n t) (.ok .next) [(p.n,frC W p o c d q e f r g)] (Hx Y6 [])
noncomputable def E_vAC kt W:=∀p a k l m o q n t f g b h c d i e r j,AgainIs (vAC kt W p a k l m o q n t f g b h c d i e r j) [] [] (LW kt W p) [(0,p.n,frC W p (f+1) (j+1) b h c d i e)]
noncomputable def vBA b W p a d e k f g h i j n t l c o q:=on b W o q (wBT b W p a d e k f g h i j n t) (.ok .next) [(p.n,frA W p l c)] (Hx Y6 [])
noncomputable def E_vBA kt W:=∀p a e f k g h i j l n t b c m d,AgainIs (vBA kt W p a e f k g h i j l n t b c m d) [] [] (LW kt W p) [(0,p.n,frA W p (b+1) (d+1))]
noncomputable def vBB b W p a f g k h i j l o n t q c d r e u v:=on b W u v (wBT b W p a f g k h i j l o n t) (.ok .next) [(p.n,frB W p q c d r e)] (Hx Y6 [])
noncomputable def E_vBB kt W:=∀p a h i k j l m o q n t d e b f c r g,AgainIs (vBB kt W p a h i k j l m o q n t d e b f c r g) [] [] (LW kt W p) [(0,p.n,frB W p (d+1) (g+1) b f c)]
noncomputable def vBC b W p a h i k j l o q r n t u c d v e f w g x y:=on b W x y (wBT b W p a h i k j l o q r n t) (.ok .next) [(p.n,frC W p u c d v e f w g)] (Hx Y6 [])
noncomputable def E_vBC kt W:=∀p a l m k o q r s u n t f g b h c d i e v j,AgainIs (vBC kt W p a l m k o q r s u n t f g b h c d i e v j) [] [] (LW kt W p) [(0,p.n,frC W p (f+1) (j+1) b h c d i e)]
noncomputable def vCA b W p a d e k f g o h i j l q n t r c u v:=on b W u v (wCT b W p a d e k f g o h i j l q n t) (.ok .next) [(p.n,frA W p r c)] (Hx Y6 [])
noncomputable def E_vCA kt W:=∀p a e f k g h o i j l m q n t b c r d,AgainIs (vCA kt W p a e f k g h o i j l m q n t b c r d) [] [] (LW kt W p) [(0,p.n,frA W p (b+1) (d+1))]
noncomputable def vCB b W p a f g k h i o j l q r u n t v c d w e x y:=on b W x y (wCT b W p a f g k h i o j l q r u n t) (.ok .next) [(p.n,frB W p v c d w e)] (Hx Y6 [])
noncomputable def E_vCB kt W:=∀p a h i k j l o m q r s u n t d e b f c v g,AgainIs (vCB kt W p a h i k j l o m q r s u n t d e b f c v g) [] [] (LW kt W p) [(0,p.n,frB W p (d+1) (g+1) b f c)]
noncomputable def vCC b W p a h i k j l o q r u v w n t x c d y e f A g B C:=on b W B C (wCT b W p a h i k j l o q r u v w n t) (.ok .next) [(p.n,frC W p x c d y e f A g)] (Hx Y6 [])
noncomputable def E_vCC kt W:=∀p a l m k q r o s u v w x n t f g b h c d i e y j,AgainIs (vCC kt W p a l m k q r o s u v w x n t f g b h c d i e y j) [] [] (LW kt W p) [(0,p.n,frC W p (f+1) (j+1) b h c d i e)]
noncomputable def eA b W p a c d e n t:=on b W n t (a0 b W p) (.ok .next) [(p.n,frA W p a c),(p.n+1,lst d e)] [.m 0]
noncomputable def E_eA kt W:=∀p a d b c n t,RetIs (eA kt W p a d b c n t) [] [] (.ok (.ret (.ref (p.n+1)))) [(1,p.n+1,lst b c)]
noncomputable def eB b W p a c d k e f g n t:=on b W n t (a0 b W p) (.ok .next) [(p.n,frB W p a c d k e),(p.n+1,lst f g)] [.m 0]
noncomputable def E_eB kt W:=∀p a d e k f b c n t,RetIs (eB kt W p a d e k f b c n t) [] [] (.ok (.ret (.ref (p.n+1)))) [(1,p.n+1,lst b c)]
noncomputable def eC b W p a c d k e f o g h i n t:=on b W n t (a0 b W p) (.ok .next) [(p.n,frC W p a c d k e f o g),(p.n+1,lst h i)] [.m 0]
noncomputable def E_eC kt W:=∀p a d e k f g o h b c n t,RetIs (eC kt W p a d e k f g o h b c n t) [] [] (.ok (.ret (.ref (p.n+1)))) [(1,p.n+1,lst b c)]
abbrev Evs:=nF [E_a0,E_wAF,E_wAT,E_wBF,E_wBT,E_wCF,E_wCT,E_fAno,E_fAin,E_fAnew,E_fBno,E_fBin,E_fBnew,E_fCno,E_fCin,E_fCnew,E_fE,E_vAA,E_vAB,E_vAC,E_vBA,E_vBB,E_vBC,E_vCA,E_vCB,E_vCC,E_eA,E_eB,E_eC]
end RE
namespace NM
noncomputable def nameVals(t:Nat):List (List Nat)→Nat→List Value
 | [],_=>[]
 | x::r,i=>.str ⟨⟨x⟩⟩ (t+i)::nameVals t r (i+1)
structure Pr where
 n:Nat
 t:Nat
 x:Int
 tx:Nat
noncomputable def eSIter(x:Str)(tx n t:Nat):Eff:=⟨.call (.builtin "str.__iter__") ⟨[.str x tx],[]⟩,[],none,[G.sIt x tx 0],.ok (.ret (.ref n)),0,n,t⟩
noncomputable def n0 a W n t:=startF (S1 a W n t 60) 94 ⟨[],[]⟩ [] (Hx 0x22211 [])
noncomputable def E_n0 kt W:=∀n t,RetIs (n0 kt W n t) [] [] (.ok (.ret (.ref (n+1)))) [(1,n+1,lst (nameVals t namesL 1) 0)]
noncomputable def m0 a W (p:Pr) c d q r f g h i j k:=startF (S1 a W p.n p.t 60) 99 ⟨[.str c d,.int p.x p.tx],[]⟩ [] (Hx Y5 (.i [] (.int q (p.t+3)) 1::.i [] (.int r (p.t+5)) 1::.v (.bool true)::Hx 0x42 (.i [] (.str f g) h::[.i [] (.str i j) k])))
noncomputable def E_m0 kt W:=∀p f g q r b c a d e h,RetIs (m0 kt W p f g q r b c a d e h) [(.bool (dEq r 0),.bool true)] [SY.eAdd b c ⟨⟨[34]⟩⟩ (p.t+(8+a)) d e h (p.n+1) (p.t+(8+a+1)),SY.eAdd ⟨⟨[34]⟩⟩ (p.t+7) f g b c a (p.n+1) (p.t+8),eInt "int.__mod__" [.int q (p.t+3),.int 2 (p.t+4)] r (p.n+1) (p.t+5),eInt "int.__floordiv__" [.int p.x p.tx,.int 1152 (p.t+2)] q (p.n+1) (p.t+3)] (.ok (.ret (.str d e))) []
noncomputable def m1 d W (p:Pr) a c q r:=startF (S1 d W p.n p.t 60) 99 ⟨[.str ⟨⟨[a]⟩⟩ c,.int p.x p.tx],[]⟩ [] (match W.b2 with|true=>(Hx Y5 (.i [] (.int q (p.t+3)) 1::.i [] (.int r (p.t+5)) 1::.v (.bool false)::Hx 0x42 (.e [] none [G.sIt ⟨⟨[a]⟩⟩ c 0] (rt (.ref (p.n+1))) 0::Hx 0x662277795555252526662622277755552525225 [])))|false=>(Hx Y5 (.i [] (.int q (p.t+3)) 1::.i [] (.int r (p.t+5)) 1::.v (.bool false)::Hx 0x42 (.e [] none [G.sIt ⟨⟨[a]⟩⟩ c 0] (rt (.ref (p.n+1))) 0::Hx 0x662277795555252526662622277755552525252525525 []))))
noncomputable def E_m1 kt W:=∀p a b q r,RetIs (m1 kt W p a b q r) [(.bool (dEq r 0),.bool false)] [eSIter ⟨⟨[a]⟩⟩ b (p.n+1) (p.t+8),eInt "int.__mod__" [.int q (p.t+3),.int 2 (p.t+4)] r (p.n+1) (p.t+5),eInt "int.__floordiv__" [.int p.x p.tx,.int 1152 (p.t+2)] q (p.n+1) (p.t+3)] (.ok (.ret (.str ⟨⟨[92,a]⟩⟩ (p.t+11)))) []
noncomputable def m2 d W (p:Pr) a b c q r:=startF (S1 d W p.n p.t 60) 99 ⟨[.str ⟨⟨[a,b]⟩⟩ c,.int p.x p.tx],[]⟩ [] (match W.b2 with|true=>(Hx Y5 (.i [] (.int q (p.t+3)) 1::.i [] (.int r (p.t+5)) 1::.v (.bool false)::Hx 0x42 (.e [] none [G.sIt ⟨⟨[a,b]⟩⟩ c 0] (rt (.ref (p.n+1))) 0::Hx 0x66227779555525252666262227775555252526662622277755552525225 [])))|false=>(Hx Y5 (.i [] (.int q (p.t+3)) 1::.i [] (.int r (p.t+5)) 1::.v (.bool false)::Hx 0x42 (.e [] none [G.sIt ⟨⟨[a,b]⟩⟩ c 0] (rt (.ref (p.n+1))) 0::Hx 0x66227779555525252666262227775555252526662622277755552525252525525 []))))
noncomputable def E_m2 kt W:=∀p a b c q r,RetIs (m2 kt W p a b c q r) [(.bool (dEq r 0),.bool false)] [eSIter ⟨⟨[a,b]⟩⟩ c (p.n+1) (p.t+8),eInt "int.__mod__" [.int q (p.t+3),.int 2 (p.t+4)] r (p.n+1) (p.t+5),eInt "int.__floordiv__" [.int p.x p.tx,.int 1152 (p.t+2)] q (p.n+1) (p.t+3)] (.ok (.ret (.str ⟨⟨[92,a,92,b]⟩⟩ (p.t+16)))) []
noncomputable def m3 f W (p:Pr) a b c d q r:=startF (S1 f W p.n p.t 60) 99 ⟨[.str ⟨⟨[a,b,c]⟩⟩ d,.int p.x p.tx],[]⟩ [] (match W.b2 with|true=>(Hx Y5 (.i [] (.int q (p.t+3)) 1::.i [] (.int r (p.t+5)) 1::.v (.bool false)::Hx 0x42 (.e [] none [G.sIt ⟨⟨[a,b,c]⟩⟩ d 0] (rt (.ref (p.n+1))) 0::Hx 0x6622777955552525266626222777555525252666262227775555252526662622277755552525225 [])))|false=>(Hx Y5 (.i [] (.int q (p.t+3)) 1::.i [] (.int r (p.t+5)) 1::.v (.bool false)::Hx 0x42 (.e [] none [G.sIt ⟨⟨[a,b,c]⟩⟩ d 0] (rt (.ref (p.n+1))) 0::Hx 0x6622777955552525266626222777555525252666262227775555252526662622277755552525252525525 []))))
noncomputable def E_m3 kt W:=∀p a b c d q r,RetIs (m3 kt W p a b c d q r) [(.bool (dEq r 0),.bool false)] [eSIter ⟨⟨[a,b,c]⟩⟩ d (p.n+1) (p.t+8),eInt "int.__mod__" [.int q (p.t+3),.int 2 (p.t+4)] r (p.n+1) (p.t+5),eInt "int.__floordiv__" [.int p.x p.tx,.int 1152 (p.t+2)] q (p.n+1) (p.t+3)] (.ok (.ret (.str ⟨⟨[92,a,92,b,92,c]⟩⟩ (p.t+20)))) []
abbrev Evs:=nF [E_n0,E_m0,E_m1,E_m2,E_m3]
end NM
namespace NM
theorem eff_siter{x:List Nat}{tx n t:Nat}(hx:x.all (·<128)=true):(eSIter ⟨⟨x⟩⟩ tx n t).Ok prog w:=by
 refine eff_slot (T:="str") rfl F.slot_str_iter F.entry_str_iter (F.args_str_iter_1 _) (fun s _=>typeIs_str s _ tx) fun A s R hA hp hn ht hR=>?_
 have hx':(⟨⟨x⟩⟩:Str).cps.all (·<128)=true:=by
  show Array.all ⟨x⟩ (·<128)=true
  rw[←Array.all_toList]; exact hx
 show wpAny _ _ (do ret (←newFields (if(true&&(⟨⟨x⟩⟩:Str).cps.all (·<128))=true then "str_ascii_iterator" else "str_iterator") [.str ⟨⟨x⟩⟩ tx,rawInt 0])) _ _ s
 rw[hx']
 refine wpAny_bind (wpAny_newObj_type (wpAny_pure ?_))
 have hn':s.heap.objs.size=n:=hn
 have hR':R (.ok (.ret (.ref n))) {s with heap:=s.heap.push (G.sIt ⟨⟨x⟩⟩ tx 0),toks:=s.toks+0}:=hR
 rw[←hn']at hR'
 exact hR'
noncomputable def markOf(nm:List Nat)(x:Int):List Nat:=if Int.fmod (Int.fdiv x 1152) 2=0 then 34::nm++[34]else nm.flatMap fun c=>[92,c]
section
theorem n_spec(E:Evs kt)(B:Base kt W s.heap)(hA:A.handled=none)(hd:A.depth+60<1000)
  (k:∀(s':Shared) (l:Addr),Fut [] [] s s'→s.heap.objs.size≤l→s'.heap.get? l=some (lst (nameVals s.toks namesL 1) 0)→R (.ok (.ret (.ref l))) s'):codeAny W.M A (.call (.ref 94) ⟨[],[]⟩) R s:=by
 refine(Cur.start B [] []).startF hA hd (by decide) ((Cur.start B [] []).ret (E 0 W s.heap.objs.size s.toks) noV noE rfl ?_)
 intro s' C' _ F
 exact k s' _ F (Nat.le_succ _) (C'.ix 0 (s.heap.objs.size+1,_) rfl)
theorem len3:∀{l:List Nat},1≤l.length→l.length≤3→(∃a,l=[a])∨(∃a b,l=[a,b])∨∃a b c,l=[a,b,c]
 | [],h,_=>absurd h (by decide)
 | [a],_,_=>.inl ⟨a,rfl⟩
 | [a,b],_,_=>.inr (.inl ⟨a,b,rfl⟩)
 | [a,b,c],_,_=>.inr (.inr ⟨a,b,c,rfl⟩)
 | _::_::_::_::l,_,h=>absurd h (Nat.not_le.mpr (Nat.le_add_left 4 l.length))
theorem m_spec(E:Evs kt){nm:List Nat}{tn:Nat}{x:Int}{tx:Nat}(B:Base kt W s.heap)(hA:A.handled=none)(hd:A.depth+60<1000)
  (h1:1≤nm.length) (h3:nm.length≤3) (ha:nm.all (·<128)=true)
  (k:∀(s':Shared) (t:Nat),Fut [] [] s s'→R (.ok (.ret (.str ⟨⟨markOf nm x⟩⟩ t))) s'):codeAny W.M A (.call (.ref 99) ⟨[.str ⟨⟨nm⟩⟩ tn,.int x tx],[]⟩) R s:=by
 have C1:=Cur.start (W:=W) B [] []
 obtain⟨q,hq⟩:∃q,q=Int.fdiv x 1152:=⟨_,rfl⟩
 obtain⟨r,hr⟩:∃r,r=Int.fmod q 2:=⟨_,rfl⟩
 have fd:(eInt "int.__floordiv__" [.int x tx,.int 1152 (s.toks+2)] q (s.heap.objs.size+1) (s.toks+3)).Ok PW W.w:=eff_floordiv rfl (hq▸⟨rfl,rfl,rfl,rfl⟩) (by decide) (by decide)
 have md:(eInt "int.__mod__" [.int q (s.toks+3),.int 2 (s.toks+4)] r (s.heap.objs.size+1) (s.toks+5)).Ok PW W.w:=eff_mod rfl (hr▸⟨rfl,rfl,rfl,rfl⟩) (by decide)
 have hm:markOf nm x=if r=0 then 34::nm++[34]else nm.flatMap fun c=>[92,c]:=by rw[hr,hq]; rfl
 by_cases h0:r=0
 ·rw[if_pos h0]at hm
  obtain⟨u1,d1,a1⟩:=WR.add_ok (prog:=PW) (w:=W.w) (x:=[34]) (y:=nm) (tx:=s.toks+7) (ty:=tn) (n:=s.heap.objs.size+1) (t:=s.toks+8) (by simp; omega)
  obtain⟨u2,d2,a2⟩:=WR.add_ok (prog:=PW) (w:=W.w) (x:=[34]++nm) (y:=[34]) (tx:=u1) (ty:=s.toks+(8+d1)) (n:=s.heap.objs.size+1) (t:=s.toks+(8+d1+1)) (by simp; omega)
  refine C1.startF hA hd (by decide) (C1.ret (E 1 W ⟨s.heap.objs.size,s.toks,x,tx⟩ ⟨⟨nm⟩⟩ tn q r ⟨⟨[34]++nm⟩⟩ u1 d1 ⟨⟨[34]++nm++[34]⟩⟩ u2 d2) (CP.hv1 (by rw[dEq_eq]; simpa using h0)) (SQ.he4 a2 a1 md fd) rfl ?_)
  intro s' _ _ F
  have:=k s' u2 F
  rw[hm]at this
  exact this
 ·rw[if_neg h0]at hm
  have hv:dEq r 0=false:=by rw[dEq_eq]; simpa using h0
  have si:∀{n t:Nat},(eSIter ⟨⟨nm⟩⟩ tn n t).Ok PW W.w:=eff_siter ha
  rcases len3 h1 h3 with⟨a,rfl⟩|⟨a,b,rfl⟩|⟨a,b,c,rfl⟩
  ·refine C1.startF hA hd (by decide) (C1.ret (E 2 W ⟨s.heap.objs.size,s.toks,x,tx⟩ a tn q r) (CP.hv1 hv) (PA.he3 si md fd) rfl ?_)
   intro s' _ _ F
   have:=k s' (s.toks+11) F
   rw[hm]at this
   exact this
  ·refine C1.startF hA hd (by decide) (C1.ret (E 3 W ⟨s.heap.objs.size,s.toks,x,tx⟩ a b tn q r) (CP.hv1 hv) (PA.he3 si md fd) rfl ?_)
   intro s' _ _ F
   have:=k s' (s.toks+16) F
   rw[hm]at this
   exact this
  ·refine C1.startF hA hd (by decide) (C1.ret (E 4 W ⟨s.heap.objs.size,s.toks,x,tx⟩ a b c tn q r) (CP.hv1 hv) (PA.he3 si md fd) rfl ?_)
   intro s' _ _ F
   have:=k s' (s.toks+20) F
   rw[hm]at this
   exact this
end
end NM
namespace Net
theorem lay_len:∀(x:Net) (s e np:Nat),(x.lay s e np).2.length=x.size
 | leaf _,_,_,_=>rfl
 | node true l r,s,e,np=>by show List.length (_++_)=_+_; rw[lap,lay_len l,lay_len r]
 | node false l r,s,e,np=>by show List.length (_++_)=_+_; rw[lap,lay_len l,lay_len r]
theorem lay_le:∀(x:Net) (s e np:Nat),(x.lay s e np).1+1≤np+x.size
 | leaf _,_,_,_=>nR _
 | node true l r,s,e,np=>by
  have h1:=lay_le l s np (np+1)
  have h2:=lay_le r np e (l.lay s np (np+1)).1
  show(r.lay np e (l.lay s np (np+1)).1).1+1≤np+(l.size+r.size); omega
 | node false l r,s,e,np=>by
  have h1:=lay_le l s e np
  have h2:=lay_le r s e (l.lay s e np).1
  show(r.lay s e (l.lay s e np).1).1+1≤np+(l.size+r.size); omega
end Net
inductive WaysAt(h:Heap):List Value→List (Nat×Nat)→Prop
 | nil:WaysAt h [] []
 | cons (a ts te s e:Nat) (vs:List Value) (ws:List (Nat×Nat)):160≤a→h.get? a=some (tup [.int (zN s) ts,.int (zN e) te])→WaysAt h vs ws→WaysAt h (.ref a::vs) ((s,e)::ws)
theorem WaysAt.len{h:Heap}{ws:List (Nat×Nat)}(H:WaysAt h vs ws):vs.length=ws.length:=by
 induction H with
 | nil=>rfl
 | cons a ts te s e vs ws g ho _ ih=>simp[ih]
theorem WaysAt.futN{G:List Nat}{ws:List (Nat×Nat)}(H:WaysAt s.heap vs ws)(F:Fut L G s s')(hL:∀b∈L,b<160∨∀vs,s.heap.get? b≠some (tup vs)):WaysAt s'.heap vs ws:=by
 induction H with
 | nil=>exact .nil
 | cons a ts te x e vs ws g h _ i1=>exact .cons a ts te x e vs ws g (F.keep _ _ h (fun z=>(hL _ z).elim (fun y=>absurd y (Nat.not_lt.mpr g)) (fun y=>y _ h))) i1
theorem WaysAt.snoc{h:Heap}{ws:List (Nat×Nat)}(H:WaysAt h vs ws){a ts te s e:Nat}(g:160≤a)(ho:h.get? a=some (tup [.int (zN s) ts,.int (zN e) te])):WaysAt h (vs++[.ref a]) (ws++[(s,e)]):=by
 induction H with
 | nil=>exact .cons a ts te s e [] [] g ho .nil
 | cons a' ts' te' x' e' vs ws g' h' _ i1=>exact .cons a' ts' te' x' e' _ _ g' h' i1
structure LayS(s:Shared)(pt wy:Addr)(np:Nat)(ws:List (Nat×Nat)):Prop where
 p:∃vp ep,s.heap.get? pt=some (lst vp ep)∧vp.length=np
 w:∃vw ew,s.heap.get? wy=some (lst vw ew)∧WaysAt s.heap vw ws
 hp:160≤pt
 hw:160≤wy
 ne:pt≠wy
noncomputable def Frs(s:Shared)(L:List Addr):Prop:=∀b∈L,∃o,s.heap.get? b=some o∧o.cls≠.type "list"∧o.cls≠.type "tuple"
theorem Frs.lst(h:Frs s L){a:Addr}{e:Nat}(ha:s.heap.get? a=some (lst vs e)):a∉L:=fun z=>by
 obtain⟨o,h2,h4,_⟩:=h a z
 rw[ha]at h2
 cases h2
 exact h4 rfl
theorem Frs.tup(h:Frs s L):∀b∈L,b<160∨∀vs,s.heap.get? b≠some (tup vs):=fun b hb=>.inr fun vs e=>by
 obtain⟨o,h2,_,h4⟩:=h b hb
 rw[e]at h2
 cases h2
 exact h4 rfl
theorem Frs.one{a:Addr}{o:Obj}(h:s.heap.get? a=some o)(hc:o.cls=.type "frame"):Frs s [a]:=fun b hb=>by
 rw[mg]at hb
 subst hb
 exact⟨o,h,by simp[hc],by simp[hc]⟩
theorem Frs.nil:Frs s []:=fun _ h=>nomatch h
theorem LayS.keep{G:List Nat}{pt wy:Addr}{np:Nat}{ws:List (Nat×Nat)}(h:LayS s pt wy np ws)(F:Fut L G s s')(hL:Frs s L):LayS s' pt wy np ws:=by
 obtain⟨⟨vp,ep,g1,g2⟩,⟨vw,ew,g3,g4⟩,a1,a2,a3⟩:=h
 exact⟨⟨vp,ep,F.keep _ _ g1 (hL.lst g1),g2⟩,⟨vw,ew,F.keep _ _ g3 (hL.lst g3),g4.futN F hL.tup⟩,a1,a2,a3⟩
theorem LayS.tups{pt wy:Addr}{np:Nat}{ws:List (Nat×Nat)}(h:LayS s pt wy np ws):∀b∈[pt,wy],b<160∨∀vs,s.heap.get? b≠some (tup vs):=by
 obtain⟨⟨vp,ep,g1,g2⟩,⟨vw,ew,g3,g4⟩,a1,a2,a3⟩:=h
 refine fc ?_ (fc ?_ fz)
 ·exact .inr fun vs h=>by rw[g1]at h; exact Oc h (by first|exact kB|exact kD)
 ·exact .inr fun vs h=>by rw[g3]at h; exact Oc h (by first|exact kB|exact kD)
namespace WR
section
theorem layee{s0 s s':Shared}{pt wy:Addr}{np:Nat}{ws:List (Nat×Nat)}(H:LayS s pt wy np ws)(C:Cur kt W s0 L [] s M)(F:Fut [pt,wy] [] s s')(hc:∀q∈M,q.2.cls≠.type "list")(hp:pt∈L)(hw:wy∈L):Cur kt W s0 L [] s' M:=by
 obtain⟨⟨vp,ep,g1,g2⟩,⟨vw,ew,g3,g4⟩,a1,a2,a3⟩:=H
 refine C.call F (fun b hb=>?_) (fun b hb z=>?_) (fun b hb=>?_) fz
 ·revert b
  refine fc ?_ (fc ?_ fz)
  ·exact .inl a1
  ·exact .inl a2
 ·obtain⟨o,ho,hm⟩:=C.toSt.key z
  have:=hc _ hm
  simp only[mf,nn,or_false]at hb
  rcases hb with rfl|rfl
  ·rw[g1]at ho; cases ho; exact this rfl
  ·rw[g3]at ho; cases ho; exact this rfl
 ·revert b
  refine fc ?_ (fc ?_ fz)
  ·exact .inl hp
  ·exact .inl hw
noncomputable abbrev pl(s:Shared)(a st ts en te pt wy:Nat):Pl:=⟨s.heap.objs.size,s.toks,a,zN st,ts,zN en,te,pt,wy⟩
noncomputable def RunsT(kt:Params→KT)(W:Wd)(s:Shared)(a to st ts en te pt wy:Nat)(vl vr:Value)(vp:List Value)(ep:Nat):Prop:=∃o1:Out,(∃hs,o1=startF (S1 kt W s.heap.objs.size s.toks 60) 120 (arl (pl s a st ts en te pt wy) (.ref a)) [(a,tup [.str (op true) to,vl,vr]),(pt,lst vp ep)] hs)∧StopIs o1 [] [SQ.eApp pt vp ep (.int (zN vp.length) (s.toks+11)) (s.heap.objs.size+5) (s.toks+14),PA.eLenL pt vp ep (s.heap.objs.size+5) (s.toks+10)] (.call (.ref 120) ⟨[vl,.int (zN st) ts,.int (zN vp.length) (s.toks+11),.ref pt,.ref wy],[]⟩) 1 [(0,a,tup [.str (op true) to,vl,vr]),(1,pt,lst (vp++[.int (zN vp.length) (s.toks+11)]) (ep+1)),(2,s.heap.objs.size,frLT W (pl s a st ts en te pt wy) vp.length)]∧∀n t,∃o2:Out,(∃hs,o2=on kt W n t o1 (.ok (.ret .none)) [(s.heap.objs.size,frLT W (pl s a st ts en te pt wy) vp.length),(a,tup [.str (op true) to,vl,vr])] hs)∧StopIs o2 [] [] (.call (.ref 120) ⟨[vr,.int (zN vp.length) (s.toks+11),.int (zN en) te,.ref pt,.ref wy],[]⟩) 1 [(0,s.heap.objs.size,frLT W (pl s a st ts en te pt wy) vp.length),(1,a,tup [.str (op true) to,vl,vr])]∧∀n' t',∃hs,RetIs (on kt W n' t' o2 (.ok (.ret .none)) [(s.heap.objs.size,frLT W (pl s a st ts en te pt wy) vp.length)] hs) [] [] (.ok (.ret .none)) [(0,s.heap.objs.size,frLT W (pl s a st ts en te pt wy) vp.length)]
theorem runsT(E:Evs kt)(s:Shared)(a to st ts en te pt wy:Nat)(vl vr:Value)(vp:List Value)(ep:Nat)(L:(∃k t,vl=.int (zN k) t)∨∃a,vl=.ref a)(R:(∃k t,vr=.int (zN k) t)∨∃a,vr=.ref a):RunsT kt W s a to st ts en te pt wy vl vr vp ep:=by
 rcases L with⟨kl,tl,rfl⟩|⟨al,rfl⟩<;>rcases R with⟨kr,tr,rfl⟩|⟨ar,rfl⟩
 ·exact⟨_,⟨_,rfl⟩,E 12 W (pl s a st ts en te pt wy) to (zN kl) tl (.int (zN kr) tr) vp ep,fun n t=>⟨_,⟨_,rfl⟩,E 13 W (pl s a st ts en te pt wy) to (zN kl) tl (zN kr) tr vp ep n t,fun n' t'=>⟨_,E 14 W (pl s a st ts en te pt wy) to (zN kl) tl (zN kr) tr vp ep n t n' t'⟩⟩⟩
 ·exact⟨_,⟨_,rfl⟩,E 12 W (pl s a st ts en te pt wy) to (zN kl) tl (.ref ar) vp ep,fun n t=>⟨_,⟨_,rfl⟩,E 15 W (pl s a st ts en te pt wy) to (zN kl) tl ar vp ep n t,fun n' t'=>⟨_,E 16 W (pl s a st ts en te pt wy) to (zN kl) tl ar vp ep n t n' t'⟩⟩⟩
 ·exact⟨_,⟨_,rfl⟩,E 17 W (pl s a st ts en te pt wy) to al (.int (zN kr) tr) vp ep,fun n t=>⟨_,⟨_,rfl⟩,E 18 W (pl s a st ts en te pt wy) to al (zN kr) tr vp ep n t,fun n' t'=>⟨_,E 19 W (pl s a st ts en te pt wy) to al (zN kr) tr vp ep n t n' t'⟩⟩⟩
 ·exact⟨_,⟨_,rfl⟩,E 17 W (pl s a st ts en te pt wy) to al (.ref ar) vp ep,fun n t=>⟨_,⟨_,rfl⟩,E 20 W (pl s a st ts en te pt wy) to al ar vp ep n t,fun n' t'=>⟨_,E 21 W (pl s a st ts en te pt wy) to al ar vp ep n t n' t'⟩⟩⟩
noncomputable def RunsF(kt:Params→KT)(W:Wd)(s:Shared)(a to st ts en te pt wy:Nat)(vl vr:Value):Prop:=∃o1:Out,(∃hs,o1=startF (S1 kt W s.heap.objs.size s.toks 60) 120 (arl (pl s a st ts en te pt wy) (.ref a)) [(a,tup [.str (op false) to,vl,vr])] hs)∧StopIs o1 [] [] (.call (.ref 120) ⟨[vl,.int (zN st) ts,.int (zN en) te,.ref pt,.ref wy],[]⟩) 1 [(0,a,tup [.str (op false) to,vl,vr]),(1,s.heap.objs.size,frL W (pl s a st ts en te pt wy) (.int (zN en) te) (.int (zN st) ts))]∧∀n t,∃o2:Out,(∃hs,o2=on kt W n t o1 (.ok (.ret .none)) [(s.heap.objs.size,frL W (pl s a st ts en te pt wy) (.int (zN en) te) (.int (zN st) ts)),(a,tup [.str (op false) to,vl,vr])] hs)∧StopIs o2 [] [] (.call (.ref 120) ⟨[vr,.int (zN st) ts,.int (zN en) te,.ref pt,.ref wy],[]⟩) 1 [(0,s.heap.objs.size,frL W (pl s a st ts en te pt wy) (.int (zN en) te) (.int (zN st) ts)),(1,a,tup [.str (op false) to,vl,vr])]∧∀n' t',∃hs,RetIs (on kt W n' t' o2 (.ok (.ret .none)) [(s.heap.objs.size,frL W (pl s a st ts en te pt wy) (.int (zN en) te) (.int (zN st) ts))] hs) [] [] (.ok (.ret .none)) [(0,s.heap.objs.size,frL W (pl s a st ts en te pt wy) (.int (zN en) te) (.int (zN st) ts))]
theorem runsF(E:Evs kt)(s:Shared)(a to st ts en te pt wy:Nat)(vl vr:Value)(L:(∃k t,vl=.int (zN k) t)∨∃a,vl=.ref a)(R:(∃k t,vr=.int (zN k) t)∨∃a,vr=.ref a):RunsF kt W s a to st ts en te pt wy vl vr:=by
 rcases L with⟨kl,tl,rfl⟩|⟨al,rfl⟩<;>rcases R with⟨kr,tr,rfl⟩|⟨ar,rfl⟩
 ·exact⟨_,⟨_,rfl⟩,E 22 W (pl s a st ts en te pt wy) to (zN kl) tl (.int (zN kr) tr),fun n t=>⟨_,⟨_,rfl⟩,E 23 W (pl s a st ts en te pt wy) to (zN kl) tl (zN kr) tr n t,fun n' t'=>⟨_,E 24 W (pl s a st ts en te pt wy) to (zN kl) tl (zN kr) tr n t n' t'⟩⟩⟩
 ·exact⟨_,⟨_,rfl⟩,E 22 W (pl s a st ts en te pt wy) to (zN kl) tl (.ref ar),fun n t=>⟨_,⟨_,rfl⟩,E 25 W (pl s a st ts en te pt wy) to (zN kl) tl ar n t,fun n' t'=>⟨_,E 26 W (pl s a st ts en te pt wy) to (zN kl) tl ar n t n' t'⟩⟩⟩
 ·exact⟨_,⟨_,rfl⟩,E 27 W (pl s a st ts en te pt wy) to al (.int (zN kr) tr),fun n t=>⟨_,⟨_,rfl⟩,E 28 W (pl s a st ts en te pt wy) to al (zN kr) tr n t,fun n' t'=>⟨_,E 29 W (pl s a st ts en te pt wy) to al (zN kr) tr n t n' t'⟩⟩⟩
 ·exact⟨_,⟨_,rfl⟩,E 27 W (pl s a st ts en te pt wy) to al (.ref ar),fun n t=>⟨_,⟨_,rfl⟩,E 30 W (pl s a st ts en te pt wy) to al ar n t,fun n' t'=>⟨_,E 31 W (pl s a st ts en te pt wy) to al ar n t n' t'⟩⟩⟩
noncomputable def LSpec(kt:Params→KT)(W:Wd)(x:Net):Prop:=∀{A:Around} {R:Result→Shared→Prop} {s:Shared} {v:Value} {pt wy:Addr} {st en ts te np:Nat} {ws:List (Nat×Nat)},Base kt W s.heap→A.handled=none→A.depth+70+x.height<1000→NetAt s.heap v x→LayS s pt wy np ws→np+x.size<1000→ws.length+x.size<1000 →
  (∀s',Fut [pt,wy] [] s s'→LayS s' pt wy (x.lay st en np).1 (ws++(x.lay st en np).2)→R (.ok (.ret .none)) s')→codeAny W.M A (.call (.ref 120) ⟨[v,.int (zN st) ts,.int (zN en) te,.ref pt,.ref wy],[]⟩) R s
theorem l_two{l r:Net}(IL:LSpec kt W l)(IR:LSpec kt W r){A A1:Around}{s s₁:Shared}{o1:Out}{a nn:Nat}{FR:Obj}{op vl vr:Value}{pt wy:Addr}{s1 e1 t1 u1 s2 e2 t2 u2 np:Nat}{ws:List (Nat×Nat)}(hA:A.handled=none)(hd:A.depth+70+(l.height+r.height+1)<1000)(hA1:A1.handled=none)(hd1:A1.depth≤A.depth+1)
  (hn:nn=s.heap.objs.size) (an:nn≠a) (g:160≤a) (hF:FR.cls=.type "frame") (hFl:FR.cls≠.type "list") (ho:s.heap.get? a=some (tup [op,vl,vr])) (C2:Cur kt W s [a,pt,wy] [] s₁ [(a,tup [op,vl,vr]),(nn,FR)]) (NL1:NetAt s₁.heap vl l) (NR1:NetAt s₁.heap vr r) (L1:LayS s₁ pt wy np ws) (h1:np+(l.size+r.size)≤1000) (h2:ws.length+(l.size+r.size)<1000) (ke:(oMd o1).isGen=false)
  (q:∀n t,∃o2:Out,(∃hs,o2=on kt W n t o1 (.ok (.ret .none)) [(nn,FR),(a,tup [op,vl,vr])] hs)∧StopIs o2 [] [] (.call (.ref 120) ⟨[vr,.int (zN s2) t2,.int (zN e2) u2,.ref pt,.ref wy],[]⟩) 1 [(0,nn,FR),(1,a,tup [op,vl,vr])] ∧
   ∀n' t',∃hs,RetIs (on kt W n' t' o2 (.ok (.ret .none)) [(nn,FR)] hs) [] [] (.ok (.ret .none)) [(0,nn,FR)])
  (kk:∀s',Fut [pt,wy] [] s s'→LayS s' pt wy (r.lay s2 e2 (l.lay s1 e1 np).1).1 (ws++((l.lay s1 e1 np).2++(r.lay s2 e2 (l.lay s1 e1 np).1).2))→R (.ok (.ret .none)) s') :
  codeAny W.M A1 (.call (.ref 120) ⟨[vl,.int (zN s1) t1,.int (zN e1) u1,.ref pt,.ref wy],[]⟩) (fun r s''=>Mean W A R (fun _ _=>False) (oCc o1) (oMd o1) (oK o1 r) s'') s₁:=by
 have dA:A.depth+60<1000:=by omega
 have l1:=l.lay_le s1 e1 np
 have l3:=l.lay_len s1 e1 np
 have r1:=Net.size_pos r
 refine IL C2.B hA1 (by omega) NL1 L1 (by omega) (by omega) ?_
 intro s₂ F2 L2
 have NR2:=NR1.futN F2 L1.tups
 have C3:=layee L1 C2 F2 (fc kD (fc hFl fz)) Z1 Z2
 have C3':Cur kt W s [a,pt,wy] [] s₂ [(nn,FR),(a,tup [op,vl,vr])]:=by
  refine(C3.sub (M':=[(nn,FR)]) (.cons _ (.cons_cons _ (List.nil_sublist _)))).add (C3.ix 0 (a,_) rfl) (.inl g) ?_ (.inl Z0)
  simp only[ks,mp,mn,ms]
  exact fun z=>an z.symm
 obtain⟨o2,⟨_,ho2⟩,e2,q2⟩:=q s₂.heap.objs.size s₂.toks
 refine C3'.startO ho2 ke hA dA (C3'.stop e2 hA noV noE rfl ?_)
 intro s3 A3 C4 _ F3 hA3 hd3 ke2
 have gn2:=C3'.ix 0 (nn,FR) rfl
 have ga2:=C3'.ix 1 (a,_) rfl
 have ga3:=C4.ix 1 (a,_) rfl
 have F3':Fut [nn] [] s₂ s3:=F3.same (fc (.inl Z0) (fc (.inr (.inr (ga3.trans ga2.symm))) fz))
 have L3:=L2.keep F3' (Frs.one gn2 hF)
 have NR3:=NR2.futN F3' (Frs.one gn2 hF).tup
 refine IR C4.B hA3 (by omega) NR3 L3 (by omega) (by rw[lap,l3]; omega) ?_
 intro s4 F4 L4
 have C5:=layee L3 C4 F4 (fc hFl (fc kD fz)) Z1 Z2
 have C5':=C5.sub (M':=[(nn,FR)]) (.cons_cons _ (List.nil_sublist _))
 obtain⟨h3,e3⟩:=q2 s4.heap.objs.size s4.toks
 refine C5'.startT ke2 hA dA (C5'.ret e3 noV noE rfl ?_)
 intro s5 C6 _ F5
 have gn4:=C5'.ix 0 (nn,FR) rfl
 have L5:=L4.keep F5 (Frs.one gn4 hF)
 rw[List.append_assoc]at L5
 refine kk s5 (C6.fut.same (fc (.inr (.inr ?_)) (fc (.inl Z0) (fc (.inl Z1) fz)))) L5
 have gb:=C5.ix 1 (a,_) rfl
 rw[ho]
 exact F5.keep _ _ gb (by simpa using fun z=>an z.symm)
theorem l_spec(E:Evs kt):∀(x:Net),LSpec kt W x
 | .leaf k,A,R,s,v,pt,wy,st,en,ts,te,np,ws,B,hA,hd,HN,HL,h1,h2,kk=>by
  have dA:A.depth+60<1000:=by omega
  have b160:=B.sz
  cases HN with
  | leaf _ t =>
   obtain⟨⟨vp,ep,g1,g2⟩,⟨vw,ew,g3,g4⟩,a1,a2,a3⟩:=id HL
   have C1:Cur kt W s [wy] [] s [(wy,lst vw ew)]:=(Cur.start B [wy] []).add g3 (.inl a2) (fun h=>nomatch h) (.inl Z0)
   have hvl:=g4.len
   refine C1.startF hA dA (by decide) (C1.ret (E 11 W ⟨s.heap.objs.size,s.toks,0,zN st,ts,zN en,te,pt,wy⟩ (zN k) t vw ew) noV (SQ.he1 (SY.app_ok (by omega))) rfl ?_)
   intro s' C' _ F'
   have hw':=C'.ix 0 (wy,lst (vw++[.ref (s.heap.objs.size+1)]) (ew+1)) rfl
   have ht':=C'.ix 1 (s.heap.objs.size+1,tup [.int (zN st) ts,.int (zN en) te]) rfl
   refine kk s' (F'.mono (fun b hb=>by simp only[ks,mp,mn,ms]at hb; simp[hb]) (fun _ h=>h)) ⟨⟨vp,ep,F'.keep _ _ g1 (by simpa using a3),g2⟩,⟨_,_,hw',?_⟩,a1,a2,a3⟩
   refine(g4.futN F' ?_).snoc (nT b160 (Nat.le_succ _)) ht'
   intro b hb
   exact HL.tups b (by simp only[ks,mp,mn,ms]at hb; simp[hb])
 | .node true l r,A,R,s,v,pt,wy,st,en,ts,te,np,ws,B,hA,hd,HN,HL,h1,h2,kk=>by
  have dA:A.depth+60<1000:=by omega
  have hh:(Net.node true l r).height=l.height+r.height+1:=rfl
  have hs:(Net.node true l r).size=l.size+r.size:=rfl
  have b160:=B.sz
  obtain⟨a,to,vl,vr,rfl,g,ho,NL,NR⟩:=HN.node_inv
  have an:s.heap.objs.size≠a:=fun z=>absurd (Heap.lt_size ho) (Nat.not_lt.mpr (Nat.le_of_eq z))
  obtain⟨⟨vp,ep,g1,rfl⟩,⟨vw,ew,g3,g4⟩,a1,a2,a3⟩:=id HL
  have r1:=Net.size_pos r
  have pa:pt≠a:=fun z=>by rw[z]at g1; rw[ho]at g1; exact Oc g1 (by first|exact kB|exact kD)
  have C1:Cur kt W s [a,pt,wy] [] s [(a,tup [.str (op true) to,vl,vr]),(pt,lst vp ep)]:=((Cur.start B [a,pt,wy] []).add ho (.inl g) (fun h=>nomatch h) (.inl Z0)).add g1 (.inl a1) (by simpa using pa) (.inl Z1)
  have efs:∀{n t1 t2 u:Nat},∀e∈[SQ.eApp pt vp ep (.int (zN vp.length) u) n t1,PA.eLenL pt vp ep n t2],e.Ok PW W.w:=SQ.he2 (SY.app_ok (by omega)) (eff_len_list rfl Z0 rfl rfl (show vp.length<2 ^ 62 by omega) rfl rfl)
  obtain⟨o1,⟨_,ho1⟩,e1,q⟩:=runsT (kt:=kt) (W:=W) E s a to st ts en te pt wy vl vr vp ep NL.shape NR.shape
  refine Cur.startFo C1 rfl rfl ho1 hA dA (by decide) (C1.stop e1 hA noV efs rfl ?_)
  intro s₁ A1 C2 _ F1 hA1 hd1 ke1
  have ga1:=C2.ix 0 (a,_) rfl
  have F1':Fut [pt] [] s s₁:=F1.same (fc (.inr (.inr (ga1.trans ho.symm))) (fc (.inl Z0) fz))
  have gp1:=C2.ix 1 (pt,_) rfl
  have tp:∀b∈[pt],b<160∨∀vs,s.heap.get? b≠some (tup vs):=fun b hb=>HL.tups b (by rw[ms]at hb; simp[hb])
  have L1:LayS s₁ pt wy (vp.length+1) ws:=⟨⟨_,_,gp1,by rw[lap]; rfl⟩,⟨vw,ew,F1'.keep _ _ g3 (by simpa using a3.symm),g4.futN F1' tp⟩,a1,a2,a3⟩
  have NL1:=NL.futN F1' tp
  have NR1:=NR.futN F1' tp
  exact l_two (l_spec E l) (l_spec E r) hA hd hA1 hd1 rfl an g rfl kC ho (C2.sub (M':=[(a,tup [.str (op true) to,vl,vr]),(s.heap.objs.size,frLT W (pl s a st ts en te pt wy) vp.length)]) (.cons_cons _ (.cons _ (List.Sublist.refl _)))) NL1 NR1 L1 (by omega) h2 ke1 q kk
 | .node false l r,A,R,s,v,pt,wy,st,en,ts,te,np,ws,B,hA,hd,HN,HL,h1,h2,kk=>by
  have dA:A.depth+60<1000:=by omega
  have hh:(Net.node false l r).height=l.height+r.height+1:=rfl
  have hs:(Net.node false l r).size=l.size+r.size:=rfl
  have b160:=B.sz
  obtain⟨a,to,vl,vr,rfl,g,ho,NL,NR⟩:=HN.node_inv
  have an:s.heap.objs.size≠a:=fun z=>absurd (Heap.lt_size ho) (Nat.not_lt.mpr (Nat.le_of_eq z))
  have C1:Cur kt W s [a,pt,wy] [] s [(a,tup [.str (op false) to,vl,vr])]:=(Cur.start B [a,pt,wy] []).add ho (.inl g) (fun h=>nomatch h) (.inl Z0)
  obtain⟨o1,⟨_,ho1⟩,e1,q⟩:=runsF (kt:=kt) (W:=W) E s a to st ts en te pt wy vl vr NL.shape NR.shape
  refine Cur.startFo C1 rfl rfl ho1 hA dA (by decide) (C1.stop e1 hA noV noE rfl ?_)
  intro s₁ A1 C2 _ F1 hA1 hd1 ke1
  have ga1:=C2.ix 0 (a,_) rfl
  have F1':Fut [] [] s s₁:=F1.same (fc (.inr (.inr (ga1.trans ho.symm))) fz)
  have L1:LayS s₁ pt wy np ws:=HL.keep F1' Frs.nil
  have NL1:=NL.fut0 F1'
  have NR1:=NR.fut0 F1'
  exact l_two (l_spec E l) (l_spec E r) hA hd hA1 hd1 rfl an g rfl kC ho C2 NL1 NR1 L1 (Nat.le_of_lt h1) h2 ke1 q kk
end
end WR
theorem intsOf_get(h:intsOf vs=some xs){k:Nat}{x:Int}(hx:xs[k]?=some x):∃t:Nat,vs[k]?=some (.int x t):=by
 rcases intsOf_cons_get h k with⟨_,e⟩|⟨y,t,e,e2⟩
 ·rw[e]at hx; cases hx
 ·rw[e2]at hx; cases hx; exact⟨t,e⟩
namespace RE
noncomputable def rstep(ways:List (Nat×Nat))(x:Int)(sv:List Int)(k:Nat):List Int :=
 match ways[k]? with
 | none=>sv
 | some (s,e)=>if x=(s:Int)∨x=(e:Int)then(if((s:Int)+e-x)∈sv then sv else sv++[(s:Int)+e-x])else sv
noncomputable def rloop(ways:List (Nat×Nat))(chosen:List Nat):Nat→Nat→List Int→Option (List Int)
 | 0,_,_=>none
 | f+1,i,sv=>(sv[i]?).elim (some sv) fun x=>rloop ways chosen f (i+1) (chosen.foldl (rstep ways x) sv)
theorem rloop_s{ways:List (Nat×Nat)}{chosen:List Nat}{f i:Nat}{sv:List Int}:rloop ways chosen (f+1) i sv=(sv[i]?).elim (some sv) fun x=>rloop ways chosen f (i+1) (chosen.foldl (rstep ways x) sv):=rfl
theorem rstep_len(ways:List (Nat×Nat))(x:Int)(sv:List Int)(k:Nat):(rstep ways x sv k).length≤sv.length+1:=by
 unfold rstep
 split
 ·omega
 ·split
  ·split
   ·omega
   ·simp
  ·omega
theorem rfold_len(ways:List (Nat×Nat))(x:Int):∀(ch:List Nat) (sv:List Int),(ch.foldl (rstep ways x) sv).length≤sv.length+ch.length
 | [],sv=>nR _
 | k::r,sv=>by
  have h1:=rfold_len ways x r (rstep ways x sv k)
  have h2:=rstep_len ways x sv k
  simp only[List.foldl_cons,List.length_cons]
  omega
theorem rstep_old(ways:List (Nat×Nat))(x:Int)(sv:List Int)(k:Nat){i:Nat}{y:Int}(h:sv[i]?=some y):(rstep ways x sv k)[i]?=some y:=by
 unfold rstep
 split
 ·exact h
 ·split
  ·split
   ·exact h
   ·rw[List.getElem?_append_left (List.getElem?_eq_some_iff.mp h).1]; exact h
  ·exact h
set_option genCtorIdx true in
inductive Fs where
 | A
 | B (k0:Nat) (k:Int) (tk:Nat)
 | C (k0:Nat) (k:Int) (tk ko:Nat) (o:Int) (to:Nat)
noncomputable def frO(W:Wd)(p:Pr)(a:Int)(ta:Nat):Fs→Obj
 | .A=>frA W p a ta
 | .B k0 k tk=>frB W p a ta k0 k tk
 | .C k0 k tk ko o to=>frC W p a ta k0 k tk ko o to
section
theorem t_no(E:Evs kt)(p:Pr)(a:Int)(ta:Nat)(st:Fs)(sv:List Value)(es it i:Nat)(cv:List Value)(ce:Nat)(wv:List Value)(we wk:Nat)(j:Int)(tj:Nat)(x:Int)(tx:Nat)(s:Int)(ts:Nat)(e:Int)(te:Nat)(n t:Nat):
  ∃hs st',AgainIs (startC (S1 kt W n t 60) (LF kt W p it) (.own []) [(p.n,frO W p a ta st),(it,lit p.ch i),(p.n+1,lst sv es),(p.ch,lst cv ce),(p.wy,lst wv we),(wk,tup [.int s ts,.int e te])] hs) []
   [PA.eTCon wk [.int s ts,.int e te] x tx false n (t+1),PA.eGet p.wy wv we j tj (.ref wk) n (t+1),PA.eGet (p.n+1) sv es a ta (.int x tx) n (t+1),eLNext it p.ch cv ce i (.int j tj) n t] (LF kt W p it)
   [(0,p.n,frO W p a ta st'),(1,it,lit p.ch (i+1)),(2,p.n+1,lst sv es),(3,p.ch,lst cv ce),(4,p.wy,lst wv we),(5,wk,tup [.int s ts,.int e te])]:=by
 cases st with
 | A=>exact⟨_,.B t j tj,E 7 W p a ta sv es it i cv ce wv we wk j tj x tx s ts e te n t⟩
 | B k0 k tk=>exact⟨_,.B k0 j tj,E 10 W p a ta k0 k tk sv es it i cv ce wv we wk j tj x tx s ts e te n t⟩
 | C k0 k tk ko o to=>exact⟨_,.C k0 j tj ko o to,E 13 W p a ta k0 k tk ko o to sv es it i cv ce wv we wk j tj x tx s ts e te n t⟩
theorem t_in(E:Evs kt)(p:Pr)(a:Int)(ta:Nat)(st:Fs)(sv:List Value)(es it i:Nat)(cv:List Value)(ce:Nat)(wv:List Value)(we wk:Nat)(j:Int)(tj:Nat)(x:Int)(tx:Nat)(s:Int)(ts:Nat)(e:Int)(te:Nat)(n t:Nat):
  ∃hs st',AgainIs (startC (S1 kt W n t 60) (LF kt W p it) (.own []) [(p.n,frO W p a ta st),(it,lit p.ch i),(p.n+1,lst sv es),(p.ch,lst cv ce),(p.wy,lst wv we),(wk,tup [.int s ts,.int e te])] hs) []
   [eLCon (p.n+1) sv es (s+e-x) (t+4) true n (t+6),PA.eGet (p.n+1) sv es a ta (.int x tx) n (t+4),PA.eGet p.wy wv we j tj (.ref wk) n (t+2),PA.eGet p.wy wv we j tj (.ref wk) n (t+1),PA.eTCon wk [.int s ts,.int e te] x tx true n (t+1),PA.eGet p.wy wv we j tj (.ref wk) n (t+1),PA.eGet (p.n+1) sv es a ta (.int x tx) n (t+1),eLNext it p.ch cv ce i (.int j tj) n t] (LF kt W p it)
   [(0,p.n,frO W p a ta st'),(1,it,lit p.ch (i+1)),(2,p.n+1,lst sv es),(3,p.ch,lst cv ce),(4,p.wy,lst wv we),(5,wk,tup [.int s ts,.int e te])]:=by
 cases st with
 | A=>exact⟨_,.C t j tj (t+5) (s+e-x) (t+4),E 8 W p a ta sv es it i cv ce wv we wk j tj x tx s ts e te n t⟩
 | B k0 k tk=>exact⟨_,.C k0 j tj (t+5) (s+e-x) (t+4),E 11 W p a ta k0 k tk sv es it i cv ce wv we wk j tj x tx s ts e te n t⟩
 | C k0 k tk ko o to=>exact⟨_,.C k0 j tj ko (s+e-x) (t+4),E 14 W p a ta k0 k tk ko o to sv es it i cv ce wv we wk j tj x tx s ts e te n t⟩
theorem t_new(E:Evs kt)(p:Pr)(a:Int)(ta:Nat)(st:Fs)(sv:List Value)(es it i:Nat)(cv:List Value)(ce:Nat)(wv:List Value)(we wk:Nat)(j:Int)(tj:Nat)(x:Int)(tx:Nat)(s:Int)(ts:Nat)(e:Int)(te:Nat)(n t:Nat):
  ∃hs st',AgainIs (startC (S1 kt W n t 60) (LF kt W p it) (.own []) [(p.n,frO W p a ta st),(it,lit p.ch i),(p.n+1,lst sv es),(p.ch,lst cv ce),(p.wy,lst wv we),(wk,tup [.int s ts,.int e te])] hs) []
   [SQ.eApp (p.n+1) sv es (.int (s+e-x) (t+4)) n (t+6),eLCon (p.n+1) sv es (s+e-x) (t+4) false n (t+6),PA.eGet (p.n+1) sv es a ta (.int x tx) n (t+4),PA.eGet p.wy wv we j tj (.ref wk) n (t+2),PA.eGet p.wy wv we j tj (.ref wk) n (t+1),PA.eTCon wk [.int s ts,.int e te] x tx true n (t+1),PA.eGet p.wy wv we j tj (.ref wk) n (t+1),PA.eGet (p.n+1) sv es a ta (.int x tx) n (t+1),eLNext it p.ch cv ce i (.int j tj) n t] (LF kt W p it)
   [(0,p.n,frO W p a ta st'),(1,it,lit p.ch (i+1)),(2,p.n+1,lst (sv++[.int (s+e-x) (t+4)]) (es+1)),(3,p.ch,lst cv ce),(4,p.wy,lst wv we),(5,wk,tup [.int s ts,.int e te])]:=by
 cases st with
 | A=>exact⟨_,.C t j tj (t+5) (s+e-x) (t+4),E 9 W p a ta sv es it i cv ce wv we wk j tj x tx s ts e te n t⟩
 | B k0 k tk=>exact⟨_,.C k0 j tj (t+5) (s+e-x) (t+4),E 12 W p a ta k0 k tk sv es it i cv ce wv we wk j tj x tx s ts e te n t⟩
 | C k0 k tk ko o to=>exact⟨_,.C k0 j tj ko (s+e-x) (t+4),E 15 W p a ta k0 k tk ko o to sv es it i cv ce wv we wk j tj x tx s ts e te n t⟩
theorem t_end(E:Evs kt)(p:Pr)(a:Int)(ta:Nat)(st:Fs)(sv:List Value)(es n t:Nat):
  ∃hs,RetIs (startC (S1 kt W n t 60) (LW kt W p) (.own []) [(p.n,frO W p a ta st),(p.n+1,lst sv es)] hs) [(.bool (dLt a (zN sv.length)),.bool false)] [PA.eLenL (p.n+1) sv es n t] (.ok .next) [(0,p.n,frO W p a ta st),(1,p.n+1,lst sv es)]:=by
 cases st with
 | A=>exact⟨_,E 1 W p a ta sv es n t⟩
 | B k0 k tk=>exact⟨_,E 3 W p a ta k0 k tk sv es n t⟩
 | C k0 k tk ko o to=>exact⟨_,E 5 W p a ta k0 k tk ko o to sv es n t⟩
theorem t_go(E:Evs kt)(p:Pr)(a:Int)(ta:Nat)(st:Fs)(sv:List Value)(es:Nat)(cv:List Value)(ce n t:Nat):
  ∃hs o,o=startC (S1 kt W n t 60) (LW kt W p) (.own []) [(p.n,frO W p a ta st),(p.n+1,lst sv es),(p.ch,lst cv ce)] hs ∧
   StopIs o [(.bool (dLt a (zN sv.length)),.bool true)] [PA.eLenL (p.n+1) sv es n t] (LF kt W p n) 1 [(0,p.n,frO W p a ta st),(1,p.n+1,lst sv es),(2,p.ch,lst cv ce),(3,n,lit p.ch 0)] ∧
   ∀(a':Int) (ta':Nat) (st':Fs) (n2 t2:Nat),∃hs',AgainIs (on kt W n2 t2 o (.ok .next) [(p.n,frO W p a' ta' st')] hs') [] [] (LW kt W p) [(0,p.n,frO W p (a'+1) (t2+1) st')]:=by
 cases st with
 | A=>exact⟨_,_,rfl,E 2 W p a ta sv es cv ce n t,fun a' ta' st' n2 t2=>by
   cases st' with
   | A=>exact⟨_,E 17 W p a ta sv es cv ce n t a' ta' n2 t2⟩
   | B k0 k tk=>exact⟨_,E 18 W p a ta sv es cv ce n t a' ta' k0 k tk n2 t2⟩
   | C k0 k tk ko o to=>exact⟨_,E 19 W p a ta sv es cv ce n t a' ta' k0 k tk ko o to n2 t2⟩⟩
 | B k0 k tk=>exact⟨_,_,rfl,E 4 W p a ta k0 k tk sv es cv ce n t,fun a' ta' st' n2 t2=>by
   cases st' with
   | A=>exact⟨_,E 20 W p a ta k0 k tk sv es cv ce n t a' ta' n2 t2⟩
   | B k0' k' tk'=>exact⟨_,E 21 W p a ta k0 k tk sv es cv ce n t a' ta' k0' k' tk' n2 t2⟩
   | C k0' k' tk' ko o to=>exact⟨_,E 22 W p a ta k0 k tk sv es cv ce n t a' ta' k0' k' tk' ko o to n2 t2⟩⟩
 | C k0 k tk ko o to=>exact⟨_,_,rfl,E 6 W p a ta k0 k tk ko o to sv es cv ce n t,fun a' ta' st' n2 t2=>by
   cases st' with
   | A=>exact⟨_,E 23 W p a ta k0 k tk ko o to sv es cv ce n t a' ta' n2 t2⟩
   | B k0' k' tk'=>exact⟨_,E 24 W p a ta k0 k tk ko o to sv es cv ce n t a' ta' k0' k' tk' n2 t2⟩
   | C k0' k' tk' ko' o' to'=>exact⟨_,E 25 W p a ta k0 k tk ko o to sv es cv ce n t a' ta' k0' k' tk' ko' o' to' n2 t2⟩⟩
theorem t_out(E:Evs kt)(p:Pr)(a:Int)(ta:Nat)(st:Fs)(sv:List Value)(es n t:Nat):
  ∃hs,RetIs (on kt W n t (a0 kt W p) (.ok .next) [(p.n,frO W p a ta st),(p.n+1,lst sv es)] hs) [] [] (.ok (.ret (.ref (p.n+1)))) [(1,p.n+1,lst sv es)]:=by
 cases st with
 | A=>exact⟨_,E 26 W p a ta sv es n t⟩
 | B k0 k tk=>exact⟨_,E 27 W p a ta k0 k tk sv es n t⟩
 | C k0 k tk ko o to=>exact⟨_,E 28 W p a ta k0 k tk ko o to sv es n t⟩
end
end RE
theorem Cur.of(B:Base kt W s.heap)(own:∀p∈M,s.heap.get? p.1=some p.2)(nd:(ks M).Nodup)(off:∀p∈M,hiA p.1):Cur kt W s (ks M) [] s M :=
 ⟨⟨B,own,nd,off⟩,(Fut.refl s).mono fz fz,fun p hp=>.inl (mmm (f:=(·.1)) hp)⟩
theorem WaysAt.get{h:Heap}{ws:List (Nat×Nat)}(H:WaysAt h vs ws):∀{k a b:Nat},ws[k]?=some (a,b)→∃w ta tb:Nat,vs[k]?=some (.ref w)∧160≤w∧h.get? w=some (tup [.int (zN a) ta,.int (zN b) tb]):=by
 induction H with
 | nil=>intro k a b h; cases h
 | cons w ts te s e vs ws g ho _ ih =>
  intro k a b h
  cases k with
  | zero=>cases h; exact⟨w,ts,te,rfl,g,ho⟩
  | succ k=>exact ih (k:=k) h
namespace RE
structure RG(s0:Shared)(p:Pr)(ws:List (Nat×Nat))(chosen:List Nat)(cv:List Value)(ce:Nat)(wv:List Value)(we:Nat):Prop where
 n:p.n=s0.heap.objs.size
 b:160≤s0.heap.objs.size
 w160:160≤p.wy
 c160:160≤p.ch
 ne:p.wy≠p.ch
 hw:s0.heap.get? p.wy=some (lst wv we)
 hc:s0.heap.get? p.ch=some (lst cv ce)
 ways:WaysAt s0.heap wv ws
 ci:intsOf cv=some (chosen.map zN)
 inb:∀k∈chosen,k<ws.length
 cl:chosen.length≤100
 wl:ws.length≤100
structure RS(kt:Params→KT)(W:Wd)(s0 s:Shared)(p:Pr)(F:Obj)(sv:List Value)(es:Nat)(xs:List Int):Prop where
 B:Base kt W s.heap
 f:Fut [] [] s0 s
 fr:s.heap.get? p.n=some F
 sn:s.heap.get? (p.n+1)=some (lst sv es)
 xi:intsOf sv=some xs
section
theorem inner(E:Evs kt){s0:Shared}{p:Pr}{ws:List (Nat×Nat)}{chosen:List Nat}{cv:List Value}{ce:Nat}{wv:List Value}{we:Nat}(G:RG s0 p ws chosen cv ce wv we)(hA:A.handled=none)(hd:A.depth+60<1000){it ai ta:Nat}{x:Int}(hit:p.n+2≤it):
  ∀(rest:List Nat) {i:Nat} {s:Shared} {st:Fs} {sv:List Value} {es:Nat} {xs:List Int},chosen.drop i=rest→RS kt W s0 s p (frO W p (zN ai) ta st) sv es xs→s.heap.get? it=some (lit p.ch i)→xs[ai]?=some x→xs.length+rest.length<1000 →
   (∀s' st' sv' es',RS kt W s0 s' p (frO W p (zN ai) ta st') sv' es' (rest.foldl (rstep ws x) xs)→R (.ok .next) s') →
   Mean W A R P (LF kt W p it) (.own []) (denote table (LF kt W p it)) s:=by
 have hcl:cv.length=chosen.length:=by rw[SH.intsOf_len G.ci]; simp
 have hwl:=G.ways.len
 intro rest
 induction rest with
 | nil =>
  intro i s st sv es xs hdr S hi hx hlen k
  have gc:=S.f.keep _ _ G.hc (fun h=>nomatch h)
  have clt:=Heap.lt_size G.hc
  have cn:p.ch≠p.n:=fun z=>absurd clt (Nat.not_lt.mpr (by rw[z,G.n]; exact nR _))
  have ci':p.ch≠it:=fun z=>absurd clt (Nat.not_lt.mpr (by rw[z]; exact nT (by rw[G.n]; exact lU _ 2) hit))
  have ni:p.n≠it:=fun z=>absurd hit (Nat.not_le.mpr (by rw[←z]; exact Nat.lt_add_of_pos_right (by decide)))
  have C:=Cur.of (M:=[(p.n,frO W p (zN ai) ta st),(it,lit p.ch i),(p.ch,lst cv ce)]) S.B (by
    refine fc ?_ (fc ?_ (fc ?_ fz))
    ·exact S.fr
    ·exact hi
    ·exact gc) (by
    exact pc (fc ni (fc (fun z=>cn z.symm) fz)) (pc (fc (fun z=>ci' z.symm) fz) (pc fz .nil))) (by
    refine fc ?_ (fc ?_ (fc ?_ fz))
    ·exact .inl (by rw[G.n]; exact G.b)
    ·exact .inl (nT (by rw[G.n]; exact nT G.b (lU _ 2)) hit)
    ·exact .inl G.c160)
  have hend:cv.length≤i:=by rw[hcl]; exact List.drop_eq_nil_iff.mp hdr
  refine C.startC hA hd (C.ret (E 16 W p (frO W p (zN ai) ta st) it i cv ce s.heap.objs.size s.toks) noV (SQ.he1 (eff_lend hend)) rfl ?_)
  intro s' C' _ F'
  have gn':=C'.ix 0 (p.n,frO W p (zN ai) ta st) rfl
  have gc':=C'.ix 2 (p.ch,lst cv ce) rfl
  refine k s' st sv es ⟨C'.B,(S.f.trans' (F'.same (L':=[p.n,it]) fun b hb=>?_) (fun b hb=>?_) fz),gn',?_,S.xi⟩
  ·revert b
   refine fc ?_ (fc ?_ (fc ?_ fz))
   ·exact .inl Z0
   ·exact .inl Z1
   ·exact .inr (.inr (gc'.trans gc.symm))
  ·revert b
   refine fc ?_ (fc ?_ fz)
   ·exact .inr (by rw[G.n]; exact nR _)
   ·exact .inr (nT (by rw[G.n]; exact lU _ 2) hit)
  ·refine F'.keep _ _ S.sn fun hb=>?_
   simp only[ks,mp,mn,mc,nn,or_false]at hb
   rcases hb with z|z|z
   ·exact Nat.succ_ne_self _ z
   ·rw[←z]at hit; exact absurd hit (Nat.not_le.mpr (Nat.lt_succ_self _))
   ·exact absurd clt (Nat.not_lt.mpr (by rw[←z,G.n]; exact Nat.le_succ _))
 | cons j rest ih =>
  intro i s st sv es xs hdr S hi hx hlen k
  have hji:chosen[i]?=some j:=by
   have:(chosen.drop i)[0]?=some j:=by rw[hdr]; rfl
   simpa using this
  have hj:j∈chosen:=List.mem_of_getElem? hji
  have hjw:=G.inb j hj
  obtain⟨⟨a,b⟩,hab⟩:∃q,ws[j]?=some q:=⟨ws[j],by simp[hjw]⟩
  obtain⟨wk,ts,te,hwk,w160,hwo⟩:=G.ways.get hab
  obtain⟨tj,hcj⟩:=intsOf_get G.ci (k:=i) (x:=zN j) (by simp[hji])
  obtain⟨tx,hsx⟩:=intsOf_get S.xi hx
  have hlx:=SH.intsOf_len S.xi
  have gc:=S.f.keep _ _ G.hc (fun h=>nomatch h)
  have gw:=S.f.keep _ _ G.hw (fun h=>nomatch h)
  have gk:=S.f.keep _ _ hwo (fun h=>nomatch h)
  have lt0:∀{y:Nat} {o:Obj},s0.heap.get? y=some o→y<p.n:=fun h=>by rw[G.n]; exact Heap.lt_size h
  have l1:=lt0 G.hc
  have l2:=lt0 G.hw
  have l3:=lt0 hwo
  have n1:∀{y z:Nat},y<p.n→p.n≤z→z≠y:=fun h h' e=>by rw[e]at h'; exact absurd h (Nat.not_lt.mpr h')
  have kc:wk≠p.ch:=fun z=>by rw[z,G.hc]at hwo; exact Oc hwo (by first|exact kB|exact kD)
  have kw:wk≠p.wy:=fun z=>by rw[z,G.hw]at hwo; exact Oc hwo (by first|exact kB|exact kD)
  have hnit:p.n≤it:=nT (lU _ 2) hit
  have n160:160≤p.n:=by rw[G.n]; exact G.b
  have C:=Cur.of (M:=[(p.n,frO W p (zN ai) ta st),(it,lit p.ch i),(p.n+1,lst sv es),(p.ch,lst cv ce),(p.wy,lst wv we),(wk,tup [.int (zN a) ts,.int (zN b) te])]) S.B (by
    refine fc ?_ (fc ?_ (fc ?_ (fc ?_ (fc ?_ (fc ?_ fz)))))
    ·exact S.fr
    ·exact hi
    ·exact S.sn
    ·exact gc
    ·exact gw
    ·exact gk) (by
    exact pc (fc (Nat.ne_of_lt (Nat.lt_of_lt_of_le (Nat.lt_add_of_pos_right (by decide)) hit)) (fc ((Nat.succ_ne_self _).symm) (fc (n1 l1 (nR _)) (fc (n1 l2 (nR _)) (fc (n1 l3 (nR _)) fz))))) (pc (fc ((Nat.ne_of_lt hit).symm) (fc (n1 l1 hnit) (fc (n1 l2 hnit) (fc (n1 l3 hnit) fz)))) (pc (fc (n1 l1 (Nat.le_succ _)) (fc (n1 l2 (Nat.le_succ _)) (fc (n1 l3 (Nat.le_succ _)) fz))) (pc (fc (fun z=>G.ne z.symm) (fc (fun z=>kc z.symm) fz)) (pc (fc (fun z=>kw z.symm) fz) (pc fz .nil)))))) (by
    refine fc ?_ (fc ?_ (fc ?_ (fc ?_ (fc ?_ (fc ?_ fz)))))
    ·exact .inl n160
    ·exact .inl (nT n160 hnit)
    ·exact .inl (nT n160 (Nat.le_succ _))
    ·exact .inl G.c160
    ·exact .inl G.w160
    ·exact .inl w160)
  have eN:∀{n t:Nat},(eLNext it p.ch cv ce i (.int (zN j) tj) n t).Ok PW W.w:=eff_lnext hcj
  have eX:∀{n t:Nat},(PA.eGet (p.n+1) sv es (zN ai) ta (.int x tx) n t).Ok PW W.w:=PA.get_ok hsx (by omega)
  have eW:∀{n t:Nat},(PA.eGet p.wy wv we (zN j) tj (.ref wk) n t).Ok PW W.w:=PA.get_ok hwk (by have:=G.wl; omega)
  have eC:∀{bb:Bool} {n t:Nat},bb=decide (x∈[(a:Int),(b:Int)])→(PA.eTCon wk [.int (zN a) ts,.int (zN b) te] x tx bb n t).Ok PW W.w:=fun h=>eff_tuple_contains (xs:=[(a:Int),(b:Int)]) rfl Z0 rfl rfl rfl rfl rfl h
  have hdr':chosen.drop (i+1)=rest:=by
   rw[←List.drop_drop,hdr]; rfl
  have fin:∀{s':Shared} {st':Fs} {sv':List Value} {es':Nat} {xs':List Int},(∀q∈[(p.n,frO W p (zN ai) ta st'),(it,lit p.ch (i+1)),(p.n+1,lst sv' es'),(p.ch,lst cv ce),(p.wy,lst wv we),(wk,tup [.int (zN a) ts,.int (zN b) te])],s'.heap.get? q.1=some q.2) →
    Base kt W s'.heap→Fut [p.n,it,p.n+1,p.ch,p.wy,wk] [] s s'→intsOf sv'=some xs'→xs'=rstep ws x xs j→Mean W A R P (LF kt W p it) (.own []) (denote table (LF kt W p it)) s':=fun {s' st' sv' es' xs'} own B' F' hi' hxs=>by
   subst hxs
   have gn':=own (p.n,_) Z0
   have gi':=own (it,_) Z1
   have gs':=own (p.n+1,_) Z2
   have gc':=own (p.ch,_) Z3
   have gw':=own (p.wy,_) Z4
   have gk':=own (wk,_) Z5
   have hlr:=rstep_len ws x xs j
   refine ih hdr' ⟨B',(S.f.trans' (F'.same (L':=[p.n,it,p.n+1]) fun b hb=>?_) (fun b hb=>?_) fz),gn',gs',hi'⟩ gi' (rstep_old ws x xs j hx) (by simp only[List.length_cons]at hlen; omega) k
   ·revert b
    refine fc ?_ (fc ?_ (fc ?_ (fc ?_ (fc ?_ (fc ?_ fz)))))
    ·exact .inl Z0
    ·exact .inl Z1
    ·exact .inl Z2
    ·exact .inr (.inr (gc'.trans gc.symm))
    ·exact .inr (.inr (gw'.trans gw.symm))
    ·exact .inr (.inr (gk'.trans gk.symm))
   ·revert b
    refine fc ?_ (fc ?_ (fc ?_ fz))
    ·exact .inr (by rw[G.n]; exact nR _)
    ·exact .inr (by rw[←G.n]; exact hnit)
    ·exact .inr (by rw[←G.n]; exact Nat.le_succ _)
  by_cases hin:x=(a:Int)∨x=(b:Int)
  ·have hin':x∈[(a:Int),(b:Int)]:=by simpa using hin
   have eL:∀{bb:Bool} {n t:Nat},bb=decide (((a:Int)+(b:Int)-x)∈xs)→(eLCon (p.n+1) sv es (zN a+zN b-x) (s.toks+4) bb n t).Ok PW W.w:=fun h=>eff_list_contains (xs:=xs) rfl Z0 S.xi rfl rfl rfl rfl h
   by_cases hold:((a:Int)+(b:Int)-x)∈xs
   ·obtain⟨hs,st',e⟩:=t_in E p (zN ai) ta st sv es it i cv ce wv we wk (zN j) tj x tx (zN a) ts (zN b) te s.heap.objs.size s.toks
    refine C.startC hA hd (C.again e noV ?_ rfl ?_)
    ·refine fc ?_ (fc ?_ (fc ?_ (fc ?_ (fc ?_ (fc ?_ (fc ?_ (fc ?_ fz)))))))
     ·exact eL (by simp[hold])
     ·exact eX
     ·exact eW
     ·exact eW
     ·exact eC (by simpa using hin)
     ·exact eW
     ·exact eX
     ·exact eN
    ·intro s' C' _ F'
     exact fin C'.own C'.B F' S.xi (by unfold rstep; rw[hab]; simp only[hin,if_true,hold])
   ·obtain⟨hs,st',e⟩:=t_new E p (zN ai) ta st sv es it i cv ce wv we wk (zN j) tj x tx (zN a) ts (zN b) te s.heap.objs.size s.toks
    refine C.startC hA hd (C.again e noV ?_ rfl ?_)
    ·refine fc ?_ (fc ?_ (fc ?_ (fc ?_ (fc ?_ (fc ?_ (fc ?_ (fc ?_ (fc ?_ fz))))))))
     ·exact SY.app_ok (by omega)
     ·exact eL (by simp[hold])
     ·exact eX
     ·exact eW
     ·exact eW
     ·exact eC (by simpa using hin)
     ·exact eW
     ·exact eX
     ·exact eN
    ·intro s' C' _ F'
     exact fin C'.own C'.B F' (SH.intsOf_append S.xi (ys:=[(a:Int)+(b:Int)-x]) rfl) (by unfold rstep; rw[hab]; simp only[hin,if_true,hold,if_false])
  ·obtain⟨hs,st',e⟩:=t_no E p (zN ai) ta st sv es it i cv ce wv we wk (zN j) tj x tx (zN a) ts (zN b) te s.heap.objs.size s.toks
   refine C.startC hA hd (C.again e noV (SQ.he4 (eC (by simpa using hin)) eW eX eN) rfl ?_)
   intro s' C' _ F'
   exact fin C'.own C'.B F' S.xi (by unfold rstep; rw[hab]; simp only[hin,if_false])
end
end RE
namespace RE
section
theorem outer(E:Evs kt){s0:Shared}{p:Pr}{ws:List (Nat×Nat)}{chosen:List Nat}{cv:List Value}{ce:Nat}{wv:List Value}{we:Nat}(G:RG s0 p ws chosen cv ce wv we)(hA:A.handled=none)(hd:A.depth+65<1000){out:List Int}:
  ∀(fuel:Nat) {i ta:Nat} {s:Shared} {st:Fs} {sv:List Value} {es:Nat} {xs:List Int},rloop ws chosen fuel i xs=some out→RS kt W s0 s p (frO W p (zN i) ta st) sv es xs→xs.length+chosen.length*fuel<1000 →
   (∀s' i' ta' st' sv' es',RS kt W s0 s' p (frO W p (zN i') ta' st') sv' es' out→R (.ok .next) s') →
   Mean W A R P (LW kt W p) (.own []) (denote table (LW kt W p)) s:=by
 have dA:A.depth+60<1000:=by omega
 have n160:160≤p.n:=by rw[G.n]; exact G.b
 have clt:p.ch<p.n:=by rw[G.n]; exact Heap.lt_size G.hc
 have cn:∀{z:Nat},p.n≤z→z≠p.ch:=fun h e=>by rw[e]at h; exact absurd clt (Nat.not_lt.mpr h)
 intro fuel
 induction fuel with
 | zero=>intro i ta s st sv es xs h; cases h
 | succ fuel ih =>
  intro i ta s st sv es xs h S hlen k
  have hlx:=SH.intsOf_len S.xi
  have eln:∀{n t:Nat},(PA.eLenL (p.n+1) sv es n t).Ok PW W.w:=eff_len_list rfl Z0 rfl rfl (show sv.length<2 ^ 62 by omega) rfl rfl
  rw[rloop_s]at h
  cases hx:xs[i]? with
  | none =>
   rw[hx]at h
   cases h
   have C:=Cur.of (M:=[(p.n,frO W p (zN i) ta st),(p.n+1,lst sv es)]) S.B (by
    refine fc ?_ (fc ?_ fz)
    ·exact S.fr
    ·exact S.sn) (by
    exact pc (fc ((Nat.succ_ne_self _).symm) fz) (pc fz .nil)) (by
    refine fc ?_ (fc ?_ fz)
    ·exact .inl n160
    ·exact .inl (nT n160 (Nat.le_succ _)))
   obtain⟨hs,e⟩:=t_end E p (zN i) ta st sv es s.heap.objs.size s.toks
   have hge:=List.getElem?_eq_none_iff.mp hx
   refine C.startC hA dA (C.ret e (CP.hv1 (by rw[dLt_eq]; simp only[decide_eq_false_iff_not]; show ¬((i:Int)<(sv.length:Int)); omega)) (SQ.he1 eln) rfl ?_)
   intro s' C' _ F'
   have gn':=C'.ix 0 (p.n,_) rfl
   have gs':=C'.ix 1 (p.n+1,_) rfl
   refine k s' i ta st sv es ⟨C'.B,S.f.trans' F' (fun b hb=>?_) fz,gn',gs',S.xi⟩
   simp only[ks,mp,mn,mf,nn,or_false]at hb
   rcases hb with rfl|rfl
   ·exact .inr (by rw[G.n]; exact nR _)
   ·exact .inr (by rw[←G.n]; exact Nat.le_succ _)
  | some x =>
   rw[hx,Option.elim_some]at h
   have gc:=S.f.keep _ _ G.hc (fun h=>nomatch h)
   have C:=Cur.of (M:=[(p.n,frO W p (zN i) ta st),(p.n+1,lst sv es),(p.ch,lst cv ce)]) S.B (by
    refine fc ?_ (fc ?_ (fc ?_ fz))
    ·exact S.fr
    ·exact S.sn
    ·exact gc) (by
    exact pc (fc ((Nat.succ_ne_self _).symm) (fc (cn (nR _)) fz)) (pc (fc (cn (Nat.le_succ _)) fz) (pc fz .nil))) (by
    refine fc ?_ (fc ?_ (fc ?_ fz))
    ·exact .inl n160
    ·exact .inl (nT n160 (Nat.le_succ _))
    ·exact .inl G.c160)
   obtain⟨hs,o,ho,e,ev⟩:=t_go E p (zN i) ta st sv es cv ce s.heap.objs.size s.toks
   have hlt:=(List.getElem?_eq_some_iff.mp hx).1
   refine C.startC hA dA (hs:=hs) (ho▸C.stop e hA (CP.hv1 (by rw[dLt_eq]; simp only[decide_eq_true_eq]; show((i:Int)<(sv.length:Int)); omega)) (SQ.he1 eln) rfl ?_)
   intro s₁ A1 C1 _ F1 hA1 hd1 ke
   have gn1:=C1.ix 0 (p.n,_) rfl
   have gs1:=C1.ix 1 (p.n+1,_) rfl
   have gc1:=C1.ix 2 (p.ch,_) rfl
   have gi1:=C1.ix 3 (s.heap.objs.size,lit p.ch 0) rfl
   have S1:RS kt W s0 s₁ p (frO W p (zN i) ta st) sv es xs:=by
    refine⟨C1.B,S.f.trans' (F1.same (L':=[p.n,p.n+1]) fun b hb=>?_) (fun b hb=>?_) fz,gn1,gs1,S.xi⟩
    ·revert b
     refine fc ?_ (fc ?_ (fc ?_ fz))
     ·exact .inl Z0
     ·exact .inl Z1
     ·exact .inr (.inr (gc1.trans gc.symm))
    ·revert b
     refine fc ?_ (fc ?_ fz)
     ·exact .inr (by rw[G.n]; exact nR _)
     ·exact .inr (by rw[←G.n]; exact Nat.le_succ _)
   have hmul:chosen.length*(fuel+1)=chosen.length*fuel+chosen.length:=Nat.mul_succ _ _
   refine code_of_mean (P:=fun _ _=>False) (inner E G hA1 (by omega) (x:=x) (Heap.lt_size S.sn) chosen (i:=0) rfl S1 gi1 hx (by omega) ?_)
   intro s2 st2 sv2 es2 S2
   have C2:=Cur.of (M:=[(p.n,frO W p (zN i) ta st2)]) S2.B (by
    refine fc ?_ fz
    exact S2.fr) (by simp[ks]) (by
    refine fc ?_ fz
    exact .inl n160)
   obtain⟨hs',e'⟩:=ev (zN i) ta st2 s2.heap.objs.size s2.toks
   refine C2.startT ke hA dA (C2.again e' noV noE rfl ?_)
   intro s3 C3 _ F3
   have gn3:=C3.ix 0 (p.n,frO W p (zN i+1) (s2.toks+1) st2) rfl
   have gs3:=F3.keep _ _ S2.sn (by
    simp only[ks,mp,mn,mc,nn,or_false]
    exact Nat.succ_ne_self _)
   have hfl:=rfold_len ws x chosen xs
   refine ih h (i:=i+1) ⟨C3.B,S2.f.trans' F3 (fun b hb=>?_) fz,gn3,gs3,S2.xi⟩ (by omega) k
   simp only[ks,mp,mn,mf,nn,or_false]at hb
   subst hb
   exact .inr (by rw[G.n]; exact nR _)
theorem r_spec(E:Evs kt){wy ch:Addr}{pt:Int}{tp:Nat}{ws:List (Nat×Nat)}{chosen:List Nat}{cv:List Value}{ce:Nat}{wv:List Value}{we fuel:Nat}{out:List Int}(B:Base kt W s.heap)(hA:A.handled=none)(hd:A.depth+70<1000)
  (w160:160≤wy) (c160:160≤ch) (ne:wy≠ch) (hw:s.heap.get? wy=some (lst wv we)) (hc:s.heap.get? ch=some (lst cv ce)) (hways:WaysAt s.heap wv ws) (ci:intsOf cv=some (chosen.map zN)) (inb:∀k∈chosen,k<ws.length)
  (cl:chosen.length≤20) (wl:ws.length≤100) (hf:fuel≤20) (h:rloop ws chosen fuel 0 [pt]=some out)
  (k:∀(s':Shared) (l:Addr) (vs:List Value) (e:Nat),Fut [] [] s s'→s.heap.objs.size≤l→s'.heap.get? l=some (lst vs e)→intsOf vs=some out→R (.ok (.ret (.ref l))) s') :
  codeAny W.M A (.call (.ref 127) ⟨[.ref wy,.ref ch,.int pt tp],[]⟩) R s:=by
 have dA:A.depth+60<1000:=by omega
 have C0:=Cur.start (W:=W) B [] []
 have G:RG s ⟨s.heap.objs.size,s.toks,wy,ch,pt,tp⟩ ws chosen cv ce wv we:=⟨rfl,B.sz,w160,c160,ne,hw,hc,hways,ci,inb,by omega,wl⟩
 refine C0.startF hA dA (by decide) (C0.stop (E 0 W ⟨s.heap.objs.size,s.toks,wy,ch,pt,tp⟩) hA noV noE rfl ?_)
 intro s₁ A1 C1 _ F1 hA1 hd1 ke0
 have gn1:=C1.ix 0 (s.heap.objs.size,_) rfl
 have gs1:=C1.ix 1 (s.heap.objs.size+1,_) rfl
 have hml:chosen.length*fuel≤20*20:=Nat.mul_le_mul cl hf
 refine code_of_mean (P:=fun _ _=>False) (outer E G hA1 (by omega) fuel (st:=.A) h ⟨C1.B,F1,gn1,gs1,rfl⟩ (by simp; omega) ?_)
 intro s2 i ta st sv es S2
 have C2:=Cur.of (M:=[(s.heap.objs.size,frO W ⟨s.heap.objs.size,s.toks,wy,ch,pt,tp⟩ (zN i) ta st),(s.heap.objs.size+1,lst sv es)]) S2.B (by
  refine fc ?_ (fc ?_ fz)
  ·exact S2.fr
  ·exact S2.sn) (by
  exact pc (fc ((Nat.succ_ne_self _).symm) fz) (pc fz .nil)) (by
  refine fc ?_ (fc ?_ fz)
  ·exact .inl B.sz
  ·exact .inl (nT B.sz (Nat.le_succ _)))
 obtain⟨hs,e⟩:=t_out E ⟨s.heap.objs.size,s.toks,wy,ch,pt,tp⟩ (zN i) ta st sv es s2.heap.objs.size s2.toks
 refine C2.startT ke0 hA dA (C2.ret e noV noE rfl ?_)
 intro s3 C3 _ F3
 have gs3:=C3.ix 0 (s.heap.objs.size+1,lst sv es) rfl
 refine k s3 _ sv es (S2.f.trans' F3 (fun b hb=>?_) fz) (Nat.le_succ _) gs3 S2.xi
 simp only[ks,mp,mn,mf,nn,or_false]at hb
 rcases hb with rfl|rfl
 ·exact .inr (nR _)
 ·exact .inr (Nat.le_succ _)
end
end RE
namespace JO
structure Pr where
 n:Nat
 t:Nat
 rw:Nat
 dr:Nat
 d0:Int
 t0:Nat
 d1:Int
 t1:Nat
 d2:Int
 t2:Nat
 d3:Int
 t3:Nat
 de:Nat
noncomputable def dro(p:Pr):Obj:=lst [.int p.d0 p.t0,.int p.d1 p.t1,.int p.d2 p.t2,.int p.d3 p.t3] p.de
noncomputable def frA(W:Wd)(p:Pr):Obj:=fr W.w.params [(U22,p.t,.ref p.rw),(U23,p.t+1,.ref p.dr)]
noncomputable def frB(W:Wd)(p:Pr)(rr tk:Nat)(k:Int)(vk ta:Nat)(a:Int)(va:Nat):Obj:=fr W.w.params [(U22,p.t,.ref rr),(U23,p.t+1,.ref p.dr),(⟨⟨[107]⟩⟩,tk,.int k vk),(⟨⟨[97,116]⟩⟩,ta,.int a va)]
noncomputable def a0 a W (p:Pr):=startF (S1 a W p.n p.t 60) 106 ⟨[.ref p.rw,.ref p.dr],[]⟩ [] (Hx 0x36555252555252552222112144441 [])
noncomputable def E_a0 kt W:=∀p,StopIs (a0 kt W p) [] [] (oC (a0 kt W p)) 1 [(0,p.n,frA W p),(2,p.n+2,rgi 0 3 1)]
noncomputable def LJ(kt:Params→KT)(W:Wd)(p:Pr):Code:=oC (a0 kt W p)
noncomputable def uIIII00 f W p a g b h c i d j k q n t:=startC (S1 f W n t 60) (LJ f W p) (.own []) [(p.n,frA W p),(p.n+2,rgi 0 3 1),(p.rw,lst [.int a g,.int b h,.int c i,.int d j] k),(p.dr,dro p)] (Hx Y0 (.i [] (.int 0 (t+4)) 1::Hx Y1 (.i [] (.int q (t+8)) 1::.i [] (.int 0 (t+10)) 1::Hx Y2 [])))
noncomputable abbrev P_uIIII00(W:Wd)(p:Pr)(a:Int)(e:Nat)(b:Int)(f:Nat)(c:Int)(g:Nat)(d:Int)(h i n t:Nat):PL:=[(0,p.n,frB W p (n+7) (t+1) 0 t (t+5) 0 (t+4)),(1,p.n+2,rgi 1 2 1),(2,p.rw,lst [.int a e,.int b f,.int c g,.int d h] i),(3,p.dr,dro p),(6,n+2,tup [.str (WR.op true) (t+11),.int a e,.int b f]),(11,n+7,lst [.ref (n+2),.int c g,.int d h] 0)]
noncomputable def E_uIIII00 kt W:=∀p a e b f c g d h i q n t,AgainIs (uIIII00 kt W p a e b f c g d h i q n t) [] [eInt "int.__mod__" [.int q (t+8),.int 2 (t+9)] 0 (n+2) (t+10),eInt "int.__floordiv__" [.int p.d0 p.t0,.int 6 (t+7)] q (n+2) (t+8),eInt "int.__mod__" [.int p.d0 p.t0,.int 3 (t+3)] 0 n (t+4)] (LJ kt W p) (P_uIIII00 W p a e b f c g d h i n t)
noncomputable def uIIII01 f W p a g b h c i d j k q n t:=startC (S1 f W n t 60) (LJ f W p) (.own []) [(p.n,frA W p),(p.n+2,rgi 0 3 1),(p.rw,lst [.int a g,.int b h,.int c i,.int d j] k),(p.dr,dro p)] (Hx Y0 (.i [] (.int 0 (t+4)) 1::Hx Y1 (.i [] (.int q (t+8)) 1::.i [] (.int 1 (t+10)) 1::Hx Y2 [])))
noncomputable abbrev P_uIIII01(W:Wd)(p:Pr)(a:Int)(e:Nat)(b:Int)(f:Nat)(c:Int)(g:Nat)(d:Int)(h i n t:Nat):PL:=[(0,p.n,frB W p (n+7) (t+1) 0 t (t+5) 0 (t+4)),(1,p.n+2,rgi 1 2 1),(2,p.rw,lst [.int a e,.int b f,.int c g,.int d h] i),(3,p.dr,dro p),(6,n+2,tup [.str (WR.op false) (t+11),.int a e,.int b f]),(11,n+7,lst [.ref (n+2),.int c g,.int d h] 0)]
noncomputable def E_uIIII01 kt W:=∀p a e b f c g d h i q n t,AgainIs (uIIII01 kt W p a e b f c g d h i q n t) [] [eInt "int.__mod__" [.int q (t+8),.int 2 (t+9)] 1 (n+2) (t+10),eInt "int.__floordiv__" [.int p.d0 p.t0,.int 6 (t+7)] q (n+2) (t+8),eInt "int.__mod__" [.int p.d0 p.t0,.int 3 (t+3)] 0 n (t+4)] (LJ kt W p) (P_uIIII01 W p a e b f c g d h i n t)
noncomputable def uIIII10 f W p a g b h c i d j k q n t:=startC (S1 f W n t 60) (LJ f W p) (.own []) [(p.n,frA W p),(p.n+2,rgi 0 3 1),(p.rw,lst [.int a g,.int b h,.int c i,.int d j] k),(p.dr,dro p)] (Hx Y0 (.i [] (.int 1 (t+4)) 1::Hx Y1 (.i [] (.int q (t+8)) 1::.i [] (.int 0 (t+10)) 1::Hx Y2 [])))
noncomputable abbrev P_uIIII10(W:Wd)(p:Pr)(a:Int)(e:Nat)(b:Int)(f:Nat)(c:Int)(g:Nat)(d:Int)(h i n t:Nat):PL:=[(0,p.n,frB W p (n+7) (t+1) 0 t (t+5) 1 (t+4)),(1,p.n+2,rgi 1 2 1),(2,p.rw,lst [.int a e,.int b f,.int c g,.int d h] i),(3,p.dr,dro p),(6,n+2,tup [.str (WR.op true) (t+11),.int b f,.int c g]),(11,n+7,lst [.int a e,.ref (n+2),.int d h] 0)]
noncomputable def E_uIIII10 kt W:=∀p a e b f c g d h i q n t,AgainIs (uIIII10 kt W p a e b f c g d h i q n t) [] [eInt "int.__mod__" [.int q (t+8),.int 2 (t+9)] 0 (n+2) (t+10),eInt "int.__floordiv__" [.int p.d0 p.t0,.int 6 (t+7)] q (n+2) (t+8),eInt "int.__mod__" [.int p.d0 p.t0,.int 3 (t+3)] 1 n (t+4)] (LJ kt W p) (P_uIIII10 W p a e b f c g d h i n t)
noncomputable def uIIII11 f W p a g b h c i d j k q n t:=startC (S1 f W n t 60) (LJ f W p) (.own []) [(p.n,frA W p),(p.n+2,rgi 0 3 1),(p.rw,lst [.int a g,.int b h,.int c i,.int d j] k),(p.dr,dro p)] (Hx Y0 (.i [] (.int 1 (t+4)) 1::Hx Y1 (.i [] (.int q (t+8)) 1::.i [] (.int 1 (t+10)) 1::Hx Y2 [])))
noncomputable abbrev P_uIIII11(W:Wd)(p:Pr)(a:Int)(e:Nat)(b:Int)(f:Nat)(c:Int)(g:Nat)(d:Int)(h i n t:Nat):PL:=[(0,p.n,frB W p (n+7) (t+1) 0 t (t+5) 1 (t+4)),(1,p.n+2,rgi 1 2 1),(2,p.rw,lst [.int a e,.int b f,.int c g,.int d h] i),(3,p.dr,dro p),(6,n+2,tup [.str (WR.op false) (t+11),.int b f,.int c g]),(11,n+7,lst [.int a e,.ref (n+2),.int d h] 0)]
noncomputable def E_uIIII11 kt W:=∀p a e b f c g d h i q n t,AgainIs (uIIII11 kt W p a e b f c g d h i q n t) [] [eInt "int.__mod__" [.int q (t+8),.int 2 (t+9)] 1 (n+2) (t+10),eInt "int.__floordiv__" [.int p.d0 p.t0,.int 6 (t+7)] q (n+2) (t+8),eInt "int.__mod__" [.int p.d0 p.t0,.int 3 (t+3)] 1 n (t+4)] (LJ kt W p) (P_uIIII11 W p a e b f c g d h i n t)
noncomputable def uIIII20 f W p a g b h c i d j k q n t:=startC (S1 f W n t 60) (LJ f W p) (.own []) [(p.n,frA W p),(p.n+2,rgi 0 3 1),(p.rw,lst [.int a g,.int b h,.int c i,.int d j] k),(p.dr,dro p)] (Hx Y0 (.i [] (.int 2 (t+4)) 1::Hx Y1 (.i [] (.int q (t+8)) 1::.i [] (.int 0 (t+10)) 1::Hx Y2 [])))
noncomputable abbrev P_uIIII20(W:Wd)(p:Pr)(a:Int)(e:Nat)(b:Int)(f:Nat)(c:Int)(g:Nat)(d:Int)(h i n t:Nat):PL:=[(0,p.n,frB W p (n+7) (t+1) 0 t (t+5) 2 (t+4)),(1,p.n+2,rgi 1 2 1),(2,p.rw,lst [.int a e,.int b f,.int c g,.int d h] i),(3,p.dr,dro p),(6,n+2,tup [.str (WR.op true) (t+11),.int c g,.int d h]),(11,n+7,lst [.int a e,.int b f,.ref (n+2)] 0)]
noncomputable def E_uIIII20 kt W:=∀p a e b f c g d h i q n t,AgainIs (uIIII20 kt W p a e b f c g d h i q n t) [] [eInt "int.__mod__" [.int q (t+8),.int 2 (t+9)] 0 (n+2) (t+10),eInt "int.__floordiv__" [.int p.d0 p.t0,.int 6 (t+7)] q (n+2) (t+8),eInt "int.__mod__" [.int p.d0 p.t0,.int 3 (t+3)] 2 n (t+4)] (LJ kt W p) (P_uIIII20 W p a e b f c g d h i n t)
noncomputable def uIIII21 f W p a g b h c i d j k q n t:=startC (S1 f W n t 60) (LJ f W p) (.own []) [(p.n,frA W p),(p.n+2,rgi 0 3 1),(p.rw,lst [.int a g,.int b h,.int c i,.int d j] k),(p.dr,dro p)] (Hx Y0 (.i [] (.int 2 (t+4)) 1::Hx Y1 (.i [] (.int q (t+8)) 1::.i [] (.int 1 (t+10)) 1::Hx Y2 [])))
noncomputable abbrev P_uIIII21(W:Wd)(p:Pr)(a:Int)(e:Nat)(b:Int)(f:Nat)(c:Int)(g:Nat)(d:Int)(h i n t:Nat):PL:=[(0,p.n,frB W p (n+7) (t+1) 0 t (t+5) 2 (t+4)),(1,p.n+2,rgi 1 2 1),(2,p.rw,lst [.int a e,.int b f,.int c g,.int d h] i),(3,p.dr,dro p),(6,n+2,tup [.str (WR.op false) (t+11),.int c g,.int d h]),(11,n+7,lst [.int a e,.int b f,.ref (n+2)] 0)]
noncomputable def E_uIIII21 kt W:=∀p a e b f c g d h i q n t,AgainIs (uIIII21 kt W p a e b f c g d h i q n t) [] [eInt "int.__mod__" [.int q (t+8),.int 2 (t+9)] 1 (n+2) (t+10),eInt "int.__floordiv__" [.int p.d0 p.t0,.int 6 (t+7)] q (n+2) (t+8),eInt "int.__mod__" [.int p.d0 p.t0,.int 3 (t+3)] 2 n (t+4)] (LJ kt W p) (P_uIIII21 W p a e b f c g d h i n t)
noncomputable def uRII00 d W p f g k h i x j a b l c o r q n t:=startC (S1 d W n t 60) (LJ d W p) (.own []) [(p.n,frB W p f g k h i x j),(p.n+2,rgi 1 2 1),(f,lst [.ref a,.int b l,.int c o] r),(p.dr,dro p)] (Hx Y0 (.i [] (.int 0 (t+4)) 1::Hx Y1 (.i [] (.int q (t+8)) 1::.i [] (.int 0 (t+10)) 1::Hx Y2 [])))
noncomputable def E_uRII00 kt W:=∀p f g k j h x l a b d c e i q n t,AgainIs (uRII00 kt W p f g k j h x l a b d c e i q n t) [] [eInt "int.__mod__" [.int q (t+8),.int 2 (t+9)] 0 (n+2) (t+10),eInt "int.__floordiv__" [.int p.d1 p.t1,.int 6 (t+7)] q (n+2) (t+8),eInt "int.__mod__" [.int p.d1 p.t1,.int 2 (t+3)] 0 n (t+4)] (LJ kt W p) [(0,p.n,frB W p (n+7) g 1 t h 0 (t+4)),(1,p.n+2,rgi 2 1 1),(2,f,lst [.ref a,.int b d,.int c e] i),(3,p.dr,dro p),(6,n+2,tup [.str (WR.op true) (t+11),.ref a,.int b d]),(11,n+7,lst [.ref (n+2),.int c e] 0)]
noncomputable def uRII01 d W p f g k h i x j a b l c o r q n t:=startC (S1 d W n t 60) (LJ d W p) (.own []) [(p.n,frB W p f g k h i x j),(p.n+2,rgi 1 2 1),(f,lst [.ref a,.int b l,.int c o] r),(p.dr,dro p)] (Hx Y0 (.i [] (.int 0 (t+4)) 1::Hx Y1 (.i [] (.int q (t+8)) 1::.i [] (.int 1 (t+10)) 1::Hx Y2 [])))
noncomputable def E_uRII01 kt W:=∀p f g k j h x l a b d c e i q n t,AgainIs (uRII01 kt W p f g k j h x l a b d c e i q n t) [] [eInt "int.__mod__" [.int q (t+8),.int 2 (t+9)] 1 (n+2) (t+10),eInt "int.__floordiv__" [.int p.d1 p.t1,.int 6 (t+7)] q (n+2) (t+8),eInt "int.__mod__" [.int p.d1 p.t1,.int 2 (t+3)] 0 n (t+4)] (LJ kt W p) [(0,p.n,frB W p (n+7) g 1 t h 0 (t+4)),(1,p.n+2,rgi 2 1 1),(2,f,lst [.ref a,.int b d,.int c e] i),(3,p.dr,dro p),(6,n+2,tup [.str (WR.op false) (t+11),.ref a,.int b d]),(11,n+7,lst [.ref (n+2),.int c e] 0)]
noncomputable def uRII10 d W p f g k h i x j a b l c o r q n t:=startC (S1 d W n t 60) (LJ d W p) (.own []) [(p.n,frB W p f g k h i x j),(p.n+2,rgi 1 2 1),(f,lst [.ref a,.int b l,.int c o] r),(p.dr,dro p)] (Hx Y0 (.i [] (.int 1 (t+4)) 1::Hx Y1 (.i [] (.int q (t+8)) 1::.i [] (.int 0 (t+10)) 1::Hx Y2 [])))
noncomputable def E_uRII10 kt W:=∀p f g k j h x l a b d c e i q n t,AgainIs (uRII10 kt W p f g k j h x l a b d c e i q n t) [] [eInt "int.__mod__" [.int q (t+8),.int 2 (t+9)] 0 (n+2) (t+10),eInt "int.__floordiv__" [.int p.d1 p.t1,.int 6 (t+7)] q (n+2) (t+8),eInt "int.__mod__" [.int p.d1 p.t1,.int 2 (t+3)] 1 n (t+4)] (LJ kt W p) [(0,p.n,frB W p (n+7) g 1 t h 1 (t+4)),(1,p.n+2,rgi 2 1 1),(2,f,lst [.ref a,.int b d,.int c e] i),(3,p.dr,dro p),(6,n+2,tup [.str (WR.op true) (t+11),.int b d,.int c e]),(11,n+7,lst [.ref a,.ref (n+2)] 0)]
noncomputable def uRII11 d W p f g k h i x j a b l c o r q n t:=startC (S1 d W n t 60) (LJ d W p) (.own []) [(p.n,frB W p f g k h i x j),(p.n+2,rgi 1 2 1),(f,lst [.ref a,.int b l,.int c o] r),(p.dr,dro p)] (Hx Y0 (.i [] (.int 1 (t+4)) 1::Hx Y1 (.i [] (.int q (t+8)) 1::.i [] (.int 1 (t+10)) 1::Hx Y2 [])))
noncomputable def E_uRII11 kt W:=∀p f g k j h x l a b d c e i q n t,AgainIs (uRII11 kt W p f g k j h x l a b d c e i q n t) [] [eInt "int.__mod__" [.int q (t+8),.int 2 (t+9)] 1 (n+2) (t+10),eInt "int.__floordiv__" [.int p.d1 p.t1,.int 6 (t+7)] q (n+2) (t+8),eInt "int.__mod__" [.int p.d1 p.t1,.int 2 (t+3)] 1 n (t+4)] (LJ kt W p) [(0,p.n,frB W p (n+7) g 1 t h 1 (t+4)),(1,p.n+2,rgi 2 1 1),(2,f,lst [.ref a,.int b d,.int c e] i),(3,p.dr,dro p),(6,n+2,tup [.str (WR.op false) (t+11),.int b d,.int c e]),(11,n+7,lst [.ref a,.ref (n+2)] 0)]
noncomputable def uIRI00 d W p f g k h i x j a l b c o r q n t:=startC (S1 d W n t 60) (LJ d W p) (.own []) [(p.n,frB W p f g k h i x j),(p.n+2,rgi 1 2 1),(f,lst [.int a l,.ref b,.int c o] r),(p.dr,dro p)] (Hx Y0 (.i [] (.int 0 (t+4)) 1::Hx Y1 (.i [] (.int q (t+8)) 1::.i [] (.int 0 (t+10)) 1::Hx Y2 [])))
noncomputable def E_uIRI00 kt W:=∀p f g k j h x l a d b c e i q n t,AgainIs (uIRI00 kt W p f g k j h x l a d b c e i q n t) [] [eInt "int.__mod__" [.int q (t+8),.int 2 (t+9)] 0 (n+2) (t+10),eInt "int.__floordiv__" [.int p.d1 p.t1,.int 6 (t+7)] q (n+2) (t+8),eInt "int.__mod__" [.int p.d1 p.t1,.int 2 (t+3)] 0 n (t+4)] (LJ kt W p) [(0,p.n,frB W p (n+7) g 1 t h 0 (t+4)),(1,p.n+2,rgi 2 1 1),(2,f,lst [.int a d,.ref b,.int c e] i),(3,p.dr,dro p),(6,n+2,tup [.str (WR.op true) (t+11),.int a d,.ref b]),(11,n+7,lst [.ref (n+2),.int c e] 0)]
noncomputable def uIRI01 d W p f g k h i x j a l b c o r q n t:=startC (S1 d W n t 60) (LJ d W p) (.own []) [(p.n,frB W p f g k h i x j),(p.n+2,rgi 1 2 1),(f,lst [.int a l,.ref b,.int c o] r),(p.dr,dro p)] (Hx Y0 (.i [] (.int 0 (t+4)) 1::Hx Y1 (.i [] (.int q (t+8)) 1::.i [] (.int 1 (t+10)) 1::Hx Y2 [])))
noncomputable def E_uIRI01 kt W:=∀p f g k j h x l a d b c e i q n t,AgainIs (uIRI01 kt W p f g k j h x l a d b c e i q n t) [] [eInt "int.__mod__" [.int q (t+8),.int 2 (t+9)] 1 (n+2) (t+10),eInt "int.__floordiv__" [.int p.d1 p.t1,.int 6 (t+7)] q (n+2) (t+8),eInt "int.__mod__" [.int p.d1 p.t1,.int 2 (t+3)] 0 n (t+4)] (LJ kt W p) [(0,p.n,frB W p (n+7) g 1 t h 0 (t+4)),(1,p.n+2,rgi 2 1 1),(2,f,lst [.int a d,.ref b,.int c e] i),(3,p.dr,dro p),(6,n+2,tup [.str (WR.op false) (t+11),.int a d,.ref b]),(11,n+7,lst [.ref (n+2),.int c e] 0)]
noncomputable def uIRI10 d W p f g k h i x j a l b c o r q n t:=startC (S1 d W n t 60) (LJ d W p) (.own []) [(p.n,frB W p f g k h i x j),(p.n+2,rgi 1 2 1),(f,lst [.int a l,.ref b,.int c o] r),(p.dr,dro p)] (Hx Y0 (.i [] (.int 1 (t+4)) 1::Hx Y1 (.i [] (.int q (t+8)) 1::.i [] (.int 0 (t+10)) 1::Hx Y2 [])))
noncomputable def E_uIRI10 kt W:=∀p f g k j h x l a d b c e i q n t,AgainIs (uIRI10 kt W p f g k j h x l a d b c e i q n t) [] [eInt "int.__mod__" [.int q (t+8),.int 2 (t+9)] 0 (n+2) (t+10),eInt "int.__floordiv__" [.int p.d1 p.t1,.int 6 (t+7)] q (n+2) (t+8),eInt "int.__mod__" [.int p.d1 p.t1,.int 2 (t+3)] 1 n (t+4)] (LJ kt W p) [(0,p.n,frB W p (n+7) g 1 t h 1 (t+4)),(1,p.n+2,rgi 2 1 1),(2,f,lst [.int a d,.ref b,.int c e] i),(3,p.dr,dro p),(6,n+2,tup [.str (WR.op true) (t+11),.ref b,.int c e]),(11,n+7,lst [.int a d,.ref (n+2)] 0)]
noncomputable def uIRI11 d W p f g k h i x j a l b c o r q n t:=startC (S1 d W n t 60) (LJ d W p) (.own []) [(p.n,frB W p f g k h i x j),(p.n+2,rgi 1 2 1),(f,lst [.int a l,.ref b,.int c o] r),(p.dr,dro p)] (Hx Y0 (.i [] (.int 1 (t+4)) 1::Hx Y1 (.i [] (.int q (t+8)) 1::.i [] (.int 1 (t+10)) 1::Hx Y2 [])))
noncomputable def E_uIRI11 kt W:=∀p f g k j h x l a d b c e i q n t,AgainIs (uIRI11 kt W p f g k j h x l a d b c e i q n t) [] [eInt "int.__mod__" [.int q (t+8),.int 2 (t+9)] 1 (n+2) (t+10),eInt "int.__floordiv__" [.int p.d1 p.t1,.int 6 (t+7)] q (n+2) (t+8),eInt "int.__mod__" [.int p.d1 p.t1,.int 2 (t+3)] 1 n (t+4)] (LJ kt W p) [(0,p.n,frB W p (n+7) g 1 t h 1 (t+4)),(1,p.n+2,rgi 2 1 1),(2,f,lst [.int a d,.ref b,.int c e] i),(3,p.dr,dro p),(6,n+2,tup [.str (WR.op false) (t+11),.ref b,.int c e]),(11,n+7,lst [.int a d,.ref (n+2)] 0)]
noncomputable def uIIR00 d W p f g k h i x j a l b o c r q n t:=startC (S1 d W n t 60) (LJ d W p) (.own []) [(p.n,frB W p f g k h i x j),(p.n+2,rgi 1 2 1),(f,lst [.int a l,.int b o,.ref c] r),(p.dr,dro p)] (Hx Y0 (.i [] (.int 0 (t+4)) 1::Hx Y1 (.i [] (.int q (t+8)) 1::.i [] (.int 0 (t+10)) 1::Hx Y2 [])))
noncomputable def E_uIIR00 kt W:=∀p f g k j h x l a d b e c i q n t,AgainIs (uIIR00 kt W p f g k j h x l a d b e c i q n t) [] [eInt "int.__mod__" [.int q (t+8),.int 2 (t+9)] 0 (n+2) (t+10),eInt "int.__floordiv__" [.int p.d1 p.t1,.int 6 (t+7)] q (n+2) (t+8),eInt "int.__mod__" [.int p.d1 p.t1,.int 2 (t+3)] 0 n (t+4)] (LJ kt W p) [(0,p.n,frB W p (n+7) g 1 t h 0 (t+4)),(1,p.n+2,rgi 2 1 1),(2,f,lst [.int a d,.int b e,.ref c] i),(3,p.dr,dro p),(6,n+2,tup [.str (WR.op true) (t+11),.int a d,.int b e]),(11,n+7,lst [.ref (n+2),.ref c] 0)]
noncomputable def uIIR01 d W p f g k h i x j a l b o c r q n t:=startC (S1 d W n t 60) (LJ d W p) (.own []) [(p.n,frB W p f g k h i x j),(p.n+2,rgi 1 2 1),(f,lst [.int a l,.int b o,.ref c] r),(p.dr,dro p)] (Hx Y0 (.i [] (.int 0 (t+4)) 1::Hx Y1 (.i [] (.int q (t+8)) 1::.i [] (.int 1 (t+10)) 1::Hx Y2 [])))
noncomputable def E_uIIR01 kt W:=∀p f g k j h x l a d b e c i q n t,AgainIs (uIIR01 kt W p f g k j h x l a d b e c i q n t) [] [eInt "int.__mod__" [.int q (t+8),.int 2 (t+9)] 1 (n+2) (t+10),eInt "int.__floordiv__" [.int p.d1 p.t1,.int 6 (t+7)] q (n+2) (t+8),eInt "int.__mod__" [.int p.d1 p.t1,.int 2 (t+3)] 0 n (t+4)] (LJ kt W p) [(0,p.n,frB W p (n+7) g 1 t h 0 (t+4)),(1,p.n+2,rgi 2 1 1),(2,f,lst [.int a d,.int b e,.ref c] i),(3,p.dr,dro p),(6,n+2,tup [.str (WR.op false) (t+11),.int a d,.int b e]),(11,n+7,lst [.ref (n+2),.ref c] 0)]
noncomputable def uIIR10 d W p f g k h i x j a l b o c r q n t:=startC (S1 d W n t 60) (LJ d W p) (.own []) [(p.n,frB W p f g k h i x j),(p.n+2,rgi 1 2 1),(f,lst [.int a l,.int b o,.ref c] r),(p.dr,dro p)] (Hx Y0 (.i [] (.int 1 (t+4)) 1::Hx Y1 (.i [] (.int q (t+8)) 1::.i [] (.int 0 (t+10)) 1::Hx Y2 [])))
noncomputable def E_uIIR10 kt W:=∀p f g k j h x l a d b e c i q n t,AgainIs (uIIR10 kt W p f g k j h x l a d b e c i q n t) [] [eInt "int.__mod__" [.int q (t+8),.int 2 (t+9)] 0 (n+2) (t+10),eInt "int.__floordiv__" [.int p.d1 p.t1,.int 6 (t+7)] q (n+2) (t+8),eInt "int.__mod__" [.int p.d1 p.t1,.int 2 (t+3)] 1 n (t+4)] (LJ kt W p) [(0,p.n,frB W p (n+7) g 1 t h 1 (t+4)),(1,p.n+2,rgi 2 1 1),(2,f,lst [.int a d,.int b e,.ref c] i),(3,p.dr,dro p),(6,n+2,tup [.str (WR.op true) (t+11),.int b e,.ref c]),(11,n+7,lst [.int a d,.ref (n+2)] 0)]
noncomputable def uIIR11 d W p f g k h i x j a l b o c r q n t:=startC (S1 d W n t 60) (LJ d W p) (.own []) [(p.n,frB W p f g k h i x j),(p.n+2,rgi 1 2 1),(f,lst [.int a l,.int b o,.ref c] r),(p.dr,dro p)] (Hx Y0 (.i [] (.int 1 (t+4)) 1::Hx Y1 (.i [] (.int q (t+8)) 1::.i [] (.int 1 (t+10)) 1::Hx Y2 [])))
noncomputable def E_uIIR11 kt W:=∀p f g k j h x l a d b e c i q n t,AgainIs (uIIR11 kt W p f g k j h x l a d b e c i q n t) [] [eInt "int.__mod__" [.int q (t+8),.int 2 (t+9)] 1 (n+2) (t+10),eInt "int.__floordiv__" [.int p.d1 p.t1,.int 6 (t+7)] q (n+2) (t+8),eInt "int.__mod__" [.int p.d1 p.t1,.int 2 (t+3)] 1 n (t+4)] (LJ kt W p) [(0,p.n,frB W p (n+7) g 1 t h 1 (t+4)),(1,p.n+2,rgi 2 1 1),(2,f,lst [.int a d,.int b e,.ref c] i),(3,p.dr,dro p),(6,n+2,tup [.str (WR.op false) (t+11),.int b e,.ref c]),(11,n+7,lst [.int a d,.ref (n+2)] 0)]
noncomputable def uRI00 c W p d f k g h x i a b j l q n t:=startC (S1 c W n t 60) (LJ c W p) (.own []) [(p.n,frB W p d f k g h x i),(p.n+2,rgi 2 1 1),(d,lst [.ref a,.int b j] l),(p.dr,dro p)] (Hx Y0 (.i [] (.int 0 (t+4)) 1::Hx Y1 (.i [] (.int q (t+8)) 1::.i [] (.int 0 (t+10)) 1::Hx Y2 [])))
noncomputable def E_uRI00 kt W:=∀p d e k h f x i a b c g q n t,AgainIs (uRI00 kt W p d e k h f x i a b c g q n t) [] [eInt "int.__mod__" [.int q (t+8),.int 2 (t+9)] 0 (n+2) (t+10),eInt "int.__floordiv__" [.int p.d2 p.t2,.int 6 (t+7)] q (n+2) (t+8),eInt "int.__mod__" [.int p.d2 p.t2,.int 1 (t+3)] 0 n (t+4)] (LJ kt W p) [(0,p.n,frB W p (n+7) e 2 t f 0 (t+4)),(1,p.n+2,rgi 3 0 1),(2,d,lst [.ref a,.int b c] g),(3,p.dr,dro p),(6,n+2,tup [.str (WR.op true) (t+11),.ref a,.int b c]),(11,n+7,lst [.ref (n+2)] 0)]
noncomputable def uRI01 c W p d f k g h x i a b j l q n t:=startC (S1 c W n t 60) (LJ c W p) (.own []) [(p.n,frB W p d f k g h x i),(p.n+2,rgi 2 1 1),(d,lst [.ref a,.int b j] l),(p.dr,dro p)] (Hx Y0 (.i [] (.int 0 (t+4)) 1::Hx Y1 (.i [] (.int q (t+8)) 1::.i [] (.int 1 (t+10)) 1::Hx Y2 [])))
noncomputable def E_uRI01 kt W:=∀p d e k h f x i a b c g q n t,AgainIs (uRI01 kt W p d e k h f x i a b c g q n t) [] [eInt "int.__mod__" [.int q (t+8),.int 2 (t+9)] 1 (n+2) (t+10),eInt "int.__floordiv__" [.int p.d2 p.t2,.int 6 (t+7)] q (n+2) (t+8),eInt "int.__mod__" [.int p.d2 p.t2,.int 1 (t+3)] 0 n (t+4)] (LJ kt W p) [(0,p.n,frB W p (n+7) e 2 t f 0 (t+4)),(1,p.n+2,rgi 3 0 1),(2,d,lst [.ref a,.int b c] g),(3,p.dr,dro p),(6,n+2,tup [.str (WR.op false) (t+11),.ref a,.int b c]),(11,n+7,lst [.ref (n+2)] 0)]
noncomputable def uIR00 c W p d f k g h x i a j b l q n t:=startC (S1 c W n t 60) (LJ c W p) (.own []) [(p.n,frB W p d f k g h x i),(p.n+2,rgi 2 1 1),(d,lst [.int a j,.ref b] l),(p.dr,dro p)] (Hx Y0 (.i [] (.int 0 (t+4)) 1::Hx Y1 (.i [] (.int q (t+8)) 1::.i [] (.int 0 (t+10)) 1::Hx Y2 [])))
noncomputable def E_uIR00 kt W:=∀p d e k h f x i a c b g q n t,AgainIs (uIR00 kt W p d e k h f x i a c b g q n t) [] [eInt "int.__mod__" [.int q (t+8),.int 2 (t+9)] 0 (n+2) (t+10),eInt "int.__floordiv__" [.int p.d2 p.t2,.int 6 (t+7)] q (n+2) (t+8),eInt "int.__mod__" [.int p.d2 p.t2,.int 1 (t+3)] 0 n (t+4)] (LJ kt W p) [(0,p.n,frB W p (n+7) e 2 t f 0 (t+4)),(1,p.n+2,rgi 3 0 1),(2,d,lst [.int a c,.ref b] g),(3,p.dr,dro p),(6,n+2,tup [.str (WR.op true) (t+11),.int a c,.ref b]),(11,n+7,lst [.ref (n+2)] 0)]
noncomputable def uIR01 c W p d f k g h x i a j b l q n t:=startC (S1 c W n t 60) (LJ c W p) (.own []) [(p.n,frB W p d f k g h x i),(p.n+2,rgi 2 1 1),(d,lst [.int a j,.ref b] l),(p.dr,dro p)] (Hx Y0 (.i [] (.int 0 (t+4)) 1::Hx Y1 (.i [] (.int q (t+8)) 1::.i [] (.int 1 (t+10)) 1::Hx Y2 [])))
noncomputable def E_uIR01 kt W:=∀p d e k h f x i a c b g q n t,AgainIs (uIR01 kt W p d e k h f x i a c b g q n t) [] [eInt "int.__mod__" [.int q (t+8),.int 2 (t+9)] 1 (n+2) (t+10),eInt "int.__floordiv__" [.int p.d2 p.t2,.int 6 (t+7)] q (n+2) (t+8),eInt "int.__mod__" [.int p.d2 p.t2,.int 1 (t+3)] 0 n (t+4)] (LJ kt W p) [(0,p.n,frB W p (n+7) e 2 t f 0 (t+4)),(1,p.n+2,rgi 3 0 1),(2,d,lst [.int a c,.ref b] g),(3,p.dr,dro p),(6,n+2,tup [.str (WR.op false) (t+11),.int a c,.ref b]),(11,n+7,lst [.ref (n+2)] 0)]
noncomputable def uRR00 c W p d f k g h x i a b j q n t:=startC (S1 c W n t 60) (LJ c W p) (.own []) [(p.n,frB W p d f k g h x i),(p.n+2,rgi 2 1 1),(d,lst [.ref a,.ref b] j),(p.dr,dro p)] (Hx Y0 (.i [] (.int 0 (t+4)) 1::Hx Y1 (.i [] (.int q (t+8)) 1::.i [] (.int 0 (t+10)) 1::Hx Y2 [])))
noncomputable def E_uRR00 kt W:=∀p c d k g e x h a b f q n t,AgainIs (uRR00 kt W p c d k g e x h a b f q n t) [] [eInt "int.__mod__" [.int q (t+8),.int 2 (t+9)] 0 (n+2) (t+10),eInt "int.__floordiv__" [.int p.d2 p.t2,.int 6 (t+7)] q (n+2) (t+8),eInt "int.__mod__" [.int p.d2 p.t2,.int 1 (t+3)] 0 n (t+4)] (LJ kt W p) [(0,p.n,frB W p (n+7) d 2 t e 0 (t+4)),(1,p.n+2,rgi 3 0 1),(2,c,lst [.ref a,.ref b] f),(3,p.dr,dro p),(6,n+2,tup [.str (WR.op true) (t+11),.ref a,.ref b]),(11,n+7,lst [.ref (n+2)] 0)]
noncomputable def uRR01 c W p d f k g h x i a b j q n t:=startC (S1 c W n t 60) (LJ c W p) (.own []) [(p.n,frB W p d f k g h x i),(p.n+2,rgi 2 1 1),(d,lst [.ref a,.ref b] j),(p.dr,dro p)] (Hx Y0 (.i [] (.int 0 (t+4)) 1::Hx Y1 (.i [] (.int q (t+8)) 1::.i [] (.int 1 (t+10)) 1::Hx Y2 [])))
noncomputable def E_uRR01 kt W:=∀p c d k g e x h a b f q n t,AgainIs (uRR01 kt W p c d k g e x h a b f q n t) [] [eInt "int.__mod__" [.int q (t+8),.int 2 (t+9)] 1 (n+2) (t+10),eInt "int.__floordiv__" [.int p.d2 p.t2,.int 6 (t+7)] q (n+2) (t+8),eInt "int.__mod__" [.int p.d2 p.t2,.int 1 (t+3)] 0 n (t+4)] (LJ kt W p) [(0,p.n,frB W p (n+7) d 2 t e 0 (t+4)),(1,p.n+2,rgi 3 0 1),(2,c,lst [.ref a,.ref b] f),(3,p.dr,dro p),(6,n+2,tup [.str (WR.op false) (t+11),.ref a,.ref b]),(11,n+7,lst [.ref (n+2)] 0)]
noncomputable def z0 a W p b c k d e x f n t:=startC (S1 a W n t 60) (LJ a W p) (.own []) [(p.n,frB W p b c k d e x f),(p.n+2,rgi 3 0 1)] (Hx 0x275552525 [])
noncomputable def E_z0 kt W:=∀p a b k c d x e n t,RetIs (z0 kt W p a b k c d x e n t) [] [] (.ok .next) [(0,p.n,frB W p a b k c d x e)]
noncomputable def z1 a W p b c k d e x f y g n t:=on a W n t (a0 a W p) (.ok .next) [(p.n,frB W p b c k d e x f),(b,lst [.ref y] g)] (Hx Y16 [])
noncomputable def E_z1 kt W:=∀p a b k c d x e y f n t,RetIs (z1 kt W p a b k c d x e y f n t) [] [] (.ok (.ret (.ref y))) []
def LA:List ((Params→KT)→Wd→Prop):=[E_a0,E_uIIII00,E_uIIII01,E_uIIII10,E_uIIII11,E_uIIII20,E_uIIII21,E_uRII00,E_uRII01,E_uRII10,E_uRII11,E_uIRI00,E_uIRI01,E_uIRI10,E_uIRI11,E_uIIR00,E_uIIR01,E_uIIR10,E_uIIR11,E_uRI00,E_uRI01,E_uIR00,E_uIR01,E_uRR00,E_uRR01,E_z0,E_z1]
abbrev Evs:=nF LA
end JO
noncomputable def jrow(row:List Net)(i:Nat)(b:Bool):List Net:=row.take i++.node b (row.getD i (.leaf 0)) (row.getD (i+1) (.leaf 0))::row.drop (i+2)
noncomputable def jat(m d:Int):Nat:=(Int.fmod d m).toNat
noncomputable def jsg(d:Int):Bool:=decide (Int.fmod (Int.fdiv d 6) 2=0)
noncomputable def joined(d0 d1 d2:Int):Net:=(jrow (jrow (jrow [.leaf 0,.leaf 1,.leaf 2,.leaf 3] (jat 3 d0) (jsg d0)) (jat 2 d1) (jsg d1)) (jat 1 d2) (jsg d2)).headD (.leaf 0)
namespace JO
noncomputable def vrow(vs:List Value)(i a:Nat):List Value:=vs.take i++.ref a::vs.drop (i+2)
inductive NetsAt(h:Heap):List Value→List Net→Prop
 | nil:NetsAt h [] []
 | cons (v:Value) (x:Net) (vs:List Value) (xs:List Net):NetAt h v x→NetsAt h vs xs→NetsAt h (v::vs) (x::xs)
theorem NetsAt.fut{G:List Nat}{xs:List Net}(H:NetsAt s.heap vs xs)(F:Fut L G s s')(hL:∀b∈L,b<160∨∀vs,s.heap.get? b≠some (tup vs)):NetsAt s'.heap vs xs:=by
 induction H with
 | nil=>exact .nil
 | cons v x vs xs h _ ih=>exact .cons v x vs xs (h.futN F hL) ih
theorem NetsAt.join{h:Heap}{a u:Nat}{b:Bool}(ha:160≤a):∀{i:Nat} {vs:List Value} {xs:List Net},NetsAt h vs xs→i+1<vs.length→h.get? a=some (tup [.str (WR.op b) u,vs.getD i .none,vs.getD (i+1) .none])→NetsAt h (vrow vs i a) (jrow xs i b)
 | 0,_,_,.cons v x _ _ h1 (.cons v' x' vs xs h2 h3),_,ho=>.cons _ _ _ _ (.node a u b v v' x x' ha ho h1 h2) h3
 | 0,_,_,.cons v x _ _ h1 .nil,hl,ho=>by simp at hl
 | i+1,_,_,.cons v x vs xs h1 h2,hl,ho=>.cons v x _ _ h1 (NetsAt.join (i:=i) ha h2 (by simpa using hl) ho)
section
noncomputable def TurnIs(kt:Params→KT)(W:Wd)(p:Pr)(F F' it it':Obj)(rr:Nat)(vs:List Value)(re i u:Nat)(b:Bool)(es:List Eff)(n t:Nat):Prop :=
 ∃hs,AgainIs (startC (S1 kt W n t 60) (LJ kt W p) (.own []) [(p.n,F),(p.n+2,it),(rr,lst vs re),(p.dr,dro p)] hs) [] es (LJ kt W p)
  [(0,p.n,F'),(1,p.n+2,it'),(2,rr,lst vs re),(3,p.dr,dro p),(6,n+2,tup [.str (WR.op b) u,vs.getD i .none,vs.getD (i+1) .none]),(11,n+7,lst (vrow vs i (n+2)) 0)]
structure JG(s0:Shared)(p:Pr):Prop where
 n:p.n=s0.heap.objs.size
 b:160≤s0.heap.objs.size
 d160:160≤p.dr
 hd:s0.heap.get? p.dr=some (dro p)
structure JS(kt:Params→KT)(W:Wd)(s0 s:Shared)(p:Pr)(F it:Obj)(rr:Nat)(vs:List Value)(re:Nat)(xs:List Net):Prop where
 B:Base kt W s.heap
 f:Fut [] [] s0 s
 fr:s.heap.get? p.n=some F
 hit:s.heap.get? (p.n+2)=some it
 hr:s.heap.get? rr=some (lst vs re)
 r160:160≤rr
 rd:rr≠p.dr
 rn:rr≠p.n
 ri:rr≠p.n+2
 nets:NetsAt s.heap vs xs
theorem turn{s0 s:Shared}{p:Pr}(G:JG s0 p)(hA:A.handled=none)(hd:A.depth+60<1000){F F' it it':Obj}{rr:Nat}{re i u:Nat}{b:Bool}{es:List Eff}{xs:List Net}
  (hF:F.cls=.type "frame") (hI:it.cls=.type "range_iterator") (S:JS kt W s0 s p F it rr vs re xs) (hl:i+1<vs.length) (T:TurnIs kt W p F F' it it' rr vs re i u b es s.heap.objs.size s.toks) (hes:∀e∈es,e.Ok PW W.w)
  (k:∀s',s'.heap.objs.size ≥ s.heap.objs.size→JS kt W s0 s' p F' it' (s.heap.objs.size+7) (vrow vs i (s.heap.objs.size+2)) 0 (jrow xs i b)→Mean W A R P (LJ kt W p) (.own []) (denote table (LJ kt W p)) s') :
  Mean W A R P (LJ kt W p) (.own []) (denote table (LJ kt W p)) s:=by
 obtain⟨hs,e⟩:=T
 have gd:=S.f.keep _ _ G.hd (fun h=>nomatch h)
 have n160:160≤p.n:=by rw[G.n]; exact G.b
 have dlt:p.dr<p.n:=by rw[G.n]; exact Heap.lt_size G.hd
 have dn:∀{z:Nat},p.n≤z→z≠p.dr:=fun h e=>by rw[e]at h; exact absurd dlt (Nat.not_lt.mpr h)
 have itlt:p.n+2<s.heap.objs.size:=Heap.lt_size S.hit
 have C:=Cur.of (M:=[(p.n,F),(p.n+2,it),(rr,lst vs re),(p.dr,dro p)]) S.B (by
   refine fc ?_ (fc ?_ (fc ?_ (fc ?_ fz)))
   ·exact S.fr
   ·exact S.hit
   ·exact S.hr
   ·exact gd) (by
   exact pc (fc (fun z=>absurd z (Nat.ne_of_lt (Nat.lt_add_of_pos_right (by decide)))) (fc (fun z=>S.rn z.symm) (fc (dn (nR _)) fz))) (pc (fc (fun z=>S.ri z.symm) (fc (dn (lU _ 2)) fz)) (pc (fc S.rd fz) (pc fz .nil)))) (by
   refine fc ?_ (fc ?_ (fc ?_ (fc ?_ fz)))
   ·exact .inl n160
   ·exact .inl (nT n160 (lU _ 2))
   ·exact .inl S.r160
   ·exact .inl G.d160)
 refine C.startC hA hd (C.again e noV hes rfl ?_)
 intro s' C' _ F1
 have gn':=C'.ix 0 (p.n,F') rfl
 have gi':=C'.ix 1 (p.n+2,it') rfl
 have gr':=C'.ix 2 (rr,lst vs re) rfl
 have gd':=C'.ix 3 (p.dr,dro p) rfl
 have gt':=C'.ix 4 (s.heap.objs.size+2,tup [.str (WR.op b) u,vs.getD i .none,vs.getD (i+1) .none]) rfl
 have gl':=C'.ix 5 (s.heap.objs.size+7,lst (vrow vs i (s.heap.objs.size+2)) 0) rfl
 have F1':Fut [p.n,p.n+2] [] s s':=F1.same <|by
  refine fc ?_ (fc ?_ (fc ?_ (fc ?_ fz)))
  ·exact .inl Z0
  ·exact .inl Z1
  ·exact .inr (.inr (by rw[gr',S.hr]))
  ·exact .inr (.inr (gd'.trans gd.symm))
 have nt:∀x∈[p.n,p.n+2],x<160∨∀vs,s.heap.get? x≠some (tup vs):=by
  refine fc ?_ (fc ?_ fz)
  ·exact .inr fun vs h=>by rw[S.fr]at h; have:=congrArg Obj.cls (Option.some.inj h); rw[hF]at this; simp[tup]at this
  ·exact .inr fun vs h=>by rw[S.hit]at h; have:=congrArg Obj.cls (Option.some.inj h); rw[hI]at this; simp[tup]at this
 have s160:=S.B.sz
 have nlt:p.n<s.heap.objs.size:=Heap.lt_size S.fr
 have up:∀{z:Nat},z<s.heap.objs.size→s.heap.objs.size+7≠z:=fun h e=>absurd h (Nat.not_lt.mpr (by rw[←e]; exact lU _ 7))
 refine k s' C'.fut.size ⟨C'.B,S.f.trans' F1' (fun x hx=>?_) fz,gn',gi',gl',nT s160 (lU _ 7),up (Nat.lt_trans dlt nlt),up nlt,up itlt,NetsAt.join (nT s160 (lU _ 2)) (S.nets.fut F1' nt) hl gt'⟩
 simp only[mf,nn,or_false]at hx
 rcases hx with rfl|rfl
 ·exact .inr (by rw[G.n]; exact nR _)
 ·exact .inr (by rw[←G.n]; exact lU _ 2)
end
end JO
namespace JO
noncomputable def tes(d:Int)(td m i r:Nat)(q:Int)(n t:Nat):List Eff:=[eInt "int.__mod__" [.int q (t+8),.int 2 (t+9)] (zN r) (n+2) (t+10),eInt "int.__floordiv__" [.int d td,.int 6 (t+7)] q (n+2) (t+8),eInt "int.__mod__" [.int d td,.int (zN m) (t+3)] (zN i) n (t+4)]
noncomputable def sg(r:Nat):Bool:=match r with|0=>true|_=>false
inductive K3:List Value→Prop
 | a (x:Nat) (y:Int) (y':Nat) (z:Int) (z':Nat):K3 [.ref x,.int y y',.int z z']
 | b (y:Int) (y' x:Nat) (z:Int) (z':Nat):K3 [.int y y',.ref x,.int z z']
 | c (y:Int) (y':Nat) (z:Int) (z' x:Nat):K3 [.int y y',.int z z',.ref x]
inductive K2:List Value→Prop
 | a (x:Nat) (y:Int) (y':Nat):K2 [.ref x,.int y y']
 | b (y:Int) (y' x:Nat):K2 [.int y y',.ref x]
 | c (x y:Nat):K2 [.ref x,.ref y]
section
theorem t0(E:Evs kt)(p:Pr)(a:Int)(a':Nat)(b:Int)(b':Nat)(c:Int)(c':Nat)(d:Int)(d' re:Nat)(q:Int)(n t:Nat):∀(i r:Nat),i<3→r<2 →
  TurnIs kt W p (frA W p) (frB W p (n+7) (t+1) 0 t (t+5) (zN i) (t+4)) (rgi 0 3 1) (rgi 1 2 1) p.rw [.int a a',.int b b',.int c c',.int d d'] re i (t+11) (sg r) (tes p.d0 p.t0 3 i r q n t) n t
 | 0,0,_,_=>⟨_,E 1 W p a a' b b' c c' d d' re q n t⟩
 | 0,1,_,_=>⟨_,E 2 W p a a' b b' c c' d d' re q n t⟩
 | 1,0,_,_=>⟨_,E 3 W p a a' b b' c c' d d' re q n t⟩
 | 1,1,_,_=>⟨_,E 4 W p a a' b b' c c' d d' re q n t⟩
 | 2,0,_,_=>⟨_,E 5 W p a a' b b' c c' d d' re q n t⟩
 | 2,1,_,_=>⟨_,E 6 W p a a' b b' c c' d d' re q n t⟩
theorem t1(E:Evs kt)(p:Pr)(rr tk:Nat)(k:Int)(vk ta:Nat)(x:Int)(va re:Nat)(q:Int)(n t:Nat)(K:K3 vs):∀(i r:Nat),i<2→r<2 →
  TurnIs kt W p (frB W p rr tk k vk ta x va) (frB W p (n+7) tk 1 t ta (zN i) (t+4)) (rgi 1 2 1) (rgi 2 1 1) rr vs re i (t+11) (sg r) (tes p.d1 p.t1 2 i r q n t) n t:=by
 intro i r hi hr
 match i,r,hi,hr with
 | 0,0,_,_ =>
  cases K with
  | a x1 y y' z z'=>exact⟨_,E 7 W p rr tk k vk ta x va x1 y y' z z' re q n t⟩
  | b y y' x1 z z'=>exact⟨_,E 11 W p rr tk k vk ta x va y y' x1 z z' re q n t⟩
  | c y y' z z' x1=>exact⟨_,E 15 W p rr tk k vk ta x va y y' z z' x1 re q n t⟩
 | 0,1,_,_ =>
  cases K with
  | a x1 y y' z z'=>exact⟨_,E 8 W p rr tk k vk ta x va x1 y y' z z' re q n t⟩
  | b y y' x1 z z'=>exact⟨_,E 12 W p rr tk k vk ta x va y y' x1 z z' re q n t⟩
  | c y y' z z' x1=>exact⟨_,E 16 W p rr tk k vk ta x va y y' z z' x1 re q n t⟩
 | 1,0,_,_ =>
  cases K with
  | a x1 y y' z z'=>exact⟨_,E 9 W p rr tk k vk ta x va x1 y y' z z' re q n t⟩
  | b y y' x1 z z'=>exact⟨_,E 13 W p rr tk k vk ta x va y y' x1 z z' re q n t⟩
  | c y y' z z' x1=>exact⟨_,E 17 W p rr tk k vk ta x va y y' z z' x1 re q n t⟩
 | 1,1,_,_ =>
  cases K with
  | a x1 y y' z z'=>exact⟨_,E 10 W p rr tk k vk ta x va x1 y y' z z' re q n t⟩
  | b y y' x1 z z'=>exact⟨_,E 14 W p rr tk k vk ta x va y y' x1 z z' re q n t⟩
  | c y y' z z' x1=>exact⟨_,E 18 W p rr tk k vk ta x va y y' z z' x1 re q n t⟩
theorem t2(E:Evs kt)(p:Pr)(rr tk:Nat)(k:Int)(vk ta:Nat)(x:Int)(va re:Nat)(q:Int)(n t:Nat)(K:K2 vs):∀(i r:Nat),i<1→r<2 →
  TurnIs kt W p (frB W p rr tk k vk ta x va) (frB W p (n+7) tk 2 t ta (zN i) (t+4)) (rgi 2 1 1) (rgi 3 0 1) rr vs re i (t+11) (sg r) (tes p.d2 p.t2 1 i r q n t) n t:=by
 intro i r hi hr
 match i,r,hi,hr with
 | 0,0,_,_ =>
  cases K with
  | a x1 y y'=>exact⟨_,E 19 W p rr tk k vk ta x va x1 y y' re q n t⟩
  | b y y' x1=>exact⟨_,E 21 W p rr tk k vk ta x va y y' x1 re q n t⟩
  | c x1 y=>exact⟨_,E 23 W p rr tk k vk ta x va x1 y re q n t⟩
 | 0,1,_,_ =>
  cases K with
  | a x1 y y'=>exact⟨_,E 20 W p rr tk k vk ta x va x1 y y' re q n t⟩
  | b y y' x1=>exact⟨_,E 22 W p rr tk k vk ta x va y y' x1 re q n t⟩
  | c x1 y=>exact⟨_,E 24 W p rr tk k vk ta x va x1 y re q n t⟩
theorem k3{a b c d:Int}{a' b' c' d':Nat}{n:Nat}:∀{i:Nat},i<3→K3 (vrow [.int a a',.int b b',.int c c',.int d d'] i n)
 | 0,_=>.a ..
 | 1,_=>.b ..
 | 2,_=>.c ..
theorem k2{n:Nat}(K:K3 vs):∀{i:Nat},i<2→K2 (vrow vs i n)
 | 0,_=>by cases K<;>constructor
 | 1,_=>by cases K<;>constructor
theorem k1{n:Nat}(K:K2 vs):vrow vs 0 n=[.ref n]:=by cases K<;>rfl
theorem K3.len(K:K3 vs):vs.length=3:=by cases K<;>rfl
theorem K2.len(K:K2 vs):vs.length=2:=by cases K<;>rfl
theorem jat_lt{m:Nat}(hm:0<m)(d:Int):jat (zN m) d<m:=by
 have h1:=Int.fmod_nonneg_of_pos d (b:=(m:Int)) (by omega)
 have h2:=Int.fmod_lt_of_pos d (b:=(m:Int)) (by omega)
 unfold jat
 show(Int.fmod d (m:Int)).toNat<m
 omega
theorem jat_eq{m:Nat}(hm:0<m)(d:Int):Int.fmod d (zN m)=zN (jat (zN m) d):=by
 have h1:=Int.fmod_nonneg_of_pos d (b:=(m:Int)) (by omega)
 unfold jat
 show Int.fmod d (m:Int)=((Int.fmod d (m:Int)).toNat:Int)
 omega
noncomputable def jr(d:Int):Nat:=(Int.fmod (Int.fdiv d 6) 2).toNat
theorem jr_lt(d:Int):jr d<2:=jat_lt (m:=2) (by decide) _
theorem sg_jr(d:Int):sg (jr d)=jsg d:=by
 have h:=jr_lt d
 have h1:Int.fmod (Int.fdiv d 6) 2=(jr d:Int):=jat_eq (m:=2) (by decide) _
 unfold jsg
 rw[h1]
 match jr d,h with
 | 0,_=>rfl
 | 1,_=>rfl
theorem tes_ok{d:Int}{td m n t:Nat}(hm:0<m):∀e∈tes d td m (jat (zN m) d) (jr d) (Int.fdiv d 6) n t,e.Ok PW W.w:=by
 refine PA.he3 (eff_mod rfl ?_ (by decide)) (eff_floordiv rfl ⟨rfl,rfl,rfl,rfl⟩ (by decide) (by decide)) (eff_mod rfl ?_ ?_)
 ·have:Int.fmod (Int.fdiv d 6) 2=zN (jr d):=jat_eq (m:=2) (by decide) _
  rw[this]; exact⟨rfl,rfl,rfl,rfl⟩
 ·rw[jat_eq hm]; exact⟨rfl,rfl,rfl,rfl⟩
 ·intro h; exact absurd (zN.inj h) (Nat.pos_iff_ne_zero.mp hm)
end
end JO
namespace JO
theorem NetsAt.head{h:Heap}{v:Value}{xs:List Net}(H:NetsAt h (v::vs) xs):NetAt h v (xs.headD (.leaf 0)):=by
 cases H with
 | cons _ _ _ _ h1 _=>exact h1
section
set_option maxHeartbeats 2000000 in
theorem j_spec(E:Evs kt){rw_ dr:Addr}{u0 u1 u2 u3 re:Nat}{d0 d1 d2 d3:Int}{v0 v1 v2 v3 de:Nat}(B:Base kt W s.heap)(hA:A.handled=none)(hd:A.depth+70<1000)
  (w160:160≤rw_) (d160:160≤dr) (ne:rw_≠dr) (hw:s.heap.get? rw_=some (lst [.int 0 u0,.int 1 u1,.int 2 u2,.int 3 u3] re)) (hdr:s.heap.get? dr=some (lst [.int d0 v0,.int d1 v1,.int d2 v2,.int d3 v3] de))
  (k:∀(s':Shared) (a:Addr),Fut [] [] s s'→NetAt s'.heap (.ref a) (joined d0 d1 d2)→R (.ok (.ret (.ref a))) s') :
  codeAny W.M A (.call (.ref 106) ⟨[.ref rw_,.ref dr],[]⟩) R s:=by
 have dA:A.depth+60<1000:=by omega
 obtain⟨p,hp⟩:∃p:Pr,p=⟨s.heap.objs.size,s.toks,rw_,dr,d0,v0,d1,v1,d2,v2,d3,v3,de⟩:=⟨_,rfl⟩
 have e0:=E 0 W ⟨s.heap.objs.size,s.toks,rw_,dr,d0,v0,d1,v1,d2,v2,d3,v3,de⟩
 have C0:=Cur.start (W:=W) B [] []
 refine C0.startF hA dA (by decide) (C0.stop e0 hA noV noE rfl ?_)
 rw[←hp]at e0 ⊢
 have G:JG s p:=by rw[hp]; exact⟨rfl,B.sz,d160,hdr⟩
 have pd0:p.d0=d0:=by rw[hp]
 have pd1:p.d1=d1:=by rw[hp]
 have pd2:p.d2=d2:=by rw[hp]
 have prw:p.rw=rw_:=by rw[hp]
 have pdr:p.dr=dr:=by rw[hp]
 have n160:160≤p.n:=by rw[G.n]; exact G.b
 have rlt:rw_<p.n:=by rw[G.n]; exact Heap.lt_size hw
 intro s₁ A1 C1 _ F1 hA1 hd1 ke0
 have gn:=C1.ix 0 (p.n,frA W p) rfl
 have gi:=C1.ix 1 (p.n+2,rgi 0 3 1) rfl
 have gw:=F1.keep _ _ hw (fun h=>nomatch h)
 have S1:JS kt W s s₁ p (frA W p) (rgi 0 3 1) p.rw [.int 0 u0,.int 1 u1,.int 2 u2,.int 3 u3] re [.leaf 0,.leaf 1,.leaf 2,.leaf 3]:=by
  rw[prw]
  exact⟨C1.B,F1,gn,gi,gw,w160,by rw[pdr]; exact ne,Nat.ne_of_lt rlt,Nat.ne_of_lt (Nat.lt_of_lt_of_le rlt (lU _ 2)),.cons _ _ _ _ (.leaf 0 u0) (.cons _ _ _ _ (.leaf 1 u1) (.cons _ _ _ _ (.leaf 2 u2) (.cons _ _ _ _ (.leaf 3 u3) .nil)))⟩
 have dA1:A1.depth+60<1000:=by omega
 have c0:=jat_lt (m:=3) (by decide) p.d0
 have c1:=jat_lt (m:=2) (by decide) p.d1
 have c2:=jat_lt (m:=1) (by decide) p.d2
 refine code_of_mean (P:=fun _ _=>False) (turn G hA1 dA1 rfl rfl S1 (by simp only[List.length_cons,List.length_nil]; omega) (t0 E p 0 u0 1 u1 2 u2 3 u3 re _ _ _ _ _ c0 (jr_lt p.d0)) (tes_ok (by decide)) ?_)
 intro s2 hz2 S2
 have K3:=k3 (a:=0) (b:=1) (c:=2) (d:=3) (a':=u0) (b':=u1) (c':=u2) (d':=u3) (n:=s₁.heap.objs.size+2) c0
 refine turn G hA1 dA1 rfl rfl S2 (by rw[K3.len]; omega) (t1 E p _ _ _ _ _ _ _ _ _ _ _ K3 _ _ c1 (jr_lt p.d1)) (tes_ok (by decide)) ?_
 intro s3 hz3 S3
 have K2:=k2 (n:=s2.heap.objs.size+2) K3 c1
 refine turn G hA1 dA1 rfl rfl S3 (by rw[K2.len]; omega) (t2 E p _ _ _ _ _ _ _ _ _ _ _ K2 _ _ c2 (jr_lt p.d2)) (tes_ok (by decide)) ?_
 intro s4 hz4 S4
 have z2:jat (zN 1) p.d2=0:=by omega
 have C4:=Cur.of (M:=[(p.n,frB W p (s3.heap.objs.size+7) (s₁.toks+1) 2 s3.toks (s₁.toks+5) (zN (jat (zN 1) p.d2)) (s3.toks+4)),(p.n+2,rgi 3 0 1)]) S4.B (by
   refine fc ?_ (fc ?_ fz)
   ·exact S4.fr
   ·exact S4.hit) (by
   exact pc (fc (fun z=>absurd z (Nat.ne_of_lt (Nat.lt_add_of_pos_right (by decide)))) fz) (pc fz .nil)) (by
   refine fc ?_ (fc ?_ fz)
   ·exact .inl n160
   ·exact .inl (nT n160 (lU _ 2)))
 refine C4.startC hA1 dA1 (C4.ret (E 25 W p _ _ _ _ _ _ _ s4.heap.objs.size s4.toks) noV noE rfl ?_)
 intro s5 C5 _ F5
 have gn5:=C5.ix 0 (p.n,frB W p (s3.heap.objs.size+7) (s₁.toks+1) 2 s3.toks (s₁.toks+5) (zN (jat (zN 1) p.d2)) (s3.toks+4)) rfl
 have hv:vrow (vrow (vrow [.int 0 u0,.int 1 u1,.int 2 u2,.int 3 u3] (jat (zN 3) p.d0) (s₁.heap.objs.size+2)) (jat (zN 2) p.d1) (s2.heap.objs.size+2)) (jat (zN 1) p.d2) (s3.heap.objs.size+2)=[.ref (s3.heap.objs.size+2)]:=by rw[z2]; exact k1 K2
 have hr:=S4.hr
 have hn:=S4.nets
 rw[hv]at hr hn
 have nr:s3.heap.objs.size+7≠p.n:=S4.rn
 have hr5:=F5.keep _ _ hr (by
  simp only[ks,mp,mn,mc,nn,or_false,not_or]
  exact⟨S4.rn,S4.ri⟩)
 have S5:Fut [] [] s s5:=S4.f.trans' F5 (by
  refine fc ?_ (fc ?_ fz)
  ·exact .inr (by rw[G.n]; exact nR _)
  ·exact .inr (by rw[←G.n]; exact lU _ 2)) fz
 have nt:∀x∈[p.n,p.n+2],x<160∨∀vs,s4.heap.get? x≠some (tup vs):=by
  refine fc ?_ (fc ?_ fz)
  ·exact .inr fun vs h=>by rw[S4.fr]at h; exact Oc h kA
  ·exact .inr fun vs h=>by rw[S4.hit]at h; exact Oc h kH
 have hn5:=hn.fut F5 nt
 obtain⟨y,hy⟩:∃y,y=s3.heap.objs.size+2:=⟨_,rfl⟩
 obtain⟨z,hz⟩:∃z,z=s3.heap.objs.size+7:=⟨_,rfl⟩
 have z160:160≤z:=hz▸S4.r160
 rw[←hy]at hr5 hn5
 rw[←hz]at hr5 gn5 nr
 have C6:=Cur.of (M:=[(p.n,frB W p z (s₁.toks+1) 2 s3.toks (s₁.toks+5) (zN (jat (zN 1) p.d2)) (s3.toks+4)),(z,lst [.ref y] 0)]) C5.B (by
   refine fc ?_ (fc ?_ fz)
   ·exact gn5
   ·exact hr5) (by
   exact pc (fc (fun z=>nr z.symm) fz) (pc fz .nil)) (by
   refine fc ?_ (fc ?_ fz)
   ·exact .inl n160
   ·exact .inl z160)
 have ez:=E 26 W p z (s₁.toks+1) 2 s3.toks (s₁.toks+5) (zN (jat (zN 1) p.d2)) (s3.toks+4) y 0 s5.heap.objs.size s5.toks
 subst hp
 refine C6.startT ke0 hA dA (C6.ret ez noV noE rfl ?_)
 intro s6 C7 _ F6
 have hy6:=hn5.head
 have hF:Fut [] [] s s6:=S5.trans' F6 (by
  refine fc ?_ (fc ?_ fz)
  ·exact .inr (nR _)
  ·exact .inr (by rw[hz]; exact nT S3.f.size (lU _ 7))) fz
 refine k s6 y hF ?_
 have:=hy6.futN F6 (by
  refine fc ?_ (fc ?_ fz)
  ·exact .inr fun vs h=>by rw[gn5]at h; exact Oc h kA
  ·exact .inr fun vs h=>by rw[hr5]at h; exact Oc h (by first|exact kB|exact kD))
 rw[sg_jr,sg_jr,sg_jr]at this
 exact this
end
end JO
namespace TR
structure Pr where
 n:Nat
 t:Nat
 wy:Nat
 oh:Nat
 sz:Int
 ts:Nat
noncomputable def arr(p:Pr):Args:=⟨[.ref p.wy,.ref p.oh,.int p.sz p.ts],[]⟩
noncomputable def frd(P:Params)(es:List (Str×Tok×Value)):Obj:=⟨.type "dict",none,.dict ⟨es.map fun e=>⟨kh P e.1,.str e.1 e.2.1,e.2.2⟩⟩ es.length,#[]⟩
noncomputable def cel(v:Option Value):Obj:=⟨.type "cell",none,.cell v,#[]⟩
noncomputable def frA(W:Wd)(p:Pr)(pa:Int)(ua:Nat)(tr:Int)(ut:Nat):Obj:=fr W.w.params [(U0,p.t,.ref p.wy),(U24,p.t+1,.ref p.oh),(U25,p.t+2,.int p.sz p.ts),(U8,p.t+4,.int pa ua),(U9,p.t+6,.int tr ut),(U10,p.t+11,.ref (p.n+3))]
noncomputable def eRNx(it:Nat)(i r:Int)(n t:Nat):Eff:=⟨.call (.builtin "range_iterator.__next__") ⟨[.ref it],[]⟩,[(it,rgi i r 1)],some (it,rgi (i+1) (r-1) 1),[],.ok (.ret (.int i t)),1,n,t⟩
noncomputable def frK(W:Wd):Option (Nat×Int×Nat)→Obj
 | none=>frd W.w.params []
 | some (k0,k,tk)=>frd W.w.params [(⟨⟨[107]⟩⟩,k0,.int k tk)]
noncomputable def klOf(c:Code):Code:=match c with|.compStart e d it acc env=>.compLoop e d it acc env|c=>c
noncomputable def nA(W:Wd)(p:Pr)(pa:Int)(ua:Nat)(tr:Int)(ut:Nat)(es:List (Str×Tok×Value)):Obj:=fr W.w.params ((U0,p.t,.ref p.wy)::(U24,p.t+1,.ref p.oh)::(U25,p.t+2,.int p.sz p.ts)::(U8,p.t+4,.int pa ua)::(U9,p.t+6,.int tr ut)::(U10,p.t+11,.ref (p.n+3))::es)
noncomputable def xC(tc ch:Nat):Str×Tok×Value:=(U6,tc,.ref ch)
noncomputable def xW(tw:Nat)(w:Int)(uw:Nat):Str×Tok×Value:=(⟨⟨[119,101,105,103,104,116]⟩⟩,tw,.int w uw)
noncomputable def xS(tz se:Nat):Str×Tok×Value:=(U7,tz,.ref se)
noncomputable def lfOf(c:Code)(it:Nat):Code:=match c with|.forLoop t _ b o e=>.forLoop t (.ref it) b o e|c=>c
noncomputable def eLCon(l:Nat)(vs:List Value)(e:Nat)(x:Int)(tx:Nat)(b:Bool)(n t:Nat):Eff:=⟨.call (.builtin "list.__contains__") ⟨[.ref l,.int x tx],[]⟩,[(l,lst vs e)],none,[],.ok (.ret (.bool b)),0,n,t⟩
noncomputable def eSet(l:Nat)(vs:List Value)(e:Nat)(k:Int)(tk:Nat)(v:Value)(n t:Nat):Eff:=⟨.call (.builtin "list.__setitem__") ⟨[.ref l,.int k tk,v],[]⟩,[(l,lst vs e)],some (l,lst (vs.set k.toNat v) e),[],.ok (.ret .none),0,n,t⟩
noncomputable def a0 a W p:=startF (S1 a W p.n p.t 60) 132 (arr p) [] (Hx 0x3988828288828288222211444444214444441 [])
noncomputable def E_a0 kt W:=∀p,StopIs (a0 kt W p) [] [] (oC (a0 kt W p)) 1 [(0,p.n,frA W p 0 (p.t+3) 0 (p.t+5)),(1,p.n+1,cel none),(2,p.n+2,cel none),(3,p.n+3,lst [.int 0 (p.t+7),.int 0 (p.t+8),.int 0 (p.t+9),.int 0 (p.t+10)] 0),(5,p.n+5,rgi 0 16 1)]
noncomputable def LM(kt:Params→KT)(W:Wd)(p:Pr):Code:=oC (a0 kt W p)
noncomputable def m1A a W p c d f g h j i r n t:=startC (S1 a W n t 60) (LM a W p) (.own []) [(p.n,nA W p c d f g []),(p.n+1,cel h),(p.n+2,cel j),(p.n+5,rgi i r 1)] (.m 3::.u [] 3 (rgi (i+1) (r-1) 1) (.int i (t+0)) 1::Hx Y24 [])
noncomputable def E_m1A kt W:=∀p a b c d f e i r n t,StopIs (m1A kt W p a b c d f e i r n t) [] [eRNx (p.n+5) i r n t] (oC (m1A kt W p a b c d f e i r n t)) 1 [(0,p.n,nA W p a b c d []),(1,p.n+1,cel (some (.int i t))),(2,p.n+2,cel e),(3,p.n+5,rgi (i+1) (r-1) 1),(5,n+1,rgi 0 4 1),(6,n+2,lst [] 0),(7,n+3,frd W.w.params [])]
noncomputable def E_m1Ac kt W:=∀p a b c d f e i r n t,oC (m1A kt W p a b c d f e i r n t)=oC (m1A kt W p 0 0 0 0 none none 0 0 n 0)
noncomputable def KS(kt:Params→KT)(W:Wd)(p:Pr)(n:Nat):Code:=oC (m1A kt W p 0 0 0 0 none none 0 0 n 0)
noncomputable def m1B a W p c d f g h j k l i r n t:=startC (S1 a W n t 60) (LM a W p) (.own []) [(p.n,nA W p c d f g [xC h j]),(p.n+1,cel k),(p.n+2,cel l),(p.n+5,rgi i r 1)] (.m 3::.u [] 3 (rgi (i+1) (r-1) 1) (.int i (t+0)) 1::Hx Y24 [])
noncomputable def E_m1B kt W:=∀p a b c d e f h g i r n t,StopIs (m1B kt W p a b c d e f h g i r n t) [] [eRNx (p.n+5) i r n t] (KS kt W p n) 1 [(0,p.n,nA W p a b c d [xC e f]),(1,p.n+1,cel (some (.int i t))),(2,p.n+2,cel g),(3,p.n+5,rgi (i+1) (r-1) 1),(5,n+1,rgi 0 4 1),(6,n+2,lst [] 0),(7,n+3,frd W.w.params [])]
noncomputable def m1C a W p c d f g h j k l o q u v w i r n t:=startC (S1 a W n t 60) (LM a W p) (.own []) [(p.n,nA W p c d f g [xC h j,xW k l o,xS q u]),(p.n+1,cel v),(p.n+2,cel w),(p.n+5,rgi i r 1)] (.m 3::.u [] 3 (rgi (i+1) (r-1) 1) (.int i (t+0)) 1::Hx Y24 [])
noncomputable def E_m1C kt W:=∀p a b c d e f g h j k l o m i r n t,StopIs (m1C kt W p a b c d e f g h j k l o m i r n t) [] [eRNx (p.n+5) i r n t] (KS kt W p n) 1 [(0,p.n,nA W p a b c d [xC e f,xW g h j,xS k l]),(1,p.n+1,cel (some (.int i t))),(2,p.n+2,cel m),(3,p.n+5,rgi (i+1) (r-1) 1),(5,n+1,rgi 0 4 1),(6,n+2,lst [] 0),(7,n+3,frd W.w.params [])]
noncomputable def q0 a W p m n t:=startC (S1 a W n t 60) (KS a W p m) (.own []) [(m+1,rgi 0 4 1),(m+2,lst [] 0),(m+3,frd W.w.params [])] (match W.b2 with|true=>[.z]|false=>(Hx Y17 []))
noncomputable def E_q0 kt W:=∀p m n t,AgainIs (q0 kt W p m n t) [] [] (klOf (KS kt W p m)) [(0,m+1,rgi 0 4 1),(1,m+2,lst [] 0),(2,m+3,frd W.w.params [])]
noncomputable def KL(kt:Params→KT)(W:Wd)(p:Pr)(n:Nat):Code:=klOf (KS kt W p n)
noncomputable def qA1 a W p m c d j r b e q n t:=startC (S1 a W n t 60) (KL a W p m) (.own []) [(p.n+1,cel (some (.int c d))),(m+1,rgi j r 1),(m+2,lst b e),(m+3,frd W.w.params [])] (.m 1::.u [] 1 (rgi (j+1) (r-1) 1) (.int j (t+0)) 1::Hx 0x7477 (.i [] (.int q (t+2)) 1::.i [] (.int 1 (t+4)) 1::Hx 0x722 (.u [] 2 (lst (b++[.int j t]) (e+1)) .none 0::[.z])))
noncomputable def E_qA1 kt W:=∀p m a b j r c e q n t,AgainIs (qA1 kt W p m a b j r c e q n t) [] [SQ.eApp (m+2) c e (.int j t) n (t+5),eInt "int.__and__" [.int q (t+2),.int 1 (t+3)] 1 n (t+4),eInt "int.__rshift__" [.int a b,.int j t] q n (t+2),eRNx (m+1) j r n t] (KL kt W p m) [(0,p.n+1,cel (some (.int a b))),(1,m+1,rgi (j+1) (r-1) 1),(2,m+2,lst (c++[.int j t]) (e+1)),(3,m+3,frd W.w.params [(⟨⟨[107]⟩⟩,(t+1),.int j t)])]
noncomputable def qA0 a W p m b c j r d e q n t:=startC (S1 a W n t 60) (KL a W p m) (.own []) [(p.n+1,cel (some (.int b c))),(m+1,rgi j r 1),(m+2,lst d e),(m+3,frd W.w.params [])] (.m 1::.u [] 1 (rgi (j+1) (r-1) 1) (.int j (t+0)) 1::Hx 0x7477 (.i [] (.int q (t+2)) 1::.i [] (.int 0 (t+4)) 1::Hx 0x322 []))
noncomputable def E_qA0 kt W:=∀p m a b j r c e q n t,AgainIs (qA0 kt W p m a b j r c e q n t) [] [eInt "int.__and__" [.int q (t+2),.int 1 (t+3)] 0 n (t+4),eInt "int.__rshift__" [.int a b,.int j t] q n (t+2),eRNx (m+1) j r n t] (KL kt W p m) [(0,p.n+1,cel (some (.int a b))),(1,m+1,rgi (j+1) (r-1) 1),(2,m+2,lst c e),(3,m+3,frd W.w.params [(⟨⟨[107]⟩⟩,(t+1),.int j t)])]
noncomputable def qB1 a W p m c d f k g j r b e q n t:=startC (S1 a W n t 60) (KL a W p m) (.own []) [(p.n+1,cel (some (.int c d))),(m+1,rgi j r 1),(m+2,lst b e),(m+3,frd W.w.params [(⟨⟨[107]⟩⟩,f,.int k g)])] (.m 1::.u [] 1 (rgi (j+1) (r-1) 1) (.int j (t+0)) 1::Hx 0x7477 (.i [] (.int q (t+2)) 1::.i [] (.int 1 (t+4)) 1::Hx 0x722 (.u [] 2 (lst (b++[.int j t]) (e+1)) .none 0::[.z])))
noncomputable def E_qB1 kt W:=∀p m a b d k f j r c e q n t,AgainIs (qB1 kt W p m a b d k f j r c e q n t) [] [SQ.eApp (m+2) c e (.int j t) n (t+5),eInt "int.__and__" [.int q (t+2),.int 1 (t+3)] 1 n (t+4),eInt "int.__rshift__" [.int a b,.int j t] q n (t+2),eRNx (m+1) j r n t] (KL kt W p m) [(0,p.n+1,cel (some (.int a b))),(1,m+1,rgi (j+1) (r-1) 1),(2,m+2,lst (c++[.int j t]) (e+1)),(3,m+3,frd W.w.params [(⟨⟨[107]⟩⟩,d,.int j t)])]
noncomputable def qB0 a W p m b c d k f j r g e q n t:=startC (S1 a W n t 60) (KL a W p m) (.own []) [(p.n+1,cel (some (.int b c))),(m+1,rgi j r 1),(m+2,lst g e),(m+3,frd W.w.params [(⟨⟨[107]⟩⟩,d,.int k f)])] (.m 1::.u [] 1 (rgi (j+1) (r-1) 1) (.int j (t+0)) 1::Hx 0x7477 (.i [] (.int q (t+2)) 1::.i [] (.int 0 (t+4)) 1::Hx 0x322 []))
noncomputable def E_qB0 kt W:=∀p m a b c k f j r d e q n t,AgainIs (qB0 kt W p m a b c k f j r d e q n t) [] [eInt "int.__and__" [.int q (t+2),.int 1 (t+3)] 0 n (t+4),eInt "int.__rshift__" [.int a b,.int j t] q n (t+2),eRNx (m+1) j r n t] (KL kt W p m) [(0,p.n+1,cel (some (.int a b))),(1,m+1,rgi (j+1) (r-1) 1),(2,m+2,lst d e),(3,m+3,frd W.w.params [(⟨⟨[107]⟩⟩,c,.int j t)])]
noncomputable def qE a W p m n t:=startC (S1 a W n t 60) (KL a W p m) (.own []) [(m+1,rgi 4 0 1)] (Hx 0x64442424 [])
noncomputable def E_qE kt W:=∀p m n t,RetIs (qE kt W p m n t) [] [] (.ok .next) []
noncomputable def m2AF a W p c d f g l o i r n t q k u h v x j:=on a W x j (m1A a W p c d f g l o i r n t) (.ok .next) [(p.n,nA W p c d f g []),(n+3,frd W.w.params [(⟨⟨[107]⟩⟩,q,.int k u)]),(n+2,lst h v)] (Hx Y12 (.i [2] (.int (zN h.length) (j+2)) 2::Hx Y13 (.i [3] (.bool false) 0::[.z])))
noncomputable def E_m2AF kt W:=∀p e f g h j l i r n t m k o b d c a,AgainIs (m2AF kt W p e f g h j l i r n t m k o b d c a) [] [PA.eTCon c [.int (p.sz-1) (a+4),.int (p.sz-2) (a+6)] (zN b.length) (a+2) false (c+1) (a+7),PA.eLenL (n+2) b d c (a+1)] (LM kt W p) [(0,p.n,nA W p e f g h [xC a (n+2)]),(2,n+2,lst b d)]
noncomputable def m2AT a W p c d f g l o i r n t q k u h v x j:=on a W x j (m1A a W p c d f g l o i r n t) (.ok .next) [(p.n,nA W p c d f g []),(n+3,frd W.w.params [(⟨⟨[107]⟩⟩,q,.int k u)]),(n+2,lst h v)] (Hx Y12 (.i [2] (.int (zN h.length) (j+2)) 2::Hx Y13 (.i [3] (.bool true) 0::Hx Y25 [])))
noncomputable def E_m2AT kt W:=∀p e f g h j l i r n t m k o c d b a,StopIs (m2AT kt W p e f g h j l i r n t m k o c d b a) [] [PA.eTCon b [.int (p.sz-1) (a+4),.int (p.sz-2) (a+6)] (zN c.length) (a+2) true (b+1) (a+7),PA.eLenL (n+2) c d b (a+1)] (lfOf (oC (m2AT kt W p 0 0 0 0 none none 0 0 p.n 0 0 0 0 [] 0 p.n 0)) (b+2)) 1 [(0,p.n,nA W p e f g h [xC a (n+2),xW (a+8) 1 (a+7)]),(2,n+2,lst c d),(5,b+2,rgi 0 4 1)]
noncomputable def LK(kt:Params→KT)(W:Wd)(p:Pr)(it:Nat):Code:=lfOf (oC (m2AT kt W p 0 0 0 0 none none 0 0 p.n 0 0 0 0 [] 0 p.n 0)) it
noncomputable def m2BF a W p c d f g h j q u i r n t v k x l y A o:=on a W A o (m1B a W p c d f g h j q u i r n t) (.ok .next) [(p.n,nA W p c d f g [xC h j]),(n+3,frd W.w.params [(⟨⟨[107]⟩⟩,v,.int k x)]),(n+2,lst l y)] (Hx Y12 (.i [2] (.int (zN l.length) (o+2)) 2::Hx Y13 (.i [3] (.bool false) 0::[.z])))
noncomputable def E_m2BF kt W:=∀p e f g h j l m o i r n t q k s b d c a,AgainIs (m2BF kt W p e f g h j l m o i r n t q k s b d c a) [] [PA.eTCon c [.int (p.sz-1) (a+4),.int (p.sz-2) (a+6)] (zN b.length) (a+2) false (c+1) (a+7),PA.eLenL (n+2) b d c (a+1)] (LM kt W p) [(0,p.n,nA W p e f g h [xC j (n+2)]),(2,n+2,lst b d)]
noncomputable def m2BT a W p c d f g h j q u i r n t v k x l y A o:=on a W A o (m1B a W p c d f g h j q u i r n t) (.ok .next) [(p.n,nA W p c d f g [xC h j]),(n+3,frd W.w.params [(⟨⟨[107]⟩⟩,v,.int k x)]),(n+2,lst l y)] (Hx Y12 (.i [2] (.int (zN l.length) (o+2)) 2::Hx Y13 (.i [3] (.bool true) 0::Hx Y25 [])))
noncomputable def E_m2BT kt W:=∀p e f g h j l m o i r n t q k s c d b a,StopIs (m2BT kt W p e f g h j l m o i r n t q k s c d b a) [] [PA.eTCon b [.int (p.sz-1) (a+4),.int (p.sz-2) (a+6)] (zN c.length) (a+2) true (b+1) (a+7),PA.eLenL (n+2) c d b (a+1)] (LK kt W p (b+2)) 1 [(0,p.n,nA W p e f g h [xC j (n+2),xW (a+8) 1 (a+7)]),(2,n+2,lst c d),(5,b+2,rgi 0 4 1)]
noncomputable def m2CF a W p c d f g h j l o q u v A B i r n t C k D x E G y:=on a W G y (m1C a W p c d f g h j l o q u v A B i r n t) (.ok .next) [(p.n,nA W p c d f g [xC h j,xW l o q,xS u v]),(n+3,frd W.w.params [(⟨⟨[107]⟩⟩,C,.int k D)]),(n+2,lst x E)] (Hx Y12 (.i [2] (.int (zN x.length) (y+2)) 2::Hx Y13 (.i [3] (.bool false) 0::[.z])))
noncomputable def E_m2CF kt W:=∀p e f g h j u l m o q s v w i r n t x k y b d c a,AgainIs (m2CF kt W p e f g h j u l m o q s v w i r n t x k y b d c a) [] [PA.eTCon c [.int (p.sz-1) (a+4),.int (p.sz-2) (a+6)] (zN b.length) (a+2) false (c+1) (a+7),PA.eLenL (n+2) b d c (a+1)] (LM kt W p) [(0,p.n,nA W p e f g h [xC j (n+2),xW l m o,xS q s]),(2,n+2,lst b d)]
noncomputable def m2CT a W p c d f g h j l o q u v A B i r n t C k D x E G y:=on a W G y (m1C a W p c d f g h j l o q u v A B i r n t) (.ok .next) [(p.n,nA W p c d f g [xC h j,xW l o q,xS u v]),(n+3,frd W.w.params [(⟨⟨[107]⟩⟩,C,.int k D)]),(n+2,lst x E)] (Hx Y12 (.i [2] (.int (zN x.length) (y+2)) 2::Hx Y13 (.i [3] (.bool true) 0::Hx Y25 [])))
noncomputable def E_m2CT kt W:=∀p e f g h j q l s u m o v w i r n t x k y c d b a,StopIs (m2CT kt W p e f g h j q l s u m o v w i r n t x k y c d b a) [] [PA.eTCon b [.int (p.sz-1) (a+4),.int (p.sz-2) (a+6)] (zN c.length) (a+2) true (b+1) (a+7),PA.eLenL (n+2) c d b (a+1)] (LK kt W p (b+2)) 1 [(0,p.n,nA W p e f g h [xC j (n+2),xW l 1 (a+7),xS m o]),(2,n+2,lst c d),(5,b+2,rgi 0 4 1)]
noncomputable def wDin a W p d f g h i b k l o q c j r s u n t:=startC (S1 a W n t 60) (LK a W p c) (.own []) [(p.n,nA W p d f g h [xC i b,xW k l o]),(p.n+2,cel q),(c,rgi j r 1),(b,lst s u)] (.m 2::.u [] 2 (rgi (j+1) (r-1) 1) (.int j (t+0)) 1::Hx 0x774555 (.i [3] (.bool true) 0::[.z]))
noncomputable def E_wDin kt W:=∀p e f g h i a k l m o b j r c d n t,AgainIs (wDin kt W p e f g h i a k l m o b j r c d n t) [] [eLCon a c d j t true n (t+1),eRNx b j r n t] (LK kt W p b) [(0,p.n,nA W p e f g h [xC i a,xW k l m]),(1,p.n+2,cel (some (.int j t))),(2,b,rgi (j+1) (r-1) 1),(3,a,lst c d)]
noncomputable def wDout a W p f g h i k b l c o q d j r s u v w x y n t:=startC (S1 a W n t 60) (LK a W p d) (.own []) [(p.n,nA W p f g h i [xC k b,xW l c o]),(p.n+2,cel q),(d,rgi j r 1),(b,lst s u),(p.oh,lst v w)] (.m 2::.u [] 2 (rgi (j+1) (r-1) 1) (.int j (t+0)) 1::Hx 0x774555 (.i [3] (.bool false) 0::Hx 0x888544 (.i [4] (.int x y) 0::.i [] (.int (c*x) (t+1)) 1::Hx 0x344 [])))
noncomputable def E_wDout kt W:=∀p i k l m o a q b s u c j r d e f g x h n t,AgainIs (wDout kt W p i k l m o a q b s u c j r d e f g x h n t) [] [eInt "int.__mul__" [.int b s,.int x h] (b*x) n (t+1),PA.eGet p.oh f g j t (.int x h) n (t+1),eLCon a d e j t false n (t+1),eRNx c j r n t] (LK kt W p c) [(0,p.n,nA W p i k l m [xC o a,xW q (b*x) (t+1)]),(1,p.n+2,cel (some (.int j t))),(2,c,rgi (j+1) (r-1) 1),(3,a,lst d e),(4,p.oh,lst f g)]
noncomputable def wCin a W p d f g h i b k l o q s u c j r v w n t:=startC (S1 a W n t 60) (LK a W p c) (.own []) [(p.n,nA W p d f g h [xC i b,xW k l o,xS q s]),(p.n+2,cel u),(c,rgi j r 1),(b,lst v w)] (.m 2::.u [] 2 (rgi (j+1) (r-1) 1) (.int j (t+0)) 1::Hx 0x774555 (.i [3] (.bool true) 0::[.z]))
noncomputable def E_wCin kt W:=∀p e f g h i a k l m o q s b j r c d n t,AgainIs (wCin kt W p e f g h i a k l m o q s b j r c d n t) [] [eLCon a c d j t true n (t+1),eRNx b j r n t] (LK kt W p b) [(0,p.n,nA W p e f g h [xC i a,xW k l m,xS o q]),(1,p.n+2,cel (some (.int j t))),(2,b,rgi (j+1) (r-1) 1),(3,a,lst c d)]
noncomputable def wCout a W p f g h i k b l c o q s u d j r v w y A x B n t:=startC (S1 a W n t 60) (LK a W p d) (.own []) [(p.n,nA W p f g h i [xC k b,xW l c o,xS q s]),(p.n+2,cel u),(d,rgi j r 1),(b,lst v w),(p.oh,lst y A)] (.m 2::.u [] 2 (rgi (j+1) (r-1) 1) (.int j (t+0)) 1::Hx 0x774555 (.i [3] (.bool false) 0::Hx 0x888544 (.i [4] (.int x B) 0::.i [] (.int (c*x) (t+1)) 1::Hx 0x344 [])))
noncomputable def E_wCout kt W:=∀p i k l m o a q b s u v w c j r d e f g x h n t,AgainIs (wCout kt W p i k l m o a q b s u v w c j r d e f g x h n t) [] [eInt "int.__mul__" [.int b s,.int x h] (b*x) n (t+1),PA.eGet p.oh f g j t (.int x h) n (t+1),eLCon a d e j t false n (t+1),eRNx c j r n t] (LK kt W p c) [(0,p.n,nA W p i k l m [xC o a,xW q (b*x) (t+1),xS u v]),(1,p.n+2,cel (some (.int j t))),(2,c,rgi (j+1) (r-1) 1),(3,a,lst d e),(4,p.oh,lst f g)]
noncomputable def wE a W p b n t:=startC (S1 a W n t 60) (LK a W p b) (.own []) [(b,rgi 4 0 1)] (Hx 0x264442424 [])
noncomputable def E_wE kt W:=∀p a n t,RetIs (wE kt W p a n t) [] [] (.ok .next) []
noncomputable def s1A a W p q s u v w x i r n t y k A B C D E c d e f g h j l o G H:=on a W G H (m2AT a W p q s u v w x i r n t y k A B C D E) (.ok .next) [(p.n,nA W p c d e f [xC g h,xW j l o])] (Hx 0x31441 [])
noncomputable def E_s1A kt W:=∀p m o q s u v i r n t w k x y z A B b c d e f a g h j C l,StopIs (s1A kt W p m o q s u v i r n t w k x y z A B b c d e f a g h j C l) [] [] (.call (.ref 127) ⟨[.ref p.wy,.ref a,.int 0 l],[]⟩) 1 [(0,p.n,nA W p b c d e [xC f a,xW g h j])]
noncomputable def s1B a W p q s u v w x y A i r n t B k C D E G H c d e f g h j l o I J:=on a W I J (m2BT a W p q s u v w x y A i r n t B k C D E G H) (.ok .next) [(p.n,nA W p c d e f [xC g h,xW j l o])] (Hx 0x31441 [])
noncomputable def E_s1B kt W:=∀p m o q s u v w x i r n t y k z A B C D b c d e f a g h j E l,StopIs (s1B kt W p m o q s u v w x i r n t y k z A B C D b c d e f a g h j E l) [] [] (.call (.ref 127) ⟨[.ref p.wy,.ref a,.int 0 l],[]⟩) 1 [(0,p.n,nA W p b c d e [xC f a,xW g h j])]
noncomputable def s1C a W p u v w x y A B C D E G H I i r n t J k K L M N O c d e f g h j l o q s P Q:=on a W P Q (m2CT a W p u v w x y A B C D E G H I i r n t J k K L M N O) (.ok .next) [(p.n,nA W p c d e f [xC g h,xW j l o,xS q s])] (Hx 0x31441 [])
noncomputable def E_s1C kt W:=∀p q s u v w x y z A B C D E i r n t G k H I J K L b c d e f a g h j l m M o,StopIs (s1C kt W p q s u v w x y z A B C D E i r n t G k H I J K L b c d e f a g h j l m M o) [] [] (.call (.ref 127) ⟨[.ref p.wy,.ref a,.int 0 o],[]⟩) 1 [(0,p.n,nA W p b c d e [xC f a,xW g h j,xS l m])]
noncomputable def s2ATT x W p B C D E G H i r n t I k J K L M N c d f g h a j o q O P u y l A Q R w:=on x W R w (s1A x W p B C D E G H i r n t I k J K L M N c d f g h a j o q O P) (rt (.ref l)) [(p.n,nA W p c d f g [xC h a,xW j o q]),(a,lst u y),(l,lst A Q)] (Hx 0x41144 (.i [1] (.int (zN u.length) (w+2)) 2::Hx 0x224 (.v (.bool true)::Hx 0x4112 (.i [2] (.int (zN A.length) (w+6)) 2::.m 0::.v (.bool true)::Hx Y26 []))))
noncomputable def E_s2ATT kt W:=∀p w x y z A B i r n t C k D E G H I g h j v m a o c q J K b d l s u e f,StopIs (s2ATT kt W p w x y z A B i r n t C k D E G H I g h j v m a o c q J K b d l s u e f) [(.bool (dEq (zN s.length) p.sz),.bool true),(.bool (dEq (zN b.length) (p.sz-1)),.bool true)] [PA.eLenL l s u e (f+5),PA.eLenL a b d e (f+1)] (lfOf (oC (s2ATT kt W p 0 0 0 0 none none 0 0 p.n 0 0 0 0 [] 0 p.n 0 0 0 0 0 0 0 0 0 0 0 0 [] 0 0 [] 0 0 0)) e) 1 [(0,p.n,nA W p g h (j+c) (f+7) [xC m a,xW o c q,xS f l]),(1,a,lst b d),(2,l,lst s u),(3,e,lit a 0)]
noncomputable def LT(kt:Params→KT)(W:Wd)(p:Pr)(it:Nat):Code:=lfOf (oC (s2ATT kt W p 0 0 0 0 none none 0 0 p.n 0 0 0 0 [] 0 p.n 0 0 0 0 0 0 0 0 0 0 0 0 [] 0 0 [] 0 0 0)) it
noncomputable def s2ATF x W p B C D E G H i r n t I k J K L M N d f g h j a o q u O P c y l A Q R w:=on x W R w (s1A x W p B C D E G H i r n t I k J K L M N d f g h j a o q u O P) (rt (.ref l)) [(p.n,nA W p d f g h [xC j a,xW o q u]),(a,lst c y),(l,lst A Q)] (Hx 0x41144 (.i [1] (.int (zN c.length) (w+2)) 2::Hx 0x224 (.v (.bool true)::Hx 0x4112 (.i [2] (.int (zN A.length) (w+6)) 2::.m 0::.v (.bool false)::Hx 0x4112 (.i [1] (.int (zN c.length) (w+8)) 2::Hx 0x224 (.v (.bool false)::Hx 0x32 []))))))
noncomputable def E_s2ATF kt W:=∀p w x y z A B i r n t C k D E G H I e f g h j b m o q J K a c l s v u d,AgainIs (s2ATF kt W p w x y z A B i r n t C k D E G H I e f g h j b m o q J K a c l s v u d) [(.bool (dEq (zN a.length) (p.sz-2)),.bool false),(.bool (dEq (zN s.length) p.sz),.bool false),(.bool (dEq (zN a.length) (p.sz-1)),.bool true)] [PA.eLenL b a c u (d+7),PA.eLenL l s v u (d+5),PA.eLenL b a c u (d+1)] (LM kt W p) [(0,p.n,nA W p e f g h [xC j b,xW m o q,xS d l]),(1,b,lst a c),(2,l,lst s v)]
noncomputable def s2AFI x W p A B C D E G i r n t H k I J K L M d f g h j a o q u N O c y l P Q R w:=on x W R w (s1A x W p A B C D E G i r n t H k I J K L M d f g h j a o q u N O) (rt (.ref l)) [(p.n,nA W p d f g h [xC j a,xW o q u]),(a,lst c y),(l,lst P Q)] (Hx 0x41144 (.i [1] (.int (zN c.length) (w+2)) 2::Hx 0x224 (.v (.bool false)::Hx 0x4112 (.i [1] (.int (zN c.length) (w+6)) 2::Hx 0x224 (.v (.bool true)::Hx 0x6642 (.i [2] (.bool true) 0::[.z]))))))
noncomputable def E_s2AFI kt W:=∀p w x y z A B i r n t C k D E G H I e f g h j b m o q J K a c l u v s d,AgainIs (s2AFI kt W p w x y z A B i r n t C k D E G H I e f g h j b m o q J K a c l u v s d) [(.bool (dEq (zN a.length) (p.sz-2)),.bool true),(.bool (dEq (zN a.length) (p.sz-1)),.bool false)] [eLCon l u v 1 (d+9) true s (d+10),PA.eLenL b a c s (d+5),PA.eLenL b a c s (d+1)] (LM kt W p) [(0,p.n,nA W p e f g h [xC j b,xW m o q,xS d l]),(1,b,lst a c),(2,l,lst u v)]
noncomputable def s2AFO x W p B C D E G H i r n t I k J K L M N d f g h j a o q u O P c y l A Q R w:=on x W R w (s1A x W p B C D E G H i r n t I k J K L M N d f g h j a o q u O P) (rt (.ref l)) [(p.n,nA W p d f g h [xC j a,xW o q u]),(a,lst c y),(l,lst A Q)] (Hx 0x41144 (.i [1] (.int (zN c.length) (w+2)) 2::Hx 0x224 (.v (.bool false)::Hx 0x4112 (.i [1] (.int (zN c.length) (w+6)) 2::Hx 0x224 (.v (.bool true)::Hx 0x6642 (.i [2] (.bool false) 0::Hx 0x411 (.i [2] (.int (zN A.length) (w+11)) 2::Hx 0x3144111 [])))))))
noncomputable def E_s2AFO kt W:=∀p w x y z A B i r n t C k D E G H I f g h j m a o q s J K b c l u v e d,StopIs (s2AFO kt W p w x y z A B i r n t C k D E G H I f g h j m a o q s J K b c l u v e d) [(.bool (dEq (zN b.length) (p.sz-2)),.bool true),(.bool (dEq (zN b.length) (p.sz-1)),.bool false)] [PA.eLenL l u v e (d+10),eLCon l u v 1 (d+9) false e (d+10),PA.eLenL a b c e (d+5),PA.eLenL a b c e (d+1)] (.call (.ref 127) ⟨[.ref p.wy,.ref a,.int 1 (d+12)],[]⟩) 1 [(0,p.n,nA W p f g h j [xC m a,xW o q s,xS d l]),(1,a,lst b c),(2,l,lst u v)]
noncomputable def s2BTT x W p B C D E G H I J i r n t K k L M N O P c d f g h a j o q Q R u y l A S T w:=on x W T w (s1B x W p B C D E G H I J i r n t K k L M N O P c d f g h a j o q Q R) (rt (.ref l)) [(p.n,nA W p c d f g [xC h a,xW j o q]),(a,lst u y),(l,lst A S)] (Hx 0x41144 (.i [1] (.int (zN u.length) (w+2)) 2::Hx 0x224 (.v (.bool true)::Hx 0x4112 (.i [2] (.int (zN A.length) (w+6)) 2::.m 0::.v (.bool true)::Hx Y26 []))))
noncomputable def E_s2BTT kt W:=∀p w x y z A B C D i r n t E k G H I J K g h j v m a o c q L M b d l s u e f,StopIs (s2BTT kt W p w x y z A B C D i r n t E k G H I J K g h j v m a o c q L M b d l s u e f) [(.bool (dEq (zN s.length) p.sz),.bool true),(.bool (dEq (zN b.length) (p.sz-1)),.bool true)] [PA.eLenL l s u e (f+5),PA.eLenL a b d e (f+1)] (LT kt W p e) 1 [(0,p.n,nA W p g h (j+c) (f+7) [xC m a,xW o c q,xS f l]),(1,a,lst b d),(2,l,lst s u),(3,e,lit a 0)]
noncomputable def s2BTF x W p B C D E G H I J i r n t K k L M N O P d f g h j a o q u Q R c y l A S T w:=on x W T w (s1B x W p B C D E G H I J i r n t K k L M N O P d f g h j a o q u Q R) (rt (.ref l)) [(p.n,nA W p d f g h [xC j a,xW o q u]),(a,lst c y),(l,lst A S)] (Hx 0x41144 (.i [1] (.int (zN c.length) (w+2)) 2::Hx 0x224 (.v (.bool true)::Hx 0x4112 (.i [2] (.int (zN A.length) (w+6)) 2::.m 0::.v (.bool false)::Hx 0x4112 (.i [1] (.int (zN c.length) (w+8)) 2::Hx 0x224 (.v (.bool false)::Hx 0x32 []))))))
noncomputable def E_s2BTF kt W:=∀p w x y z A B C D i r n t E k G H I J K e f g h j b m o q L M a c l s v u d,AgainIs (s2BTF kt W p w x y z A B C D i r n t E k G H I J K e f g h j b m o q L M a c l s v u d) [(.bool (dEq (zN a.length) (p.sz-2)),.bool false),(.bool (dEq (zN s.length) p.sz),.bool false),(.bool (dEq (zN a.length) (p.sz-1)),.bool true)] [PA.eLenL b a c u (d+7),PA.eLenL l s v u (d+5),PA.eLenL b a c u (d+1)] (LM kt W p) [(0,p.n,nA W p e f g h [xC j b,xW m o q,xS d l]),(1,b,lst a c),(2,l,lst s v)]
noncomputable def s2BFI x W p A B C D E G H I i r n t J k K L M N O d f g h j a o q u P Q c y l R S T w:=on x W T w (s1B x W p A B C D E G H I i r n t J k K L M N O d f g h j a o q u P Q) (rt (.ref l)) [(p.n,nA W p d f g h [xC j a,xW o q u]),(a,lst c y),(l,lst R S)] (Hx 0x41144 (.i [1] (.int (zN c.length) (w+2)) 2::Hx 0x224 (.v (.bool false)::Hx 0x4112 (.i [1] (.int (zN c.length) (w+6)) 2::Hx 0x224 (.v (.bool true)::Hx 0x6642 (.i [2] (.bool true) 0::[.z]))))))
noncomputable def E_s2BFI kt W:=∀p w x y z A B C D i r n t E k G H I J K e f g h j b m o q L M a c l u v s d,AgainIs (s2BFI kt W p w x y z A B C D i r n t E k G H I J K e f g h j b m o q L M a c l u v s d) [(.bool (dEq (zN a.length) (p.sz-2)),.bool true),(.bool (dEq (zN a.length) (p.sz-1)),.bool false)] [eLCon l u v 1 (d+9) true s (d+10),PA.eLenL b a c s (d+5),PA.eLenL b a c s (d+1)] (LM kt W p) [(0,p.n,nA W p e f g h [xC j b,xW m o q,xS d l]),(1,b,lst a c),(2,l,lst u v)]
noncomputable def s2BFO x W p B C D E G H I J i r n t K k L M N O P d f g h j a o q u Q R c y l A S T w:=on x W T w (s1B x W p B C D E G H I J i r n t K k L M N O P d f g h j a o q u Q R) (rt (.ref l)) [(p.n,nA W p d f g h [xC j a,xW o q u]),(a,lst c y),(l,lst A S)] (Hx 0x41144 (.i [1] (.int (zN c.length) (w+2)) 2::Hx 0x224 (.v (.bool false)::Hx 0x4112 (.i [1] (.int (zN c.length) (w+6)) 2::Hx 0x224 (.v (.bool true)::Hx 0x6642 (.i [2] (.bool false) 0::Hx 0x411 (.i [2] (.int (zN A.length) (w+11)) 2::Hx 0x3144111 [])))))))
noncomputable def E_s2BFO kt W:=∀p w x y z A B C D i r n t E k G H I J K f g h j m a o q s L M b c l u v e d,StopIs (s2BFO kt W p w x y z A B C D i r n t E k G H I J K f g h j m a o q s L M b c l u v e d) [(.bool (dEq (zN b.length) (p.sz-2)),.bool true),(.bool (dEq (zN b.length) (p.sz-1)),.bool false)] [PA.eLenL l u v e (d+10),eLCon l u v 1 (d+9) false e (d+10),PA.eLenL a b c e (d+5),PA.eLenL a b c e (d+1)] (.call (.ref 127) ⟨[.ref p.wy,.ref a,.int 1 (d+12)],[]⟩) 1 [(0,p.n,nA W p f g h j [xC m a,xW o q s,xS d l]),(1,a,lst b c),(2,l,lst u v)]
noncomputable def s2CTT A W p D E G H I J K L M N O P Q i r n t R k S T U V X c d f g h a j o q u w Y Z x B l C es n4 y:=on A W n4 y (s1C A W p D E G H I J K L M N O P Q i r n t R k S T U V X c d f g h a j o q u w Y Z) (rt (.ref l)) [(p.n,nA W p c d f g [xC h a,xW j o q,xS u w]),(a,lst x B),(l,lst C es)] (Hx 0x41144 (.i [1] (.int (zN x.length) (y+2)) 2::Hx 0x224 (.v (.bool true)::Hx 0x4112 (.i [2] (.int (zN C.length) (y+6)) 2::.m 0::.v (.bool true)::Hx Y26 []))))
noncomputable def E_s2CTT kt W:=∀p y z A B C D E G H I J K L i r n t M k N O P Q R f g h w j a m c o q x S T b d l s v e u,StopIs (s2CTT kt W p y z A B C D E G H I J K L i r n t M k N O P Q R f g h w j a m c o q x S T b d l s v e u) [(.bool (dEq (zN s.length) p.sz),.bool true),(.bool (dEq (zN b.length) (p.sz-1)),.bool true)] [PA.eLenL l s v e (u+5),PA.eLenL a b d e (u+1)] (LT kt W p e) 1 [(0,p.n,nA W p f g (h+c) (u+7) [xC j a,xW m c o,xS q l]),(1,a,lst b d),(2,l,lst s v),(3,e,lit a 0)]
noncomputable def s2CTF A W p D E G H I J K L M N O P Q i r n t R k S T U V X d f g h j a o q u w x Y Z c B l C es n4 y:=on A W n4 y (s1C A W p D E G H I J K L M N O P Q i r n t R k S T U V X d f g h j a o q u w x Y Z) (rt (.ref l)) [(p.n,nA W p d f g h [xC j a,xW o q u,xS w x]),(a,lst c B),(l,lst C es)] (Hx 0x41144 (.i [1] (.int (zN c.length) (y+2)) 2::Hx 0x224 (.v (.bool true)::Hx 0x4112 (.i [2] (.int (zN C.length) (y+6)) 2::.m 0::.v (.bool false)::Hx 0x4112 (.i [1] (.int (zN c.length) (y+8)) 2::Hx 0x224 (.v (.bool false)::Hx 0x32 []))))))
noncomputable def E_s2CTF kt W:=∀p y z A B C D E G H I J K L i r n t M k N O P Q R d e f g h b j m o q x S T a c l s w u v,AgainIs (s2CTF kt W p y z A B C D E G H I J K L i r n t M k N O P Q R d e f g h b j m o q x S T a c l s w u v) [(.bool (dEq (zN a.length) (p.sz-2)),.bool false),(.bool (dEq (zN s.length) p.sz),.bool false),(.bool (dEq (zN a.length) (p.sz-1)),.bool true)] [PA.eLenL b a c u (v+7),PA.eLenL l s w u (v+5),PA.eLenL b a c u (v+1)] (LM kt W p) [(0,p.n,nA W p d e f g [xC h b,xW j m o,xS q l]),(1,b,lst a c),(2,l,lst s w)]
noncomputable def s2CFI A W p C D E G H I J K L M N O P i r n t Q k R S T U V d f g h j a o q u w x X Y c B l Z es n4 y:=on A W n4 y (s1C A W p C D E G H I J K L M N O P i r n t Q k R S T U V d f g h j a o q u w x X Y) (rt (.ref l)) [(p.n,nA W p d f g h [xC j a,xW o q u,xS w x]),(a,lst c B),(l,lst Z es)] (Hx 0x41144 (.i [1] (.int (zN c.length) (y+2)) 2::Hx 0x224 (.v (.bool false)::Hx 0x4112 (.i [1] (.int (zN c.length) (y+6)) 2::Hx 0x224 (.v (.bool true)::Hx 0x6642 (.i [2] (.bool true) 0::[.z]))))))
noncomputable def E_s2CFI kt W:=∀p y z A B C D E G H I J K L i r n t M k N O P Q R e f g h j b m o q s x S T a c l v w u d,AgainIs (s2CFI kt W p y z A B C D E G H I J K L i r n t M k N O P Q R e f g h j b m o q s x S T a c l v w u d) [(.bool (dEq (zN a.length) (p.sz-2)),.bool true),(.bool (dEq (zN a.length) (p.sz-1)),.bool false)] [eLCon l v w 1 (d+9) true u (d+10),PA.eLenL b a c u (d+5),PA.eLenL b a c u (d+1)] (LM kt W p) [(0,p.n,nA W p e f g h [xC j b,xW m o q,xS s l]),(1,b,lst a c),(2,l,lst v w)]
noncomputable def s2CFO A W p D E G H I J K L M N O P Q i r n t R k S T U V X d f g h j a o q u w x Y Z c B l C es n4 y:=on A W n4 y (s1C A W p D E G H I J K L M N O P Q i r n t R k S T U V X d f g h j a o q u w x Y Z) (rt (.ref l)) [(p.n,nA W p d f g h [xC j a,xW o q u,xS w x]),(a,lst c B),(l,lst C es)] (Hx 0x41144 (.i [1] (.int (zN c.length) (y+2)) 2::Hx 0x224 (.v (.bool false)::Hx 0x4112 (.i [1] (.int (zN c.length) (y+6)) 2::Hx 0x224 (.v (.bool true)::Hx 0x6642 (.i [2] (.bool false) 0::Hx 0x411 (.i [2] (.int (zN C.length) (y+11)) 2::Hx 0x3144111 [])))))))
noncomputable def E_s2CFO kt W:=∀p y z A B C D E G H I J K L i r n t M k N O P Q R f g h j m a o q s u x S T b c l v w e d,StopIs (s2CFO kt W p y z A B C D E G H I J K L i r n t M k N O P Q R f g h j m a o q s u x S T b c l v w e d) [(.bool (dEq (zN b.length) (p.sz-2)),.bool true),(.bool (dEq (zN b.length) (p.sz-1)),.bool false)] [PA.eLenL l v w e (d+10),eLCon l v w 1 (d+9) false e (d+10),PA.eLenL a b c e (d+5),PA.eLenL a b c e (d+1)] (.call (.ref 127) ⟨[.ref p.wy,.ref a,.int 1 (d+12)],[]⟩) 1 [(0,p.n,nA W p f g h j [xC m a,xW o q s,xS u l]),(1,a,lst b c),(2,l,lst v w)]
noncomputable def s3AT u W p D E G H I J i r n t K k L M N O P a b c d f g h j o Q R w x l S T U y A q B V C:=on u W V C (s2AFO u W p D E G H I J i r n t K k L M N O P a b c d f g h j o Q R w x l S T U y) (rt (.ref A)) [(p.n,nA W p a b c d [xC f g,xW h j o,xS y l]),(A,lst q B)] (.i [1] (.int (zN q.length) (C+1)) 2::Hx 0x422 (.v (.bool true)::Hx 0x34422442 []))
noncomputable def E_s3AT kt W:=∀p z A B C D E i r n t G k H I J K L d s e f g h j b m M N u v l w O P x o a c y q,AgainIs (s3AT kt W p z A B C D E i r n t G k H I J K L d s e f g h j b m M N u v l w O P x o a c y q) [(.bool (dEq (zN w.length+zN a.length) p.sz),.bool true)] [PA.eLenL o a c y q] (LM kt W p) [(0,p.n,nA W p (d+b) (q+3) e f [xC g h,xW j b m,xS x l]),(1,o,lst a c)]
noncomputable def s3AF u W p D E G H I J i r n t K k L M N O P a b c d f g h j o Q R w x l S T U y A q B V C:=on u W V C (s2AFO u W p D E G H I J i r n t K k L M N O P a b c d f g h j o Q R w x l S T U y) (rt (.ref A)) [(p.n,nA W p a b c d [xC f g,xW h j o,xS y l]),(A,lst q B)] (.i [1] (.int (zN q.length) (C+1)) 2::Hx 0x422 (.v (.bool false)::Hx 0x32 []))
noncomputable def E_s3AF kt W:=∀p z A B C D E i r n t G k H I J K L c d e f g h j m o M N s u l v O P w q a b x y,AgainIs (s3AF kt W p z A B C D E i r n t G k H I J K L c d e f g h j m o M N s u l v O P w q a b x y) [(.bool (dEq (zN v.length+zN a.length) p.sz),.bool false)] [PA.eLenL q a b x y] (LM kt W p) [(0,p.n,nA W p c d e f [xC g h,xW j m o,xS w l]),(1,q,lst a b)]
noncomputable def s3BT u W p D E G H I J K L i r n t M k N O P Q R a b c d f g h j o S T w x l U V X y A q B Y C:=on u W Y C (s2BFO u W p D E G H I J K L i r n t M k N O P Q R a b c d f g h j o S T w x l U V X y) (rt (.ref A)) [(p.n,nA W p a b c d [xC f g,xW h j o,xS y l]),(A,lst q B)] (.i [1] (.int (zN q.length) (C+1)) 2::Hx 0x422 (.v (.bool true)::Hx 0x34422442 []))
noncomputable def E_s3BT kt W:=∀p z A B C D E G H i r n t I k J K L M N d s e f g h j b m O P u v l w Q R x o a c y q,AgainIs (s3BT kt W p z A B C D E G H i r n t I k J K L M N d s e f g h j b m O P u v l w Q R x o a c y q) [(.bool (dEq (zN w.length+zN a.length) p.sz),.bool true)] [PA.eLenL o a c y q] (LM kt W p) [(0,p.n,nA W p (d+b) (q+3) e f [xC g h,xW j b m,xS x l]),(1,o,lst a c)]
noncomputable def s3BF u W p D E G H I J K L i r n t M k N O P Q R a b c d f g h j o S T w x l U V X y A q B Y C:=on u W Y C (s2BFO u W p D E G H I J K L i r n t M k N O P Q R a b c d f g h j o S T w x l U V X y) (rt (.ref A)) [(p.n,nA W p a b c d [xC f g,xW h j o,xS y l]),(A,lst q B)] (.i [1] (.int (zN q.length) (C+1)) 2::Hx 0x422 (.v (.bool false)::Hx 0x32 []))
noncomputable def E_s3BF kt W:=∀p z A B C D E G H i r n t I k J K L M N c d e f g h j m o O P s u l v Q R w q a b x y,AgainIs (s3BF kt W p z A B C D E G H i r n t I k J K L M N c d e f g h j m o O P s u l v Q R w q a b x y) [(.bool (dEq (zN v.length+zN a.length) p.sz),.bool false)] [PA.eLenL q a b x y] (LM kt W p) [(0,p.n,nA W p c d e f [xC g h,xW j m o,xS w l]),(1,q,lst a b)]
noncomputable def s3CT w W p E G H I J K L M N O P Q R i r n t S k T U V X Y a b c d f g h j o q x Z t3 y A l sv es n4 t4 B u C n5 D:=on w W n5 D (s2CFO w W p E G H I J K L M N O P Q R i r n t S k T U V X Y a b c d f g h j o q x Z t3 y A l sv es n4 t4) (rt (.ref B)) [(p.n,nA W p a b c d [xC f g,xW h j o,xS q l]),(B,lst u C)] (.i [1] (.int (zN u.length) (D+1)) 2::Hx 0x422 (.v (.bool true)::Hx 0x34422442 []))
noncomputable def E_s3CT kt W:=∀p A B C D E G H I J K L M N i r n t O k P Q R S T d u e f g h j b m o v U V w x l y X Y Z q a c z s,AgainIs (s3CT kt W p A B C D E G H I J K L M N i r n t O k P Q R S T d u e f g h j b m o v U V w x l y X Y Z q a c z s) [(.bool (dEq (zN y.length+zN a.length) p.sz),.bool true)] [PA.eLenL q a c z s] (LM kt W p) [(0,p.n,nA W p (d+b) (s+3) e f [xC g h,xW j b m,xS o l]),(1,q,lst a c)]
noncomputable def s3CF w W p E G H I J K L M N O P Q R i r n t S k T U V X Y a b c d f g h j o q x Z t3 y A l sv es n4 t4 B u C n5 D:=on w W n5 D (s2CFO w W p E G H I J K L M N O P Q R i r n t S k T U V X Y a b c d f g h j o q x Z t3 y A l sv es n4 t4) (rt (.ref B)) [(p.n,nA W p a b c d [xC f g,xW h j o,xS q l]),(B,lst u C)] (.i [1] (.int (zN u.length) (D+1)) 2::Hx 0x422 (.v (.bool false)::Hx 0x32 []))
noncomputable def E_s3CF kt W:=∀p A B C D E G H I J K L M N i r n t O k P Q R S T c d e f g h j m o q u U V v w l x X Y Z s a b y z,AgainIs (s3CF kt W p A B C D E G H I J K L M N i r n t O k P Q R S T c d e f g h j m o q u U V v w l x X Y Z s a b y z) [(.bool (dEq (zN x.length+zN a.length) p.sz),.bool false)] [PA.eLenL s a b y z] (LM kt W p) [(0,p.n,nA W p c d e f [xC g h,xW j m o,xS q l]),(1,s,lst a b)]
noncomputable def l3 c W p f g h k l a o q r u v w d i x y j A n t:=startC (S1 c W n t 60) (LT c W p d) (.own []) [(p.n,nA W p f g h k [xC l a,xW o q r,xS u v]),(p.n+2,cel w),(d,lit a i),(a,lst x y)] (.m 2::.u [3] 2 (lit a (i+1)) (.int j A) 0::Hx 0x382727744155 [])
noncomputable def E_l3 kt W:=∀p f g h k l a m o q r s u b i c d j e n t,StopIs (l3 kt W p f g h k l a m o q r s u b i c d j e n t) [] [eLNext b a c d i (.int j e) n t] (oC (l3 kt W p f g h k l a m o q r s u b i c d j e n t)) 1 [(0,p.n,nA W p f g h k [xC l a,xW m o q,xS r s]),(1,p.n+2,cel (some (.int j e))),(2,b,lit a (i+1)),(3,a,lst c d),(4,n,lit a 0),(5,n+1,lst [] 0),(6,n+2,frd W.w.params [])]
noncomputable def E_l3c kt W:=∀p f g h k l a m o q r s u b i c d j e n t,oC (l3 kt W p f g h k l a m o q r s u b i c d j e n t)=oC (l3 kt W p 0 0 0 0 0 0 0 0 0 0 0 none 0 0 [] 0 0 0 n 0)
noncomputable def JS(kt:Params→KT)(W:Wd)(p:Pr)(n:Nat):Code:=oC (l3 kt W p 0 0 0 0 0 0 0 0 0 0 0 none 0 0 [] 0 0 0 n 0)
noncomputable def JL(kt:Params→KT)(W:Wd)(p:Pr)(n:Nat):Code:=klOf (JS kt W p n)
noncomputable def j0 a W p m b n t:=startC (S1 a W n t 60) (JS a W p m) (.own []) [(m,lit b 0)] (match W.b2 with|true=>[.z]|false=>(Hx Y17 []))
noncomputable def E_j0 kt W:=∀p m a n t,AgainIs (j0 kt W p m a n t) [] [] (JL kt W p m) [(0,m,lit a 0)]
noncomputable def jAT b W p m f g a h k i j c d e n t:=startC (S1 b W n t 60) (JL b W p m) (.own []) [(p.n+2,cel (some (.int f g))),(m,lit a i),(a,lst h k),(m+1,lst d e),(m+2,frd W.w.params [])] (.m 1::.u [2] 1 (lit a (i+1)) (.int j c) 0::Hx 0x4888 (.v (.bool true)::Hx 0x82 (.u [] 3 (lst (d++[.int j c]) (e+1)) .none 0::[.z])))
noncomputable def E_jAT kt W:=∀p m c h b d f i j a g e n t,AgainIs (jAT kt W p m c h b d f i j a g e n t) [(.bool (!(dEq j c)),.bool true)] [SQ.eApp (m+1) g e (.int j a) n (t+1),eLNext m b d f i (.int j a) n t] (JL kt W p m) [(0,p.n+2,cel (some (.int c h))),(1,m,lit b (i+1)),(2,b,lst d f),(3,m+1,lst (g++[.int j a]) (e+1)),(4,m+2,frd W.w.params [(⟨⟨[109]⟩⟩,t,.int j a)])]
noncomputable def jAF b W p m c d a f g i j h k e n t:=startC (S1 b W n t 60) (JL b W p m) (.own []) [(p.n+2,cel (some (.int c d))),(m,lit a i),(a,lst f g),(m+1,lst k e),(m+2,frd W.w.params [])] (.m 1::.u [2] 1 (lit a (i+1)) (.int j h) 0::Hx 0x4888 (.v (.bool false)::Hx 0x32 []))
noncomputable def E_jAF kt W:=∀p m b g a c d i j f h e n t,AgainIs (jAF kt W p m b g a c d i j f h e n t) [(.bool (!(dEq j b)),.bool false)] [eLNext m a c d i (.int j f) n t] (JL kt W p m) [(0,p.n+2,cel (some (.int b g))),(1,m,lit a (i+1)),(2,a,lst c d),(3,m+1,lst h e),(4,m+2,frd W.w.params [(⟨⟨[109]⟩⟩,t,.int j f)])]
noncomputable def jBT b W p m f g a h l i o k q j c d e n t:=startC (S1 b W n t 60) (JL b W p m) (.own []) [(p.n+2,cel (some (.int f g))),(m,lit a i),(a,lst h l),(m+1,lst d e),(m+2,frd W.w.params [(⟨⟨[109]⟩⟩,o,.int k q)])] (.m 1::.u [2] 1 (lit a (i+1)) (.int j c) 0::Hx 0x4888 (.v (.bool true)::Hx 0x82 (.u [] 3 (lst (d++[.int j c]) (e+1)) .none 0::[.z])))
noncomputable def E_jBT kt W:=∀p m c h b d f i l k o j a g e n t,AgainIs (jBT kt W p m c h b d f i l k o j a g e n t) [(.bool (!(dEq j c)),.bool true)] [SQ.eApp (m+1) g e (.int j a) n (t+1),eLNext m b d f i (.int j a) n t] (JL kt W p m) [(0,p.n+2,cel (some (.int c h))),(1,m,lit b (i+1)),(2,b,lst d f),(3,m+1,lst (g++[.int j a]) (e+1)),(4,m+2,frd W.w.params [(⟨⟨[109]⟩⟩,l,.int j a)])]
noncomputable def jBF b W p m c d a f g i h k l j o q e n t:=startC (S1 b W n t 60) (JL b W p m) (.own []) [(p.n+2,cel (some (.int c d))),(m,lit a i),(a,lst f g),(m+1,lst q e),(m+2,frd W.w.params [(⟨⟨[109]⟩⟩,h,.int k l)])] (.m 1::.u [2] 1 (lit a (i+1)) (.int j o) 0::Hx 0x4888 (.v (.bool false)::Hx 0x32 []))
noncomputable def E_jBF kt W:=∀p m b g a c d i h k o j f l e n t,AgainIs (jBF kt W p m b g a c d i h k o j f l e n t) [(.bool (!(dEq j b)),.bool false)] [eLNext m a c d i (.int j f) n t] (JL kt W p m) [(0,p.n+2,cel (some (.int b g))),(1,m,lit a (i+1)),(2,a,lst c d),(3,m+1,lst l e),(4,m+2,frd W.w.params [(⟨⟨[109]⟩⟩,h,.int j f)])]
noncomputable def jE a W p m b c d i n t:=startC (S1 a W n t 60) (JL a W p m) (.own []) [(m,lit b i),(b,lst c d)] [.m 0,.e [1] (some (0,litE i)) [tup [],G.stopIt n] (.error (.ref (n+1))) 0,.m 3]
noncomputable def E_jE kt W:=∀p m a b c i n t,RetIs (jE kt W p m a b c i n t) [] [eLEnd m a b c i n t] (.ok .next) [(0,m,litE i),(1,a,lst b c)]
noncomputable def s4 a W p c d e f g h l o q r s u v i x y j A n t B k C D E:=on a W D E (l3 a W p c d e f g h l o q r s u v i x y j A n t) (.ok .next) [(p.n,nA W p c d e f [xC g h,xW l o q,xS r s]),(n+2,frd W.w.params [(⟨⟨[109]⟩⟩,B,.int k C)])] (Hx 0x31555 [])
noncomputable def E_s4 kt W:=∀p a b c d e f g h l m o r s i u v j w n t x k y z q,StopIs (s4 kt W p a b c d e f g h l m o r s i u v j w n t x k y z q) [] [] (.call (.ref 127) ⟨[.ref p.wy,.ref (n+1),.int 0 q],[]⟩) 1 [(0,p.n,nA W p a b c d [xC e f,xW g h l,xS m o])]
noncomputable def s5in a W p b c d f g h o q r s u v w i x y j A n t B k C D E l G H I J:=on a W I J (s4 a W p b c d f g h o q r s u v w i x y j A n t B k C D E) (rt (.ref l)) [(p.n,nA W p b c d f [xC g h,xW o q r,xS s u]),(l,lst G H)] (Hx 0x55 (.i [1] (.bool true) 0::[.z]))
noncomputable def E_s5in kt W:=∀p c d e f g h m o q r s x u i y z j A n t B k C D E l a b v w,AgainIs (s5in kt W p c d e f g h m o q r s x u i y z j A n t B k C D E l a b v w) [] [eLCon l a b 1 t true v w] (LT kt W p u) [(0,p.n,nA W p c d e f [xC g h,xW m o q,xS r s]),(1,l,lst a b)]
noncomputable def s5out b W p c d f g h o q a r u v C D i E G j H n t I k J K L w M l N O y A x P Q B:=on b W Q B (s4 b W p c d f g h o q a r u v C D i E G j H n t I k J K L) (rt (.ref l)) [(p.n,nA W p c d f g [xC h o,xW q a r,xS u v]),(p.n+2,cel (some (.int w M))),(l,lst N O),(p.n+3,lst y A)] (Hx 0x66 (.i [2] (.bool false) 0::Hx 0x7754 (.i [3] (.int x P) 0::Hx 0x77224 (.u [] 3 (lst (y.set w.toNat (.int (x+a) B)) A) .none 0::[.z]))))
noncomputable def E_s5out kt W:=∀p o q r s u v w c y z A D B i E G j H n t I k J K L b d l h m e f x C g a,AgainIs (s5out kt W p o q r s u v w c y z A D B i E G j H n t I k J K L b d l h m e f x C g a) [] [eSet (p.n+3) e f b d (.int (x+c) a) g (a+1),PA.eGet (p.n+3) e f b d (.int x C) g a,eLCon l h m 1 t false g a] (LT kt W p B) [(0,p.n,nA W p o q r s [xC u v,xW w c y,xS z A]),(1,p.n+2,cel (some (.int b d))),(2,l,lst h m),(3,p.n+3,lst (e.set b.toNat (.int (x+c) a)) f)]
noncomputable def lE a W p b i c d f n t:=startC (S1 a W n t 60) (LT a W p b) (.own []) [(b,lit c i),(c,lst d f)] (.m 0::.e [1] (some (0,litE i)) [tup [],G.stopIt n] (.error (.ref (n+1))) 0::Hx 0x27 [])
noncomputable def E_lE kt W:=∀p a i b c d n t,RetIs (lE kt W p a i b c d n t) [] [eLEnd a b c d i n t] (.ok .next) [(0,a,litE i),(1,b,lst c d)]
noncomputable def s6A a W p s u v w x y i r n t A k B C D E G b c d e f g h j m H I o q l J K L M N O:=on a W N O (s2ATT a W p s u v w x y i r n t A k B C D E G b c d e f g h j m H I o q l J K L M) (.ok .next) [] [.z]
noncomputable def E_s6A kt W:=∀p q s u v w x i r n t y k z A B C D a b c d e f g h j E G m o l H I J K L M,AgainIs (s6A kt W p q s u v w x i r n t y k z A B C D a b c d e f g h j E G m o l H I J K L M) [] [] (LM kt W p) []
noncomputable def s6B a W p s u v w x y A B i r n t C k D E G H I b c d e f g h j m J K o q l L M N O P Q:=on a W P Q (s2BTT a W p s u v w x y A B i r n t C k D E G H I b c d e f g h j m J K o q l L M N O) (.ok .next) [] [.z]
noncomputable def E_s6B kt W:=∀p q s u v w x y z i r n t A k B C D E G a b c d e f g h j H I m o l J K L M N O,AgainIs (s6B kt W p q s u v w x y z i r n t A k B C D E G a b c d e f g h j H I m o l J K L M N O) [] [] (LM kt W p) []
noncomputable def s6C a W p v w x y A B C D E G H I J i r n t K k L M N O P b c d e f g h j m o q Q R s u l S T U V X Y:=on a W X Y (s2CTT a W p v w x y A B C D E G H I J i r n t K k L M N O P b c d e f g h j m o q Q R s u l S T U V) (.ok .next) [] [.z]
noncomputable def E_s6C kt W:=∀p u v w x y z A B C D E G H i r n t I k J K L M N a b c d e f g h j m o O P q s l Q R S T U V,AgainIs (s6C kt W p u v w x y z A B C D E G H i r n t I k J K L M N a b c d e f g h j m o O P q s l Q R S T U V) [] [] (LM kt W p) []
noncomputable def mE a W p n t:=startC (S1 a W n t 60) (LM a W p) (.own []) [(p.n+5,rgi 16 0 1)] (Hx 0x264442424 [])
noncomputable def E_mE kt W:=∀p n t,RetIs (mE kt W p n t) [] [] (.ok .next) [(0,p.n+5,rgi 16 0 1)]
noncomputable def zA a W p b c d e n t:=on a W n t (a0 a W p) (.ok .next) [(p.n,nA W p b c d e [])] [.m 0,.m 0,.m 0]
noncomputable def E_zA kt W:=∀p a b c d n t,RetIs (zA kt W p a b c d n t) [] [] (.ok (.ret (.ref n))) [(1,n,tup [.int a b,.int c d,.ref (p.n+3)])]
noncomputable def zB a W p b c d e f g n t:=on a W n t (a0 a W p) (.ok .next) [(p.n,nA W p b c d e [xC f g])] [.m 0,.m 0,.m 0]
noncomputable def E_zB kt W:=∀p a b c d e f n t,RetIs (zB kt W p a b c d e f n t) [] [] (.ok (.ret (.ref n))) [(1,n,tup [.int a b,.int c d,.ref (p.n+3)])]
noncomputable def zC a W p b c d e f g h i j k l n t:=on a W n t (a0 a W p) (.ok .next) [(p.n,nA W p b c d e [xC f g,xW h i j,xS k l])] [.m 0,.m 0,.m 0]
noncomputable def E_zC kt W:=∀p a b c d e f g h i j k n t,RetIs (zC kt W p a b c d e f g h i j k n t) [] [] (.ok (.ret (.ref n))) [(1,n,tup [.int a b,.int c d,.ref (p.n+3)])]
noncomputable def LC:List ((Params→KT)→Wd→Prop):=E_s3AT::E_s3AF::E_s3BT::E_s3BF::E_s3CT::E_s3CF::E_l3::E_l3c::E_j0::E_jAT::E_jAF::E_jBT::E_jBF::E_jE::E_s4::E_s5in::E_s5out::E_lE::E_s6A::E_s6B::E_s6C::E_mE::E_zA::E_zB::E_zC::[]
noncomputable def LB:List ((Params→KT)→Wd→Prop):=E_s1A::E_s1B::E_s1C::E_s2ATT::E_s2ATF::E_s2AFI::E_s2AFO::E_s2BTT::E_s2BTF::E_s2BFI::E_s2BFO::E_s2CTT::E_s2CTF::E_s2CFI::E_s2CFO::LC
noncomputable def LA:List ((Params→KT)→Wd→Prop):=E_a0::E_m1A::E_m1Ac::E_m1B::E_m1C::E_q0::E_qA1::E_qA0::E_qB1::E_qB0::E_qE::E_m2AF::E_m2AT::E_m2BF::E_m2BT::E_m2CF::E_m2CT::E_wDin::E_wDout::E_wCin::E_wCout::E_wE::LB
abbrev Evs:=nF LA
end TR
theorem Fut.join{s0 s s':Shared}(f:Fut [] [] s0 s)(F:Fut L [] s s')(h:∀a∈L,s0.heap.objs.size≤a∨s'.heap.get? a=s.heap.get? a):Fut [] [] s0 s' :=
 ⟨fun a o e q=>by
  have e':=f.keep a o e q
  by_cases z:a∈L
  ·rcases h a z with y|y
   ·exact absurd (Heap.lt_size e) (Nat.not_lt.mpr y)
   ·rw[y]; exact e'
  ·exact F.keep a o e' z,nT f.size F.size,fun g x e q=>F.gens g x (f.gens g x e q) q,nT f.gsz F.gsz,fun x=>F.bare (f.bare x),F.d.trans f.d,F.os.trans f.os⟩
theorem Fut.over{s0 s s':Shared}{L L':List Addr}(f:Fut [] [] s0 s)(F:Fut L [] s s')(h:∀a∈L,a∈L'∨s0.heap.objs.size≤a):Fut L' [] s0 s' :=
 ⟨fun a o e q=>F.keep a o (f.keep a o e (fun h=>nomatch h)) fun z=>(h a z).elim q fun y=>absurd (Heap.lt_size e) (Nat.not_lt.mpr y),nT f.size F.size,fun g x e q=>F.gens g x (f.gens g x e q) q,nT f.gsz F.gsz,fun x=>F.bare (f.bare x),F.d.trans f.d,F.os.trans f.os⟩
theorem Cur.of2(B:Base kt W s.heap)(own:∀p∈M,s.heap.get? p.1=some p.2)(nd:List.Nodup (α:=Nat) (M.map (·.1)))(off:∀p∈M,160≤p.1):Cur kt W s (ks M) [] s M :=
 Cur.of B own nd fun p hp=>.inl (off p hp)
theorem fap{α:Type}{P:α→Prop}{A B:List α}(h1:∀x∈A,P x)(h2:∀x∈B,P x):∀x∈A++B,P x:=fun x hx=>(mpp.mp hx).elim (h1 x) (h2 x)
theorem Cur.pre{s0 s:Shared}{G:List Nat}{M A T:Mem1}(C:Cur kt W s0 L G s M)(h:A++T=M):∀q∈A,s.heap.get? q.1=some q.2:=fun q hq=>C.own q (h▸List.mem_append_left T hq)
theorem fut_own{A:Mem1}{G:List Nat}(K:Fut [] G s s')(h:∀q∈A,s.heap.get? q.1=some q.2):∀q∈A,s'.heap.get? q.1=some q.2:=fun q hq=>K.keep _ _ (h q hq) (fun z=>nomatch z)
theorem eff_and{e:Eff}{a b:Int}{t u:Tok}(hc:e.c=.call (.builtin "int.__and__") ⟨[.int a t,.int b u],[]⟩)(hi:IsI e (Builtin.bitAnd a b)):e.Ok prog w :=
 eff_intop hi hc slot_int_and entry_int_and (args_int_and _ _) fun A E s Q hQ=>by
  show wpAny _ _ (do ret (←mkInt (Builtin.bitAnd a b))) _ _ s
  exact wpAny_bind (wpAny_mkInt (wpAny_pure hQ))
namespace TR
theorem bit_and:∀mask,mask<16→∀j,j<4→Builtin.bitAnd (Int.fdiv (zN mask) (2 ^ (zN j).toNat)) 1=if mask.testBit j then 1 else 0:=by decide +kernel
set_option genCtorIdx true in
inductive Fs where
 | A
 | B (tc ch:Nat)
 | C (tc ch tw:Nat) (wg:Int) (uw tz se:Nat)
noncomputable def frO(W:Wd)(p:Pr)(pa:Int)(ua:Nat)(tr:Int)(ut:Nat):Fs→Obj
 | .A=>nA W p pa ua tr ut []
 | .B tc ch=>nA W p pa ua tr ut [xC tc ch]
 | .C tc ch tw wg uw tz se=>nA W p pa ua tr ut [xC tc ch,xW tw wg uw,xS tz se]
noncomputable def frJ(W:Wd):Option (Nat×Int×Nat)→Obj
 | none=>frd W.w.params []
 | some (k0,k,tk)=>frd W.w.params [(⟨⟨[109]⟩⟩,k0,.int k tk)]
section
theorem t_q(E:Evs kt)(p:Pr)(m:Nat)(c1:Int)(u1:Nat)(st:Option (Nat×Int×Nat))(j r:Int)(vs:List Value)(e:Nat)(q:Int)(n t:Nat):
  (∃hs k0,AgainIs (startC (S1 kt W n t 60) (KL kt W p m) (.own []) [(p.n+1,cel (some (.int c1 u1))),(m+1,rgi j r 1),(m+2,lst vs e),(m+3,frK W st)] hs) [] [SQ.eApp (m+2) vs e (.int j t) n (t+5),eInt "int.__and__" [.int q (t+2),.int 1 (t+3)] 1 n (t+4),eInt "int.__rshift__" [.int c1 u1,.int j t] q n (t+2),eRNx (m+1) j r n t] (KL kt W p m)
   [(0,p.n+1,cel (some (.int c1 u1))),(1,m+1,rgi (j+1) (r-1) 1),(2,m+2,lst (vs++[.int j t]) (e+1)),(3,m+3,frK W (some (k0,j,t)))]) ∧
  (∃hs k0,AgainIs (startC (S1 kt W n t 60) (KL kt W p m) (.own []) [(p.n+1,cel (some (.int c1 u1))),(m+1,rgi j r 1),(m+2,lst vs e),(m+3,frK W st)] hs) [] [eInt "int.__and__" [.int q (t+2),.int 1 (t+3)] 0 n (t+4),eInt "int.__rshift__" [.int c1 u1,.int j t] q n (t+2),eRNx (m+1) j r n t] (KL kt W p m)
   [(0,p.n+1,cel (some (.int c1 u1))),(1,m+1,rgi (j+1) (r-1) 1),(2,m+2,lst vs e),(3,m+3,frK W (some (k0,j,t)))]):=by
 cases st with
 | none=>exact⟨⟨_,_,E 6 W p m c1 u1 j r vs e q n t⟩,⟨_,_,E 7 W p m c1 u1 j r vs e q n t⟩⟩
 | some z =>
  obtain⟨k0,k,tk⟩:=z
  exact⟨⟨_,_,E 8 W p m c1 u1 k0 k tk j r vs e q n t⟩,⟨_,_,E 9 W p m c1 u1 k0 k tk j r vs e q n t⟩⟩
theorem nextOk{it j r:Nat}{n t:Nat}:(eRNx it (zN j) (zN (r+1)) n t).Ok prog w:=eff_range_next rfl Z0 (by show(0:Int)<((r+1:Nat):Int); omega) rfl rfl rfl rfl
theorem left1(r:Nat):(zN (r+1)-1:Int)=zN r:=by show((r+1:Nat):Int)-1=(r:Int); omega
noncomputable def bitsFrom(mask:Nat):Nat→Nat→List Nat
 | _,0=>[]
 | j,r+1=>if mask.testBit j then j::bitsFrom mask (j+1) r else bitsFrom mask (j+1) r
theorem bitsFrom_t{mask j r:Nat}(h:mask.testBit j=true):bitsFrom mask j (r+1)=j::bitsFrom mask (j+1) r:=if_pos h
theorem bitsFrom_f{mask j r:Nat}(h:mask.testBit j=false):bitsFrom mask j (r+1)=bitsFrom mask (j+1) r:=if_neg (by rw[h]; decide)
theorem qloop(E:Evs kt){p:Pr}{m mask u1:Nat}(hm:mask<16)(hp:p.n+5≤m)(hn:160≤p.n)(hA:A.handled=none)(hd:A.depth+60<1000):
  ∀(rest:Nat) {j:Nat} {s:Shared} {vs:List Value} {e:Nat} {st:Option (Nat×Int×Nat)} {xs:List Nat},j+rest=4→(rest=0→∃z,st=some z)→Base kt W s.heap→s.heap.get? (p.n+1)=some (cel (some (.int (zN mask) u1))) →
   s.heap.get? (m+1)=some (rgi (zN j) (zN rest) 1)→s.heap.get? (m+2)=some (lst vs e)→s.heap.get? (m+3)=some (frK W st)→intsOf vs=some (xs.map zN)→xs.length≤j →
   (∀s' vs' e' z,Base kt W s'.heap→Fut [m+1,m+2,m+3] [] s s'→s'.heap.get? (m+2)=some (lst vs' e')→s'.heap.get? (m+3)=some (frK W (some z))→intsOf vs'=some ((xs++bitsFrom mask j rest).map zN)→R (.ok .next) s') →
   Mean W A R P (KL kt W p m) (.own []) (denote table (KL kt W p m)) s:=by
 have F3:∀{s s':Shared} {o},s.heap.get? (p.n+1)=some o→s'.heap.get? (p.n+1)=some o→Fut [p.n+1,m+1,m+2,m+3] [] s s'→Fut [m+1,m+2,m+3] [] s s':=fun h h' F=>F.less h h'
 intro rest
 induction rest with
 | zero =>
  intro j s vs e st xs hj hz B gc gi gv gf hi hx k
  obtain⟨z,rfl⟩:=hz rfl
  have hj4:j=4:=by omega
  subst hj4
  have C:=Cur.of2 (M:=[(m+1,rgi 4 0 1)]) B (fc gi fz) (pc fz .nil) (fc (show 160≤m+1 by omega) fz)
  refine C.startC hA hd (C.ret (E 10 W p m s.heap.objs.size s.toks) noV noE rfl ?_)
  intro s' C' _ F
  have F':Fut [m+1,m+2,m+3] [] s s':=F.mono (fun a ha=>by simp only[ks,mp,mn,ms]at ha; subst ha; exact .head _) (fun _ h=>h)
  have ne1:(m+2:Nat)≠m+1:=by omega
  have ne2:(m+3:Nat)≠m+1:=by omega
  exact k s' vs e z C'.B F' (F.keep _ _ gv (by simp[ks])) (F.keep _ _ gf (by simp[ks])) (by simpa [bitsFrom]using hi)
 | succ rest ih =>
  intro j s vs e st xs hj hz B gc gi gv gf hi hx k
  have C:=Cur.of2 (M:=[(p.n+1,cel (some (.int (zN mask) u1))),(m+1,rgi (zN j) (zN (rest+1)) 1),(m+2,lst vs e),(m+3,frK W st)]) B (fc gc (fc gi (fc gv (fc gf fz))))
   (by show List.Nodup [p.n+1,m+1,m+2,m+3]; trivial) (fc (show 160≤p.n+1 by omega) (fc (show 160≤m+1 by omega) (fc (show 160≤m+2 by omega) (fc (show 160≤m+3 by omega) fz))))
  have hlen:vs.length=xs.length:=by rw[SH.intsOf_len hi]; simp
  have hb:=bit_and mask hm j (by omega)
  have e1:∀{q:Int} {n t:Nat},q=Int.fdiv (zN mask) (2 ^ (zN j).toNat)→(eInt "int.__rshift__" [.int (zN mask) u1,.int (zN j) t] q n (t+2)).Ok PW W.w:=fun h=>eff_rshift rfl (h▸⟨rfl,rfl,rfl,rfl⟩) (Int.natCast_nonneg j)
  obtain⟨h1,h0⟩:=t_q E p m (zN mask) u1 st (zN j) (zN (rest+1)) vs e (Int.fdiv (zN mask) (2 ^ (zN j).toNat)) s.heap.objs.size s.toks
  cases hbit:mask.testBit j with
  | true =>
   rw[hbit,if_pos rfl]at hb
   obtain⟨hs,k0,hh⟩:=h1
   refine C.startC hA hd (C.again hh noV (SQ.he4 (SY.app_ok (by omega)) (eff_and rfl (by rw[hb]; exact⟨rfl,rfl,rfl,rfl⟩)) (e1 rfl) nextOk) rfl ?_)
   intro s' C' _ F
   have gc':=C'.ix 0 (p.n+1,_) rfl
   have F1:=F3 gc gc' F
   have:=C'.ix 1 (m+1,_) rfl
   simp only[left1,up1]at this
   refine ih (j:=j+1) (st:=some (k0,zN j,s.toks)) (xs:=xs++[j]) (by omega) (fun _=>⟨_,rfl⟩) C'.B gc' this (C'.ix 2 (m+2,_) rfl) (C'.ix 3 (m+3,frK W (some (k0,zN j,s.toks))) rfl) (by rw[List.map_append]; exact SH.intsOf_append hi rfl) (by simp; omega) ?_
   intro s'' vs' e' z B'' F2 g2 g3 hi'
   refine k s'' vs' e' z B'' (F1.trans F2) g2 g3 ?_
   rw[hi',bitsFrom_t hbit,List.append_assoc]; rfl
  | false =>
   rw[hbit,if_neg (by decide)]at hb
   obtain⟨hs,k0,hh⟩:=h0
   refine C.startC hA hd (C.again hh noV (PA.he3 (eff_and rfl (by rw[hb]; exact⟨rfl,rfl,rfl,rfl⟩)) (e1 rfl) nextOk) rfl ?_)
   intro s' C' _ F
   have gc':=C'.ix 0 (p.n+1,_) rfl
   have F1:=F3 gc gc' F
   have:=C'.ix 1 (m+1,_) rfl
   simp only[left1,up1]at this
   refine ih (j:=j+1) (st:=some (k0,zN j,s.toks)) (xs:=xs) (by omega) (fun _=>⟨_,rfl⟩) C'.B gc' this (C'.ix 2 (m+2,_) rfl) (C'.ix 3 (m+3,frK W (some (k0,zN j,s.toks))) rfl) hi (by omega) ?_
   intro s'' vs' e' z B'' F2 g2 g3 hi'
   refine k s'' vs' e' z B'' (F1.trans F2) g2 g3 ?_
   rw[hi',bitsFrom_f hbit]
end
end TR
namespace TR
section
theorem t_j(E:Evs kt)(p:Pr)(m:Nat)(c2:Int)(u2 ch:Nat)(cv:List Value)(ce i:Nat)(st:Option (Nat×Int×Nat))(j:Int)(tj:Nat)(vs:List Value)(e n t:Nat):
  (∃hs k0,AgainIs (startC (S1 kt W n t 60) (JL kt W p m) (.own []) [(p.n+2,cel (some (.int c2 u2))),(m,lit ch i),(ch,lst cv ce),(m+1,lst vs e),(m+2,frJ W st)] hs) [(.bool (!(dEq j c2)),.bool true)] [SQ.eApp (m+1) vs e (.int j tj) n (t+1),eLNext m ch cv ce i (.int j tj) n t] (JL kt W p m)
   [(0,p.n+2,cel (some (.int c2 u2))),(1,m,lit ch (i+1)),(2,ch,lst cv ce),(3,m+1,lst (vs++[.int j tj]) (e+1)),(4,m+2,frJ W (some (k0,j,tj)))]) ∧
  (∃hs k0,AgainIs (startC (S1 kt W n t 60) (JL kt W p m) (.own []) [(p.n+2,cel (some (.int c2 u2))),(m,lit ch i),(ch,lst cv ce),(m+1,lst vs e),(m+2,frJ W st)] hs) [(.bool (!(dEq j c2)),.bool false)] [eLNext m ch cv ce i (.int j tj) n t] (JL kt W p m)
   [(0,p.n+2,cel (some (.int c2 u2))),(1,m,lit ch (i+1)),(2,ch,lst cv ce),(3,m+1,lst vs e),(4,m+2,frJ W (some (k0,j,tj)))]):=by
 cases st with
 | none=>exact⟨⟨_,_,E 46 W p m c2 u2 ch cv ce i j tj vs e n t⟩,⟨_,_,E 47 W p m c2 u2 ch cv ce i j tj vs e n t⟩⟩
 | some z =>
  obtain⟨k0,k,tk⟩:=z
  exact⟨⟨_,_,E 48 W p m c2 u2 ch cv ce i k0 k tk j tj vs e n t⟩,⟨_,_,E 49 W p m c2 u2 ch cv ce i k0 k tk j tj vs e n t⟩⟩
theorem drop_next{α:Type}{l:List α}{i:Nat}{x:α}{r:List α}(h:l.drop i=x::r):l[i]?=some x∧l.drop (i+1)=r:=by
 constructor
 ·have:(l.drop i)[0]?=some x:=by rw[h]; rfl
  simpa using this
 ·rw[←List.drop_drop,h]; rfl
theorem jloop(E:Evs kt){p:Pr}{m ch u2 ce:Nat}{c2:Int}{cv:List Value}{chosen:List Nat}(hp:p.n+5≤m)(hn:160≤p.n)(hch:160≤ch)(h1:ch<m)(h2:ch≠p.n+2)(ci:intsOf cv=some (chosen.map zN))(hA:A.handled=none)(hd:A.depth+60<1000):
  ∀(rest:List Nat) {i:Nat} {s:Shared} {vs:List Value} {e:Nat} {st:Option (Nat×Int×Nat)} {xs:List Nat},chosen.drop i=rest→(rest=[]→∃z,st=some z)→Base kt W s.heap→s.heap.get? (p.n+2)=some (cel (some (.int c2 u2))) →
   s.heap.get? m=some (lit ch i)→s.heap.get? ch=some (lst cv ce)→s.heap.get? (m+1)=some (lst vs e)→s.heap.get? (m+2)=some (frJ W st)→intsOf vs=some (xs.map zN)→xs.length+rest.length≤100 →
   (∀s' vs' e' z,Base kt W s'.heap→Fut [m,m+1,m+2] [] s s'→s'.heap.get? (m+1)=some (lst vs' e')→s'.heap.get? (m+2)=some (frJ W (some z))→intsOf vs'=some ((xs++rest.filter fun x:Nat=>!(decide (zN x=c2))).map zN)→R (.ok .next) s') →
   Mean W A R P (JL kt W p m) (.own []) (denote table (JL kt W p m)) s:=by
 have hlen:=SH.intsOf_len ci
 have F3:∀{s s':Shared} {o o2},s.heap.get? (p.n+2)=some o→s'.heap.get? (p.n+2)=some o→s.heap.get? ch=some o2→s'.heap.get? ch=some o2→Fut [p.n+2,m,ch,m+1,m+2] [] s s'→Fut [m,m+1,m+2] [] s s':=fun h h' g g' F=>F.same (fc (.inr (.inr (by rw[h,h']))) (fc (.inl Z0) (fc (.inr (.inr (by rw[g,g']))) (fc (.inl Z1) (fc (.inl Z2) fz)))))
 intro rest
 induction rest with
 | nil =>
  intro i s vs e st xs hdr hz B gc gi gh gv gf hi hx k
  obtain⟨z,rfl⟩:=hz rfl
  have C:=Cur.of2 (M:=[(m,lit ch i),(ch,lst cv ce)]) B (fc gi (fc gh fz)) (by show List.Nodup [m,ch]; trivial) (fc (show 160≤m by omega) (fc hch fz))
  refine C.startC hA hd (C.ret (E 50 W p m ch cv ce i s.heap.objs.size s.toks) noV (SQ.he1 (eff_lend (by rw[hlen]; simpa using List.drop_eq_nil_iff.mp hdr))) rfl ?_)
  intro s' C' _ F
  have gh':=C'.ix 1 (ch,_) rfl
  have F':Fut [m,m+1,m+2] [] s s':=F.same (fc (.inl Z0) (fc (.inr (.inr (by rw[gh',gh]))) fz))
  have n1:ch≠m+1:=by omega
  have n2:ch≠m+2:=by omega
  exact k s' vs e z C'.B F' (F.keep _ _ gv (by simp[ks]; exact n1.symm)) (F.keep _ _ gf (by simp[ks]; exact n2.symm)) (by simpa using hi)
 | cons j rest ih =>
  intro i s vs e st xs hdr hz B gc gi gh gv gf hi hx k
  obtain⟨hji,hdr'⟩:=drop_next hdr
  obtain⟨tj,hcj⟩:=intsOf_get ci (k:=i) (x:=zN j) (by simp[hji])
  have C:=Cur.of2 (M:=[(p.n+2,cel (some (.int c2 u2))),(m,lit ch i),(ch,lst cv ce),(m+1,lst vs e),(m+2,frJ W st)]) B (fc gc (fc gi (fc gh (fc gv (fc gf fz)))))
   (by show List.Nodup [p.n+2,m,ch,m+1,m+2]; trivial) (fc (show 160≤p.n+2 by omega) (fc (show 160≤m by omega) (fc hch (fc (show 160≤m+1 by omega) (fc (show 160≤m+2 by omega) fz)))))
  have hvl:vs.length=xs.length:=by rw[SH.intsOf_len hi]; simp
  simp only[List.length_cons]at hx
  obtain⟨hT,hF⟩:=t_j E p m c2 u2 ch cv ce i st (zN j) tj vs e s.heap.objs.size s.toks
  by_cases hj:zN j=c2
  ·obtain⟨hs,k0,hh⟩:=hF
   refine C.startC hA hd (C.again hh (CP.hv1 (by rw[dEq_eq,decide_eq_true hj]; rfl)) (SQ.he1 (eff_lnext hcj)) rfl ?_)
   intro s' C' _ F
   have gc':=C'.ix 0 (p.n+2,_) rfl
   have gh':=C'.ix 2 (ch,_) rfl
   have F1:=F3 gc gc' gh gh' F
   refine ih (i:=i+1) (st:=some (k0,zN j,tj)) (xs:=xs) hdr' (fun _=>⟨_,rfl⟩) C'.B gc' (C'.ix 1 (m,_) rfl) gh' (C'.ix 3 (m+1,_) rfl) (C'.ix 4 (m+2,frJ W (some (k0,zN j,tj))) rfl) hi (by omega) ?_
   intro s'' vs' e' z B'' F2 g2 g3 hi'
   refine k s'' vs' e' z B'' (F1.trans F2) g2 g3 ?_
   rw[hi',List.filter_cons_of_neg (by rw[decide_eq_true hj]; decide)]
  ·obtain⟨hs,k0,hh⟩:=hT
   refine C.startC hA hd (C.again hh (CP.hv1 (by rw[dEq_eq,decide_eq_false hj]; rfl)) (SQ.he2 (SY.app_ok (by omega)) (eff_lnext hcj)) rfl ?_)
   intro s' C' _ F
   have gc':=C'.ix 0 (p.n+2,_) rfl
   have gh':=C'.ix 2 (ch,_) rfl
   have F1:=F3 gc gc' gh gh' F
   refine ih (i:=i+1) (st:=some (k0,zN j,tj)) (xs:=xs++[j]) hdr' (fun _=>⟨_,rfl⟩) C'.B gc' (C'.ix 1 (m,_) rfl) gh' (C'.ix 3 (m+1,_) rfl) (C'.ix 4 (m+2,frJ W (some (k0,zN j,tj))) rfl) (by rw[List.map_append]; exact SH.intsOf_append hi rfl) (by simp; omega) ?_
   intro s'' vs' e' z B'' F2 g2 g3 hi'
   refine k s'' vs' e' z B'' (F1.trans F2) g2 g3 ?_
   rw[hi',List.filter_cons_of_pos (by rw[decide_eq_false hj]; rfl),List.append_assoc]; rfl
noncomputable def frW(W:Wd)(p:Pr)(pa:Int)(ua:Nat)(tr:Int)(ut tc ch tw:Nat)(wg:Int)(uw:Nat):Option (Nat×Nat)→Obj
 | none=>nA W p pa ua tr ut [xC tc ch,xW tw wg uw]
 | some (tz,se)=>nA W p pa ua tr ut [xC tc ch,xW tw wg uw,xS tz se]
noncomputable def wFrom(ohms:List Int)(ch:List Nat):Nat→Nat→Int→Int
 | _,0,w=>w
 | j,r+1,w=>wFrom ohms ch (j+1) r (if j∈ch then w else w*ohms.getD j 0)
theorem t_w(E:Evs kt)(p:Pr)(pa:Int)(ua:Nat)(tr:Int)(ut tc ch tw:Nat)(wg:Int)(uw:Nat)(z:Option (Nat×Nat))(c2:Option Value)(it:Nat)(j r:Int)(cv:List Value)(ce:Nat)(ov:List Value)(oe:Nat)(x:Int)(tx n t:Nat):
  (∃hs,AgainIs (startC (S1 kt W n t 60) (LK kt W p it) (.own []) [(p.n,frW W p pa ua tr ut tc ch tw wg uw z),(p.n+2,cel c2),(it,rgi j r 1),(ch,lst cv ce)] hs) [] [eLCon ch cv ce j t true n (t+1),eRNx it j r n t] (LK kt W p it)
   [(0,p.n,frW W p pa ua tr ut tc ch tw wg uw z),(1,p.n+2,cel (some (.int j t))),(2,it,rgi (j+1) (r-1) 1),(3,ch,lst cv ce)]) ∧
  (∃hs,AgainIs (startC (S1 kt W n t 60) (LK kt W p it) (.own []) [(p.n,frW W p pa ua tr ut tc ch tw wg uw z),(p.n+2,cel c2),(it,rgi j r 1),(ch,lst cv ce),(p.oh,lst ov oe)] hs) [] [eInt "int.__mul__" [.int wg uw,.int x tx] (wg*x) n (t+1),PA.eGet p.oh ov oe j t (.int x tx) n (t+1),eLCon ch cv ce j t false n (t+1),eRNx it j r n t] (LK kt W p it)
   [(0,p.n,frW W p pa ua tr ut tc ch tw (wg*x) (t+1) z),(1,p.n+2,cel (some (.int j t))),(2,it,rgi (j+1) (r-1) 1),(3,ch,lst cv ce),(4,p.oh,lst ov oe)]):=by
 cases z with
 | none=>exact⟨⟨_,E 17 W p pa ua tr ut tc ch tw wg uw c2 it j r cv ce n t⟩,⟨_,E 18 W p pa ua tr ut tc ch tw wg uw c2 it j r cv ce ov oe x tx n t⟩⟩
 | some z =>
  obtain⟨tz,se⟩:=z
  exact⟨⟨_,E 19 W p pa ua tr ut tc ch tw wg uw tz se c2 it j r cv ce n t⟩,⟨_,E 20 W p pa ua tr ut tc ch tw wg uw tz se c2 it j r cv ce ov oe x tx n t⟩⟩
theorem wloop(E:Evs kt){p:Pr}{it ch ce oe:Nat}{cv ov:List Value}{chosen:List Nat}{ohms:List Int}(hn:160≤p.n)(hit:p.n+6≤it)(hch:p.n+6≤ch)(hci:ch<it)(ho:160≤p.oh)(hon:p.oh<p.n)(ci:intsOf cv=some (chosen.map zN))(oi:intsOf ov=some ohms)(ol:ohms.length=4)
  (ob:∀x∈ohms,x.natAbs<2 ^ 6) (hA:A.handled=none) (hd:A.depth+60<1000) {pa:Int} {ua:Nat} {tr:Int} {ut tc tw:Nat} {z:Option (Nat×Nat)} :
  ∀(rest:Nat) {j:Nat} {s:Shared} {wg:Int} {uw:Nat} {c2:Option Value},j+rest=4→Base kt W s.heap→s.heap.get? p.n=some (frW W p pa ua tr ut tc ch tw wg uw z)→s.heap.get? (p.n+2)=some (cel c2)→s.heap.get? it=some (rgi (zN j) (zN rest) 1) →
   s.heap.get? ch=some (lst cv ce)→s.heap.get? p.oh=some (lst ov oe) →
   (∀s' uw' c2',Base kt W s'.heap→Fut [p.n,p.n+2,it] [] s s'→s'.heap.get? p.n=some (frW W p pa ua tr ut tc ch tw (wFrom ohms chosen j rest wg) uw' z)→s'.heap.get? (p.n+2)=some (cel c2')→R (.ok .next) s') →
   Mean W A R P (LK kt W p it) (.own []) (denote table (LK kt W p it)) s:=by
 intro rest
 induction rest with
 | zero =>
  intro j s wg uw c2 hj B gn gc gi gh go k
  have hj4:j=4:=by omega
  subst hj4
  have C:=Cur.of2 (M:=[(it,rgi 4 0 1)]) B (fc gi fz) (pc fz .nil) (fc (show 160≤it by omega) fz)
  refine C.startC hA hd (C.ret (E 21 W p it s.heap.objs.size s.toks) noV noE rfl ?_)
  intro s' C' _ F
  have n1:p.n≠it:=by omega
  have n2:p.n+2≠it:=by omega
  exact k s' uw c2 C'.B (F.mono (fc Z2 fz) (fun _ h=>h)) (F.keep _ _ gn (by simp[ks]; exact n1)) (F.keep _ _ gc (by simp[ks]; exact n2))
 | succ rest ih =>
  intro j s wg uw c2 hj B gn gc gi gh go k
  obtain⟨x,hx⟩:∃x,ohms[j]?=some x:=⟨ohms[j]'(by omega),List.getElem?_eq_getElem _⟩
  obtain⟨tx,hox⟩:=intsOf_get oi hx
  have hxm:x∈ohms:=List.mem_of_getElem? hx
  have hgd:ohms.getD j 0=x:=by rw[List.getD_eq_getElem?_getD,hx]; rfl
  have hol:=SH.intsOf_len oi
  obtain⟨hin,hout⟩:=t_w E p pa ua tr ut tc ch tw wg uw z c2 it (zN j) (zN (rest+1)) cv ce ov oe x tx s.heap.objs.size s.toks
  have hcon:∀{b:Bool} {n t:Nat},b=decide (j∈chosen)→(eLCon ch cv ce (zN j) s.toks b n t).Ok PW W.w:=fun {b n t} h=>eff_list_contains (xs:=chosen.map zN) rfl Z0 ci rfl rfl rfl rfl (by
   rw[h]
   have:(j∈chosen)↔(zN j∈chosen.map zN):=by
    simp only[List.mem_map]
    exact⟨fun h=>⟨j,h,rfl⟩,fun⟨y,hy,e⟩=>by cases zN.inj e; exact hy⟩
   simp only[this])
  by_cases hjc:j∈chosen
  ·obtain⟨hs,hh⟩:=hin
   have C:=Cur.of2 (M:=[(p.n,frW W p pa ua tr ut tc ch tw wg uw z),(p.n+2,cel c2),(it,rgi (zN j) (zN (rest+1)) 1),(ch,lst cv ce)]) B (fc gn (fc gc (fc gi (fc gh fz))))
    (by show List.Nodup [p.n,p.n+2,it,ch]; trivial) (fc hn (fc (show 160≤p.n+2 by omega) (fc (show 160≤it by omega) (fc (show 160≤ch by omega) fz))))
   refine C.startC hA hd (C.again hh noV (SQ.he2 (hcon (by simp[hjc])) nextOk) rfl ?_)
   intro s' C' _ F
   have gh':=C'.ix 3 (ch,_) rfl
   have F1:Fut [p.n,p.n+2,it] [] s s':=F.same (fc (.inl Z0) (fc (.inl Z1) (fc (.inl Z2) (fc (.inr (.inr (by rw[gh',gh]))) fz))))
   have gi':=C'.ix 2 (it,_) rfl
   simp only[left1,up1]at gi'
   refine ih (by omega) C'.B (C'.ix 0 (p.n,frW W p pa ua tr ut tc ch tw wg uw z) rfl) (C'.ix 1 (p.n+2,cel (some (.int (zN j) s.toks))) rfl) gi' gh' (F1.keep _ _ go (by show p.oh∉([p.n,p.n+2,it]:List Nat); exact nmq (fc (by omega) (fc (by omega) (fc (by omega) fz))))) ?_
   intro s'' uw' c2' B'' F2 g1 g2
   rw[show wFrom ohms chosen (j+1) rest wg=wFrom ohms chosen j (rest+1) wg from congrArg _ (if_pos hjc).symm]at g1
   exact k s'' uw' c2' B'' (F1.trans F2) g1 g2
  ·obtain⟨hs,hh⟩:=hout
   have C:=Cur.of2 (M:=[(p.n,frW W p pa ua tr ut tc ch tw wg uw z),(p.n+2,cel c2),(it,rgi (zN j) (zN (rest+1)) 1),(ch,lst cv ce),(p.oh,lst ov oe)]) B (fc gn (fc gc (fc gi (fc gh (fc go fz)))))
    (by show List.Nodup [p.n,p.n+2,it,ch,p.oh]; trivial) (fc hn (fc (show 160≤p.n+2 by omega) (fc (show 160≤it by omega) (fc (show 160≤ch by omega) (fc ho fz)))))
   refine C.startC hA hd (C.again hh noV (SQ.he4 (eff_mul rfl ⟨rfl,rfl,rfl,rfl⟩ (IntMulOk.of_right (bits_le (by have:=ob x hxm; omega)))) (PA.get_ok hox (by omega)) (hcon (by simp[hjc])) nextOk) rfl ?_)
   intro s' C' _ F
   have gh':=C'.ix 3 (ch,_) rfl
   have go':=C'.ix 4 (p.oh,_) rfl
   have F1:Fut [p.n,p.n+2,it] [] s s':=F.same (fc (.inl Z0) (fc (.inl Z1) (fc (.inl Z2) (fc (.inr (.inr (by rw[gh',gh]))) (fc (.inr (.inr (by rw[go',go]))) fz)))))
   have gi':=C'.ix 2 (it,_) rfl
   simp only[left1,up1]at gi'
   refine ih (by omega) C'.B (C'.ix 0 (p.n,frW W p pa ua tr ut tc ch tw (wg*x) (s.toks+1) z) rfl) (C'.ix 1 (p.n+2,cel (some (.int (zN j) s.toks))) rfl) gi' gh' go' ?_
   intro s'' uw' c2' B'' F2 g1 g2
   rw[show wFrom ohms chosen (j+1) rest (wg*x)=wFrom ohms chosen j (rest+1) wg from congrArg _ (by rw[if_neg hjc,hgd])]at g1
   exact k s'' uw' c2' B'' (F1.trans F2) g1 g2
end
end TR
namespace TR
noncomputable def FC(W:Wd)(p:Pr)(pa:Int)(ua:Nat)(tr:Int)(ut tc ch tw:Nat)(wg:Int)(uw tz se:Nat):Obj:=nA W p pa ua tr ut [xC tc ch,xW tw wg uw,xS tz se]
noncomputable abbrev bd(b c:Bool):Value×Value:=(.bool b,.bool c)
noncomputable def Q3(kt:Params→KT)(W:Wd)(p:Pr)(pa:Int)(ua:Nat)(tr:Int)(ut tc ch tw:Nat)(wg:Int)(uw tz l:Nat)(sv:List Value)(o:Out):Prop :=
 ∀(l2:Nat) (sv2:List Value) (es2 n t:Nat),
  (∃hs ua',AgainIs (on kt W n t o (.ok (.ret (.ref l2))) [(p.n,FC W p pa ua tr ut tc ch tw wg uw tz l),(l2,lst sv2 es2)] hs) [bd (dEq (zN sv.length+zN sv2.length) p.sz) true] [PA.eLenL l2 sv2 es2 n t] (LM kt W p) [(0,p.n,FC W p (pa+wg) ua' tr ut tc ch tw wg uw tz l),(1,l2,lst sv2 es2)]) ∧
  (∃hs,AgainIs (on kt W n t o (.ok (.ret (.ref l2))) [(p.n,FC W p pa ua tr ut tc ch tw wg uw tz l),(l2,lst sv2 es2)] hs) [bd (dEq (zN sv.length+zN sv2.length) p.sz) false] [PA.eLenL l2 sv2 es2 n t] (LM kt W p) [(0,p.n,FC W p pa ua tr ut tc ch tw wg uw tz l),(1,l2,lst sv2 es2)])
inductive QTT(kt:Params→KT)(W:Wd)(p:Pr)(pa:Int)(ua:Nat)(tr:Int)(ut tc ch tw:Nat)(wg:Int)(uw:Nat)(z:Option (Nat×Nat))(o:Out)(cv:List Value)(ce l:Nat)(sv:List Value)(es n t:Nat):Prop
 | mk (hs:List H) (o':Out) (tz ut':Nat) (ho:o'=on kt W n t o (.ok (.ret (.ref l))) [(p.n,frW W p pa ua tr ut tc ch tw wg uw z),(ch,lst cv ce),(l,lst sv es)] hs) (e:StopIs o' [bd (dEq (zN sv.length) p.sz) true,bd (dEq (zN cv.length) (p.sz-1)) true] [PA.eLenL l sv es n (t+5),PA.eLenL ch cv ce n (t+1)] (LT kt W p n) 1 [(0,p.n,FC W p pa ua (tr+wg) ut' tc ch tw wg uw tz l),(1,ch,lst cv ce),(2,l,lst sv es),(3,n,lit ch 0)]) (q:∀n' t',∃hs',AgainIs (on kt W n' t' o' (.ok .next) [] hs') [] [] (LM kt W p) [])
inductive QFO(kt:Params→KT)(W:Wd)(p:Pr)(pa:Int)(ua:Nat)(tr:Int)(ut tc ch tw:Nat)(wg:Int)(uw:Nat)(z:Option (Nat×Nat))(o:Out)(cv:List Value)(ce l:Nat)(sv:List Value)(es n t:Nat):Prop
 | mk (hs:List H) (o':Out) (tz:Nat) (ho:o'=on kt W n t o (.ok (.ret (.ref l))) [(p.n,frW W p pa ua tr ut tc ch tw wg uw z),(ch,lst cv ce),(l,lst sv es)] hs) (e:StopIs o' [bd (dEq (zN cv.length) (p.sz-2)) true,bd (dEq (zN cv.length) (p.sz-1)) false] [PA.eLenL l sv es n (t+10),eLCon l sv es 1 (t+9) false n (t+10),PA.eLenL ch cv ce n (t+5),PA.eLenL ch cv ce n (t+1)] (.call (.ref 127) ⟨[.ref p.wy,.ref ch,.int 1 (t+12)],[]⟩) 1 [(0,p.n,FC W p pa ua tr ut tc ch tw wg uw tz l),(1,ch,lst cv ce),(2,l,lst sv es)]) (q:Q3 kt W p pa ua tr ut tc ch tw wg uw tz l sv o')
inductive Q2R(kt:Params→KT)(W:Wd)(p:Pr)(pa:Int)(ua:Nat)(tr:Int)(ut tc ch tw:Nat)(wg:Int)(uw:Nat)(z:Option (Nat×Nat))(o:Out)(cv:List Value)(ce l:Nat)(sv:List Value)(es n t:Nat):Prop
 | mk (qTT:QTT kt W p pa ua tr ut tc ch tw wg uw z o cv ce l sv es n t) (qTF:∃hs tz,AgainIs (on kt W n t o (.ok (.ret (.ref l))) [(p.n,frW W p pa ua tr ut tc ch tw wg uw z),(ch,lst cv ce),(l,lst sv es)] hs)
   [bd (dEq (zN cv.length) (p.sz-2)) false,bd (dEq (zN sv.length) p.sz) false,bd (dEq (zN cv.length) (p.sz-1)) true] [PA.eLenL ch cv ce n (t+7),PA.eLenL l sv es n (t+5),PA.eLenL ch cv ce n (t+1)] (LM kt W p) [(0,p.n,FC W p pa ua tr ut tc ch tw wg uw tz l),(1,ch,lst cv ce),(2,l,lst sv es)]) (qFI:∃hs tz,AgainIs (on kt W n t o (.ok (.ret (.ref l))) [(p.n,frW W p pa ua tr ut tc ch tw wg uw z),(ch,lst cv ce),(l,lst sv es)] hs)
   [bd (dEq (zN cv.length) (p.sz-2)) true,bd (dEq (zN cv.length) (p.sz-1)) false] [eLCon l sv es 1 (t+9) true n (t+10),PA.eLenL ch cv ce n (t+5),PA.eLenL ch cv ce n (t+1)] (LM kt W p) [(0,p.n,FC W p pa ua tr ut tc ch tw wg uw tz l),(1,ch,lst cv ce),(2,l,lst sv es)]) (qFO:QFO kt W p pa ua tr ut tc ch tw wg uw z o cv ce l sv es n t)
noncomputable def Q2(kt:Params→KT)(W:Wd)(p:Pr)(pa:Int)(ua:Nat)(tr:Int)(ut tc ch tw:Nat)(wg:Int)(uw:Nat)(z:Option (Nat×Nat))(o:Out):Prop :=
 ∀(cv:List Value) (ce l:Nat) (sv:List Value) (es n t:Nat),Q2R kt W p pa ua tr ut tc ch tw wg uw z o cv ce l sv es n t
inductive Q1(kt:Params→KT)(W:Wd)(p:Pr)(pa:Int)(ua:Nat)(tr:Int)(ut tc ch tw:Nat)(z:Option (Nat×Nat))(o:Out)(wg:Int)(uw n t:Nat):Prop
 | mk (hs:List H) (o':Out) (ho:o'=on kt W n t o (.ok .next) [(p.n,frW W p pa ua tr ut tc ch tw wg uw z)] hs) (e:StopIs o' [] [] (.call (.ref 127) ⟨[.ref p.wy,.ref ch,.int 0 t],[]⟩) 1 [(0,p.n,frW W p pa ua tr ut tc ch tw wg uw z)]) (q:Q2 kt W p pa ua tr ut tc ch tw wg uw z o')
inductive Q0T(kt:Params→KT)(W:Wd)(p:Pr)(pa:Int)(ua:Nat)(tr:Int)(ut:Nat)(st:Fs)(m:Nat)(o:Out)(z:Nat×Int×Nat)(cv:List Value)(ce n t:Nat):Prop
 | mk (hs:List H) (o':Out) (tc tw:Nat) (z':Option (Nat×Nat)) (ho:o'=on kt W n t o (.ok .next) [(p.n,frO W p pa ua tr ut st),(m+3,frK W (some z)),(m+2,lst cv ce)] hs) (e:StopIs o' [] [PA.eTCon n [.int (p.sz-1) (t+4),.int (p.sz-2) (t+6)] (zN cv.length) (t+2) true (n+1) (t+7),PA.eLenL (m+2) cv ce n (t+1)] (LK kt W p (n+2)) 1 [(0,p.n,frW W p pa ua tr ut tc (m+2) tw 1 (t+7) z'),(2,m+2,lst cv ce),(5,n+2,rgi 0 4 1)]) (q:∀(wg:Int) (uw n t:Nat),Q1 kt W p pa ua tr ut tc (m+2) tw z' o' wg uw n t)
noncomputable def Q0(kt:Params→KT)(W:Wd)(p:Pr)(pa:Int)(ua:Nat)(tr:Int)(ut:Nat)(st:Fs)(m:Nat)(o:Out):Prop :=
 ∀(z:Nat×Int×Nat) (cv:List Value) (ce n t:Nat),
  (∃hs st',AgainIs (on kt W n t o (.ok .next) [(p.n,frO W p pa ua tr ut st),(m+3,frK W (some z)),(m+2,lst cv ce)] hs) [] [PA.eTCon n [.int (p.sz-1) (t+4),.int (p.sz-2) (t+6)] (zN cv.length) (t+2) false (n+1) (t+7),PA.eLenL (m+2) cv ce n (t+1)] (LM kt W p) [(0,p.n,frO W p pa ua tr ut st'),(2,m+2,lst cv ce)]) ∧
  Q0T kt W p pa ua tr ut st m o z cv ce n t
inductive QM(kt:Params→KT)(W:Wd)(p:Pr)(pa:Int)(ua:Nat)(tr:Int)(ut:Nat)(st:Fs)(c1 c2:Option Value)(i r:Int)(n t:Nat):Prop
 | mk (hs:List H) (o:Out) (ho:o=startC (S1 kt W n t 60) (LM kt W p) (.own []) [(p.n,frO W p pa ua tr ut st),(p.n+1,cel c1),(p.n+2,cel c2),(p.n+5,rgi i r 1)] hs) (e:StopIs o [] [eRNx (p.n+5) i r n t] (KS kt W p n) 1 [(0,p.n,frO W p pa ua tr ut st),(1,p.n+1,cel (some (.int i t))),(2,p.n+2,cel c2),(3,p.n+5,rgi (i+1) (r-1) 1),(5,n+1,rgi 0 4 1),(6,n+2,lst [] 0),(7,n+3,frK W none)]) (q:Q0 kt W p pa ua tr ut st n o)
section
theorem t_m(E:Evs kt)(p:Pr)(pa:Int)(ua:Nat)(tr:Int)(ut:Nat)(st:Fs)(c1 c2:Option Value)(i r:Int)(n t:Nat):
  QM kt W p pa ua tr ut st c1 c2 i r n t:=by
 cases st with
 | A =>
  refine⟨_,_,rfl,?_,fun⟨k0,k,tk⟩ cv ce n2 t2=>⟨⟨_,.B _ _,E 11 W p pa ua tr ut c1 c2 i r n t k0 k tk cv ce n2 t2⟩,⟨_,_,_,_,none,rfl,E 12 W p pa ua tr ut c1 c2 i r n t k0 k tk cv ce n2 t2,fun wg uw n3 t3=>⟨_,_,rfl,E 22 W p pa ua tr ut c1 c2 i r n t k0 k tk cv ce n2 t2 pa ua tr ut _ _ _ wg uw n3 t3,fun cv' ce' l sv es n4 t4 =>
   ⟨⟨_,_,_,_,rfl,E 25 W p pa ua tr ut c1 c2 i r n t k0 k tk cv ce n2 t2 pa ua tr ut _ _ _ wg uw n3 t3 cv' ce' l sv es n4 t4,fun n5 t5=>⟨_,E 55 W p pa ua tr ut c1 c2 i r n t k0 k tk cv ce n2 t2 pa ua tr ut _ _ _ wg uw n3 t3 cv' ce' l sv es n4 t4 n5 t5⟩⟩,
    ⟨_,_,E 26 W p pa ua tr ut c1 c2 i r n t k0 k tk cv ce n2 t2 pa ua tr ut _ _ _ wg uw n3 t3 cv' ce' l sv es n4 t4⟩,⟨_,_,E 27 W p pa ua tr ut c1 c2 i r n t k0 k tk cv ce n2 t2 pa ua tr ut _ _ _ wg uw n3 t3 cv' ce' l sv es n4 t4⟩,
    ⟨_,_,_,rfl,E 28 W p pa ua tr ut c1 c2 i r n t k0 k tk cv ce n2 t2 pa ua tr ut _ _ _ wg uw n3 t3 cv' ce' l sv es n4 t4,fun l2 sv2 es2 n5 t5=>⟨⟨_,_,E 37 W p pa ua tr ut c1 c2 i r n t k0 k tk cv ce n2 t2 pa ua tr ut _ _ _ wg uw n3 t3 cv' ce' l sv es n4 t4 l2 sv2 es2 n5 t5⟩,⟨_,E 38 W p pa ua tr ut c1 c2 i r n t k0 k tk cv ce n2 t2 pa ua tr ut _ _ _ wg uw n3 t3 cv' ce' l sv es n4 t4 l2 sv2 es2 n5 t5⟩⟩⟩⟩⟩⟩⟩⟩
  have:=And.intro (E 1 W p pa ua tr ut c1 c2 i r n t) (E 2 W p pa ua tr ut c1 c2 i r n t)
  rw[this.2]at this
  exact this.1
 | B tc ch =>
  refine⟨_,_,rfl,E 3 W p pa ua tr ut tc ch c1 c2 i r n t,fun⟨k0,k,tk⟩ cv ce n2 t2=>⟨⟨_,.B _ _,E 13 W p pa ua tr ut tc ch c1 c2 i r n t k0 k tk cv ce n2 t2⟩,⟨_,_,_,_,none,rfl,E 14 W p pa ua tr ut tc ch c1 c2 i r n t k0 k tk cv ce n2 t2,fun wg uw n3 t3=>⟨_,_,rfl,E 23 W p pa ua tr ut tc ch c1 c2 i r n t k0 k tk cv ce n2 t2 pa ua tr ut _ _ _ wg uw n3 t3,fun cv' ce' l sv es n4 t4 =>
   ⟨⟨_,_,_,_,rfl,E 29 W p pa ua tr ut tc ch c1 c2 i r n t k0 k tk cv ce n2 t2 pa ua tr ut _ _ _ wg uw n3 t3 cv' ce' l sv es n4 t4,fun n5 t5=>⟨_,E 56 W p pa ua tr ut tc ch c1 c2 i r n t k0 k tk cv ce n2 t2 pa ua tr ut _ _ _ wg uw n3 t3 cv' ce' l sv es n4 t4 n5 t5⟩⟩,
    ⟨_,_,E 30 W p pa ua tr ut tc ch c1 c2 i r n t k0 k tk cv ce n2 t2 pa ua tr ut _ _ _ wg uw n3 t3 cv' ce' l sv es n4 t4⟩,⟨_,_,E 31 W p pa ua tr ut tc ch c1 c2 i r n t k0 k tk cv ce n2 t2 pa ua tr ut _ _ _ wg uw n3 t3 cv' ce' l sv es n4 t4⟩,
    ⟨_,_,_,rfl,E 32 W p pa ua tr ut tc ch c1 c2 i r n t k0 k tk cv ce n2 t2 pa ua tr ut _ _ _ wg uw n3 t3 cv' ce' l sv es n4 t4,fun l2 sv2 es2 n5 t5=>⟨⟨_,_,E 39 W p pa ua tr ut tc ch c1 c2 i r n t k0 k tk cv ce n2 t2 pa ua tr ut _ _ _ wg uw n3 t3 cv' ce' l sv es n4 t4 l2 sv2 es2 n5 t5⟩,⟨_,E 40 W p pa ua tr ut tc ch c1 c2 i r n t k0 k tk cv ce n2 t2 pa ua tr ut _ _ _ wg uw n3 t3 cv' ce' l sv es n4 t4 l2 sv2 es2 n5 t5⟩⟩⟩⟩⟩⟩⟩⟩
 | C tc ch tw wg0 uw0 tz se =>
  refine⟨_,_,rfl,E 4 W p pa ua tr ut tc ch tw wg0 uw0 tz se c1 c2 i r n t,fun⟨k0,k,tk⟩ cv ce n2 t2=>⟨⟨_,.C _ _ _ _ _ _ _,E 15 W p pa ua tr ut tc ch tw wg0 uw0 tz se c1 c2 i r n t k0 k tk cv ce n2 t2⟩,⟨_,_,_,_,some (_,_),rfl,E 16 W p pa ua tr ut tc ch tw wg0 uw0 tz se c1 c2 i r n t k0 k tk cv ce n2 t2,fun wg uw n3 t3=>⟨_,_,rfl,E 24 W p pa ua tr ut tc ch tw wg0 uw0 tz se c1 c2 i r n t k0 k tk cv ce n2 t2 pa ua tr ut _ _ _ wg uw _ _ n3 t3,fun cv' ce' l sv es n4 t4 =>
   ⟨⟨_,_,_,_,rfl,E 33 W p pa ua tr ut tc ch tw wg0 uw0 tz se c1 c2 i r n t k0 k tk cv ce n2 t2 pa ua tr ut _ _ _ wg uw _ _ n3 t3 cv' ce' l sv es n4 t4,fun n5 t5=>⟨_,E 57 W p pa ua tr ut tc ch tw wg0 uw0 tz se c1 c2 i r n t k0 k tk cv ce n2 t2 pa ua tr ut _ _ _ wg uw _ _ n3 t3 cv' ce' l sv es n4 t4 n5 t5⟩⟩,
    ⟨_,_,E 34 W p pa ua tr ut tc ch tw wg0 uw0 tz se c1 c2 i r n t k0 k tk cv ce n2 t2 pa ua tr ut _ _ _ wg uw _ _ n3 t3 cv' ce' l sv es n4 t4⟩,⟨_,_,E 35 W p pa ua tr ut tc ch tw wg0 uw0 tz se c1 c2 i r n t k0 k tk cv ce n2 t2 pa ua tr ut _ _ _ wg uw _ _ n3 t3 cv' ce' l sv es n4 t4⟩,
    ⟨_,_,_,rfl,E 36 W p pa ua tr ut tc ch tw wg0 uw0 tz se c1 c2 i r n t k0 k tk cv ce n2 t2 pa ua tr ut _ _ _ wg uw _ _ n3 t3 cv' ce' l sv es n4 t4,fun l2 sv2 es2 n5 t5=>⟨⟨_,_,E 41 W p pa ua tr ut tc ch tw wg0 uw0 tz se c1 c2 i r n t k0 k tk cv ce n2 t2 pa ua tr ut _ _ _ wg uw _ _ n3 t3 cv' ce' l sv es n4 t4 l2 sv2 es2 n5 t5⟩,⟨_,E 42 W p pa ua tr ut tc ch tw wg0 uw0 tz se c1 c2 i r n t k0 k tk cv ce n2 t2 pa ua tr ut _ _ _ wg uw _ _ n3 t3 cv' ce' l sv es n4 t4 l2 sv2 es2 n5 t5⟩⟩⟩⟩⟩⟩⟩⟩
end
end TR
namespace TR
noncomputable def reach(ws:List (Nat×Nat))(ch:List Nat)(pt:Int):List Int:=(RE.rloop ws ch 20 0 [pt]).getD []
structure TG(s0:Shared)(p:Pr)(ws:List (Nat×Nat))(wv:List Value)(we:Nat)(ov:List Value)(oe:Nat)(ohms:List Int)(size:Nat):Prop where
 n:p.n=s0.heap.objs.size
 b:160≤s0.heap.objs.size
 w160:160≤p.wy
 o160:160≤p.oh
 hw:s0.heap.get? p.wy=some (lst wv we)
 ho:s0.heap.get? p.oh=some (lst ov oe)
 ways:WaysAt s0.heap wv ws
 oi:intsOf ov=some ohms
 wl:ws.length=4
 ol:ohms.length=4
 ob:∀x∈ohms,x.natAbs<2 ^ 6
 sz:p.sz=zN size
 s2:2≤size
 rch:∀(ch:List Nat) (pt:Int),ch.Sublist [0,1,2,3]→(pt=0∨pt=1)→∃out,RE.rloop ws ch 20 0 [pt]=some out
theorem TG.reach{s0:Shared}{p:Pr}{ws:List (Nat×Nat)}{wv:List Value}{we:Nat}{ov:List Value}{oe:Nat}{ohms:List Int}{size:Nat}(G:TG s0 p ws wv we ov oe ohms size){ch:List Nat}{pt:Int}(h:ch.Sublist [0,1,2,3])(h':pt=0∨pt=1):RE.rloop ws ch 20 0 [pt]=some (reach ws ch pt):=by
 obtain⟨out,ho⟩:=G.rch ch pt h h'
 unfold TR.reach; rw[ho]; rfl
structure TS(kt:Params→KT)(W:Wd)(s0 s:Shared)(p:Pr)(F:Obj)(c1 c2:Option Value)(I:Obj)(fv:List Value)(fe:Nat)(fl:List Int):Prop where
 B:Base kt W s.heap
 f:Fut [] [] s0 s
 fr:s.heap.get? p.n=some F
 m:s.heap.get? (p.n+1)=some (cel c1)
 kc:s.heap.get? (p.n+2)=some (cel c2)
 fo:s.heap.get? (p.n+3)=some (lst fv fe)
 it:s.heap.get? (p.n+5)=some I
 fi:intsOf fv=some fl
 fn:fl.length=4
section
theorem TS.keep{s0 s s':Shared}{p:Pr}{F:Obj}{c1 c2:Option Value}{I:Obj}{fv:List Value}{fe:Nat}{fl:List Int}(S:TS kt W s0 s p F c1 c2 I fv fe fl)(hn:p.n=s0.heap.objs.size)(B:Base kt W s'.heap)(F':Fut L [] s s')(hL:∀a∈L,p.n+6≤a∨s'.heap.get? a=s.heap.get? a):TS kt W s0 s' p F c1 c2 I fv fe fl:=by
 have key:∀{x:Nat} {o:Obj},x<p.n+6→s.heap.get? x=some o→s'.heap.get? x=some o:=fun {x o} hx h=>by
  by_cases z:x∈L
  ·rcases hL x z with y|y
   ·exact absurd hx (Nat.not_lt.mpr y)
   ·rw[y]; exact h
  ·exact F'.keep _ _ h z
 exact⟨B,S.f.join F' fun a ha=>(hL a ha).imp (fun y=>by rw[←hn]; exact nT (lU _ 6) y) id,key (by omega) S.fr,key (by omega) S.m,key (by omega) S.kc,key (by omega) S.fo,key (by omega) S.it,S.fi,S.fn⟩
noncomputable def fstep(ws:List (Nat×Nat))(chosen:List Nat)(wg:Int)(fl:List Int)(k:Nat):List Int :=
 if(1:Int)∈reach ws (chosen.filter fun x:Nat=>!(decide (zN x=zN k))) 0 then fl else fl.set k (fl.getD k 0+wg)
theorem intsOf_set(h:intsOf vs=some xs):∀(k:Nat) (y:Int) (t:Nat),intsOf (vs.set k (.int y t))=some (xs.set k y) :=
 ints_ind (P:=fun vs xs=>∀(k:Nat) (y:Int) (t:Nat),intsOf (vs.set k (.int y t))=some (xs.set k y)) (fun _ _ _=>rfl) (fun {_ _ vs _} hz ih k y t=>match k with
  | 0=>by show(intsOf vs).map _=_; rw[hz]; rfl
  | k+1=>by show(intsOf (vs.set k _)).map _=_; rw[ih k y t]; rfl) h
theorem cloop(E:Evs kt)(RE':RE.Evs kt){s0:Shared}{p:Pr}{ws:List (Nat×Nat)}{wv:List Value}{we:Nat}{ov:List Value}{oe:Nat}{ohms:List Int}{size:Nat}(G:TG s0 p ws wv we ov oe ohms size)(hA:A.handled=none)(hd:A.depth+80<1000)
  {pa:Int} {ua:Nat} {tr:Int} {ut tc ch tw:Nat} {wg:Int} {uw tz se it:Nat} {c1:Option Value} {I:Obj} {cv:List Value} {ce:Nat} {chosen:List Nat} (hch:p.n+6≤ch) (hci:ch<it) (ci:intsOf cv=some (chosen.map zN)) (hsub:chosen.Sublist [0,1,2,3]) :
  ∀(rest:List Nat) {i:Nat} {s:Shared} {c2:Option Value} {fv:List Value} {fe:Nat} {fl:List Int},chosen.drop i=rest→TS kt W s0 s p (FC W p pa ua tr ut tc ch tw wg uw tz se) c1 c2 I fv fe fl→s.heap.get? it=some (lit ch i)→s.heap.get? ch=some (lst cv ce) →
   (∀s' c2' fv' fe',TS kt W s0 s' p (FC W p pa ua tr ut tc ch tw wg uw tz se) c1 c2' I fv' fe' (rest.foldl (fstep ws chosen wg) fl)→R (.ok .next) s') →
   Mean W A R P (LT kt W p it) (.own []) (denote table (LT kt W p it)) s:=by
 have hn:160≤p.n:=by rw[G.n]; exact G.b
 have dA:A.depth+60<1000:=by omega
 have hlen:cv.length=chosen.length:=by rw[SH.intsOf_len ci]; simp
 have hcl:chosen.length≤4:=by simpa using hsub.length_le
 intro rest
 induction rest with
 | nil =>
  intro i s c2 fv fe fl hdr S gi gh k
  have C:=Cur.of2 (M:=[(it,lit ch i),(ch,lst cv ce)]) S.B (fc gi (fc gh fz)) (by show List.Nodup [it,ch]; trivial) (fc (show 160≤it by omega) (fc (show 160≤ch by omega) fz))
  refine C.startC hA dA (C.ret (E 54 W p it i ch cv ce s.heap.objs.size s.toks) noV (SQ.he1 (eff_lend (by rw[hlen]; simpa using List.drop_eq_nil_iff.mp hdr))) rfl ?_)
  intro s' C' _ F
  exact k s' c2 fv fe (S.keep G.n C'.B F (fc (.inl (show p.n+6≤it by omega)) (fc (.inl (show p.n+6≤ch by omega)) fz)))
 | cons j rest ih =>
  intro i s c2 fv fe fl hdr S gi gh k
  obtain⟨hji,hdr'⟩:=drop_next hdr
  obtain⟨tj,hcj⟩:=intsOf_get ci (k:=i) (x:=zN j) (by simp[hji])
  have hjm:j∈chosen:=List.mem_of_getElem? hji
  have hj4:j<4:=by have:=hsub.subset hjm; simp at this; omega
  have itlt:it<s.heap.objs.size:=Heap.lt_size gi
  have C:=Cur.of2 (M:=[(p.n,FC W p pa ua tr ut tc ch tw wg uw tz se),(p.n+2,cel c2),(it,lit ch i),(ch,lst cv ce)]) S.B (fc S.fr (fc S.kc (fc gi (fc gh fz))))
   (by show List.Nodup [p.n,p.n+2,it,ch]; trivial) (fc hn (fc (show 160≤p.n+2 by omega) (fc (show 160≤it by omega) (fc (show 160≤ch by omega) fz))))
  obtain⟨e3,e3'⟩:=And.intro (E 43 W p pa ua tr ut tc ch tw wg uw tz se c2 it i cv ce (zN j) tj s.heap.objs.size s.toks) (E 44 W p pa ua tr ut tc ch tw wg uw tz se c2 it i cv ce (zN j) tj s.heap.objs.size s.toks)
  refine C.startC hA dA (C.stop e3 hA noV (SQ.he1 (eff_lnext hcj)) rfl ?_)
  rw[e3']
  intro s₁ A1 C1 _ F1 hA1 hd1 ke3
  have gc1:=C1.ix 1 (p.n+2,cel (some (.int (zN j) tj))) rfl
  have gi1:=C1.ix 2 (it,lit ch (i+1)) rfl
  have gh1:=C1.ix 3 (ch,lst cv ce) rfl
  have gn1:=C1.ix 0 (p.n,FC W p pa ua tr ut tc ch tw wg uw tz se) rfl
  have gj1:=C1.ix 4 (s.heap.objs.size,lit ch 0) rfl
  have ga1:=C1.ix 5 (s.heap.objs.size+1,lst [] 0) rfl
  have gf1:=C1.ix 6 (s.heap.objs.size+2,frJ W none) rfl
  have S1:TS kt W s0 s₁ p (FC W p pa ua tr ut tc ch tw wg uw tz se) c1 (some (.int (zN j) tj)) I fv fe fl:=by
   have keyn:∀{x:Nat} {o:Obj},x<p.n+6→x≠p.n→x≠p.n+2→s.heap.get? x=some o→s₁.heap.get? x=some o:=fun {x o} h0 h1 h2 h=>F1.keep _ _ h (by
    show x∉([p.n,p.n+2,it,ch]:List Nat)
    simp; omega)
   exact⟨C1.B,S.f.join F1 (fc (.inl (by rw[←G.n]; exact nR _)) (fc (.inl (by rw[←G.n]; exact lU _ 2)) (fc (.inl (by rw[←G.n]; show p.n≤it; omega)) (fc (.inl (by rw[←G.n]; show p.n≤ch; omega)) fz)))),
    gn1,keyn (by omega) (by omega) (by omega) S.m,gc1,keyn (by omega) (by omega) (by omega) S.fo,keyn (by omega) (by omega) (by omega) S.it,S.fi,S.fn⟩
  have n6:p.n+6≤s.heap.objs.size:=by omega
  have C1':=Cur.of2 (M:=[(s.heap.objs.size,lit ch 0)]) C1.B (fc gj1 fz) (pc fz .nil) (fc (show 160≤s.heap.objs.size by omega) fz)
  refine code_of_mean (P:=fun _ _=>False) (C1'.startC hA1 (by omega) (C1'.again (E 45 W p s.heap.objs.size ch s₁.heap.objs.size s₁.toks) noV noE rfl ?_))
  intro s₂ C2 _ F2
  have gj2:=C2.ix 0 (s.heap.objs.size,lit ch 0) rfl
  have F2':Fut [] [] s₁ s₂:=F2.same (fc (.inr (.inr (gj2.trans gj1.symm))) fz)
  have k12:∀{x:Nat} {o:Obj},s₁.heap.get? x=some o→s₂.heap.get? x=some o:=fun h=>F2'.keep _ _ h (fun h=>nomatch h)
  refine jloop E (m:=s.heap.objs.size) (chosen:=chosen) (by omega) hn (by omega) (by omega) (by omega) ci hA1 (by omega) chosen (i:=0) (st:=none) (xs:=[]) rfl (fun h=>by rw[h]at hjm; cases hjm) C2.B (k12 gc1) gj2 (k12 gh1) (k12 ga1) (k12 gf1) rfl (by simp; omega) ?_
  intro s3 va ea z B3 F3 ga3 gf3 hia
  rw[List.nil_append]at hia
  have S3:=(S1.keep G.n C2.B F2' fz).keep G.n B3 F3 (fc (.inl (show p.n+6≤s.heap.objs.size by omega)) (fc (.inl (show p.n+6≤s.heap.objs.size+1 by omega)) (fc (.inl (show p.n+6≤s.heap.objs.size+2 by omega)) fz)))
  have k13:∀{x:Nat} {o:Obj},x<s.heap.objs.size→s₁.heap.get? x=some o→s3.heap.get? x=some o:=fun {x o} hx h=>F3.keep _ _ (k12 h) (by
   show x∉([s.heap.objs.size,s.heap.objs.size+1,s.heap.objs.size+2]:List Nat)
   simp; omega)
  obtain⟨z1,z2,z3⟩:=z
  have C3:=Cur.of2 (M:=[(p.n,FC W p pa ua tr ut tc ch tw wg uw tz se),(s.heap.objs.size+2,frJ W (some (z1,z2,z3)))]) B3 (fc S3.fr (fc gf3 fz)) (by show List.Nodup [p.n,s.heap.objs.size+2]; trivial) (fc hn (fc (show 160≤s.heap.objs.size+2 by omega) fz))
  refine C3.startT ke3 hA dA (C3.stop (E 51 W p pa ua tr ut tc ch tw wg uw tz se c2 it i cv ce (zN j) tj s.heap.objs.size s.toks z1 z2 z3 s3.heap.objs.size s3.toks) hA noV noE rfl ?_)
  intro s₄ A4 C4 _ F4 hA4 hd4 ke4
  have gn4:=C4.ix 0 (p.n,FC W p pa ua tr ut tc ch tw wg uw tz se) rfl
  have S4:=S3.keep G.n C4.B F4 (fc (.inr (by rw[gn4,S3.fr])) (fc (.inl (show p.n+6≤s.heap.objs.size+2 by omega)) fz))
  have k34:∀{x:Nat} {o:Obj},x≠p.n→x≠s.heap.objs.size+2→s3.heap.get? x=some o→s₄.heap.get? x=some o:=fun {x o} h1 h2 h=>F4.keep _ _ h (by
   show x∉([p.n,s.heap.objs.size+2]:List Nat)
   simp; omega)
  have ga4:=k34 (x:=s.heap.objs.size+1) (by omega) (by omega) ga3
  have gw4:=S4.f.keep _ _ G.hw (fun h=>nomatch h)
  have wlt:p.wy<p.n:=by rw[G.n]; exact Heap.lt_size G.hw
  have hfs:(chosen.filter fun x:Nat=>!(decide (zN x=zN j))).Sublist [0,1,2,3]:=List.filter_sublist.trans hsub
  have hfl:(chosen.filter fun x:Nat=>!(decide (zN x=zN j))).length≤4:=by simpa using hfs.length_le
  refine RE.r_spec RE' (ws:=ws) (fuel:=20) C4.B hA4 (by omega) G.w160 (show 160≤s.heap.objs.size+1 by omega) (by show p.wy≠s.heap.objs.size+1; omega) gw4 ga4 (G.ways.futN S4.f fz) hia (fun x hx=>by have:=hfs.subset hx; rw[G.wl]; simp at this; omega) (by omega) (by rw[G.wl]; decide) (nR _) (G.reach hfs (.inl rfl)) ?_
  intro s5 (l:Nat) sv es F5 hl gl hil
  have S5:=S4.keep G.n (C4.B.fut F5 fz) F5 fz
  have k45:∀{x:Nat} {o:Obj},s₄.heap.get? x=some o→s5.heap.get? x=some o:=fun h=>F5.keep _ _ h (fun h=>nomatch h)
  have l0:s.heap.objs.size≤l:=by
   have h1:s.heap.objs.size+1<s₄.heap.objs.size:=Heap.lt_size ga4
   omega
  have gi5:=k45 (k34 (x:=it) (by omega) (by omega) (k13 itlt gi1))
  have gh5:=k45 (k34 (x:=ch) (by omega) (by omega) (k13 (by omega) gh1))
  by_cases hr:(1:Int)∈reach ws (chosen.filter fun x:Nat=>!(decide (zN x=zN j))) 0
  ·have C5:=Cur.of2 (M:=[(p.n,FC W p pa ua tr ut tc ch tw wg uw tz se),(l,lst sv es)]) S5.B (fc S5.fr (fc gl fz)) (by show List.Nodup [p.n,l]; trivial) (fc hn (fc (show 160≤l by omega) fz))
   refine C5.startT ke4 hA dA (C5.again (E 52 W p pa ua tr ut tc ch tw wg uw tz se c2 it i cv ce (zN j) tj s.heap.objs.size s.toks z1 z2 z3 s3.heap.objs.size s3.toks l sv es s5.heap.objs.size s5.toks) noV (SQ.he1 (eff_list_contains (xs:=reach ws (chosen.filter fun x:Nat=>!(decide (zN x=zN j))) 0) rfl Z0 hil rfl rfl rfl rfl (by simp only[hr,decide_true]))) rfl ?_)
   intro s6 C6 _ F6
   have gn6:=C6.ix 0 (p.n,FC W p pa ua tr ut tc ch tw wg uw tz se) rfl
   have S6:=S5.keep G.n C6.B F6 (fc (.inr (by rw[gn6,S5.fr])) (fc (.inl (show p.n+6≤l by omega)) fz))
   have k56:∀{x:Nat} {o:Obj},x≠p.n→x<s.heap.objs.size→s5.heap.get? x=some o→s6.heap.get? x=some o:=fun {x o} h1 h2 h=>F6.keep _ _ h (by
    show x∉([p.n,l]:List Nat)
    simp; omega)
   refine ih hdr' S6 (k56 (by omega) itlt gi5) (k56 (by omega) (by omega) gh5) ?_
   rw[List.foldl_cons]at k
   rw[show fstep ws chosen wg fl j=fl from by unfold fstep; rw[if_pos hr]]at k
   exact k
  ·obtain⟨x,hx⟩:∃x,fl[j]?=some x:=⟨fl[j]'(by rw[S.fn]; exact hj4),List.getElem?_eq_getElem _⟩
   obtain⟨tx,hfx⟩:=intsOf_get S.fi hx
   have hgd:fl.getD j 0=x:=by rw[List.getD_eq_getElem?_getD,hx]; rfl
   have hfvl:fv.length=4:=by rw[SH.intsOf_len S.fi]; exact S.fn
   have C5:=Cur.of2 (M:=[(p.n,FC W p pa ua tr ut tc ch tw wg uw tz se),(p.n+2,cel (some (.int (zN j) tj))),(l,lst sv es),(p.n+3,lst fv fe)]) S5.B (fc S5.fr (fc S5.kc (fc gl (fc S5.fo fz)))) (by show List.Nodup [p.n,p.n+2,l,p.n+3]; trivial) (fc hn (fc (show 160≤p.n+2 by omega) (fc (show 160≤l by omega) (fc (show 160≤p.n+3 by omega) fz))))
   refine C5.startT ke4 hA dA (C5.again (E 53 W p pa ua tr ut tc ch tw wg uw tz se c2 it i cv ce (zN j) tj s.heap.objs.size s.toks z1 z2 z3 s3.heap.objs.size s3.toks (zN j) tj l sv es fv fe x tx s5.heap.objs.size s5.toks) noV
    (PA.he3 (eff_setitem rfl Z0 (Int.natCast_nonneg j) (by show j<fv.length; omega) (by omega) rfl rfl rfl rfl) (PA.get_ok hfx (by omega)) (eff_list_contains (xs:=reach ws (chosen.filter fun x:Nat=>!(decide (zN x=zN j))) 0) rfl Z0 hil rfl rfl rfl rfl (by simp only[hr,decide_false]))) rfl ?_)
   intro s6 C6 _ F6
   have gn6:=C6.ix 0 (p.n,FC W p pa ua tr ut tc ch tw wg uw tz se) rfl
   have gc6:=C6.ix 1 (p.n+2,cel (some (.int (zN j) tj))) rfl
   have gf6:=C6.ix 3 (p.n+3,lst (fv.set j (.int (x+wg) s5.toks)) fe) rfl
   have k56:∀{x:Nat} {o:Obj},x≠p.n→x≠p.n+2→x≠p.n+3→x<s.heap.objs.size→s5.heap.get? x=some o→s6.heap.get? x=some o:=fun {x o} h1 h2 h3 h4 h=>F6.keep _ _ h (by
    show x∉([p.n,p.n+2,l,p.n+3]:List Nat)
    simp; omega)
   have S6:TS kt W s0 s6 p (FC W p pa ua tr ut tc ch tw wg uw tz se) c1 (some (.int (zN j) tj)) I (fv.set j (.int (x+wg) s5.toks)) fe (fl.set j (x+wg)) :=
    ⟨C6.B,S5.f.join F6 (fc (.inl (by rw[←G.n]; exact nR _)) (fc (.inl (by rw[←G.n]; exact lU _ 2)) (fc (.inl (by rw[←G.n]; show p.n≤l; omega)) (fc (.inl (by rw[←G.n]; exact lU _ 3)) fz)))),gn6,
     k56 (by omega) (by omega) (by omega) (by omega) S5.m,gc6,gf6,k56 (by omega) (by omega) (by omega) (by omega) S5.it,intsOf_set S.fi _ _ _,by simp[S.fn]⟩
   refine ih hdr' S6 (k56 (by omega) (by omega) (by omega) itlt gi5) (k56 (by omega) (by omega) (by omega) (by omega) gh5) ?_
   rw[List.foldl_cons]at k
   rw[show fstep ws chosen wg fl j=fl.set j (x+wg)from by unfold fstep; rw[if_neg hr,hgd]]at k
   exact k
end
end TR
namespace TR
noncomputable def tstep(ws:List (Nat×Nat))(ohms:List Int)(size:Nat)(st:Int×Int×List Int)(mask:Nat):Int×Int×List Int :=
 if(bitsFrom mask 0 4).length=size-1 then
  if(reach ws (bitsFrom mask 0 4) 0).length=size then(st.1,st.2.1+wFrom ohms (bitsFrom mask 0 4) 0 4 1,(bitsFrom mask 0 4).foldl (fstep ws (bitsFrom mask 0 4) (wFrom ohms (bitsFrom mask 0 4) 0 4 1)) st.2.2)else st
 else if(bitsFrom mask 0 4).length=size-2∧(1:Int)∉reach ws (bitsFrom mask 0 4) 0∧(reach ws (bitsFrom mask 0 4) 0).length+(reach ws (bitsFrom mask 0 4) 1).length=size then(st.1+wFrom ohms (bitsFrom mask 0 4) 0 4 1,st.2.1,st.2.2)
 else st
theorem bits_sub(mask:Nat):∀(r j:Nat),(bitsFrom mask j r).Sublist (List.range' j r)
 | 0,j=>List.Sublist.slnil
 | r+1,j=>by
  rw[List.range'_succ]
  cases h:mask.testBit j with
  | true=>rw[bitsFrom_t h]; exact(bits_sub mask r (j+1)).cons_cons j
  | false=>rw[bitsFrom_f h]; exact(bits_sub mask r (j+1)).cons j
theorem bits_sub4(mask:Nat):(bitsFrom mask 0 4).Sublist [0,1,2,3]:=bits_sub mask 4 0
section
theorem TS.turn{s0 s s':Shared}{p:Pr}{F F':Obj}{c1 c2:Option Value}{I:Obj}{fv:List Value}{fe:Nat}{fl:List Int}(S:TS kt W s0 s p F c1 c2 I fv fe fl)(hn:p.n=s0.heap.objs.size)(B:Base kt W s'.heap)(Fu:Fut (p.n::L) [] s s')(gn:s'.heap.get? p.n=some F')(hL:∀a∈L,p.n+6≤a∨s'.heap.get? a=s.heap.get? a):TS kt W s0 s' p F' c1 c2 I fv fe fl:=by
 have key:∀{x:Nat} {o:Obj},x≠p.n→x<p.n+6→s.heap.get? x=some o→s'.heap.get? x=some o:=fun {x o} h0 hx h=>by
  by_cases z:x∈L
  ·rcases hL x z with y|y
   ·exact absurd hx (Nat.not_lt.mpr y)
   ·rw[y]; exact h
  ·exact Fu.keep _ _ h (fun z'=>by
    rcases mc.mp z' with y|y
    ·exact h0 y
    ·exact z y)
 exact⟨B,S.f.join Fu (fc (.inl (by rw[←hn]; exact nR _)) fun a ha=>(hL a ha).imp (fun y=>by rw[←hn]; exact nT (lU _ 6) y) id),gn,key (by omega) (by omega) S.m,key (by omega) (by omega) S.kc,key (by omega) (by omega) S.fo,key (by omega) (by omega) S.it,S.fi,S.fn⟩
theorem rloop_len(ws:List (Nat×Nat))(ch:List Nat):∀(f i:Nat) (xs out:List Int),RE.rloop ws ch f i xs=some out→out.length≤xs.length+ch.length*f
 | 0,i,xs,out,h=>by cases h
 | f+1,i,xs,out,h=>by
  rw[RE.rloop_s]at h
  rw[Nat.mul_succ]
  cases hx:xs[i]? with
  | none=>rw[hx]at h; cases h; omega
  | some x =>
   rw[hx,Option.elim_some]at h
   have h1:=rloop_len ws ch f (i+1) _ out h
   have h2:=RE.rfold_len ws x ch xs
   omega
theorem TG.rlen{s0:Shared}{p:Pr}{ws:List (Nat×Nat)}{wv:List Value}{we:Nat}{ov:List Value}{oe:Nat}{ohms:List Int}{size:Nat}(G:TG s0 p ws wv we ov oe ohms size){ch:List Nat}{pt:Int}(h:ch.Sublist [0,1,2,3])(h':pt=0∨pt=1):(TR.reach ws ch pt).length<1000:=by
 have h1:=rloop_len ws ch _ _ _ _ (G.reach h h')
 have h2:ch.length≤4:=by simpa using h.length_le
 have h3:ch.length*20≤4*20:=Nat.mul_le_mul_right _ h2
 simp only[List.length_cons,List.length_nil]at h1
 omega
theorem isub{a b k:Nat}(h:k≤b):(zN a=zN b-zN k)↔a=b-k:=by
 rw[show zN b-zN k=zN (b-k)from(Int.ofNat_sub h).symm]
 exact⟨fun h=>zN.inj h,fun h=>congrArg zN h⟩
theorem isub2{b:Nat}(h:2≤b):b-1≠b-2:=by omega
set_option maxHeartbeats 2000000 in
theorem mloop(E:Evs kt)(RE':RE.Evs kt){s0:Shared}{p:Pr}{ws:List (Nat×Nat)}{wv:List Value}{we:Nat}{ov:List Value}{oe:Nat}{ohms:List Int}{size:Nat}(G:TG s0 p ws wv we ov oe ohms size)(hA:A.handled=none)(hd:A.depth+85<1000):
  ∀(rest:Nat) {i:Nat} {s:Shared} {st:Fs} {c1 c2:Option Value} {pa tr:Int} {ua ut:Nat} {fv:List Value} {fe:Nat} {fl:List Int},i+rest=16→TS kt W s0 s p (frO W p pa ua tr ut st) c1 c2 (rgi (zN i) (zN rest) 1) fv fe fl →
   (∀s' st' c1' c2' pa' tr' ua' ut' fv' fe' fl' I,TS kt W s0 s' p (frO W p pa' ua' tr' ut' st') c1' c2' I fv' fe' fl'→(pa',tr',fl')=(List.range' i rest).foldl (tstep ws ohms size) (pa,tr,fl)→R (.ok .next) s') →
   Mean W A R P (LM kt W p) (.own []) (denote table (LM kt W p)) s:=by
 have hn:160≤p.n:=by rw[G.n]; exact G.b
 have dA:A.depth+60<1000:=by omega
 have wlt:p.wy<p.n:=by rw[G.n]; exact Heap.lt_size G.hw
 have olt:p.oh<p.n:=by rw[G.n]; exact Heap.lt_size G.ho
 intro rest
 induction rest with
 | zero =>
  intro i s st c1 c2 pa tr ua ut fv fe fl hi S k
  have hi16:i=16:=by omega
  subst hi16
  have C:=Cur.of2 (M:=[(p.n+5,rgi 16 0 1)]) S.B (fc S.it fz) (pc fz .nil) (fc (show 160≤p.n+5 by omega) fz)
  refine C.startC hA dA (C.ret (E 58 W p s.heap.objs.size s.toks) noV noE rfl ?_)
  intro s' C' _ F
  have gi':=C'.ix 0 (p.n+5,rgi 16 0 1) rfl
  exact k s' st c1 c2 pa tr ua ut fv fe fl _ (S.keep G.n C'.B F (fc (.inr (by rw[gi']; exact S.it.symm)) fz)) rfl
 | succ rest ih =>
  intro i s st c1 c2 pa tr ua ut fv fe fl hi S k
  have n6:p.n+6≤s.heap.objs.size:=by have h:p.n+5<s.heap.objs.size:=Heap.lt_size S.it; omega
  obtain⟨N,hN⟩:∃N:Nat,N=s.heap.objs.size:=⟨_,rfl⟩
  rw[←hN]at n6
  have C:=Cur.of2 (M:=[(p.n,frO W p pa ua tr ut st),(p.n+1,cel c1),(p.n+2,cel c2),(p.n+5,rgi (zN i) (zN (rest+1)) 1)]) S.B (fc S.fr (fc S.m (fc S.kc (fc S.it fz))))
   (by show List.Nodup [p.n,p.n+1,p.n+2,p.n+5]; trivial) (fc hn (fc (show 160≤p.n+1 by omega) (fc (show 160≤p.n+2 by omega) (fc (show 160≤p.n+5 by omega) fz))))
  obtain⟨hs,o,ho,e,q0⟩:=t_m E p pa ua tr ut st c1 c2 (zN i) (zN (rest+1)) s.heap.objs.size s.toks
  refine C.startC hA dA (hs:=hs) (ho▸C.stop e hA noV (SQ.he1 nextOk) rfl ?_)
  rw[←hN]at q0 ⊢
  intro s₁ A1 C1 _ F1 hA1 hd1 ke
  have gn1:=C1.ix 0 (p.n,frO W p pa ua tr ut st) rfl
  have gm1:=C1.ix 1 (p.n+1,cel (some (.int (zN i) s.toks))) rfl
  have gc1:=C1.ix 2 (p.n+2,cel c2) rfl
  have gi1:=C1.ix 3 (p.n+5,rgi (zN i+1) (zN (rest+1)-1) 1) rfl
  have ga1:=C1.ix 4 (N+1,rgi 0 4 1) rfl
  have gb1:=C1.ix 5 (N+2,lst [] 0) rfl
  have gf1:=C1.ix 6 (N+3,frK W none) rfl
  simp only[left1,up1]at gi1
  have S1:TS kt W s0 s₁ p (frO W p pa ua tr ut st) (some (.int (zN i) s.toks)) c2 (rgi (zN (i+1)) (zN rest) 1) fv fe fl :=
   ⟨C1.B,S.f.join F1 (fc (.inl (by rw[←G.n]; exact nR _)) (fc (.inl (by rw[←G.n]; exact lU _ 1)) (fc (.inl (by rw[←G.n]; exact lU _ 2)) (fc (.inl (by rw[←G.n]; exact lU _ 5)) fz)))),
    gn1,gm1,gc1,F1.keep _ _ S.fo (by show p.n+3∉([p.n,p.n+1,p.n+2,p.n+5]:List Nat); simp),gi1,S.fi,S.fn⟩
  have C1':=Cur.of2 (M:=[(N+1,rgi 0 4 1),(N+2,lst [] 0),(N+3,frK W none)]) C1.B (fc ga1 (fc gb1 (fc gf1 fz))) (by show List.Nodup (α:=Nat) [N+1,N+2,N+3]; trivial) (fc (show 160≤N+1 by omega) (fc (show 160≤N+2 by omega) (fc (show 160≤N+3 by omega) fz)))
  refine code_of_mean (P:=fun _ _=>False) (C1'.startC hA1 (by omega) (C1'.again (E 5 W p N s₁.heap.objs.size s₁.toks) noV noE rfl ?_))
  intro s₂ C2 _ F2
  have ga2:=C2.ix 0 (N+1,rgi 0 4 1) rfl
  have gb2:=C2.ix 1 (N+2,lst [] 0) rfl
  have gf2:=C2.ix 2 (N+3,frK W none) rfl
  have S2:=S1.keep G.n C2.B F2 (fc (.inl (show p.n+6≤N+1 by omega)) (fc (.inl (show p.n+6≤N+2 by omega)) (fc (.inl (show p.n+6≤N+3 by omega)) fz)))
  refine qloop E (m:=N) (mask:=i) (by omega) (by omega) hn hA1 (by omega) 4 (j:=0) (st:=none) (xs:=[]) rfl (fun h=>nomatch h) C2.B S2.m ga2 gb2 gf2 rfl (nR _) ?_
  intro s3 cv ce z B3 F3 gv3 gf3 hcv
  rw[List.nil_append]at hcv
  obtain⟨ch,hch⟩:∃ch,ch=bitsFrom i 0 4:=⟨_,rfl⟩
  rw[←hch]at hcv
  have hsub:ch.Sublist [0,1,2,3]:=hch▸bits_sub4 i
  have hL:cv.length=ch.length:=by rw[SH.intsOf_len hcv]; simp
  have hL4:ch.length≤4:=by simpa using hsub.length_le
  have S3:=S2.keep G.n B3 F3 (fc (.inl (show p.n+6≤N+1 by omega)) (fc (.inl (show p.n+6≤N+2 by omega)) (fc (.inl (show p.n+6≤N+3 by omega)) fz)))
  have C3:=Cur.of2 (M:=[(p.n,frO W p pa ua tr ut st),(N+3,frK W (some z)),(N+2,lst cv ce)]) B3 (fc S3.fr (fc gf3 (fc gv3 fz))) (by show List.Nodup (α:=Nat) [p.n,N+3,N+2]; trivial) (fc hn (fc (show 160≤N+3 by omega) (fc (show 160≤N+2 by omega) fz)))
  have z1:(zN cv.length=p.sz-1)↔ch.length=size-1:=by rw[G.sz,hL]; exact isub (Nat.le_of_succ_le G.s2)
  have z2:(zN cv.length=p.sz-2)↔ch.length=size-2:=by rw[G.sz,hL]; exact isub G.s2
  have z12:ch.length=size-1→ch.length≠size-2:=fun h=>h▸isub2 G.s2
  have elen:∀{l:Nat} {vs:List Value} {e n t:Nat},vs.length<1000→(PA.eLenL l vs e n t).Ok PW W.w:=fun h=>eff_len_list rfl Z0 rfl rfl (by omega) rfl rfl
  have econ:∀{b:Bool} {n t u v w:Nat},b=decide (ch.length=size-1∨ch.length=size-2)→(PA.eTCon n [.int (p.sz-1) u,.int (p.sz-2) v] (zN cv.length) w b (n+1) t).Ok PW W.w:=fun h=>eff_tuple_contains (xs:=[p.sz-1,p.sz-2]) rfl Z0 rfl rfl rfl rfl rfl (by rw[h]; simp only[mc,nn,or_false,z1,z2])
  obtain⟨qF,qT⟩:=q0 z cv ce s3.heap.objs.size s3.toks
  rw[show List.range' i (rest+1)=i::List.range' (i+1) rest from rfl,List.foldl_cons]at k
  by_cases hin:ch.length=size-1∨ch.length=size-2
  ·
   obtain⟨hs2,o2,tc,tw,z',ho2,e2,q1⟩:=qT
   refine C3.startO ho2 ke hA dA (C3.stop e2 hA noV (SQ.he2 (econ (by simp only[hin,decide_true])) (elen (by omega))) rfl ?_)
   intro s4 A4 C4 _ F4 hA4 hd4 ke2
   obtain⟨N3,hN3⟩:∃N3:Nat,N3=s3.heap.objs.size:=⟨_,rfl⟩
   rw[←hN3]at C4 ⊢
   have hNN:N+3<N3:=by rw[hN3]; exact Heap.lt_size gf3
   have gn4:=C4.ix 0 (p.n,frW W p pa ua tr ut tc (N+2) tw 1 (s3.toks+7) z') rfl
   have gv4:=C4.ix 1 (N+2,lst cv ce) rfl
   have gr4:=C4.ix 2 (N3+2,rgi 0 4 1) rfl
   have S4:=S3.turn G.n C4.B F4 gn4 (fc (.inl (show p.n+6≤N+3 by omega)) (fc (.inl (show p.n+6≤N+2 by omega)) fz))
   refine code_of_mean (P:=fun _ _=>False) (wloop E (chosen:=ch) (ohms:=ohms) hn (by omega) (by omega) (by omega) G.o160 olt hcv G.oi G.ol G.ob hA4 (by omega) 4 (j:=0) rfl C4.B gn4 S4.kc gr4 gv4 (S4.f.keep _ _ G.ho (fun h=>nomatch h)) ?_)
   intro s5 uw c2' B5 F5 gn5 gc5
   obtain⟨w,hw⟩:∃w,w=wFrom ohms ch 0 4 1:=⟨_,rfl⟩
   rw[←hw]at gn5
   have k45:∀{x:Nat} {o:Obj},x≠p.n→x≠p.n+2→x<N3→s4.heap.get? x=some o→s5.heap.get? x=some o:=fun {x o} h1 h2 h3 h=>F5.keep _ _ h (by show x∉([p.n,p.n+2,N3+2]:List Nat); exact nmq (fc (by omega) (fc (by omega) (fc (by omega) fz))))
   have S5:TS kt W s0 s5 p (frW W p pa ua tr ut tc (N+2) tw w uw z') (some (.int (zN i) s.toks)) c2' (rgi (zN (i+1)) (zN rest) 1) fv fe fl :=
    ⟨B5,S4.f.join F5 (fc (.inl (by rw[←G.n]; exact nR _)) (fc (.inl (by rw[←G.n]; exact lU _ 2)) (fc (.inl (by rw[←G.n]; show p.n≤N3+2; omega)) fz))),gn5,
     k45 (by omega) (by omega) (by omega) S4.m,gc5,k45 (by omega) (by omega) (by omega) S4.fo,k45 (by omega) (by omega) (by omega) S4.it,S4.fi,S4.fn⟩
   have gv5:=k45 (x:=N+2) (by omega) (by omega) (by omega) gv4
   obtain⟨hs3,o3,ho3,e3,q2⟩:=q1 w uw s5.heap.objs.size s5.toks
   have C5:=Cur.of2 (M:=[(p.n,frW W p pa ua tr ut tc (N+2) tw w uw z')]) B5 (fc gn5 fz) (pc fz .nil) (fc hn fz)
   refine C5.startO ho3 ke2 hA dA (C5.stop e3 hA noV noE rfl ?_)
   intro s6 A6 C6 _ F6 hA6 hd6 ke3
   have gn6:=C6.ix 0 (p.n,frW W p pa ua tr ut tc (N+2) tw w uw z') rfl
   have S6:=S5.turn G.n C6.B F6 gn6 fz
   have gv6:=F6.keep _ _ gv5 (by show N+2∉([p.n]:List Nat); exact nmq (fc (by omega) fz))
   have rspec:∀{A':Around} {R':Result→Shared→Prop} {s':Shared} {pt:Int} {tp:Nat} {F:Obj} {c1 c2:Option Value} {I:Obj} {fv:List Value} {fe:Nat} {fl:List Int},A'.handled=none→A'.depth≤A.depth+1→TS kt W s0 s' p F c1 c2 I fv fe fl→s'.heap.get? (N+2)=some (lst cv ce)→(pt=0∨pt=1) →
     (∀(s'':Shared) (l:Nat) (vs:List Value) (e:Nat),TS kt W s0 s'' p F c1 c2 I fv fe fl→s''.heap.get? (N+2)=some (lst cv ce)→N+2<l→(∀x o,s'.heap.get? x=some o→s''.heap.get? x=some o)→s''.heap.get? l=some (lst vs e)→intsOf vs=some (reach ws ch pt)→vs.length=(reach ws ch pt).length→R' (.ok (.ret (.ref l))) s'') →
     codeAny W.M A' (.call (.ref 127) ⟨[.ref p.wy,.ref (N+2),.int pt tp],[]⟩) R' s':=fun {A' R' s' pt tp F c1 c2 I fv fe fl} hA' hd' S' gv' hpt kk=>by
    refine RE.r_spec RE' (ws:=ws) (fuel:=20) S'.B hA' (by omega) G.w160 (show 160≤N+2 by omega) (by show p.wy≠N+2; omega) (S'.f.keep _ _ G.hw (fun h=>nomatch h)) gv' (G.ways.futN S'.f fz) hcv (fun x hx=>by rw[G.wl]; exact(by decide:∀y∈([0,1,2,3]:List Nat),y<4) x (hsub.subset hx)) (by omega) (by rw[G.wl]; decide) (nR _) (G.reach hsub hpt) ?_
    intro s'' (l:Nat) vs e F' hl gl hi'
    have hN2:N+2<s'.heap.objs.size:=Heap.lt_size gv'
    exact kk s'' l vs e (S'.keep G.n (S'.B.fut F' fz) F' fz) (F'.keep _ _ gv' (fun h=>nomatch h)) (Nat.lt_of_lt_of_le hN2 hl) (fun x o h=>F'.keep _ _ h (fun h=>nomatch h)) gl hi' (SH.intsOf_len hi')
   refine rspec hA6 (by omega) S6 gv6 (.inl rfl) ?_
   intro s7 l sv es S7 gv7 hl7 k67 gl7 hsv hsl
   obtain⟨L,hLs⟩:∃L,L=(reach ws ch 0).length:=⟨_,rfl⟩
   rw[←hLs]at hsl
   obtain⟨qTT,qTF,qFI,qFO⟩:=q2 cv ce l sv es s7.heap.objs.size s7.toks
   have z3:(zN sv.length=p.sz)↔L=size:=by rw[G.sz,hsl]; exact⟨fun h=>zN.inj h,fun h=>by rw[h]⟩
   have hL20:sv.length<1000:=by rw[hsl,hLs]; exact G.rlen hsub (.inl rfl)
   have hcon:∀{b:Bool} {n t u:Nat},b=decide ((1:Int)∈reach ws ch 0)→(eLCon l sv es 1 u b n t).Ok PW W.w:=fun h=>eff_list_contains (xs:=reach ws ch 0) rfl Z0 hsv rfl rfl rfl rfl h
   have C7:=Cur.of2 (M:=[(p.n,frW W p pa ua tr ut tc (N+2) tw w uw z'),(N+2,lst cv ce),(l,lst sv es)]) S7.B (fc S7.fr (fc gv7 (fc gl7 fz))) (by show List.Nodup (α:=Nat) [p.n,N+2,l]; trivial) (fc hn (fc (show 160≤N+2 by omega) (fc (show 160≤l by omega) fz)))
   have fin:∀{s':Shared} {pa' tr':Int} {ua' ut' uw' tz:Nat} {fv':List Value} {fe':Nat} {fl':List Int} {c2':Option Value},TS kt W s0 s' p (FC W p pa' ua' tr' ut' tc (N+2) tw w uw' tz l) (some (.int (zN i) s.toks)) c2' (rgi (zN (i+1)) (zN rest) 1) fv' fe' fl'→(pa',tr',fl')=tstep ws ohms size (pa,tr,fl) i→Mean W A R P (LM kt W p) (.own []) (denote table (LM kt W p)) s':=fun {s' pa' tr' ua' ut' uw' tz fv' fe' fl' c2'} S' hst=>by
    rw[←hst]at k
    exact ih (st:=.C tc (N+2) tw w uw' tz l) (by omega) S' k
   have hts:tstep ws ohms size (pa,tr,fl) i=if ch.length=size-1 then(if L=size then(pa,tr+w,ch.foldl (fstep ws ch w) fl)else(pa,tr,fl))else if ch.length=size-2∧(1:Int)∉reach ws ch 0∧L+(reach ws ch 1).length=size then(pa+w,tr,fl)else(pa,tr,fl):=by
    unfold tstep; rw[←hch,←hw,←hLs]
   have dT:∀{x y:Int},x=y→dEq x y=true:=fun h=>by rw[dEq_eq]; exact decide_eq_true h
   have dF:∀{x y:Int},¬(x=y)→dEq x y=false:=fun h=>by rw[dEq_eq]; exact decide_eq_false h
   by_cases h1:ch.length=size-1
   ·rw[if_pos h1]at hts
    by_cases hLz:L=size
    ·rw[if_pos hLz]at hts
     obtain⟨hs4,o4,tz,ut',ho4,e4,q6⟩:=qTT
     refine C7.startO ho4 ke3 hA dA (C7.stop e4 hA (CP.hv2 (dT (z3.mpr hLz)) (dT (z1.mpr h1))) (SQ.he2 (elen hL20) (elen (by omega))) rfl ?_)
     intro s8 A8 C8 _ F8 hA8 hd8 ke4
     have gn8:=C8.ix 0 (p.n,FC W p pa ua (tr+w) ut' tc (N+2) tw w uw tz l) rfl
     have gv8:=C8.ix 1 (N+2,lst cv ce) rfl
     have gi8:=C8.ix 3 (s7.heap.objs.size,lit (N+2) 0) rfl
     have S8:=S7.turn G.n C8.B F8 gn8 (fc (.inl (show p.n+6≤N+2 by omega)) (fc (.inl (show p.n+6≤l by omega)) fz))
     have hlt:N+2<s7.heap.objs.size:=Heap.lt_size gv7
     refine code_of_mean (P:=fun _ _=>False) (cloop E RE' G hA8 (by omega) (by omega) hlt hcv hsub ch (i:=0) rfl S8 gi8 gv8 ?_)
     intro s9 c2'' fv' fe' S9
     obtain⟨hs',e6⟩:=q6 s9.heap.objs.size s9.toks
     have C9:=Cur.start (W:=W) S9.B [] []
     refine C9.startT ke4 hA dA (C9.again e6 noV noE rfl ?_)
     intro s' C' _ F'
     exact fin (S9.keep G.n C'.B F' fz) hts.symm
    ·rw[if_neg hLz]at hts
     obtain⟨hs4,tz,e4⟩:=qTF
     refine C7.startT ke3 hA dA (C7.again e4 (CP.hv3 (dF (fun h=>z12 h1 (z2.mp h))) (dF (fun h=>hLz (z3.mp h))) (dT (z1.mpr h1))) (PA.he3 (elen (by omega)) (elen hL20) (elen (by omega))) rfl ?_)
     intro s8 C8 _ F8
     have gn8:=C8.ix 0 (p.n,FC W p pa ua tr ut tc (N+2) tw w uw tz l) rfl
     exact fin (S7.turn G.n C8.B F8 gn8 (fc (.inl (show p.n+6≤N+2 by omega)) (fc (.inl (show p.n+6≤l by omega)) fz))) hts.symm
   ·rw[if_neg h1]at hts
    have h2:ch.length=size-2:=hin.resolve_left h1
    by_cases hr:(1:Int)∈reach ws ch 0
    ·rw[if_neg (fun h=>h.2.1 hr)]at hts
     obtain⟨hs4,tz,e4⟩:=qFI
     refine C7.startT ke3 hA dA (C7.again e4 (CP.hv2 (dT (z2.mpr h2)) (dF (fun h=>h1 (z1.mp h)))) (PA.he3 (hcon (by simp only[hr,decide_true])) (elen (by omega)) (elen (by omega))) rfl ?_)
     intro s8 C8 _ F8
     have gn8:=C8.ix 0 (p.n,FC W p pa ua tr ut tc (N+2) tw w uw tz l) rfl
     exact fin (S7.turn G.n C8.B F8 gn8 (fc (.inl (show p.n+6≤N+2 by omega)) (fc (.inl (show p.n+6≤l by omega)) fz))) hts.symm
    ·obtain⟨hs4,o4,tz,ho4,e4,q3⟩:=qFO
     refine C7.startO ho4 ke3 hA dA (C7.stop e4 hA (CP.hv2 (dT (z2.mpr h2)) (dF (fun h=>h1 (z1.mp h)))) (SQ.he4 (elen hL20) (hcon (by simp only[hr,decide_false])) (elen (by omega)) (elen (by omega))) rfl ?_)
     intro s8 A8 C8 _ F8 hA8 hd8 ke4
     have gn8:=C8.ix 0 (p.n,FC W p pa ua tr ut tc (N+2) tw w uw tz l) rfl
     have gv8:=C8.ix 1 (N+2,lst cv ce) rfl
     have S8:=S7.turn G.n C8.B F8 gn8 (fc (.inl (show p.n+6≤N+2 by omega)) (fc (.inl (show p.n+6≤l by omega)) fz))
     refine rspec hA8 (by omega) S8 gv8 (.inr rfl) ?_
     intro s9 l2 sv2 es2 S9 gv9 hl9 k89 gl9 hsv2 hsl2
     obtain⟨qA,qB⟩:=q3 l2 sv2 es2 s9.heap.objs.size s9.toks
     have C9:=Cur.of2 (M:=[(p.n,FC W p pa ua tr ut tc (N+2) tw w uw tz l),(l2,lst sv2 es2)]) S9.B (fc S9.fr (fc gl9 fz)) (by show List.Nodup (α:=Nat) [p.n,l2]; trivial) (fc hn (fc (show 160≤l2 by omega) fz))
     have hl2:sv2.length<1000:=by rw[hsl2]; exact G.rlen hsub (.inr rfl)
     have z4:(zN sv.length+zN sv2.length=p.sz)↔L+(reach ws ch 1).length=size:=by rw[G.sz,hsl,hsl2]; exact⟨fun h=>zN.inj h,fun h=>congrArg zN h⟩
     by_cases hLL:L+(reach ws ch 1).length=size
     ·rw[if_pos ⟨h2,hr,hLL⟩]at hts
      obtain⟨hs5,ua',e5⟩:=qA
      refine C9.startT ke4 hA dA (C9.again e5 (CP.hv1 (dT (z4.mpr hLL))) (SQ.he1 (elen hl2)) rfl ?_)
      intro s10 C10 _ F10
      have gn10:=C10.ix 0 (p.n,FC W p (pa+w) ua' tr ut tc (N+2) tw w uw tz l) rfl
      exact fin (S9.turn G.n C10.B F10 gn10 (fc (.inl (show p.n+6≤l2 by omega)) fz)) hts.symm
     ·rw[if_neg (fun h=>hLL h.2.2)]at hts
      obtain⟨hs5,e5⟩:=qB
      refine C9.startT ke4 hA dA (C9.again e5 (CP.hv1 (dF (fun h=>hLL (z4.mp h)))) (SQ.he1 (elen hl2)) rfl ?_)
      intro s10 C10 _ F10
      have gn10:=C10.ix 0 (p.n,FC W p pa ua tr ut tc (N+2) tw w uw tz l) rfl
      exact fin (S9.turn G.n C10.B F10 gn10 (fc (.inl (show p.n+6≤l2 by omega)) fz)) hts.symm
  ·obtain⟨hs2,st',e2⟩:=qF
   refine C3.startT ke hA dA (C3.again e2 noV (SQ.he2 (econ (by simp only[hin,decide_false])) (elen (by omega))) rfl ?_)
   intro s4 C4 _ F4
   have gn4:=C4.ix 0 (p.n,frO W p pa ua tr ut st') rfl
   have S4:=S3.turn G.n C4.B F4 gn4 (fc (.inl (show p.n+6≤N+3 by omega)) (fc (.inl (show p.n+6≤N+2 by omega)) fz))
   refine ih (by omega) S4 ?_
   have hts:tstep ws ohms size (pa,tr,fl) i=(pa,tr,fl):=by
    unfold tstep
    rw[←hch,if_neg (fun h=>hin (.inl h)),if_neg (fun h=>hin (.inr h.1))]
   rw[hts]at k
   exact k
end
end TR
namespace TR
section
theorem t_z(E:Evs kt)(p:Pr)(pa:Int)(ua:Nat)(tr:Int)(ut:Nat)(st:Fs)(n t:Nat):
  ∃hs,RetIs (on kt W n t (a0 kt W p) (.ok .next) [(p.n,frO W p pa ua tr ut st)] hs) [] [] (.ok (.ret (.ref n))) [(1,n,tup [.int pa ua,.int tr ut,.ref (p.n+3)])]:=by
 cases st with
 | A=>exact⟨_,E 59 W p pa ua tr ut n t⟩
 | B tc ch=>exact⟨_,E 60 W p pa ua tr ut tc ch n t⟩
 | C tc ch tw wg uw tz se=>exact⟨_,E 61 W p pa ua tr ut tc ch tw wg uw tz se n t⟩
noncomputable def treesOf(ws:List (Nat×Nat))(ohms:List Int)(size:Nat):Int×Int×List Int:=(List.range' 0 16).foldl (tstep ws ohms size) (0,0,[0,0,0,0])
theorem t_spec(E:Evs kt)(RE':RE.Evs kt){wy oh:Nat}{ts:Nat}{ws:List (Nat×Nat)}{wv:List Value}{we:Nat}{ov:List Value}{oe:Nat}{ohms:List Int}{size:Nat}(B:Base kt W s.heap)(hA:A.handled=none)(hd:A.depth+90<1000)
  (w160:160≤wy) (o160:160≤oh) (hw:s.heap.get? wy=some (lst wv we)) (ho:s.heap.get? oh=some (lst ov oe)) (ways:WaysAt s.heap wv ws) (oi:intsOf ov=some ohms) (wl:ws.length=4) (ol:ohms.length=4) (ob:∀x∈ohms,x.natAbs<2 ^ 6) (s2:2≤size)
  (rch:∀(ch:List Nat) (pt:Int),ch.Sublist [0,1,2,3]→(pt=0∨pt=1)→∃out,RE.rloop ws ch 20 0 [pt]=some out)
  (k:∀(s':Shared) (a f ua ut fe:Nat) (fv:List Value),Fut [] [] s s'→s.heap.objs.size≤a→s.heap.objs.size≤f→s'.heap.get? a=some (tup [.int (treesOf ws ohms size).1 ua,.int (treesOf ws ohms size).2.1 ut,.ref f])→s'.heap.get? f=some (lst fv fe)→intsOf fv=some (treesOf ws ohms size).2.2→(treesOf ws ohms size).2.2.length=4→R (.ok (.ret (.ref a))) s') :
  codeAny W.M A (.call (.ref 132) ⟨[.ref wy,.ref oh,.int (zN size) ts],[]⟩) R s:=by
 have C0:=Cur.start (W:=W) B [] []
 have dA:A.depth+60<1000:=by omega
 have G:TG s ⟨s.heap.objs.size,s.toks,wy,oh,zN size,ts⟩ ws wv we ov oe ohms size:=⟨rfl,B.sz,w160,o160,hw,ho,ways,oi,wl,ol,ob,rfl,s2,rch⟩
 refine C0.startF hA dA (by decide) (C0.stop (E 0 W ⟨s.heap.objs.size,s.toks,wy,oh,zN size,ts⟩) hA noV noE rfl ?_)
 intro s₁ A1 C1 _ F1 hA1 hd1 ke0
 have gn:=C1.ix 0 (s.heap.objs.size,nA W ⟨s.heap.objs.size,s.toks,wy,oh,zN size,ts⟩ 0 (s.toks+3) 0 (s.toks+5) []) rfl
 have gm:=C1.ix 1 (s.heap.objs.size+1,cel none) rfl
 have gc:=C1.ix 2 (s.heap.objs.size+2,cel none) rfl
 have gf:=C1.ix 3 (s.heap.objs.size+3,lst [.int 0 (s.toks+7),.int 0 (s.toks+8),.int 0 (s.toks+9),.int 0 (s.toks+10)] 0) rfl
 have gi:=C1.ix 4 (s.heap.objs.size+5,rgi 0 16 1) rfl
 have S1:TS kt W s s₁ ⟨s.heap.objs.size,s.toks,wy,oh,zN size,ts⟩ (frO W ⟨s.heap.objs.size,s.toks,wy,oh,zN size,ts⟩ 0 (s.toks+3) 0 (s.toks+5) .A) none none (rgi (zN 0) (zN 16) 1) [.int 0 (s.toks+7),.int 0 (s.toks+8),.int 0 (s.toks+9),.int 0 (s.toks+10)] 0 [0,0,0,0] :=
  ⟨C1.B,F1,gn,gm,gc,gf,gi,rfl,rfl⟩
 refine code_of_mean (P:=fun _ _=>False) (mloop E RE' G hA1 (by omega) 16 (i:=0) rfl S1 ?_)
 intro s₂ st' c1' c2' pa tr ua ut fv fe fl I S2 hfold
 obtain⟨hs,ez⟩:=t_z E ⟨s.heap.objs.size,s.toks,wy,oh,zN size,ts⟩ pa ua tr ut st' s₂.heap.objs.size s₂.toks
 have C2:=Cur.of2 (M:=[(s.heap.objs.size,frO W ⟨s.heap.objs.size,s.toks,wy,oh,zN size,ts⟩ pa ua tr ut st')]) S2.B (fc S2.fr fz) (pc fz .nil) (fc B.sz fz)
 refine C2.startT ke0 hA dA (C2.ret ez noV noE rfl ?_)
 intro s3 C3 _ F3
 have ga:=C3.ix 0 (s₂.heap.objs.size,tup [.int pa ua,.int tr ut,.ref (s.heap.objs.size+3)]) rfl
 have gf3:=F3.keep _ _ S2.fo (by show s.heap.objs.size+3∉([s.heap.objs.size]:List Nat); simp)
 have hfold':treesOf ws ohms size=(pa,tr,fl):=hfold.symm
 refine k s3 s₂.heap.objs.size (s.heap.objs.size+3) ua ut fe fv (S2.f.join F3 (fc (.inl (nR _)) fz)) S2.f.size (lU _ 3) ?_ gf3 ?_ ?_<;>rw[hfold']
 ·exact ga
 ·exact S2.fi
 ·exact S2.fn
end
end TR
section
variable{e:Eff}
theorem cmp_eq{E:Value→Shared→Prop}{Q:Value→Shared→Prop}{l b:Addr}{vs ws:List Value}{n m:Nat}(hu:A.units<cLine)(gl:s.heap.get? l=some (lst vs n))(gb:s.heap.get? b=some (lst ws m))(hi:intsOf vs=some xs)(hj:intsOf ws=some xs)
  (h:Q (.bool true) s):wpAny (model prog w) A (operate [.ref l,.ref b] (compareOp .Eq (.ref l) (.ref b))) Q E s:=by
 refine wpAny_operate' (SeqAt.eq_listAt (items:=⟨vs⟩) (items2:=⟨ws⟩) (e:=fun _=>true) (lst_isList gl) (lst_isList gb) (by show vs.length=ws.length; rw[intsOf_len' hi,intsOf_len' hj]) hu (fun j h1 h2=>?_) ?_)
 ·have h1':j<vs.length:=h1
  have h2':j<ws.length:=h2
  have h3:j<xs.length:=by rw[←intsOf_len' hi]; exact h1'
  obtain⟨t,e1⟩:=intsOf_at hi h1' h3
  obtain⟨u,e2⟩:=intsOf_at hj h2' h3
  show SeqAt.EqAt A.in1 s vs[j] ws[j] true
  rw[e1,e2]
  have:=SeqAt.EqAt.int_int (A:=A.in1) (s:=s) xs[j] t xs[j] u
  rwa [show(xs[j]==xs[j])=true from by simp]at this
 ·have:((List.range (⟨vs⟩:Array Value).size).all fun _=>true)=true:=by simp
  rw[this]
  exact h
theorem eff_list_slice{l a:Addr}{o:Obj}{n:Nat}{i j k:Int}{ti tj tk:Tok}(hc:e.c=.call (.builtin "list.__getitem__") ⟨[.ref l,.ref a],[]⟩)(hp:(l,lst vs n)∈e.pre)(hq:(a,o)∈e.pre)(ho:o.cls=.type "slice"∧o.data=.fields #[.int i ti,.int j tj,.int k tk])(hk:k≠0)(hsz:vs.length<2 ^ 20)
  (hu:e.upd=none) (hn:e.new=[lst (slicePick ⟨vs⟩ (some i) (some j) (some k)).toList 0]) (hr:e.r=.ok (.ret (.ref e.n))) (hd:e.dt=0):e.Ok prog w:=by
 refine eff_slot hc F.slot_list_getitem F.entry_list_getitem (F.args_list_getitem_2 _ _) (fun s h=>lst_typeIs (h _ hp)) fun A s R hA hpre hn' ht hR=>?_
 have hl:=hpre _ hp
 have hs:=hpre _ hq
 have hTs:s.TypeIs (.ref a) "slice":=⟨_,hs,ho.1⟩
 have hst:¬((rawPart (some k)==rawInt 0)=true):=fun hh=>hk (by simpa [rawPart,rawInt]using hh)
 show wpAny _ _ (Builtin.List.listSubscript? (.ref a)>>=_) _ _ s
 refine wpAny_bind ?_
 unfold Builtin.List.listSubscript?
 refine wpAny_bind (wpAny_specialOf hTs slice_no_index ?_)
 simp only[Option.isNone_none,if_true]
 refine wpAny_pure ?_
 show wpAny _ _ (typeOf (.ref a)>>=_) _ _ s
 refine wpAny_bind (wpAny_typeOf hTs ?_)
 rw[if_neg (by decide),listSliceParts_eq]
 refine wpAny_bind (wpAny_bind (wpAny_field hs ho.2 (x:=.int k tk) rfl (wpAny_bind (wpAny_listPart (.int k tk) ?_))))
 rw[if_neg hst]
 refine wpAny_bind (wpAny_field hs ho.2 (x:=.int i ti) rfl (wpAny_bind (wpAny_listPart (.int i ti) ?_)))
 refine wpAny_bind (wpAny_field hs ho.2 (x:=.int j tj) rfl (wpAny_bind (wpAny_listPart (.int j tj) (wpAny_pure ?_))))
 refine wpAny_bind (m:=Builtin.List.listItems (.ref l)) ?_
 unfold Builtin.List.listItems
 refine wpAny_bind (wpAny_seqItems? hl (wpAny_pure ?_))
 refine wpAny_bind (wpAny_of_eq (sliceIndices_raw (some i) (some j) (some k) _ (by simpa using hk)) ?_)
 have h6:(2:Nat) ^ 20≤sizeLine:=by decide
 refine wpAny_bind (wpAny_newObj_type (wpAny_pure ?_) (nT (slicePick_size_le ⟨vs⟩ (some i) (some j) (some k)) (by show vs.length≤_; omega)))
 unfold Eff.heap at hR
 rw[hr,hu,hn,hd,←hn']at hR
 exact hR
theorem chk_sum(a:Value):checkBuiltinCall "sum" ⟨[a],[]⟩=pure ():=by kernel_rfl
end
section
theorem sum_loop{I S l:Nat}{n:Nat}(hA:A.handled=none)(hi:intsOf vs=some xs)(hb:∀x∈xs,0≤x∧x<1000000)(hI:I≠S)(hl:l≠S)(hlI:l≠I):
  ∀(rest:List Int) {i:Nat} {s:Shared} {tot:Int} {tA:Tok} {c:Nat},xs.drop i=rest→0≤tot→tot+1000000*rest.length<2 ^ 62→s.heap.IsListIter I l i→s.heap.get? l=some (lst vs n)→s.heap.get? S=some (lst [.int tot tA] c)→s.heap.objs.size=S+1 →
   (∀s' t,Fut [I,S] [] s s'→R (.ok (.ret (.int (tot+rest.sum) t))) s') →
   codeAny (model prog w) A (.builtin "sum.loop" ⟨[.ref I,.ref S,rawInt 0,rawInt 0],[]⟩) R s:=by
 intro rest
 induction rest with
 | nil =>
  intro i s tot tA c hdr h0 hf gI gl gS hsz k
  refine codeAny_builtin F.entry_sum_loop ?_
  rw[Around.under_plainId F.plain_sum_loop _]
  have hnx:vs[i]?=none:=by
   rcases intsOf_cons_get hi i with⟨h,_⟩|⟨x,t,h,h'⟩
   ·exact h
   ·have:(xs.drop i)[0]?=some x:=by simpa using h'
    rw[hdr]at this; cases this
  show wpAny _ A.in1 (seqItems? (.ref S)>>=_) _ _ s
  refine wpAny_bind (wpAny_seqItems? gS ?_)
  show wpAny _ A.in1 (tryCatch (pyNext (.ref I)) _>>=_) _ _ s
  refine wpAny_bind (wpAny_tryCatch (wpAny_pyNext_list_end (i:=i) (l:=l) (items:=⟨vs⟩) hA gI (lst_isList gl) (by simpa using hnx) fun h' hx=>?_))
  have gS':=hx S _ (fun z=>hI z.symm) gS
  have:=k {s with heap:=h'} tA ⟨fun b o e q=>hx b o (fun z=>q (z▸.head _)) e,by have h1:S<h'.objs.size:=Heap.lt_size gS'; show s.heap.objs.size≤h'.objs.size; rw[hsz]; exact h1,fun _ _ e _=>e,nR _,fun h=>h,rfl,rfl⟩
  rw[List.sum_nil,Int.add_zero]at this
  exact wpAny_pure this
 | cons x rest ih =>
  intro i s tot tA c hdr h0 hf gI gl gS hsz k
  have hx0:xs[i]?=some x:=by
   have:(xs.drop i)[0]?=some x:=by rw[hdr]; rfl
   simpa using this
  have hdr':xs.drop (i+1)=rest:=by rw[←List.drop_drop,hdr]; rfl
  obtain⟨y,t,hv,hy⟩:∃y t,vs[i]?=some (.int y t)∧xs[i]?=some y:=by
   rcases intsOf_cons_get hi i with⟨_,h⟩|h
   ·rw[h]at hx0; cases hx0
   ·exact h
  rw[hx0]at hy; cases hy
  have hxb:=hb x (List.mem_of_getElem? hx0)
  simp only[List.length_cons]at hf
  refine codeAny_builtin F.entry_sum_loop ?_
  rw[Around.under_plainId F.plain_sum_loop _]
  show wpAny _ A.in1 (seqItems? (.ref S)>>=_) _ _ s
  refine wpAny_bind (wpAny_seqItems? gS ?_)
  show wpAny _ A.in1 (tryCatch (pyNext (.ref I)) _>>=_) _ _ s
  refine wpAny_bind (wpAny_tryCatch (wpAny_pyNext_list_item (i:=i) (l:=l) (items:=⟨vs⟩) gI (lst_isList gl) (by simpa using hv) fun h' hI' hs'=>?_))
  have gS':h'.get? S=some (lst [.int tot tA] c):=(hs'.2 S (fun z=>hI z.symm)).trans gS
  have gl':h'.get? l=some (lst vs n):=(hs'.2 l hlI).trans gl
  have hcond:((decide (-(2 ^ 63)≤x)&&decide (x<2 ^ 63))&&(decide (-(2 ^ 63)≤tot+x)&&decide (tot+x<2 ^ 63)))=true:=by
   simp only[Bool.and_eq_true,decide_eq_true_eq]
   omega
  show wpAny _ A.in1 (if(_:Bool)=true then(mkInt (tot+x)>>=_)else _) _ _ _
  split
  ·refine wpAny_bind (wpAny_mkInt ?_)
   show wpAny _ A.in1 (updateSeq S (fun _=>#[.int (tot+x) s.toks])>>=_) _ _ _
   refine wpAny_bind ?_
   have hupd:(h'.update S (Obj.mapSeq fun _=>#[.int (tot+x) s.toks])).get? S=some (lst [.int (tot+x) s.toks] c):=Heap.get?_update_self _ gS' rfl
   refine wpAny_updateSeq gS' rfl (wpAny_pure ⟨plainId_quiet F.plain_sum_loop _,ih (i:=i+1) (tot:=tot+x) hdr' (by omega) (by omega) ?_ ?_ hupd ?_ ?_⟩)
   ·obtain⟨o,ho,r⟩:=hI'
    exact⟨o,(Heap.get?_update_other _ _ (fun h:S=I=>hI h.symm)).trans ho,r⟩
   ·exact(Heap.get?_update_other _ _ (fun h:S=l=>hl h.symm)).trans gl'
   ·show(h'.update S _).objs.size=S+1
    rw[Heap.size_update,hs'.1]; exact hsz
   ·intro s' t' F
    have F1:Fut [I,S] [] s {s with heap:=h'.update S (Obj.mapSeq fun _=>#[.int (tot+x) s.toks]),toks:=s.toks+1} :=
     ⟨fun b o e q=>(Heap.get?_update_other _ _ (fun h:S=b=>q (h▸Z1))).trans ((hs'.2 b (fun z=>q (z▸.head _))).trans e),by show s.heap.objs.size≤(h'.update S _).objs.size; rw[Heap.size_update,hs'.1]; exact nR _,fun _ _ e _=>e,nR _,fun h=>h,rfl,rfl⟩
    have:=k s' t' (F1.trans F)
    rwa [List.sum_cons,←Int.add_assoc]at this
  ·rename_i hneg
   exact absurd hcond hneg
theorem sum_spec{l:Nat}{n:Nat}(hA:A.handled=none)(gl:s.heap.get? l=some (lst vs n))(hi:intsOf vs=some xs)(hb:∀x∈xs,0≤x∧x<1000000)(hlen:xs.length≤1000)
  (k:∀s' t,Fut [] [] s s'→R (.ok (.ret (.int xs.sum t))) s'):codeAny (model prog w) A (.call (.builtin "sum") ⟨[.ref l],[]⟩) R s:=by
 refine codeAny_call_builtin F.plain_sum F.entry_sum (wpAny_of_eq (chk_sum _) ?_)
 delta Builtin.«sum»
 dsimp only
 rw[if_neg (Nat.not_lt.mpr (Nat.le_of_ble_eq_true rfl))]
 refine wpAny_bind (wpAny_of_eq (show Builtin.Builtins.bindParams "sum" ["start"] 0 {}=pure [none]from rfl) ?_)
 refine wpAny_bind (wpAny_pyIter_list (lst_isList gl) ?_)
 refine wpAny_bind (wpAny_mkInt ?_)
 refine wpAny_bind (wpAny_pure ?_)
 simp only[List.forIn_cons,List.forIn_nil]
 refine wpAny_bind (wpAny_bind (wpAny_bind (wpAny_isInstance (T:="int") (b:=false) (typeIs_int _ _ _) PySem.sub_int_str ?_)))
 simp only[Bool.false_eq_true,if_false]
 refine wpAny_pure (wpAny_bind (wpAny_bind (wpAny_isInstance (T:="int") (b:=false) (typeIs_int _ _ _) PySem.sub_int_bytes ?_)))
 simp only[Bool.false_eq_true,if_false]
 refine wpAny_pure (wpAny_bind (wpAny_bind (wpAny_isInstance (T:="int") (b:=false) (typeIs_int _ _ _) PySem.sub_int_bytearray ?_)))
 simp only[Bool.false_eq_true,if_false]
 refine wpAny_pure (wpAny_pure ?_)
 refine wpAny_bind (wpAny_newObj_type ?_)
 have llt:l<s.heap.objs.size:=Heap.lt_size gl
 have hz:(s.heap.push {cls:=.type "list_iterator",data:=.fields #[.ref l,.int 0 0]}).objs.size=s.heap.objs.size+1:=Heap.size_push ..
 refine wpAny_pure ⟨plainId_quiet F.plain_sum_loop _,sum_loop (I:=s.heap.objs.size) (S:=(s.heap.push {cls:=.type "list_iterator",data:=.fields #[.ref l,.int 0 0]}).objs.size) (l:=l) (n:=n) (xs:=xs) hA hi hb (by rw[hz]; omega) (by rw[hz]; omega) (by omega) xs (i:=0) (tot:=0) rfl (Int.le_refl _) (by omega) ?_ ?_ (Heap.get?_push_size _ rfl) (by rw[Heap.size_push]) ?_⟩
 ·exact⟨_,Heap.get?_push_of_some _ (Heap.get?_push_size _ rfl),rfl,rfl⟩
 ·exact Heap.get?_push_of_some _ (Heap.get?_push_of_some _ gl)
 ·intro s' t F
  have:=k s' t ?_
  ·rwa [Int.zero_add]
  ·have F0:Fut [] [] s {s with heap:=(s.heap.push {cls:=.type "list_iterator",data:=.fields #[.ref l,.int 0 0]}).push (lst [.int 0 s.toks] 0),toks:=s.toks+1} :=
    ⟨fun b o e q=>Heap.get?_push_of_some _ (Heap.get?_push_of_some _ e),by show _≤(Heap.push _ _).objs.size; rw[Heap.size_push,hz]; omega,fun _ _ e _=>e,nR _,fun h=>h,rfl,rfl⟩
   refine F0.trans' F (fun a ha=>?_) fz
   simp only[mf,nn,or_false]at ha
   rcases ha with rfl|rfl
   ·exact .inr (nR _)
   ·exact .inr (by rw[hz]; exact Nat.le_succ _)
end
set_option genCtorIdx true in
inductive Sg where
 | pl (c:Nat)
 | mk (q:Bool) (nm:List Nat)
namespace Sg
noncomputable def esc(nm:List Nat):List Nat:=nm.flatMap fun c=>[92,c]
noncomputable def tx:Sg→List Nat
 | pl c=>[c]
 | mk true nm=>34::nm++[34]
 | mk false nm=>esc nm
noncomputable def ou:Sg→List Nat
 | pl c=>[c]
 | mk true _=>[]
 | mk false nm=>esc nm
noncomputable def Nm(nm:List Nat):Prop:=∀c∈nm,c<128∧c≠34∧c≠92
noncomputable def Ok:Sg→Prop
 | pl c=>c=40∨c=41∨c=43∨c=124
 | mk _ nm=>Nm nm∧nm≠[]∧∃t,tokOf nm=some t
end Sg
noncomputable def txs(S:List Sg):List Nat:=S.flatMap Sg.tx
noncomputable def ous(S:List Sg):List Nat:=S.flatMap Sg.ou
noncomputable def Oks(S:List Sg):Prop:=∀x∈S,x.Ok
theorem txs_cons(x:Sg)(S:List Sg):txs (x::S)=x.tx++txs S:=rfl
theorem ous_cons(x:Sg)(S:List Sg):ous (x::S)=x.ou++ous S:=rfl
theorem txs_append(S T:List Sg):txs (S++T)=txs S++txs T:=List.flatMap_append
theorem esc_cons(c:Nat)(l:List Nat):Sg.esc (c::l)=92::c::Sg.esc l:=rfl
theorem Oks.tl{x:Sg}{S:List Sg}(h:Oks (x::S)):Oks S:=fun y hy=>h y (.tail _ hy)
theorem Oks.hd{x:Sg}{S:List Sg}(h:Oks (x::S)):x.Ok:=h x Z0
theorem Oks.sub{S T:List Sg}(h:Oks T)(hs:∀x∈S,x∈T):Oks S:=fun x hx=>h x (hs x hx)
theorem wf_esc:∀(nm r:List Nat),G.wf (Sg.esc nm++r) false=G.wf r false
 | [],r=>rfl
 | c::l,r=>by
  rw[esc_cons]
  show G.wf (Sg.esc l++r) false=_
  exact wf_esc l r
theorem wf_plain:∀(l r:List Nat),(∀c∈l,c≠92)→G.wf (l++r) false=G.wf r false
 | [],r,_=>rfl
 | c::l,r,h=>by
  have h1:c≠92:=h c Z0
  show G.wf (l++r) (c==92)=_
  rw[show(c==92)=false from by simpa using h1]
  exact wf_plain l r fun x hx=>h x (.tail _ hx)
theorem Sg.wf_tx{x:Sg}(h:x.Ok)(r:List Nat):G.wf (x.tx++r) false=G.wf r false:=by
 match x,h with
 | .pl c,h=>exact wf_plain [c] r (by intro z hz; simp only[ms]at hz; subst hz; rcases h with h|h|h|h<;>omega)
 | .mk true nm,h =>
  exact wf_plain (34::nm++[34]) r (by
   intro z hz
   simp only[ca,mf,mpp,nn,or_false]at hz
   rcases hz with rfl|hz|rfl
   ·decide
   ·exact(h.1 z hz).2.2
   ·decide)
 | .mk false nm,h=>exact wf_esc nm r
theorem Sg.wf_ou{x:Sg}(h:x.Ok)(r:List Nat):G.wf (x.ou++r) false=G.wf r false:=by
 match x,h with
 | .pl c,h=>exact Sg.wf_tx (x:=.pl c) h r
 | .mk true nm,h=>rfl
 | .mk false nm,h=>exact wf_esc nm r
theorem wf_txs:∀{S:List Sg},Oks S→G.wf (txs S) false=true
 | [],_=>rfl
 | x::S,h=>by rw[txs_cons,Sg.wf_tx h.hd]; exact wf_txs h.tl
theorem wf_ous:∀{S:List Sg},Oks S→G.wf (ous S) false=true
 | [],_=>rfl
 | x::S,h=>by rw[ous_cons,Sg.wf_ou h.hd]; exact wf_ous h.tl
theorem asc_esc{nm:List Nat}(h:Sg.Nm nm):∀c∈Sg.esc nm,c<128:=by
 intro c hc
 obtain⟨d,hd,hc⟩:=List.mem_flatMap.mp hc
 simp only[mf,nn,or_false]at hc
 rcases hc with rfl|rfl
 ·decide
 ·exact(h _ hd).1
theorem Sg.asc_tx{x:Sg}(h:x.Ok):∀c∈x.tx,c<128:=by
 match x,h with
 | .pl c,h=>intro z hz; have:z=c:=(by simpa [Sg.tx]using hz); subst this; rcases h with h|h|h|h<;>omega
 | .mk true nm,h =>
  intro z hz
  simp only[Sg.tx,ca,mf,mpp,nn,or_false]at hz
  rcases hz with rfl|hz|rfl
  ·decide
  ·exact(h.1 z hz).1
  ·decide
 | .mk false nm,h=>exact asc_esc h.1
theorem Sg.asc_ou{x:Sg}(h:x.Ok):∀c∈x.ou,c<128:=by
 match x,h with
 | .pl c,h=>exact Sg.asc_tx (x:=.pl c) h
 | .mk true nm,h=>intro z hz; cases hz
 | .mk false nm,h=>exact asc_esc h.1
theorem asc_txs{S:List Sg}(h:Oks S):(txs S).all (fun c:Nat=>decide (c<128))=true:=by
 rw[List.all_eq_true]
 intro c hc
 obtain⟨x,hx,hc⟩:=List.mem_flatMap.mp hc
 exact decide_eq_true (Sg.asc_tx (h x hx) c hc)
theorem asc_ous{S:List Sg}(h:Oks S):(ous S).all (fun c:Nat=>decide (c<128))=true:=by
 rw[List.all_eq_true]
 intro c hc
 obtain⟨x,hx,hc⟩:=List.mem_flatMap.mp hc
 exact decide_eq_true (Sg.asc_ou (h x hx) c hc)
theorem strE_esc(x:List Nat):∀(nm r:List Nat) (i st:Nat) (op:Option Nat) (ps:List (List Nat)),strE x (Sg.esc nm++r) i false st op ps=strE x r (i+(Sg.esc nm).length) false st op ps
 | [],r,i,st,op,ps=>rfl
 | c::l,r,i,st,op,ps=>by
  rw[esc_cons]
  show strE x (92::c::(Sg.esc l++r)) i false st op ps=_
  show strE x (Sg.esc l++r) (i+1+1) false st op ps=_
  rw[strE_esc x l r]
  congr 1
  simp; omega
theorem strE_plain(x:List Nat):∀(l r:List Nat) (i st:Nat) (op:Option Nat) (ps:List (List Nat)),(∀c∈l,c≠34∧c≠92)→strE x (l++r) i false st op ps=strE x r (i+l.length) false st op ps
 | [],r,i,st,op,ps,_=>rfl
 | c::l,r,i,st,op,ps,h=>by
  have h1:=h c Z0
  show strE x (c::(l++r)) i false st op ps=_
  rw[strE_c h1.2 h1.1,strE_plain x l r _ _ _ _ fun z hz=>h z (.tail _ hz)]
  congr 1
  simp; omega
theorem take_more{x p r:List Nat}{m:List Nat}(hx:x=p++m++r){st:Nat}(hst:st≤p.length):(x.drop st).take (p.length-st)++m=(x.drop st).take (p.length+m.length-st):=by
 subst hx
 have e1:(p++m++r).drop st=p.drop st++(m++r):=by rw[List.append_assoc,List.drop_append_of_le_length hst]
 rw[e1]
 have hl:(p.drop st).length=p.length-st:=List.length_drop
 rw[List.take_append_of_le_length (by omega),List.take_of_length_le (by omega)]
 rw[show p.length+m.length-st=(p.drop st).length+m.length from by omega,List.take_append,List.take_of_length_le (by omega)]
 rw[show(p.drop st).length+m.length-(p.drop st).length=m.length from by omega,List.take_left]
theorem strip_go(x:List Nat):∀(S:List Sg) (p:List Nat) (st:Nat) (ps:List (List Nat)) (out:List Nat),Oks S→x=p++txs S→st≤p.length→ps.flatten++(x.drop st).take (p.length-st)=out →
  (let z:=strE x (txs S) p.length false st none ps; (if z.1<x.length then z.2++[x.drop z.1]else z.2).flatten)=out++ous S
 | [],p,st,ps,out,_,hx,hst,ho=>by
  have hp:x=p:=by simpa [txs]using hx
  subst hp
  show(if st<x.length then ps++[x.drop st]else ps).flatten=out++[]
  rw[List.append_nil,←ho]
  by_cases h:st<x.length
  ·rw[if_pos h]
   simp only[List.flatten_append,List.flatten_cons,List.flatten_nil,List.append_nil]
   rw[List.take_of_length_le (by simp)]
  ·rw[if_neg h]
   have:st=x.length:=by omega
   subst this
   simp
 | s::S,p,st,ps,out,hok,hx,hst,ho=>by
  have hs:=hok.hd
  rw[txs_cons]at hx
  have hx':x=(p++s.tx)++txs S:=by rw[List.append_assoc]; exact hx
  match s,hs with
  | .pl c,hc =>
   have h2:strE x (txs (.pl c::S)) p.length false st none ps=strE x (txs S) (p++[c]).length false st none ps:=by
    show strE x (c::txs S) p.length false st none ps=_
    rw[strE_c (by rcases hc with h|h|h|h<;>omega) (by rcases hc with h|h|h|h<;>omega)]
    simp
   rw[h2]
   have:=strip_go x S (p++[c]) st ps (out++[c]) hok.tl hx' (by simp; omega) (by
    have:=take_more (m:=[c]) hx' hst
    rw[←ho,List.append_assoc,this]
    congr 2
    simp)
   rw[this,List.append_assoc]; rfl
  | .mk false nm,hc =>
   have h2:strE x (txs (.mk false nm::S)) p.length false st none ps=strE x (txs S) (p++Sg.esc nm).length false st none ps:=by
    rw[txs_cons]
    show strE x (Sg.esc nm++txs S) p.length false st none ps=_
    rw[strE_esc,lap]
   rw[h2]
   have:=strip_go x S (p++Sg.esc nm) st ps (out++Sg.esc nm) hok.tl hx' (by simp; omega) (by
    have:=take_more (m:=Sg.esc nm) hx' hst
    rw[←ho,List.append_assoc,this]
    congr 2
    simp)
   rw[this,List.append_assoc]; rfl
  | .mk true nm,hc =>
   have h2:strE x (txs (.mk true nm::S)) p.length false st none ps=strE x (txs S) (p++(34::nm++[34])).length false (p++(34::nm++[34])).length none (if st=p.length then ps else ps++[(x.drop st).take (p.length-st)]):=by
    rw[txs_cons]
    show strE x (34::((nm++[34])++txs S)) p.length false st none ps=_
    rw[List.append_assoc]
    show strE x (nm++([34]++txs S)) (p.length+1) false st (some p.length) ps=_
    rw[strE_plain x nm _ _ _ _ _ (fun z hz=>(hc.1 z hz).2)]
    show strE x (txs S) (p.length+1+nm.length+1) false (p.length+1+nm.length+1) none (if st=p.length then ps else ps++[(x.drop st).take (p.length-st)])=_
    simp only[lap,List.length_cons,List.length_nil]
    congr 1<;>omega
   rw[h2]
   have:=strip_go x S (p++(34::nm++[34])) (p++(34::nm++[34])).length (if st=p.length then ps else ps++[(x.drop st).take (p.length-st)]) out hok.tl hx' (nR _) (by
    rw[Nat.sub_self,List.take_zero,List.append_nil,←ho]
    by_cases h:st=p.length
    ·rw[if_pos h,h,Nat.sub_self,List.take_zero,List.append_nil]
    ·rw[if_neg h]; simp)
   rw[this]; rfl
theorem stripL_txs{S:List Sg}(h:Oks S):stripL (txs S)=ous S:=by
 have:=strip_go (txs S) S [] 0 [] [] h rfl (nR _) rfl
 rw[List.nil_append]at this
 exact this
theorem goodL{S:List Sg}(h:Oks S):GoodL (txs S):=⟨asc_txs h,wf_txs h,by rw[stripL_txs h]; exact asc_ous h,by rw[stripL_txs h]; exact wf_ous h⟩
noncomputable def val:List Sg→Int→Option Int
 | [],o=>some o
 | .pl c::r,o=>if c=40 then val r (o+1)else if c=41 then(if o-1<0 then none else val r (o-1))else val r o
 | .mk _ _::r,o=>val r o
theorem val_pl{c:Nat}{r:List Sg}{o:Int}:val (.pl c::r) o=if c=40 then val r (o+1)else if c=41 then(if o-1<0 then none else val r (o-1))else val r o:=rfl
theorem chk_esc:∀(nm r:List Nat) (o:Int),chkE (Sg.esc nm++r) false o=chkE r false o
 | [],r,o=>rfl
 | c::l,r,o=>by
  rw[esc_cons]
  show chkE (92::c::(Sg.esc l++r)) false o=_
  exact chk_esc l r o
theorem chk_ous:∀{S:List Sg} (o:Int),Oks S→chkE (ous S) false o=val S o
 | [],o,_=>rfl
 | .pl c::S,o,h=>by
  have hc:c≠92:=by rcases h.hd with h|h|h|h<;>omega
  rw[ous_cons]
  show chkE (c::ous S) false o=_
  rw[chk_c,if_neg hc,val_pl]
  rw[chk_ous _ h.tl,chk_ous _ h.tl,chk_ous _ h.tl]
 | .mk true nm::S,o,h=>by rw[ous_cons]; exact chk_ous o h.tl
 | .mk false nm::S,o,h=>by
  rw[ous_cons]
  show chkE (Sg.esc nm++ous S) false o=_
  rw[chk_esc]; exact chk_ous o h.tl
theorem chkB_txs{S:List Sg}(h:Oks S):chkB (stripL (txs S))=match val S 0 with|some o=>decide (o=0)|none=>false:=by
 unfold chkB chk
 (rw[stripL_txs h,chk_ous 0 h])<;>cases val S 0<;>rfl
noncomputable def sgn8(c:Nat):Nat:=(tokOf [c]).getD 0
noncomputable def es:List Sg→Nat→Option Nat→List (Nat×Nat)
 | [],_,_=>[]
 | .mk q nm::r,i,_=>es r (i+(Sg.mk q nm).tx.length) (tokOf nm)
 | .pl c::r,i,none=>(i,sgn8 c)::es r (i+1) none
 | .pl c::r,i,some t=>(i,256+t)::(i,sgn8 c)::es r (i+1) none
theorem es_n{c:Nat}{r:List Sg}{i:Nat}:es (.pl c::r) i none=(i,sgn8 c)::es r (i+1) none:=rfl
theorem es_m{q:Bool}{nm:List Nat}{r:List Sg}{i:Nat}{o:Option Nat}:es (.mk q nm::r) i o=es r (i+(Sg.mk q nm).tx.length) (tokOf nm):=rfl
noncomputable def Alt:List Sg→Bool→Prop
 | [],b=>b=false
 | .mk _ _::r,b=>b=false∧Alt r true
 | .pl _::r,_=>Alt r false
noncomputable def PN(nm:List Nat)(p:Option Nat):Prop:=(nm=[]∧p=none)∨∃a l t,nm=a::l∧tokOf (a::l)=some t∧p=some t
theorem tok_pl{c:Nat}(h:(Sg.pl c).Ok):tokOf [c]=some (sgn8 c)∧sgn8 c<256:=by
 rcases h with h|h|h|h<;>subst h<;>exact⟨by decide,by decide⟩
theorem sym_q:∀(l r:List Nat) (i:Nat) (nm:List Nat) (acc:List (Nat×Nat)),(∀c∈l,c≠34∧c≠92)→symE (l++r) i false true nm acc=symE r (i+l.length) false true (nm++l) acc
 | [],r,i,nm,acc,_=>by simp
 | c::l,r,i,nm,acc,h=>by
  have h1:=h c Z0
  show(if c=92 then _ else if c=34 then _ else _)=_
  rw[if_neg h1.2,if_neg h1.1]
  show symE (l++r) (i+1) false true (nm++[c]) acc=_
  rw[sym_q l r _ _ _ fun z hz=>h z (.tail _ hz),List.append_assoc]
  congr 1
  simp; omega
theorem sym_esc:∀(l r:List Nat) (i:Nat) (nm:List Nat) (acc:List (Nat×Nat)),symE (Sg.esc l++r) i false false nm acc=symE r (i+(Sg.esc l).length) false false (nm++l) acc
 | [],r,i,nm,acc=>by simp[Sg.esc]
 | c::l,r,i,nm,acc=>by
  rw[esc_cons]
  show symE (Sg.esc l++r) (i+1+1) false false (nm++[c]) acc=_
  rw[sym_esc l r,List.append_assoc]
  congr 1
  simp; omega
theorem sym_txs:∀(S:List Sg) (i:Nat) (nm:List Nat) (p:Option Nat) (acc:List (Nat×Nat)),Oks S→Alt S p.isSome→PN nm p→symE (txs S) i false false nm acc=some (acc++es S i p)
 | [],i,nm,p,acc,_,_,_=>by show some acc=some (acc++[]); rw[List.append_nil]
 | .mk q nm'::S,i,nm,p,acc,hok,hal,hp=>by
  obtain⟨h0,hal⟩:=hal
  rcases hp with⟨rfl,rfl⟩|⟨a,l,t,rfl,_,rfl⟩
  ·obtain⟨hn,hne,t,ht⟩:=hok.hd
   obtain⟨a,l,rfl⟩:∃a l,nm'=a::l:=by cases nm' with|nil=>exact absurd rfl hne|cons a l=>exact⟨a,l,rfl⟩
   have hfin:∀i',symE (txs S) i' false false (a::l) acc=some (acc++es S i' (tokOf (a::l))):=fun i'=>sym_txs S i' (a::l) _ acc hok.tl (by rw[ht]; exact hal) (.inr ⟨a,l,t,rfl,ht,ht⟩)
   rw[txs_cons,es_m]
   cases q with
   | false =>
    show symE (Sg.esc (a::l)++txs S) i false false [] acc=_
    rw[sym_esc]
    exact hfin _
   | true =>
    show symE (34::((a::l)++[34])++txs S) i false false [] acc=_
    show symE (((a::l)++[34])++txs S) (i+1) false true [] acc=_
    rw[List.append_assoc,sym_q _ _ _ _ _ (fun z hz=>(hn z hz).2)]
    show symE (txs S) (i+1+(a::l).length+1) false false (a::l) acc=_
    rw[hfin]
    congr 3
    simp[Sg.tx]; omega
  ·cases h0
 | .pl c::S,i,nm,p,acc,hok,hal,hp=>by
  obtain⟨h1,h2⟩:=tok_pl hok.hd
  have hc:c≠92∧c≠34:=by rcases hok.hd with h|h|h|h<;>omega
  have ih:∀acc',symE (txs S) (i+1) false false [] acc'=some (acc'++es S (i+1) none):=fun acc'=>sym_txs S (i+1) [] none acc' hok.tl hal (.inl ⟨rfl,rfl⟩)
  rw[txs_cons]
  show(if c=92 then _ else if c=34 then _ else _)=_
  rw[if_neg hc.1,if_neg hc.2]
  rcases hp with⟨rfl,rfl⟩|⟨a,l,t,rfl,ht,rfl⟩
  ·show(match tokOf [c]with|none=>none|some k=>symE (txs S) (i+1) false false [] (acc++[(i,k)]))=_
   rw[h1]
   show symE (txs S) (i+1) false false [] (acc++[(i,sgn8 c)])=_
   rw[ih]; exact congrArg some (List.append_assoc ..)
  ·show(match tokOf [c]with|none=>none|some k=>match tokOf (a::l)with|none=>none|some k'=>symE (txs S) (i+1) false false [] (acc++[(i,256+k'),(i,k)]))=_
   rw[h1,ht]
   show symE (txs S) (i+1) false false [] (acc++[(i,256+t),(i,sgn8 c)])=_
   rw[ih]; exact congrArg some (List.append_assoc ..)
theorem es_at:∀(S:List Sg) (i:Nat) (p:Option Nat) (u:List (Nat×Nat)) (pl sy:Nat) (v:List (Nat×Nat)),es S i p=u++(pl,sy)::v→sy<256→∃A c B,S=A++.pl c::B∧pl=i+(txs A).length∧sy=sgn8 c∧v=es B (pl+1) none
 | [],i,p,u,pl,sy,v,h,_=>by cases u<;>cases h
 | .mk q nm::S,i,p,u,pl,sy,v,h,hs=>by
  rw[es_m]at h
  obtain⟨A,c,B,e1,e2,e3,e4⟩:=es_at S _ _ u pl sy v h hs
  exact⟨.mk q nm::A,c,B,by rw[e1]; rfl,by rw[e2,txs_cons,lap]; omega,e3,e4⟩
 | .pl c::S,i,none,u,pl,sy,v,h,hs=>by
  rw[es_n]at h
  cases u with
  | nil =>
   rw[List.nil_append]at h
   injection h with h1 h2
   injection h1 with h3 h4
   subst h3
   exact⟨[],c,S,rfl,by simp[txs],h4.symm,h2.symm⟩
  | cons x u =>
   obtain⟨A,c',B,e1,e2,e3,e4⟩:=es_at S _ _ u pl sy v (List.cons.inj h).2 hs
   exact⟨.pl c::A,c',B,by rw[e1]; rfl,by rw[e2,txs_cons,lap]; simp[Sg.tx]; omega,e3,e4⟩
 | .pl c::S,i,some t,u,pl,sy,v,h,hs=>by
  have h:(i,256+t)::(i,sgn8 c)::es S (i+1) none=u++(pl,sy)::v:=h
  match u,h with
  | [],h =>
   rw[List.nil_append]at h
   injection h with h1 h2
   injection h1 with h3 h4
   omega
  | [x],h =>
   have h:(i,sgn8 c)::es S (i+1) none=(pl,sy)::v:=(List.cons.inj h).2
   injection h with h1 h2
   injection h1 with h3 h4
   subst h3
   exact⟨[],c,S,rfl,by simp[txs],h4.symm,h2.symm⟩
  | x::y::u,h =>
   obtain⟨A,c',B,e1,e2,e3,e4⟩:=es_at S _ _ u pl sy v (List.cons.inj (List.cons.inj h).2).2 hs
   exact⟨.pl c::A,c',B,by rw[e1]; rfl,by rw[e2,txs_cons,lap]; simp[Sg.tx]; omega,e3,e4⟩
theorem es_len:∀(S:List Sg) (i:Nat) (p:Option Nat),(es S i p).length≤2*S.length
 | [],_,_=>nR 0
 | .mk q nm::S,i,p=>by have:=es_len S (i+(Sg.mk q nm).tx.length) (tokOf nm); show(es S (i+(Sg.mk q nm).tx.length) (tokOf nm)).length≤2*(S.length+1); omega
 | .pl c::S,i,none=>by have:=es_len S (i+1) none; show(es S (i+1) none).length+1≤2*(S.length+1); omega
 | .pl c::S,i,some t=>by have:=es_len S (i+1) none; show(es S (i+1) none).length+1+1≤2*(S.length+1); omega
theorem split_at{α:Type}{l:List α}{i:Nat}{x:α}(h:l[i]?=some x):∃u v,l=u++x::v∧u.length=i:=by
 obtain⟨hi,rfl⟩:=List.getElem?_eq_some_iff.mp h
 refine⟨l.take i,l.drop (i+1),?_,by simp; omega⟩
 rw[List.getElem_cons_drop,List.take_append_drop]
theorem slc_mid(a b c:List Nat):slc (a++b++c) a.length (a.length+b.length)=b:=by
 unfold slc
 rw[List.append_assoc,List.drop_left,Nat.add_sub_cancel_left,List.take_left]
theorem slc_txs{S A B C:List Sg}(h:S=A++B++C):slc (txs S) (txs A).length ((txs A).length+(txs B).length)=txs B:=by
 rw[h,txs_append,txs_append]; exact slc_mid _ _ _
theorem ss1{j u:Nat}(h:u<j):j-u=j-u-1+1:=(Nat.sub_add_cancel (Nat.sub_pos_of_lt h)).symm
theorem goodS{S:List Sg}(hok:Oks S):GoodS (txs S) (es S 0 none):=by
 intro i j pl sy plj syj hi hs hj hij hop
 obtain⟨u,v,e1,rfl⟩:=split_at hi
 obtain⟨A,c,B,eS,e2,e3,e4⟩:=es_at S 0 none u pl sy v e1 hs
 have hj':v[j-u.length-1]?=some (plj,syj):=by
  rw[e1,List.getElem?_append_right (by omega)]at hj
  rw[show j-u.length=(j-u.length-1)+1 from ss1 (by omega)]at hj
  simpa using hj
 obtain⟨u',v',e5,_⟩:=split_at hj'
 rw[e4]at e5
 obtain⟨A',c',B',eB,e6,e7,e8⟩:=es_at B (pl+1) none u' plj syj v' e5 (by rcases hop with h|h<;>omega)
 have hA:(txs (A++[.pl c])).length=pl+1:=by rw[txs_append]; simp[txs,Sg.tx,e2]
 have hS:S=(A++[.pl c])++A'++(.pl c'::B'):=by rw[eS,eB]; simp
 have hsl:slc (txs S) (pl+1) plj=txs A':=by rw[←hA,e6,←hA]; exact slc_txs hS
 refine⟨by omega,?_,?_⟩
 ·rw[hS,txs_append,txs_append,lap,lap,hA]; omega
 ·rw[hsl]; exact goodL (hok.sub fun x hx=>by rw[hS]; simp[hx])
noncomputable def sgs(m:Nat→Bool×List Nat):Net→List Sg
 | .leaf k=>[.mk (m k).1 (m k).2]
 | .node b l r=>.pl 40::(sgs m l++.pl (Net.opc b)::(sgs m r++[.pl 41]))
theorem sgs_e{m:Nat→Bool×List Nat}:(∀k,sgs m (.leaf k)=[.mk (m k).1 (m k).2])∧∀b l r,sgs m (.node b l r)=.pl 40::(sgs m l++.pl (Net.opc b)::(sgs m r++[.pl 41])):=⟨fun _=>rfl,fun _ _ _=>rfl⟩
theorem val_bal(m:Nat→Bool×List Nat):∀(y:Net) (R:List Sg) (o:Int),0≤o→val (sgs m y++R) o=val R o
 | .leaf k,R,o,_=>rfl
 | .node b l r,R,o,ho=>by
  have e:sgs m (.node b l r)++R=.pl 40::(sgs m l++(.pl (Net.opc b)::(sgs m r++(.pl 41::R)))):=by simp[sgs_e]
  rw[e,val_pl,if_pos rfl,val_bal m l _ _ (by omega),val_pl]
  have h1:Net.opc b≠40:=by cases b<;>decide
  have h2:Net.opc b≠41:=by cases b<;>decide
  rw[if_neg h1,if_neg h2,val_bal m r _ _ (by omega),val_pl,if_neg (by decide),if_pos rfl,if_neg (by omega),show o+1-1=o from by omega]
theorem val_op{c:Nat}(h:c=43∨c=124)(R:List Sg)(o:Int):val (.pl c::R) o=val R o:=by
 rw[val_pl,if_neg (by omega),if_neg (by omega)]
theorem opc_is(b:Bool):Net.opc b=43∨Net.opc b=124:=by cases b<;>simp[Net.opc]
theorem val_deep(m:Nat→Bool×List Nat):∀(y:Net) (A' B:List Sg) (c':Nat),sgs m y=A'++.pl c'::B→(c'=43∨c'=124)→∃d:Int,1≤d∧∀o,0≤o→val A' o=some (o+d)
 | .leaf k,A',B,c',h,_=>by
  rw[sgs_e.1]at h
  cases A' with
  | nil=>cases h
  | cons a A=>have:=(List.cons.inj h).2; simp at this
 | .node b l r,A',B,c',h,hc=>by
  rw[sgs_e.2]at h
  cases A' with
  | nil=>have:=(List.cons.inj h).1; injection this with h1; omega
  | cons a A1 =>
   obtain⟨h1,h2⟩:=List.cons.inj h
   subst h1
   have v0:∀(R:List Sg) (o:Int),val (.pl 40::R) o=val R (o+1):=fun R o=>by rw[val_pl,if_pos rfl]
   have atl:A1=sgs m l→∃d:Int,1≤d∧∀o,0≤o→val (.pl 40::A1) o=some (o+d):=fun e=>⟨1,by decide,fun o ho=>by
    have:=val_bal m l [] (o+1) (by omega)
    rw[List.append_nil]at this
    rw[v0,e,this]; rfl⟩
   rcases List.append_eq_append_iff.mp h2 with⟨a',e1,e2⟩|⟨c1,e1,e2⟩
   ·cases a' with
    | nil=>exact atl (by simpa using e1)
    | cons x a2 =>
     obtain⟨h3,h4⟩:=List.cons.inj e2
     subst h3
     have key:(∃d:Int,1≤d∧∀o,0≤o→val a2 o=some (o+d)):=by
      rcases List.append_eq_append_iff.mp h4 with⟨a3,e3,e4⟩|⟨c2,e3,e4⟩
      ·cases a3 with
       | nil=>have:=(List.cons.inj e4).1; injection this with h5; omega
       | cons z a4=>have:=(List.cons.inj e4).2; simp at this
      ·cases c2 with
       | nil=>have:=(List.cons.inj e4).1; injection this with h5; omega
       | cons z c3 =>
        have:=(List.cons.inj e4).1
        subst this
        exact val_deep m r a2 c3 c' e3 hc
     obtain⟨d,hd,hv⟩:=key
     refine⟨d+1,by omega,fun o ho=>?_⟩
     rw[v0,e1,val_bal m l _ _ (by omega),val_op (opc_is b),hv _ (by omega)]
     congr 1; omega
   ·cases c1 with
    | nil=>exact atl (by simpa using e1.symm)
    | cons x c2 =>
     have:=(List.cons.inj e2).1
     subst this
     obtain⟨d,hd,hv⟩:=val_deep m l A1 c2 c' e1 hc
     exact⟨d+1,by omega,fun o ho=>by rw[v0,hv _ (by omega)]; congr 1; omega⟩
theorem val_behind(m:Nat→Bool×List Nat){r:Net}{D A' B:List Sg}{c':Nat}(h:sgs m r++.pl 41::D=A'++.pl c'::B)(hc:c'=43∨c'=124):(match val A' 0 with|some o=>decide (o=0)|none=>false)=false:=by
 rcases List.append_eq_append_iff.mp h with⟨a',e1,e2⟩|⟨c1,e1,e2⟩
 ·cases a' with
  | nil=>have:=(List.cons.inj e2).1; injection this with h5; omega
  | cons x a2 =>
   have:=(List.cons.inj e2).1
   subst this
   rw[e1,val_bal m r _ _ (Int.le_refl _),val_pl,if_neg (by decide),if_pos rfl,if_pos (by decide)]
 ·cases c1 with
  | nil=>have:=(List.cons.inj e2).1; injection this with h5; omega
  | cons x c2 =>
   have:=(List.cons.inj e2).1
   subst this
   obtain⟨d,hd,hv⟩:=val_deep m r A' c2 c' e1 hc
   rw[hv 0 (Int.le_refl _)]
   exact decide_eq_false (by omega)
theorem es_net(m:Nat→Bool×List Nat)(tk:Nat→Nat):∀(y:Net) (i:Nat),(∀k,tokOf (m k).2=some (tk k))→∃w,∀c R,es (sgs m y++.pl c::R) i none=w++(i+(txs (sgs m y)).length,sgn8 c)::es R (i+(txs (sgs m y)).length+1) none
 | .leaf k,i,ht=>⟨[(i+(txs (sgs m (.leaf k))).length,256+tk k)],fun c R=>by
   show es (.mk (m k).1 (m k).2::.pl c::R) i none=_
   rw[es_m,ht k]
   show(_,256+tk k)::(_,sgn8 c)::es R (_+1) none=_
   simp[sgs_e,txs]⟩
 | .node b l r,i,ht=>by
  obtain⟨w1,h1⟩:=es_net m tk l (i+1) ht
  obtain⟨w2,h2⟩:=es_net m tk r (i+1+(txs (sgs m l)).length+1) ht
  refine⟨(i,sgn8 40)::(w1++(i+1+(txs (sgs m l)).length,sgn8 (Net.opc b))::(w2++[(i+1+(txs (sgs m l)).length+1+(txs (sgs m r)).length,sgn8 41)])),fun c R=>?_⟩
  have e:sgs m (.node b l r)++.pl c::R=.pl 40::(sgs m l++(.pl (Net.opc b)::(sgs m r++(.pl 41::.pl c::R)))):=by simp[sgs_e]
  have hlen:(txs (sgs m (.node b l r))).length=1+(txs (sgs m l)).length+1+(txs (sgs m r)).length+1:=by
   rw[sgs_e.2,txs_cons,txs_append,txs_cons,txs_append]; simp[Sg.tx,txs]; omega
  rw[e,es_n,h1,h2,es_n,hlen]
  simp only[ca,List.append_assoc,List.nil_append]
  rw[show i+(1+(txs (sgs m l)).length+1+(txs (sgs m r)).length+1)=i+1+(txs (sgs m l)).length+1+(txs (sgs m r)).length+1 from by omega]
noncomputable def Net.part(tk:Nat→Nat):Net→Part
 | .leaf k=>.leaf (tk k)
 | .node b l r=>.node b (l.part tk) (r.part tk)
theorem parse_net{m:Nat→Bool×List Nat}{tk:Nat→Nat}(ht:∀k,tokOf (m k).2=some (tk k)){S:List Sg}(hok:Oks S):∀(y:Net) (A T:List Sg) (u:List (Nat×Nat)),S=A++sgs m y++T→es S 0 none=u++es (sgs m y++T) (txs A).length none →
  ((∃k,y=.leaf k)→∃c R,T=.pl c::R)→Parse (txs S) (es S 0 none) u.length (y.part tk)
 | .leaf k,A,T,u,hS,hy,hT=>by
  obtain⟨c,R,rfl⟩:=hT ⟨k,rfl⟩
  refine .leaf u.length ((txs A).length+(Sg.mk (m k).1 (m k).2).tx.length) (tk k) ?_
  rw[hy,List.getElem?_append_right (nR _),Nat.sub_self]
  show(es (.mk (m k).1 (m k).2::.pl c::R) (txs A).length none)[0]?=_
  rw[es_m,ht k]; rfl
 | .node b l r,A,T,u,hS,hy,_=>by
  have eT:sgs m (.node b l r)++T=.pl 40::(sgs m l++(.pl (Net.opc b)::(sgs m r++(.pl 41::T)))):=by simp[sgs_e]
  obtain⟨w,hw⟩:=es_net m tk l ((txs A).length+1) ht
  obtain⟨p1,hp1⟩:∃p1,p1=(txs A).length+1+(txs (sgs m l)).length:=⟨_,rfl⟩
  have hy':es S 0 none=u++((txs A).length,7)::(w++(p1,sgn8 (Net.opc b))::es (sgs m r++(.pl 41::T)) (p1+1) none):=by
   rw[hy,eT,es_n,hw,hp1]; rfl
  have hSl:S=(A++[.pl 40])++sgs m l++(.pl (Net.opc b)::(sgs m r++(.pl 41::T))):=by rw[hS,List.append_assoc,eT]; simp
  have hSr:S=(A++.pl 40::(sgs m l++[.pl (Net.opc b)]))++sgs m r++(.pl 41::T):=by rw[hS,List.append_assoc,eT]; simp
  have lA:(txs (A++[.pl 40])).length=(txs A).length+1:=by rw[txs_append]; simp[txs,Sg.tx]
  have lB:(txs (A++.pl 40::(sgs m l++[.pl (Net.opc b)]))).length=p1+1:=by rw[txs_append,txs_cons,txs_append,hp1]; simp[txs,Sg.tx]; omega
  have i1:(es S 0 none)[u.length]?=some ((txs A).length,7):=by rw[hy',List.getElem?_append_right (nR _),Nat.sub_self]; rfl
  have i2:(es S 0 none)[u.length+1+w.length]?=some (p1,sgn8 (Net.opc b)):=by
   rw[hy',List.getElem?_append_right (by omega),show u.length+1+w.length-u.length=w.length+1 from by rw[Nat.add_assoc,Nat.add_sub_cancel_left,Nat.add_comm],List.getElem?_cons_succ,List.getElem?_append_right (nR _),Nat.sub_self]; rfl
  have hl:=parse_net ht hok l (A++[.pl 40]) (.pl (Net.opc b)::(sgs m r++(.pl 41::T))) (u++[((txs A).length,7)]) hSl (by
   rw[hy',lA,hw,hp1]; simp) (fun _=>⟨_,_,rfl⟩)
  have hr:=parse_net ht hok r (A++.pl 40::(sgs m l++[.pl (Net.opc b)])) (.pl 41::T) (u++((txs A).length,7)::(w++[(p1,sgn8 (Net.opc b))])) hSr (by
   rw[hy',lB]; simp) (fun _=>⟨_,_,rfl⟩)
  have z1:(u++[((txs A).length,7)]).length=u.length+1:=by simp
  have z2:(u++((txs A).length,7)::(w++[(p1,sgn8 (Net.opc b))])).length=u.length+1+w.length+1:=by simp; omega
  rw[z1]at hl
  rw[z2]at hr
  refine .node u.length (u.length+1+w.length) (txs A).length p1 7 (sgn8 (Net.opc b)) b _ _ i1 (by decide) i2 (by omega) (by cases b<;>decide) ?_ ?_ hl hr
  ·have:slc (txs S) ((txs A).length+1) p1=txs (sgs m l):=by rw[←lA,hp1,←lA]; exact slc_txs hSl
   rw[this,chkB_txs (hok.sub fun x hx=>by rw[hSl]; simp[hx])]
   have:=val_bal m l [] 0 (Int.le_refl _)
   rw[List.append_nil]at this
   rw[this]; rfl
  ·intro j' plj' syj' hj hys hop
   have hv:(es (sgs m r++(.pl 41::T)) (p1+1) none)[j'-(u.length+1+w.length)-1]?=some (plj',syj'):=by
    rw[hy',List.getElem?_append_right (by omega),show j'-u.length=(j'-u.length-1)+1 from ss1 (by omega),List.getElem?_cons_succ,List.getElem?_append_right (by omega),show j'-u.length-1-w.length=(j'-(u.length+1+w.length)-1)+1 from by rw[Nat.sub_sub,Nat.sub_sub,←Nat.add_assoc]; exact ss1 hj,List.getElem?_cons_succ]at hys
    exact hys
   obtain⟨u',v',e5,_⟩:=split_at hv
   obtain⟨A',c',B',eB,e6,e7,_⟩:=es_at _ (p1+1) none u' plj' syj' v' e5 (by rcases hop with h|h<;>omega)
   have hS2:S=(A++[.pl 40])++(sgs m l++.pl (Net.opc b)::A')++(.pl c'::B'):=by rw[hSl,eB]; simp
   have hc':c'=43∨c'=124:=by
    have:(Sg.pl c').Ok:=hok _ (by rw[hS2]; simp)
    rcases this with h|h|h|h
    ·subst h; rw[e7]at hop; exact absurd hop (by rintro (h|h)<;>exact absurd h (by decide))
    ·subst h; rw[e7]at hop; exact absurd hop (by rintro (h|h)<;>exact absurd h (by decide))
    ·exact .inl h
    ·exact .inr h
   have hsl:slc (txs S) ((txs A).length+1) plj'=txs (sgs m l++.pl (Net.opc b)::A'):=by
    have hlen:(txs (sgs m l++.pl (Net.opc b)::A')).length=(txs (sgs m l)).length+1+(txs A').length:=by rw[txs_append,txs_cons]; simp[Sg.tx]; omega
    rw[←lA,show plj'=(txs (A++[.pl 40])).length+(txs (sgs m l++.pl (Net.opc b)::A')).length from by rw[hlen,lA,e6,hp1]; omega]
    exact slc_txs hS2
   rw[hsl,chkB_txs (hok.sub fun x hx=>by rw[hS2]; simp only[mpp]at hx ⊢; exact .inl (.inr hx)),val_bal m l _ _ (Int.le_refl _),val_op (opc_is b)]
   exact val_behind m eB hc'
noncomputable def TreeOk(tk:Nat→Nat)(X:Net):Prop:=TR.treesOf (X.lay 0 1 2).2 [(tk 0:Int),(tk 1:Int),(tk 2:Int),(tk 3:Int)] (X.lay 0 1 2).1=((X.part tk).pq.1,(X.part tk).pq.2,(X.part tk).flows 1)
noncomputable def jn(i0:Nat)(b0:Bool)(i1:Nat)(b1 b2:Bool):Net:=(jrow (jrow (jrow [.leaf 0,.leaf 1,.leaf 2,.leaf 3] i0 b0) i1 b1) 0 b2).headD (.leaf 0)
namespace El
noncomputable def ii{α:Type}(le:α→α→Bool)(x:α)(l:List α):List α:=List.rec [x] (fun y r i=>cond (le x y) (x::y::r) (y::i)) l
noncomputable def fo{α:Type}(op:Int→Int→Int)(e:Int)(f:α→Int)(l:List α):Int:=List.rec e (fun x _ a=>op a (f x)) l
theorem fo_ii{α:Type}{op:Int→Int→Int}{e:Int}{f:α→Int}{le:α→α→Bool}{x:α}(c:∀a b c,op (op a b) c=op (op a c) b):∀l,fo op e f (ii le x l)=op (fo op e f l) (f x)
 | []=>rfl
 | y::r=>by
  show fo op e f (cond (le x y) (x::y::r) (y::ii le x r))=op (op (fo op e f r) (f y)) (f x)
  cases le x y with
  | true=>rfl
  | false=>exact(congrArg (fun z=>op z (f y)) (fo_ii c r)).trans (c ..)
noncomputable def ad{α:Type}(le:α→α→Bool)(p q:List α):List α:=List.rec q (fun x _ i=>ii le x i) p
theorem fo_ad{α:Type}{op:Int→Int→Int}{e:Int}{f:α→Int}{le:α→α→Bool}{q:List α}(c:∀a b c,op (op a b) c=op (op a c) b)(a:∀a b c,op (op a b) c=op a (op b c))(u:∀x,op x e=x):∀p,fo op e f (ad le p q)=op (fo op e f q) (fo op e f p)
 | []=>(u _).symm
 | x::p=>(fo_ii c _).trans ((congrArg (fun z=>op z (f x)) (fo_ad c a u p)).trans (a ..))
noncomputable abbrev Pol:=List (List Nat)
noncomputable def mo(t:Nat→Int):=fo (·*·) 1 t
noncomputable def mm(a b:List Nat):List Nat:=ad (fun x y=>Nat.ble y x) a b
noncomputable def kv(l:List Nat):Nat:=List.rec 0 (fun x _ a=>2 ^ x+a) l
noncomputable def su(t:Nat→Int):=fo (·+·) 0 (mo t)
noncomputable def pa(p q:Pol):Pol:=ad (fun x y=>Nat.ble (kv x) (kv y)) p q
noncomputable def mu(p q:Pol):Pol:=List.rec [] (fun m _ i=>pa (q.map (mm m)) i) p
variable{t:Nat→Int}{k:Nat→Nat}
theorem su_pa{p q}:su t (pa p q)=su t q+su t p:=fo_ad Int.add_right_comm Int.add_assoc Int.add_zero p
theorem su_mm{m}:∀q:Pol,su t (q.map (mm m))=mo t m*su t q
 | []=>(Int.mul_zero _).symm
 | x::q=>by
  show su t (q.map (mm m))+mo t (mm m x)=mo t m*(su t q+mo t x)
  rw[su_mm q,Int.mul_add,Int.mul_comm (mo t m) (mo t x)]
  exact congrArg (fun z=>_+z) (fo_ad Int.mul_right_comm Int.mul_assoc Int.mul_one m)
theorem su_mu{q}:∀p,su t (mu p q)=su t p*su t q
 | []=>(Int.zero_mul _).symm
 | m::p=>by
  show su t (pa (q.map (mm m)) (mu p q))=(su t p+mo t m)*su t q
  rw[su_pa,su_mu p,Int.add_mul,su_mm]
noncomputable def qp:Net→Pol×Pol:=Net.rec (fun k=>([[k]],[[]])) fun b _ _ u v=>cond b (pa (mu u.2 v.1) (mu u.1 v.2),mu u.2 v.2) (mu u.1 v.1,pa (mu u.2 v.1) (mu u.1 v.2))
noncomputable abbrev tz(k:Nat→Nat)(i:Nat):Int:=k i
theorem qp_ok:∀X:Net,(X.part k).pq=(su (tz k) (qp X).1,su (tz k) (qp X).2)
 | .leaf i=>congrArg (·,(1:Int)) ((Int.one_mul _).symm.trans (Int.zero_add _).symm)
 | .node true l r=>by
  show((l.part k).pq.1*(r.part k).pq.2+(l.part k).pq.2*(r.part k).pq.1,(l.part k).pq.2*(r.part k).pq.2)=(su (tz k) (pa (mu (qp l).2 (qp r).1) (mu (qp l).1 (qp r).2)),su (tz k) (mu (qp l).2 (qp r).2))
  rw[qp_ok l,qp_ok r,su_pa,su_mu,su_mu,su_mu]
 | .node false l r=>by
  show((l.part k).pq.1*(r.part k).pq.1,(l.part k).pq.1*(r.part k).pq.2+(l.part k).pq.2*(r.part k).pq.1)=(su (tz k) (mu (qp l).1 (qp r).1),su (tz k) (pa (mu (qp l).2 (qp r).1) (mu (qp l).1 (qp r).2)))
  rw[qp_ok l,qp_ok r,su_pa,su_mu,su_mu,su_mu]
noncomputable def fl:Net→Pol→List Pol:=Net.rec (fun _ m=>[m]) fun b l r u v m=>u (mu m (cond b (qp r).2 (qp r).1))++v (mu m (cond b (qp l).2 (qp l).1))
theorem fl_ok:∀(X:Net) m,(X.part k).flows (su (tz k) m)=(fl X m).map (su (tz k))
 | .leaf _,_=>rfl
 | .node true l r,m=>by
  show(l.part k).flows (su (tz k) m*(r.part k).pq.2)++(r.part k).flows (su (tz k) m*(l.part k).pq.2)=(fl l (mu m (qp r).2)++fl r (mu m (qp l).2)).map (su (tz k))
  rw[List.map_append,←fl_ok l,←fl_ok r,su_mu,su_mu,qp_ok l,qp_ok r]
 | .node false l r,m=>by
  show(l.part k).flows (su (tz k) m*(r.part k).pq.1)++(r.part k).flows (su (tz k) m*(l.part k).pq.1)=(fl l (mu m (qp r).1)++fl r (mu m (qp l).1)).map (su (tz k))
  rw[List.map_append,←fl_ok l,←fl_ok r,su_mu,su_mu,qp_ok l,qp_ok r]
noncomputable def bb:List Bool:=[false,true]
noncomputable def cmb:List Net:=[0,1,2].flatMap fun a=>bb.flatMap fun b=>[0,1].flatMap fun c=>bb.flatMap fun d=>bb.map (jn a b c d)
theorem jn_map:(fun t:Nat→Int=>cmb.map fun X=>TR.treesOf (X.lay 0 1 2).2 [t 0,t 1,t 2,t 3] (X.lay 0 1 2).1)=fun t=>cmb.map fun X=>(su t (qp X).1,su t (qp X).2,(fl X [[]]).map (su t)):=by kernel_rfl
theorem bmem:∀b:Bool,b∈bb
 | false=>.head _
 | true=>Z1
theorem fm{α β:Type}{a:α}{l:List α}{f:α→List β}{b:β}(h:a∈l)(h':b∈f a):b∈l.flatMap f:=List.mem_flatMap.mpr ⟨a,h,h'⟩
theorem jn_tree(tk:Nat→Nat)(i0:Nat)(b0:Bool)(i1:Nat)(b1 b2:Bool)(h0:i0<3)(h1:i1<2):TreeOk tk (jn i0 b0 i1 b1 b2):=by
 have e:=List.map_inj_left.mp (congrFun jn_map (tz tk)) (jn i0 b0 i1 b1 b2) (fm (List.mem_range.mpr h0) (fm (bmem b0) (fm (List.mem_range.mpr h1) (fm (bmem b1) (mmm (bmem b2))))))
 rw[←fl_ok]at e
 show _=(_,_,Part.flows _ (su (tz tk) [[]]))
 rw[qp_ok]
 exact e
end El
noncomputable def subs:List Nat→List (List Nat)
 | []=>[[]]
 | a::l=>subs l++(subs l).map (a::·)
theorem mem_subs{ch l:List Nat}(h:ch.Sublist l):ch∈subs l:=by
 induction h with
 | slnil=>exact .head _
 | cons a _ ih=>exact List.mem_append_left _ ih
 | cons_cons a _ ih=>exact List.mem_append_right _ (mmm ih)
noncomputable def inB(n:Nat):Net→Bool
 | .leaf k=>decide (k<n)
 | .node _ l r=>inB n l&&inB n r
theorem inB_iff{n:Nat}:∀{x:Net},inB n x=true→x.In n
 | .leaf k,h=>by
  have h:decide (k<n)=true:=h
  have h':=of_decide_eq_true h
  exact h'
 | .node _ l r,h=>by
  have h:=Bool.and_eq_true_iff.mp (show(inB n _&&inB n _)=true from h)
  exact⟨inB_iff h.1,inB_iff h.2⟩
noncomputable def isNode:Net→Bool|.leaf _=>false|.node ..=>true
noncomputable def okNet(X:Net):Bool:=decide (X.size=4)&&decide (X.height≤3)&&inB 4 X&&isNode X&&decide ((X.lay 0 1 2).2.length=4)&&decide (2≤(X.lay 0 1 2).1)&&decide ((X.lay 0 1 2).1≤5) &&
 (subs [0,1,2,3]).all fun ch=>(RE.rloop (X.lay 0 1 2).2 ch 20 0 [0]).isSome&&(RE.rloop (X.lay 0 1 2).2 ch 20 0 [1]).isSome
theorem jn_ok:∀i0,i0<3→∀b0:Bool,∀i1,i1<2→∀b1 b2:Bool,okNet (jn i0 b0 i1 b1 b2)=true:=by decide +kernel
theorem names_ok:∀k,k<48→((namesL.getD k []).all fun c=>decide (c<128)&&decide (c≠34)&&decide (c≠92))=true∧1≤(namesL.getD k []).length∧(namesL.getD k []).length≤3∧tokOf (namesL.getD k [])=some (7+k):=by decide +kernel
noncomputable def pk(d:Int):Nat:=jat (zN 48) (Int.fdiv d 24)
theorem pk_lt(d:Int):pk d<48:=JO.jat_lt (m:=48) (by decide) _
theorem pk_eq(d:Int):Int.fmod (Int.fdiv d 24) 48=zN (pk d):=JO.jat_eq (m:=48) (by decide) _
noncomputable def nmOf(d:Int):List Nat:=namesL.getD (pk d) []
theorem nm_Nm(d:Int):Sg.Nm (nmOf d):=by
 have h:=(names_ok _ (pk_lt d)).1
 intro c hc
 have:=List.all_eq_true.mp h c hc
 simp only[Bool.and_eq_true,decide_eq_true_eq]at this
 exact⟨this.1.1,this.1.2,this.2⟩
noncomputable def mm(d:Nat→Int)(k:Nat):Bool×List Nat:=(decide (Int.fmod (Int.fdiv (d k) 1152) 2=0),nmOf (d k))
theorem mm_tx(d:Nat→Int)(k:Nat):(Sg.mk (mm d k).1 (mm d k).2).tx=NM.markOf (nmOf (d k)) (d k):=by
 unfold mm NM.markOf
 by_cases h:Int.fmod (Int.fdiv (d k) 1152) 2=0
 ·rw[decide_eq_true h,if_pos h]; rfl
 ·rw[decide_eq_false h,if_neg h]; rfl
noncomputable def marksOf(d:Nat→Int):List (List Nat):=[NM.markOf (nmOf (d 0)) (d 0),NM.markOf (nmOf (d 1)) (d 1),NM.markOf (nmOf (d 2)) (d 2),NM.markOf (nmOf (d 3)) (d 3)]
theorem marks_get(d:Nat→Int):∀k,k<4→(marksOf d).getD k []=(Sg.mk (mm d k).1 (mm d k).2).tx
 | 0,_=>(mm_tx d 0).symm
 | 1,_=>(mm_tx d 1).symm
 | 2,_=>(mm_tx d 2).symm
 | 3,_=>(mm_tx d 3).symm
theorem txs_write(d:Nat→Int):∀x:Net,x.In 4→txs (sgs (mm d) x)=x.write (marksOf d)
 | .leaf k,h=>by
  show(Sg.mk (mm d k).1 (mm d k).2).tx++[]=(marksOf d).getD k []
  rw[List.append_nil,marks_get d k h]
 | .node b l r,h=>by
  rw[sgs_e.2,txs_cons,txs_append,txs_cons,txs_append,txs_write d l h.1,txs_write d r h.2]
  show _=40::l.write (marksOf d)++Net.opc b::(r.write (marksOf d)++[41])
  simp[Sg.tx,txs]
theorem oks_net(d:Nat→Int):∀x:Net,Oks (sgs (mm d) x)
 | .leaf k=>by
  intro y hy
  simp only[sgs_e,mg]at hy
  subst hy
  obtain⟨h1,h2,h3,h4⟩:=names_ok _ (pk_lt (d k))
  exact⟨nm_Nm (d k),fun h=>by have:(nmOf (d k)).length=0:=(by rw[show nmOf (d k)=[]from h]; rfl); unfold nmOf at this; omega,_,h4⟩
 | .node b l r=>by
  intro y hy
  simp only[sgs_e,mf,mpp,nn,or_false]at hy
  rcases hy with rfl|h|rfl|h|rfl
  ·exact .inl rfl
  ·exact oks_net d l y h
  ·cases b
   ·exact .inr (.inr (.inr rfl))
   ·exact .inr (.inr (.inl rfl))
  ·exact oks_net d r y h
  ·exact .inr (.inl rfl)
theorem alt_net(m:Nat→Bool×List Nat):∀(y:Net) (T:List Sg),((∃k,y=.leaf k)→∃c R,T=.pl c::R)→Alt T false→Alt (sgs m y++T) false
 | .leaf k,T,h,ht=>by
  obtain⟨c,R,rfl⟩:=h ⟨k,rfl⟩
  exact⟨rfl,ht⟩
 | .node b l r,T,_,ht=>by
  have e:sgs m (.node b l r)++T=.pl 40::(sgs m l++(.pl (Net.opc b)::(sgs m r++(.pl 41::T)))):=by simp[sgs_e]
  rw[e]
  exact alt_net m l _ (fun _=>⟨_,_,rfl⟩) (alt_net m r _ (fun _=>⟨_,_,rfl⟩) ht)
theorem sgs_len(m:Nat→Bool×List Nat):∀y:Net,(sgs m y).length+3=4*y.size
 | .leaf k=>rfl
 | .node b l r=>by
  have h1:=sgs_len m l
  have h2:=sgs_len m r
  show _=4*(l.size+r.size)
  simp only[sgs_e,List.length_cons,lap,List.length_nil]
  omega
theorem part_ok{tk:Nat→Nat}(h:∀k,0<tk k∧tk k<64):∀y:Net,(y.part tk).Ok∧(y.part tk).Pos∧(y.part tk).size=y.size∧(y.part tk).height=y.height
 | .leaf k=>⟨(h k).2,(h k).1,rfl,rfl⟩
 | .node b l r=>by
  obtain⟨a1,a2,a3,a4⟩:=part_ok h l
  obtain⟨b1,b2,b3,b4⟩:=part_ok h r
  exact⟨⟨a1,b1⟩,⟨a2,b2⟩,by show(l.part tk).size+(r.part tk).size=l.size+r.size; rw[a3,b3],by show(l.part tk).height+(r.part tk).height+1=_; rw[a4,b4]; rfl⟩
theorem flows_mul:∀(y:Part) (m:Int),y.flows m=(y.flows 1).map (m*·)
 | .leaf r,m=>by show[m]=[m*1]; rw[Int.mul_one]
 | .node true l r,m=>by
  simp only[Part.flows_e,List.map_append]
  rw[flows_mul l (m*r.pq.2),flows_mul r (m*l.pq.2),flows_mul l (1*r.pq.2),flows_mul r (1*l.pq.2)]
  simp[List.map_map,Function.comp_def,Int.mul_assoc]
 | .node false l r,m=>by
  simp only[Part.flows_e,List.map_append]
  rw[flows_mul l (m*r.pq.1),flows_mul r (m*l.pq.1),flows_mul l (1*r.pq.1),flows_mul r (1*l.pq.1)]
  simp[List.map_map,Function.comp_def,Int.mul_assoc]
noncomputable def tkOf(d:Nat→Int)(k:Nat):Nat:=7+pk (d k)
structure Facts(d:Nat→Int)(X:Net)(x:List Nat)(ys:List (Nat×Nat)):Prop where
 wr:x=X.write (marksOf d)
 inn:X.In 4
 sz:X.size=4
 ht:X.height≤3
 hd:∃r,x=40::r
 sy:symE x 0 false false [] []=some ys
 pa:Parse x ys 0 (X.part (tkOf d))
 gd:GoodS x ys
 yl:ys.length<1000
 xl:x.length<100
 asc:x.all (fun c:Nat=>decide (c<128))=true
 wf:G.wf x false=true
 asc':(stripL x).all (fun c:Nat=>decide (c<128))=true
 wf':G.wf (stripL x) false=true
 ck:chkB (stripL x)=true
 wl:(X.lay 0 1 2).2.length=4
 n2:2≤(X.lay 0 1 2).1
 n5:(X.lay 0 1 2).1≤5
 rch:∀(ch:List Nat) (pt:Int),ch.Sublist [0,1,2,3]→(pt=0∨pt=1)→∃out,RE.rloop (X.lay 0 1 2).2 ch 20 0 [pt]=some out
 tr:TreeOk (tkOf d) X
 ml:∀z∈marksOf d,z.length≤10
theorem mark_len(d:Int):(NM.markOf (nmOf d) d).length≤10:=by
 obtain⟨_,_,h3,_⟩:=names_ok _ (pk_lt d)
 have h3':(nmOf d).length≤3:=h3
 unfold NM.markOf
 split
 ·simp; omega
 ·have:((nmOf d).flatMap fun c=>[92,c]).length=2*(nmOf d).length:=by
   induction nmOf d with
   | nil=>rfl
   | cons c l ih=>rw[List.flatMap_cons,lap,ih]; simp; omega
  omega
theorem facts(d:Nat→Int):Facts d (joined (d 0) (d 1) (d 2)) (txs (sgs (mm d) (joined (d 0) (d 1) (d 2)))) (es (sgs (mm d) (joined (d 0) (d 1) (d 2))) 0 none):=by
 have i0:jat 3 (d 0)<3:=JO.jat_lt (m:=3) (by decide) _
 have i1:jat 2 (d 1)<2:=JO.jat_lt (m:=2) (by decide) _
 have i2:jat 1 (d 2)<1:=JO.jat_lt (m:=1) (by decide) _
 have hX:joined (d 0) (d 1) (d 2)=jn (jat 3 (d 0)) (jsg (d 0)) (jat 2 (d 1)) (jsg (d 1)) (jsg (d 2)):=by
  unfold joined jn
  rw[show jat 1 (d 2)=0 from by omega]
 have hok:=jn_ok _ i0 (jsg (d 0)) _ i1 (jsg (d 1)) (jsg (d 2))
 have htr:=El.jn_tree (tkOf d) _ (jsg (d 0)) _ (jsg (d 1)) (jsg (d 2)) i0 i1
 rw[←hX]at hok htr
 generalize joined (d 0) (d 1) (d 2)=X at hok htr ⊢
 unfold okNet at hok
 simp only[Bool.and_eq_true,decide_eq_true_eq]at hok
 obtain⟨⟨⟨⟨⟨⟨⟨hsz,hht⟩,hin⟩,hnode⟩,hwl⟩,hn2⟩,hn5⟩,hr⟩:=hok
 have hin':=inB_iff hin
 have hO:=oks_net d X
 have hleaf:¬∃k,X=.leaf k:=fun⟨k,e⟩=>by subst e; cases hnode
 have hwr:=txs_write d X hin'
 have hml:∀z∈marksOf d,z.length≤10:=by
  intro z hz
  simp only[marksOf,mf,nn,or_false]at hz
  rcases hz with rfl|rfl|rfl|rfl<;>exact mark_len _
 have hlen:=WR.write_len hml X
 have hal:=alt_net (mm d) X [] (fun h=>absurd h hleaf) rfl
 rw[List.append_nil]at hal
 have hsy:=sym_txs (sgs (mm d) X) 0 [] none [] hO hal (.inl ⟨rfl,rfl⟩)
 have hpa:=parse_net (m:=mm d) (tk:=tkOf d) (fun k=>(names_ok _ (pk_lt (d k))).2.2.2) hO X [] [] [] (by simp) (by simp[txs]) (fun h=>absurd h hleaf)
 have hsl:=sgs_len (mm d) X
 have hel:=es_len (sgs (mm d) X) 0 none
 have hv:=val_bal (mm d) X [] 0 (Int.le_refl _)
 rw[List.append_nil]at hv
 have hg:=goodL hO
 refine⟨hwr,hin',hsz,hht,?_,hsy,hpa,goodS hO,by omega,by rw[hwr]; omega,hg.asc,hg.wf,hg.asc',hg.wf',?_,hwl,hn2,hn5,?_,htr,hml⟩
 ·cases X with
  | leaf k=>cases hnode
  | node b l r=>exact⟨_,by rw[sgs_e.2,txs_cons]; rfl⟩
 ·rw[chkB_txs hO,hv]; rfl
 ·intro ch pt hch hpt
  have:=List.all_eq_true.mp hr ch (mem_subs hch)
  rw[Bool.and_eq_true]at this
  rcases hpt with rfl|rfl
  ·exact Option.isSome_iff_exists.mp this.1
  ·exact Option.isSome_iff_exists.mp this.2
section
variable{s0 s:Shared}{G:List Nat}{dp:Nat}{o:Out}
theorem Cur.startP{c:Code}{md:Md}{tr:Sem PySem.Fin}{hs:List H}{n t:Nat}(C:Cur kt W s0 L G s M)(hn:n=s.heap.objs.size)(ht:t=s.toks)(ho:o=Mine.startT (S1 kt W n t dp) c md tr M hs)(hg:md.isGen=false)(hA:A.handled=none)(hd:A.depth+dp<1000)
  (H:Post (S1 kt W s.heap.objs.size s.toks dp) (tgt A R P s M) false o):Mean W A R P c md tr s:=by
 subst hn ht; exact Cur.startO C ho hg hA hd H
theorem Cur.heldM(C:Cur kt W s0 L G s M){b:Bool}{vs es tr ps}(e:Mine.G.HeldIs o vs es tr ps)(hv:∀p∈vs,p.1=p.2)(he:∀e∈es,e.Ok PW W.w)(hi:inc 0 ps=true)
  (k:∀s',Cur kt W s0 L G s' (ps.map (·.2))→s'.gens=s.gens→Fut (ks M) [] s s'→Mean W A R P (oCc o) (oMd o) tr s'):Post (S1 kt W s.heap.objs.size s.toks dp) (tgt A R P s M) b o:=by
 have e':=e
 unfold Mine.G.HeldIs Mine.G.hT at e'
 simp only[Prod.mk.injEq]at e'
 obtain⟨e1,e2,e3,e4,e5,e8⟩:=e'
 rw[e1]
 refine⟨⟨e2,e3▸hv,e4▸he⟩,fun h' D=>mean_iff.mpr ?_⟩
 rw[e5]
 exact k ⟨h',s.gens,s.drawn,s.toks+oI o,s.os⟩ ((C.run D).pick e8 hi) rfl (rep_fut D)
end
theorem nameVals_get:∀(l:List (List Nat)) (t i k:Nat),(NM.nameVals t l i)[k]?=(l[k]?).map fun x=>Value.str ⟨⟨x⟩⟩ (t+(i+k))
 | [],t,i,k=>rfl
 | x::l,t,i,0=>rfl
 | x::l,t,i,k+1=>by
  show(NM.nameVals t l (i+1))[k]?=_
  rw[nameVals_get l t (i+1) k,List.getElem?_cons_succ,show i+1+k=i+(k+1)from by omega]
theorem names_get(t:Nat){k:Nat}(h:k<48):(NM.nameVals t namesL 1)[k]?=some (Value.str ⟨⟨namesL.getD k []⟩⟩ (t+(1+k))):=by
 rw[nameVals_get]
 have hl:namesL.length=48:=by decide
 rw[List.getD_eq_getElem?_getD,List.getElem?_eq_getElem (by omega)]
 rfl
theorem ints_cons{y:Int}{ys:List Int}(h:intsOf vs=some (y::ys)):∃t us,vs=.int y t::us∧intsOf us=some ys:=by
 cases vs with
 | nil=>cases h
 | cons v r =>
  obtain⟨x,t,zs,rfl,hz,e⟩:=ints_inv h
  cases e
  exact⟨t,r,rfl,hz⟩
theorem len_cons{l:List Int}{n:Nat}(h:l.length=n+1):∃a t,l=a::t∧t.length=n:=by
 cases l with
 | nil=>cases h
 | cons a t=>exact⟨a,t,rfl,Nat.succ.inj h⟩
theorem four{ys:List Int}(h:intsOf vs=some ys)(hl:ys.length=4):∃(d0:Int) (u0:Nat) (d1:Int) (u1:Nat) (d2:Int) (u2:Nat) (d3:Int) (u3:Nat),vs=[.int d0 u0,.int d1 u1,.int d2 u2,.int d3 u3]∧ys=[d0,d1,d2,d3]:=by
 obtain⟨a,y0,rfl,g0⟩:=len_cons hl
 obtain⟨b,y1,rfl,g1⟩:=len_cons g0
 obtain⟨c,y2,rfl,g2⟩:=len_cons g1
 obtain⟨d,y3,rfl,g3⟩:=len_cons g2
 cases List.eq_nil_of_length_eq_zero g3
 obtain⟨t0,v0,rfl,k0⟩:=ints_cons h
 obtain⟨t1,v1,rfl,k1⟩:=ints_cons k0
 obtain⟨t2,v2,rfl,k2⟩:=ints_cons k1
 obtain⟨t3,v3,rfl,k3⟩:=ints_cons k2
 cases List.eq_nil_of_length_eq_zero (intsOf_len' k3)
 exact⟨a,t0,b,t1,c,t2,d,t3,rfl,rfl⟩
namespace LW
structure Pr where
 n:Nat
 t:Nat
noncomputable def cel(v:Option Value):Obj:=⟨.type "cell",none,.cell v,#[]⟩
noncomputable def frd(P:Params)(es:List (Str×Tok×Value)):Obj:=⟨.type "dict",none,.dict ⟨es.map fun e=>⟨kh P e.1,.str e.1 e.2.1,e.2.2⟩⟩ es.length,#[]⟩
noncomputable def klOf(c:Code):Code:=match c with|.compStart e d it acc env=>.compLoop e d it acc env|c=>c
noncomputable def firstL(p:Pr):Obj:=lst [.int 0 p.t,.int 1177 (p.t+1),.int 942 (p.t+2),.int 2209 (p.t+3)] 0
noncomputable def kK(W:Wd)(c k0:Nat)(k:Int)(tk:Nat):Obj:=frd W.w.params [(⟨⟨[c]⟩⟩,k0,.int k tk)]
noncomputable def eRNx(it:Nat)(i r:Int)(n t:Nat):Eff:=⟨.call (.builtin "range_iterator.__next__") ⟨[.ref it],[]⟩,[(it,rgi i r 1)],some (it,rgi (i+1) (r-1) 1),[],.ok (.ret (.int i t)),1,n,t⟩
noncomputable def slo(i:Int)(ti tj tk:Nat):Obj:=⟨.type "slice",none,.fields #[.int i ti,.int 63 tj,.int 4 tk],#[]⟩
noncomputable def eSli(l:Nat)(vs:List Value)(e a:Nat)(j:Int)(t:Nat)(ws:List Value)(n t0:Nat):Eff:=⟨.call (.builtin "list.__getitem__") ⟨[.ref l,.ref a],[]⟩,[(l,lst vs e),(a,slo j t (t+2) (t+3))],none,[lst ws 0],.ok (.ret (.ref n)),0,n,t0⟩
structure VA where
 sv:List Value
 se:Nat
structure VB where
 k0:Nat
 k:Int
 tk:Nat
 n:Nat
 t:Nat
structure VC where
 nl:Nat
 d0:Int
 u0:Nat
 d1:Int
 u1:Nat
 d2:Int
 u2:Nat
 d3:Int
 u3:Nat
 de:Nat
 q0:Int
 q1:Int
 q2:Int
 q3:Int
 r0:Int
 r1:Int
 r2:Int
 r3:Int
 n:Nat
 t:Nat
structure VD where
 y:Nat
 nv:List Value
 ne:Nat
 s0:Str
 w0:Nat
 s1:Str
 w1:Nat
 s2:Str
 w2:Nat
 s3:Str
 w3:Nat
 n:Nat
 t:Nat
structure VE where
 m0:Str
 v0:Nat
 n0:Nat
 t0:Nat
 m1:Str
 v1:Nat
 n1:Nat
 t1:Nat
 m2:Str
 v2:Nat
 n2:Nat
 t2:Nat
 m3:Str
 v3:Nat
 n:Nat
 t:Nat
structure VF where
 x:Str
 xt:Nat
 n:Nat
 t:Nat
structure VG where
 pv:List Value
 pe:Nat
 n:Nat
 t:Nat
structure VH where
 tt:Nat
 pa:Int
 ua:Nat
 tr:Int
 ut:Nat
 fl:Nat
 n:Nat
 t:Nat
noncomputable def sgn(z:Bool):Int:=match z with|false=>1|true=>-1
noncomputable def sdv(z:Bool)(t:Nat):Value:=match z with|false=>.int 1 (t+6)|true=>.int (-1) (t+7)
structure VI where
 sy:Nat
 n:Nat
 t:Nat
structure VJ where
 pr:Nat
 o1:Value
 o2:Value
 o3:Value
 pp:Int
 tp:Nat
 pq:Int
 tq:Nat
 n:Nat
 t:Nat
structure VK where
 n:Nat
 t:Nat
structure VL where
 f0:Int
 a0:Nat
 f1:Int
 a1:Nat
 f2:Int
 a2:Nat
 f3:Int
 a3:Nat
 fe:Nat
 tv:List Value
 te:Nat
 rv:List Value
 re:Nat
 n:Nat
 t:Nat
noncomputable def fbody:Code→List Stmt|.func b _=>b|_=>[]
noncomputable def fenv:Code→Env|.func _ e=>e|_=>default
noncomputable def boV(e:PySem.Expr):List PySem.Expr×Pos:=if h:e.ctorIdx=0 then PySem.Expr.BoolOp.elim e h fun _ v p=>(v,p)else([],default)
noncomputable def reV(s:Stmt):List PySem.Expr×Pos:=if h:s.ctorIdx=3 then PySem.Stmt.Return.elim s h fun v _=>v.elim ([],default) boV else([],default)
noncomputable def retOf(l:List Stmt):List PySem.Expr×Pos:=List.rec ([],default) (fun s r i=>List.rec (reV s) (fun _ _ _=>i) r) l
noncomputable def lastT(c:Code)(m:Sem Value):Sem PySem.Fin :=
 PySem.W.R.bindR (PySem.W.R.onRaiseR (PySem.W.R.bindR (PySem.W.R.bindR (PySem.W.ZFast.zw5920589197648130222 (retOf (fbody c)).2 .And [m,PySem.W.ZFast.zw14044960220447912780 ((retOf (fbody c)).1.getD 4 default) (fenv c)]) fun v=>.pure (Flow.ret v)) fun f=>match f with
  | Flow.next=>PySem.W.ZFast.zw12563942051412417395 [] (fenv c)
  | f=>.pure f) (PySem.W.ZFast.zw9442747609961115081 (fenv c))) fun f=>match f with
  | Flow.ret v=>PySem.W.ZFast.zw6905046200447255374 v
  | _=>PySem.W.ZFast.zw6905046200447255374 .none
structure VO where
 n:Nat
 t:Nat
noncomputable abbrev frN(W:Wd)(d:VD):Obj:=fr W.w.params [(U3,d.t,.ref d.y)]
noncomputable abbrev frT(W:Wd)(d:VD)(f:VF):Obj:=fr W.w.params [(U3,d.t,.ref d.y),(U1,f.t,.str f.x f.xt),(U5,f.t+3,.ref f.n),(U0,f.t+4,.ref (f.n+1))]
noncomputable abbrev frU(W:Wd)(d:VD)(f:VF)(h:VH):Obj:=fr W.w.params [(U3,d.t,.ref d.y),(U1,f.t,.str f.x f.xt),(U5,f.t+3,.ref f.n),(U0,f.t+4,.ref (f.n+1)),(U8,h.t,.int h.pa h.ua),(U9,h.t+1,.int h.tr h.ut),(U10,h.t+2,.ref h.fl)]
noncomputable abbrev frV(W:Wd)(d:VD)(f:VF)(h:VH)(j:VJ):Obj:=fr W.w.params [(U3,d.t,.ref d.y),(U1,f.t,.str f.x f.xt),(U5,f.t+3,.ref f.n),(U0,f.t+4,.ref (f.n+1)),(U8,h.t,.int h.pa h.ua),(U9,h.t+1,.int h.tr h.ut),(U10,h.t+2,.ref h.fl),(U19,j.t,.ref j.pr),(U20,j.t+1,.ref j.n),(U21,j.t+2,.ref (j.n+1))]
noncomputable def a0 a W (p:Pr) c d:=startF (S1 a W p.n p.t 60) 158 ⟨[.ref 159],[]⟩ [(159,lst c d)] (Hx 0x3eddd2d2ddd2d2dd2222117721661 [])
noncomputable abbrev P_a0(W:Wd)(p:Pr)(a:List Value)(b:Nat):PL:=[(0,159,lst a b),(1,p.n,fr W.w.params []),(2,p.n+1,cel (some (.ref 159))),(3,p.n+2,cel (some (.ref (p.n+7)))),(4,p.n+3,cel none),(5,p.n+4,cel none),(6,p.n+5,cel none),(7,p.n+6,cel none),(8,p.n+7,firstL p),(10,p.n+9,rgi 0 4 1),(11,p.n+10,lst [] 0),(12,p.n+11,frd W.w.params [])]
noncomputable def E_a0 kt W:=∀p a b,StopIs (a0 kt W p a b) [] [] (oC (a0 kt W p a b)) 1 (P_a0 W p a b)
noncomputable def E_a0c kt W:=∀p a b,oC (a0 kt W p a b)=oC (a0 kt W p [] 0)
noncomputable def KS1(kt:Params→KT)(W:Wd)(p:Pr):Code:=oC (a0 kt W p [] 0)
noncomputable def KL1(kt:Params→KT)(W:Wd)(p:Pr):Code:=klOf (KS1 kt W p)
noncomputable def q0 a W p n t:=startC (S1 a W n t 60) (KS1 a W p) (.own []) [(p.n+9,rgi 0 4 1)] (match W.b2 with|true=>[.z]|false=>(Hx Y17 []))
noncomputable def E_q0 kt W:=∀p n t,AgainIs (q0 kt W p n t) [] [] (KL1 kt W p) [(0,p.n+9,rgi 0 4 1)]
noncomputable def gA a W p c d j r f g h n t:=startC (S1 a W n t 60) (KL1 a W p) (.own []) [(p.n+1,cel (some (.ref 159))),(p.n+2,cel (some (.ref (p.n+7)))),(p.n+7,firstL p),(159,lst c d),(p.n+9,rgi j r 1),(p.n+11,frd W.w.params [])] (.m 4::.u [] 4 (rgi (j+1) (r-1) 1) (.int j (t+0)) 1::Hx 0x6669599 (.i [2] (.int f g) 0::Hx 0x7779411 (.e [3,6] none [lst h 0] (rt (.ref (n+1))) 0::Hx 0x3c2b2bb [])))
noncomputable abbrev P_gA(W:Wd)(p:Pr)(a:List Value)(b:Nat)(j r:Int)(c:List Value)(n t:Nat):PL:=[(0,p.n+1,cel (some (.ref 159))),(1,p.n+2,cel (some (.ref (p.n+7)))),(2,p.n+7,firstL p),(3,159,lst a b),(4,p.n+9,rgi (j+1) (r-1) 1),(5,p.n+11,kK W 107 (t+1) j t),(7,n+1,lst c 0),(8,n+2,lit (n+1) 0),(9,n+3,lst [] 0),(10,n+4,frd W.w.params [])]
noncomputable def E_gA kt W:=∀p a b j r f d c n t,StopIs (gA kt W p a b j r f d c n t) [] [eSli 159 a b n j t c (n+1) (t+4),PA.eGet (p.n+7) [.int 0 p.t,.int 1177 (p.t+1),.int 942 (p.t+2),.int 2209 (p.t+3)] 0 j t (.int f d) n (t+2),eRNx (p.n+9) j r n t] (oC (gA kt W p a b j r f d c n t)) 1 (P_gA W p a b j r c n t)
noncomputable def E_gAc kt W:=∀p a b j r f d c n t,oC (gA kt W p a b j r f d c n t)=oC (gA kt W p [] 0 0 0 0 0 [] n 0)
noncomputable def KS2(kt:Params→KT)(W:Wd)(p:Pr)(n:Nat):Code:=oC (gA kt W p [] 0 0 0 0 0 [] n 0)
noncomputable def KL2(kt:Params→KT)(W:Wd)(p:Pr)(n:Nat):Code:=klOf (KS2 kt W p n)
noncomputable def gB a W p c d g k h j r f i l n t:=startC (S1 a W n t 60) (KL1 a W p) (.own []) [(p.n+1,cel (some (.ref 159))),(p.n+2,cel (some (.ref (p.n+7)))),(p.n+7,firstL p),(159,lst c d),(p.n+9,rgi j r 1),(p.n+11,kK W 107 g k h)] (.m 4::.u [] 4 (rgi (j+1) (r-1) 1) (.int j (t+0)) 1::Hx 0x6669599 (.i [2] (.int f i) 0::Hx 0x7779411 (.e [3,6] none [lst l 0] (rt (.ref (n+1))) 0::Hx 0x3c2b2bb [])))
noncomputable abbrev P_gB(W:Wd)(p:Pr)(a:List Value)(b d:Nat)(j r:Int)(c:List Value)(n t:Nat):PL:=[(0,p.n+1,cel (some (.ref 159))),(1,p.n+2,cel (some (.ref (p.n+7)))),(2,p.n+7,firstL p),(3,159,lst a b),(4,p.n+9,rgi (j+1) (r-1) 1),(5,p.n+11,kK W 107 d j t),(7,n+1,lst c 0),(8,n+2,lit (n+1) 0),(9,n+3,lst [] 0),(10,n+4,frd W.w.params [])]
noncomputable def E_gB kt W:=∀p a b d k g j r f e c n t,StopIs (gB kt W p a b d k g j r f e c n t) [] [eSli 159 a b n j t c (n+1) (t+4),PA.eGet (p.n+7) [.int 0 p.t,.int 1177 (p.t+1),.int 942 (p.t+2),.int 2209 (p.t+3)] 0 j t (.int f e) n (t+2),eRNx (p.n+9) j r n t] (KS2 kt W p n) 1 (P_gB W p a b d j r c n t)
noncomputable def h0 a W p m n t:=startC (S1 a W n t 60) (KS2 a W p m) (.own []) [(m+2,lit (m+1) 0)] (match W.b2 with|true=>[.z]|false=>(Hx Y17 []))
noncomputable def E_h0 kt W:=∀p m n t,AgainIs (h0 kt W p m n t) [] [] (KL2 kt W p m) [(0,m+2,lit (m+1) 0)]
noncomputable def hA a W p m c d i x f y b e n t:=startC (S1 a W n t 60) (KL2 a W p m) (.own []) [(m+1,lst c d),(m+2,lit (m+1) i),(m+3,lst b e),(m+4,frd W.w.params [])] (.m 1::.u [0] 1 (lit (m+1) (i+1)) (.int x f) 0::Hx 0x777 (.i [] (.int 1000000 (t+3)) 1::.i [] (.int y (t+4)) 1::.u [] 2 (lst (b++[.int y (t+4)]) (e+1)) .none 0::[.z]))
noncomputable def E_hA kt W:=∀p m b c i x a y d e n t,AgainIs (hA kt W p m b c i x a y d e n t) [] [SQ.eApp (m+3) d e (.int y (t+4)) n (t+5),eInt "int.__mod__" [.int x a,.int 1000000 (t+3)] y n (t+4),eInt "int.__pow__" [.int 10 (t+1),.int 6 (t+2)] 1000000 n (t+3),eLNext (m+2) (m+1) b c i (.int x a) n t] (KL2 kt W p m) [(0,m+1,lst b c),(1,m+2,lit (m+1) (i+1)),(2,m+3,lst (d++[.int y (t+4)]) (e+1)),(3,m+4,kK W 120 t x a)]
noncomputable def hB a W p m c d f k g i x h y b e n t:=startC (S1 a W n t 60) (KL2 a W p m) (.own []) [(m+1,lst c d),(m+2,lit (m+1) i),(m+3,lst b e),(m+4,kK W 120 f k g)] (.m 1::.u [0] 1 (lit (m+1) (i+1)) (.int x h) 0::Hx 0x777 (.i [] (.int 1000000 (t+3)) 1::.i [] (.int y (t+4)) 1::.u [] 2 (lst (b++[.int y (t+4)]) (e+1)) .none 0::[.z]))
noncomputable def E_hB kt W:=∀p m b c f k g i x a y d e n t,AgainIs (hB kt W p m b c f k g i x a y d e n t) [] [SQ.eApp (m+3) d e (.int y (t+4)) n (t+5),eInt "int.__mod__" [.int x a,.int 1000000 (t+3)] y n (t+4),eInt "int.__pow__" [.int 10 (t+1),.int 6 (t+2)] 1000000 n (t+3),eLNext (m+2) (m+1) b c i (.int x a) n t] (KL2 kt W p m) [(0,m+1,lst b c),(1,m+2,lit (m+1) (i+1)),(2,m+3,lst (d++[.int y (t+4)]) (e+1)),(3,m+4,kK W 120 f x a)]
noncomputable def hE a W p m b c i n t:=startC (S1 a W n t 60) (KL2 a W p m) (.own []) [(m+1,lst b c),(m+2,lit (m+1) i)] [.m 1,.e [0] (some (1,litE i)) [tup [],G.stopIt n] (.error (.ref (n+1))) 0,.m 3]
noncomputable def E_hE kt W:=∀p m a b i n t,RetIs (hE kt W p m a b i n t) [] [eLEnd (m+2) (m+1) a b i n t] (.ok .next) []
noncomputable def iAA a W p b c j r f d e n t g h:=on a W g h (gA a W p b c j r f d e n t) (.ok .next) [(n+4,frd W.w.params [])] [.m 0,.z]
noncomputable def E_iAA kt W:=∀p a b j r f c d n t e g,StopIs (iAA kt W p a b j r f c d n t e g) [] [] (.call (.builtin "sum") ⟨[.ref (n+3)],[]⟩) 1 []
noncomputable def jAA a W p d g j r f h i n t k l S m b e o c:=on a W o c (iAA a W p d g j r f h i n t k l) (rt (.int S m)) [(p.n+10,lst b e)] (Hx 0x22 (.u [] 0 (lst (b++[.int (f+S) c]) (e+1)) .none 0::[.z]))
noncomputable def E_jAA kt W:=∀p d g j r f h i n t k l S m b e c a,AgainIs (jAA kt W p d g j r f h i n t k l S m b e c a) [] [SQ.eApp (p.n+10) b e (.int (f+S) a) c (a+1)] (KL1 kt W p) [(0,p.n+10,lst (b++[.int (f+S) a]) (e+1))]
noncomputable def iAB a W p c d j r f e g n t h i b k l:=on a W k l (gA a W p c d j r f e g n t) (.ok .next) [(n+4,kK W 120 h i b)] (Hx 0x3444 [])
noncomputable def E_iAB kt W:=∀p b c j r f d e n t g h a i k,StopIs (iAB kt W p b c j r f d e n t g h a i k) [] [] (.call (.builtin "sum") ⟨[.ref (n+3)],[]⟩) 1 []
noncomputable def jAB a W p g h j r f i k n t l m b o q S u c e v d:=on a W v d (iAB a W p g h j r f i k n t l m b o q) (rt (.int S u)) [(p.n+10,lst c e)] (Hx 0x22 (.u [] 0 (lst (c++[.int (f+S) d]) (e+1)) .none 0::[.z]))
noncomputable def E_jAB kt W:=∀p g h j r f i k n t l m c o q S s b e d a,AgainIs (jAB kt W p g h j r f i k n t l m c o q S s b e d a) [] [SQ.eApp (p.n+10) b e (.int (f+S) a) d (a+1)] (KL1 kt W p) [(0,p.n+10,lst (b++[.int (f+S) a]) (e+1))]
noncomputable def iBA a W p b c d k e j r f g h n t i l:=on a W i l (gB a W p b c d k e j r f g h n t) (.ok .next) [(n+4,frd W.w.params [])] [.m 0,.z]
noncomputable def E_iBA kt W:=∀p a b c k d j r f e g n t h i,StopIs (iBA kt W p a b c k d j r f e g n t h i) [] [] (.call (.builtin "sum") ⟨[.ref (n+3)],[]⟩) 1 []
noncomputable def jBA a W p d g h k i j r f l m n t o q S u b e v c:=on a W v c (iBA a W p d g h k i j r f l m n t o q) (rt (.int S u)) [(p.n+10,lst b e)] (Hx 0x22 (.u [] 0 (lst (b++[.int (f+S) c]) (e+1)) .none 0::[.z]))
noncomputable def E_jBA kt W:=∀p d g h k i j r f l m n t o q S s b e c a,AgainIs (jBA kt W p d g h k i j r f l m n t o q S s b e c a) [] [SQ.eApp (p.n+10) b e (.int (f+S) a) c (a+1)] (KL1 kt W p) [(0,p.n+10,lst (b++[.int (f+S) a]) (e+1))]
noncomputable def iBB a W p c d e k g j r f h i n t l o b q s:=on a W q s (gB a W p c d e k g j r f h i n t) (.ok .next) [(n+4,kK W 120 l o b)] (Hx 0x3444 [])
noncomputable def E_iBB kt W:=∀p b c d k e j r f g h n t i l a m o,StopIs (iBB kt W p b c d k e j r f g h n t i l a m o) [] [] (.call (.builtin "sum") ⟨[.ref (n+3)],[]⟩) 1 []
noncomputable def jBB a W p g h i k l j r f m o n t q u b v w S x c e y d:=on a W y d (iBB a W p g h i k l j r f m o n t q u b v w) (rt (.int S x)) [(p.n+10,lst c e)] (Hx 0x22 (.u [] 0 (lst (c++[.int (f+S) d]) (e+1)) .none 0::[.z]))
noncomputable def E_jBB kt W:=∀p g h i k l j r f m o n t q s c u v S w b e d a,AgainIs (jBB kt W p g h i k l j r f m o n t q s c u v S w b e d a) [] [SQ.eApp (p.n+10) b e (.int (f+S) a) d (a+1)] (KL1 kt W p) [(0,p.n+10,lst (b++[.int (f+S) a]) (e+1))]
noncomputable def gE a W p n t:=startC (S1 a W n t 60) (KL1 a W p) (.own []) [(p.n+9,rgi 4 0 1)] (Hx 0x64442424 [])
noncomputable def E_gE kt W:=∀p n t,RetIs (gE kt W p n t) [] [] (.ok .next) []
noncomputable def b0 c W p (a:VA) (b:VB):=on c W b.n b.t (a0 c W p a.sv a.se) (.ok .next) [(p.n,fr W.w.params []),(p.n+3,cel none),(p.n+4,cel none),(p.n+5,cel none),(p.n+6,cel none),(p.n+11,kK W 107 b.k0 b.k b.tk)] (Hx 0x31155999 [])
noncomputable def E_b0 kt W:=∀p a b,StopIs (b0 kt W p a b) [] [] (.call (.ref 94) ⟨[],[]⟩) 1 [(0,p.n,fr W.w.params []),(1,p.n+3,cel (some (.ref (p.n+10)))),(2,p.n+4,cel none),(3,p.n+5,cel none),(4,p.n+6,cel none)]
noncomputable def b1 d W p a b (c:VC):=on d W c.n c.t (b0 d W p a b) (rt (.ref c.nl)) [(p.n,fr W.w.params []),(p.n+3,cel (some (.ref (p.n+10)))),(p.n+4,cel none),(p.n+5,cel none),(p.n+10,lst [.int c.d0 c.u0,.int c.d1 c.u1,.int c.d2 c.u2,.int c.d3 c.u3] c.de)] (match W.b2 with|true=>(Hx 0xbbb99899292922928288566 (.i [] (.int c.q0 (c.t+2)) 1::.i [] (.int c.r0 (c.t+4)) 1::Hx Y14 (.i [] (.int c.q1 (c.t+7)) 1::.i [] (.int c.r1 (c.t+9)) 1::Hx Y14 (.i [] (.int c.q2 (c.t+12)) 1::.i [] (.int c.r2 (c.t+14)) 1::Hx Y14 (.i [] (.int c.q3 (c.t+17)) 1::.i [] (.int c.r3 (c.t+19)) 1::Hx Y36 [])))))|false=>(Hx 0xbbb99899292929292992928288566 (.i [] (.int c.q0 (c.t+2)) 1::.i [] (.int c.r0 (c.t+4)) 1::Hx Y14 (.i [] (.int c.q1 (c.t+7)) 1::.i [] (.int c.r1 (c.t+9)) 1::Hx Y14 (.i [] (.int c.q2 (c.t+12)) 1::.i [] (.int c.r2 (c.t+14)) 1::Hx Y14 (.i [] (.int c.q3 (c.t+17)) 1::.i [] (.int c.r3 (c.t+19)) 1::Hx Y36 []))))))
noncomputable abbrev P_b1(W:Wd)(p:Pr)(c:VC):PL:=[(0,p.n,fr W.w.params []),(1,p.n+3,cel (some (.ref (p.n+10)))),(2,p.n+4,cel (some (.ref c.nl))),(3,p.n+5,cel (some (.ref (c.n+1)))),(4,p.n+10,lst [.int c.d0 c.u0,.int c.d1 c.u1,.int c.d2 c.u2,.int c.d3 c.u3] c.de),(6,c.n+1,lst [.int c.r0 (c.t+4),.int c.r1 (c.t+9),.int c.r2 (c.t+14),.int c.r3 (c.t+19)] 4),(10,c.n+5,lst [.int 0 (c.t+20),.int 1 (c.t+21),.int 2 (c.t+22),.int 3 (c.t+23)] 0)]
noncomputable def E_b1 kt W:=∀p a b c,StopIs (b1 kt W p a b c) [] [eInt "int.__mod__" [.int c.q3 (c.t+17),.int 48 (c.t+18)] c.r3 (c.n+3) (c.t+19),eInt "int.__floordiv__" [.int c.d3 c.u3,.int 24 (c.t+16)] c.q3 (c.n+3) (c.t+17),eInt "int.__mod__" [.int c.q2 (c.t+12),.int 48 (c.t+13)] c.r2 (c.n+3) (c.t+14),eInt "int.__floordiv__" [.int c.d2 c.u2,.int 24 (c.t+11)] c.q2 (c.n+3) (c.t+12),eInt "int.__mod__" [.int c.q1 (c.t+7),.int 48 (c.t+8)] c.r1 (c.n+3) (c.t+9),eInt "int.__floordiv__" [.int c.d1 c.u1,.int 24 (c.t+6)] c.q1 (c.n+3) (c.t+7),eInt "int.__mod__" [.int c.q0 (c.t+2),.int 48 (c.t+3)] c.r0 (c.n+3) (c.t+4),eInt "int.__floordiv__" [.int c.d0 c.u0,.int 24 (c.t+1)] c.q0 (c.n+3) (c.t+2)] (.call (.ref 106) ⟨[.ref (c.n+5),.ref (p.n+10)],[]⟩) 1 (P_b1 W p c)
noncomputable def b2 f W p a b c (d:VD):=on f W d.n d.t (b1 f W p a b c) (rt (.ref d.y)) [(p.n,fr W.w.params []),(p.n+3,cel (some (.ref (p.n+10)))),(p.n+4,cel (some (.ref c.nl))),(p.n+5,cel (some (.ref (c.n+1)))),(p.n+10,lst [.int c.d0 c.u0,.int c.d1 c.u1,.int c.d2 c.u2,.int c.d3 c.u3] c.de),(c.n+1,lst [.int c.r0 (c.t+4),.int c.r1 (c.t+9),.int c.r2 (c.t+14),.int c.r3 (c.t+19)] 4),(c.nl,lst d.nv d.ne)] (match W.b2 with|true=>(Hx 0xaaa9292999e761eeccccccc2c2c22cbbb2b2bbb2b2bb2222114144 (.i [6] (.str d.s0 d.w0) 0::Hx 0x318282888e5 []))|false=>(Hx 0xaaa9292999e761eeccccccc2c2c2c2c2cc2cbbb2b2bbb2b2bb2222114144 (.i [6] (.str d.s0 d.w0) 0::Hx 0x318282888e5 [])))
noncomputable abbrev P_b2(W:Wd)(p:Pr)(c:VC)(d:VD):PL:=[(0,p.n,(frN W d)),(1,p.n+3,cel (some (.ref (p.n+10)))),(2,p.n+4,cel (some (.ref c.nl))),(3,p.n+5,cel (some (.ref (c.n+1)))),(4,p.n+10,lst [.int c.d0 c.u0,.int c.d1 c.u1,.int c.d2 c.u2,.int c.d3 c.u3] c.de),(5,c.n+1,lst [.int c.r0 (c.t+4),.int c.r1 (c.t+9),.int c.r2 (c.t+14),.int c.r3 (c.t+19)] 4),(6,c.nl,lst d.nv d.ne),(8,d.n+1,rgi 1 3 1),(9,d.n+2,lst [] 0),(10,d.n+3,kK W 107 (d.t+5) 0 (d.t+4))]
noncomputable def E_b2 kt W:=∀p a b c d,StopIs (b2 kt W p a b c d) [] [PA.eGet c.nl d.nv d.ne c.r0 (c.t+4) (.str d.s0 d.w0) (d.n+4) (d.t+6)] (.call (.ref 99) ⟨[.str d.s0 d.w0,.int c.d0 c.u0],[]⟩) 2 (P_b2 W p c d)
noncomputable def b3 f W p a b c d (e:VE):=on f W e.n0 e.t0 (b2 f W p a b c d) (rt (.str e.m0 e.v0)) [(p.n+3,cel (some (.ref (p.n+10)))),(p.n+4,cel (some (.ref c.nl))),(p.n+5,cel (some (.ref (c.n+1)))),(p.n+10,lst [.int c.d0 c.u0,.int c.d1 c.u1,.int c.d2 c.u2,.int c.d3 c.u3] c.de),(c.n+1,lst [.int c.r0 (c.t+4),.int c.r1 (c.t+9),.int c.r2 (c.t+14),.int c.r3 (c.t+19)] 4),(c.nl,lst d.nv d.ne),(d.n+1,rgi 1 3 1),(d.n+2,lst [] 0),(d.n+3,kK W 107 (d.t+5) 0 (d.t+4))] (Hx Y27 (.i [5] (.str d.s1 d.w1) 0::Hx Y28 []))
noncomputable abbrev P_b3(W:Wd)(p:Pr)(c:VC)(d:VD)(e:VE):PL:=[(0,p.n+3,cel (some (.ref (p.n+10)))),(1,p.n+4,cel (some (.ref c.nl))),(2,p.n+5,cel (some (.ref (c.n+1)))),(3,p.n+10,lst [.int c.d0 c.u0,.int c.d1 c.u1,.int c.d2 c.u2,.int c.d3 c.u3] c.de),(4,c.n+1,lst [.int c.r0 (c.t+4),.int c.r1 (c.t+9),.int c.r2 (c.t+14),.int c.r3 (c.t+19)] 4),(5,c.nl,lst d.nv d.ne),(6,d.n+1,rgi 2 2 1),(7,d.n+2,lst [.str e.m0 e.v0] 1),(8,d.n+3,kK W 107 (d.t+5) 1 e.t0)]
noncomputable def E_b3 kt W:=∀p a b c d e,StopIs (b3 kt W p a b c d e) [] [PA.eGet c.nl d.nv d.ne c.r1 (c.t+9) (.str d.s1 d.w1) e.n0 (e.t0+2)] (.call (.ref 99) ⟨[.str d.s1 d.w1,.int c.d1 c.u1],[]⟩) 2 (P_b3 W p c d e)
noncomputable def b4 f W p a b c d e:=on f W e.n1 e.t1 (b3 f W p a b c d e) (rt (.str e.m1 e.v1)) [(p.n+3,cel (some (.ref (p.n+10)))),(p.n+4,cel (some (.ref c.nl))),(p.n+5,cel (some (.ref (c.n+1)))),(p.n+10,lst [.int c.d0 c.u0,.int c.d1 c.u1,.int c.d2 c.u2,.int c.d3 c.u3] c.de),(c.n+1,lst [.int c.r0 (c.t+4),.int c.r1 (c.t+9),.int c.r2 (c.t+14),.int c.r3 (c.t+19)] 4),(c.nl,lst d.nv d.ne),(d.n+1,rgi 2 2 1),(d.n+2,lst [.str e.m0 e.v0] 1),(d.n+3,kK W 107 (d.t+5) 1 e.t0)] (Hx Y27 (.i [5] (.str d.s2 d.w2) 0::Hx Y28 []))
noncomputable abbrev P_b4(W:Wd)(p:Pr)(c:VC)(d:VD)(e:VE):PL:=[(0,p.n+3,cel (some (.ref (p.n+10)))),(1,p.n+4,cel (some (.ref c.nl))),(2,p.n+5,cel (some (.ref (c.n+1)))),(3,p.n+10,lst [.int c.d0 c.u0,.int c.d1 c.u1,.int c.d2 c.u2,.int c.d3 c.u3] c.de),(4,c.n+1,lst [.int c.r0 (c.t+4),.int c.r1 (c.t+9),.int c.r2 (c.t+14),.int c.r3 (c.t+19)] 4),(5,c.nl,lst d.nv d.ne),(6,d.n+1,rgi 3 1 1),(7,d.n+2,lst [.str e.m0 e.v0,.str e.m1 e.v1] 2),(8,d.n+3,kK W 107 (d.t+5) 2 e.t1)]
noncomputable def E_b4 kt W:=∀p a b c d e,StopIs (b4 kt W p a b c d e) [] [PA.eGet c.nl d.nv d.ne c.r2 (c.t+14) (.str d.s2 d.w2) e.n1 (e.t1+2)] (.call (.ref 99) ⟨[.str d.s2 d.w2,.int c.d2 c.u2],[]⟩) 2 (P_b4 W p c d e)
noncomputable def b5 f W p a b c d e:=on f W e.n2 e.t2 (b4 f W p a b c d e) (rt (.str e.m2 e.v2)) [(p.n+3,cel (some (.ref (p.n+10)))),(p.n+4,cel (some (.ref c.nl))),(p.n+5,cel (some (.ref (c.n+1)))),(p.n+10,lst [.int c.d0 c.u0,.int c.d1 c.u1,.int c.d2 c.u2,.int c.d3 c.u3] c.de),(c.n+1,lst [.int c.r0 (c.t+4),.int c.r1 (c.t+9),.int c.r2 (c.t+14),.int c.r3 (c.t+19)] 4),(c.nl,lst d.nv d.ne),(d.n+1,rgi 3 1 1),(d.n+2,lst [.str e.m0 e.v0,.str e.m1 e.v1] 2),(d.n+3,kK W 107 (d.t+5) 2 e.t1)] (Hx Y27 (.i [5] (.str d.s3 d.w3) 0::Hx Y28 []))
noncomputable abbrev P_b5(W:Wd)(p:Pr)(c:VC)(d:VD)(e:VE):PL:=[(0,p.n+3,cel (some (.ref (p.n+10)))),(1,p.n+4,cel (some (.ref c.nl))),(2,p.n+5,cel (some (.ref (c.n+1)))),(3,p.n+10,lst [.int c.d0 c.u0,.int c.d1 c.u1,.int c.d2 c.u2,.int c.d3 c.u3] c.de),(4,c.n+1,lst [.int c.r0 (c.t+4),.int c.r1 (c.t+9),.int c.r2 (c.t+14),.int c.r3 (c.t+19)] 4),(5,c.nl,lst d.nv d.ne),(6,d.n+1,rgi 4 0 1),(7,d.n+2,lst [.str e.m0 e.v0,.str e.m1 e.v1,.str e.m2 e.v2] 3),(8,d.n+3,kK W 107 (d.t+5) 3 e.t2)]
noncomputable def E_b5 kt W:=∀p a b c d e,StopIs (b5 kt W p a b c d e) [] [PA.eGet c.nl d.nv d.ne c.r3 (c.t+19) (.str d.s3 d.w3) e.n2 (e.t2+2)] (.call (.ref 99) ⟨[.str d.s3 d.w3,.int c.d3 c.u3],[]⟩) 2 (P_b5 W p c d e)
noncomputable def b6 f W p a b c d e:=on f W e.n e.t (b5 f W p a b c d e) (rt (.str e.m3 e.v3)) [(d.n+1,rgi 4 0 1),(d.n+2,lst [.str e.m0 e.v0,.str e.m1 e.v1,.str e.m2 e.v2] 3),(d.n+3,kK W 107 (d.t+5) 3 e.t2)] (Hx 0x31666844424242555252 [])
noncomputable def E_b6 kt W:=∀p a b c d e,StopIs (b6 kt W p a b c d e) [] [] (.call (.ref 113) ⟨[.ref d.y,.ref (d.n+2)],[]⟩) 1 [(1,d.n+2,lst [.str e.m0 e.v0,.str e.m1 e.v1,.str e.m2 e.v2,.str e.m3 e.v3] 4)]
noncomputable def b7 g W p a b c d e (f:VF):=on g W f.n f.t (b6 g W p a b c d e) (rt (.str f.x f.xt)) [(p.n,(frN W d))] (Hx 0x314441444444 [])
noncomputable def E_b7 kt W:=∀p a b c d e f,StopIs (b7 kt W p a b c d e f) [] [] (.call (.ref 120) ⟨[.ref d.y,.int 0 (f.t+5),.int 1 (f.t+6),.ref f.n,.ref (f.n+1)],[]⟩) 1 [(0,p.n,(frT W d f)),(1,f.n,lst [.int 0 (f.t+1),.int 1 (f.t+2)] 0),(2,f.n+1,lst [] 0)]
noncomputable def b8 h W p a b c d e f (g:VG):=on h W g.n g.t (b7 h W p a b c d e f) (rt .none) [(p.n,(frT W d f)),(p.n+5,cel (some (.ref (c.n+1)))),(c.n+1,lst [.int c.r0 (c.t+4),.int c.r1 (c.t+9),.int c.r2 (c.t+14),.int c.r3 (c.t+19)] 4),(f.n,lst g.pv g.pe)] (match W.b2 with|true=>(Hx 0x411aaac886882828299929222aaa886882828299929222aaa886882828299929222aaa886882828299929222aaa88688282822826266541 (.i [3] (.int (zN g.pv.length) (g.t+13)) 2::Hx 0x31 []))|false=>(Hx 0x411aaac886882828299929222aaa886882828299929222aaa886882828299929222aaa886882828299929222aaa88688282828282882826266541 (.i [3] (.int (zN g.pv.length) (g.t+13)) 2::Hx 0x31 [])))
noncomputable abbrev P_b8(W:Wd)(p:Pr)(c:VC)(d:VD)(f:VF)(g:VG):PL:=[(0,p.n,(frT W d f)),(1,p.n+5,cel (some (.ref (c.n+1)))),(2,c.n+1,lst [.int c.r0 (c.t+4),.int c.r1 (c.t+9),.int c.r2 (c.t+14),.int c.r3 (c.t+19)] 4),(3,f.n,lst g.pv g.pe),(5,g.n+1,lst [.int (7+c.r0) (g.t+2),.int (7+c.r1) (g.t+5),.int (7+c.r2) (g.t+8),.int (7+c.r3) (g.t+11)] 4)]
noncomputable def E_b8 kt W:=∀p a b c d e f g,StopIs (b8 kt W p a b c d e f g) [] [PA.eLenL f.n g.pv g.pe (g.n+5) (g.t+12)] (.call (.ref 132) ⟨[.ref (f.n+1),.ref (g.n+1),.int (zN g.pv.length) (g.t+13)],[]⟩) 1 (P_b8 W p c d f g)
noncomputable def b90 i W p a b c d e f g (h:VH):=on i W h.n h.t (b8 i W p a b c d e f g) (rt (.ref h.tt)) [(p.n,(frT W d f)),(p.n+3,cel (some (.ref (p.n+10)))),(p.n+6,cel none),(p.n+10,lst [.int c.d0 c.u0,.int c.d1 c.u1,.int c.d2 c.u2,.int c.d3 c.u3] c.de),(h.tt,tup [.int h.pa h.ua,.int h.tr h.ut,.ref h.fl])] (Hx Y37 (.i [] (.int 0 (h.t+5)) 1::Hx 0x3141416622 []))
noncomputable abbrev P_b90(W:Wd)(p:Pr)(c:VC)(d:VD)(f:VF)(h:VH):PL:=[(0,p.n,(frU W d f h)),(1,p.n+3,cel (some (.ref (p.n+10)))),(2,p.n+6,cel (some (sdv false h.t))),(3,p.n+10,lst [.int c.d0 c.u0,.int c.d1 c.u1,.int c.d2 c.u2,.int c.d3 c.u3] c.de),(4,h.tt,tup [.int h.pa h.ua,.int h.tr h.ut,.ref h.fl])]
noncomputable def E_b90 kt W:=∀p a b c d e f g h,StopIs (b90 kt W p a b c d e f g h) [] [eInt "int.__mod__" [.int c.d3 c.u3,.int 2 (h.t+4)] 0 (h.n+3) (h.t+5)] (.call (.ref 139) ⟨[.str f.x f.xt],[]⟩) 1 (P_b90 W p c d f h)
noncomputable def b91 i W p a b c d e f g (h:VH):=on i W h.n h.t (b8 i W p a b c d e f g) (rt (.ref h.tt)) [(p.n,(frT W d f)),(p.n+3,cel (some (.ref (p.n+10)))),(p.n+6,cel none),(p.n+10,lst [.int c.d0 c.u0,.int c.d1 c.u1,.int c.d2 c.u2,.int c.d3 c.u3] c.de),(h.tt,tup [.int h.pa h.ua,.int h.tr h.ut,.ref h.fl])] (Hx Y37 (.i [] (.int 1 (h.t+5)) 1::Hx 0x314141662222 []))
noncomputable abbrev P_b91(W:Wd)(p:Pr)(c:VC)(d:VD)(f:VF)(h:VH):PL:=[(0,p.n,(frU W d f h)),(1,p.n+3,cel (some (.ref (p.n+10)))),(2,p.n+6,cel (some (sdv true h.t))),(3,p.n+10,lst [.int c.d0 c.u0,.int c.d1 c.u1,.int c.d2 c.u2,.int c.d3 c.u3] c.de),(4,h.tt,tup [.int h.pa h.ua,.int h.tr h.ut,.ref h.fl])]
noncomputable def E_b91 kt W:=∀p a b c d e f g h,StopIs (b91 kt W p a b c d e f g h) [] [eInt "int.__mod__" [.int c.d3 c.u3,.int 2 (h.t+4)] 1 (h.n+3) (h.t+5)] (.call (.ref 139) ⟨[.str f.x f.xt],[]⟩) 1 (P_b91 W p c d f h)
noncomputable def b9(kt:Params→KT)(W:Wd)(p:Pr)(a:VA)(b:VB)(c:VC)(d:VD)(e:VE)(f:VF)(g:VG)(h:VH)(z:Bool):Out:=match z with|false=>b90 kt W p a b c d e f g h|true=>b91 kt W p a b c d e f g h
noncomputable def bA j W p a b c d e f g h z (i:VI):=on j W i.n i.t (b9 j W p a b c d e f g h z) (rt (.ref i.sy)) [(p.n,(frU W d f h))] [.b,.z]
noncomputable def E_bA kt W z:=∀p a b c d e f g h i,StopIs (bA kt W p a b c d e f g h z i) [] [] (.call (.ref 146) ⟨[.str f.x f.xt,.ref i.sy,.int 0 i.t],[]⟩) 1 [(0,p.n,(frU W d f h))]
noncomputable def bB k W p a b c d e f g h z i (j:VJ):=on k W j.n j.t (bA k W p a b c d e f g h z i) (rt (.ref j.pr)) [(p.n,(frU W d f h)),(p.n+6,cel (some (sdv z h.t))),(j.pr,tup [j.o1,j.o2,j.o3,.int j.pp j.tp,.int j.pq j.tq])] (Hx 0x62626664541444444 (.i [] (.int (sgn z*j.pp) (j.t+4)) 1::Hx 0x3144 []))
noncomputable def E_bB kt W z:=∀p a b c d e f g h i j,StopIs (bB kt W p a b c d e f g h z i j) [] [eInt "int.__mul__" [sdv z h.t,.int j.pp j.tp] (sgn z*j.pp) (j.n+2) (j.t+4)] (.call (.ref 153) ⟨[.ref j.pr,.int (sgn z*j.pp) (j.t+4),.ref j.n,.ref (j.n+1)],[]⟩) 1 [(0,p.n,(frV W d f h j)),(1,p.n+6,cel (some (sdv z h.t))),(2,j.pr,tup [j.o1,j.o2,j.o3,.int j.pp j.tp,.int j.pq j.tq]),(3,j.n,lst [] 0),(4,j.n+1,lst [] 0)]
noncomputable def bC l W p a b c d e f g h z i j (k:VK):=on l W k.n k.t (bB l W p a b c d e f g h z i j) (rt .none) [(p.n,(frV W d f h j))] (Hx 0x3141 [])
noncomputable def E_bC kt W z:=∀p a b c d e f g h i j k,StopIs (bC kt W p a b c d e f g h z i j k) [] [] (.call (.ref 35) ⟨[.str f.x f.xt],[]⟩) 1 [(0,p.n,(frV W d f h j))]
noncomputable def bD o W p a b c d e f g h z i j k (l:VL):=on o W l.n l.t (bC o W p a b c d e f g h z i j k) (rt (.bool true)) [(p.n,(frV W d f h j)),(p.n+6,cel (some (sdv z h.t))),(j.pr,tup [j.o1,j.o2,j.o3,.int j.pp j.tp,.int j.pq j.tq]),(h.fl,lst [.int l.f0 l.a0,.int l.f1 l.a1,.int l.f2 l.a2,.int l.f3 l.a3] l.fe),(j.n,lst l.tv l.te),(j.n+1,lst l.rv l.re)] (match W.b2 with|true=>(Hx 0x462626664 (.v (.bool true)::Hx 0x4626266642 (.v (.bool true)::Hx 0xc5ccaa7aa2a2a22a27277442 (.i [] (.int (sgn z*l.f0) (l.t+3)) 1::Hx Y15 (.i [] (.int (sgn z*l.f1) (l.t+5)) 1::Hx Y15 (.i [] (.int (sgn z*l.f2) (l.t+7)) 1::Hx Y15 (.i [] (.int (sgn z*l.f3) (l.t+9)) 1::Hx Y38 [])))))))|false=>(Hx 0x462626664 (.v (.bool true)::Hx 0x4626266642 (.v (.bool true)::Hx 0xc5ccaa7aa2a2a2a2a2aa2a27277442 (.i [] (.int (sgn z*l.f0) (l.t+3)) 1::Hx Y15 (.i [] (.int (sgn z*l.f1) (l.t+5)) 1::Hx Y15 (.i [] (.int (sgn z*l.f2) (l.t+7)) 1::Hx Y15 (.i [] (.int (sgn z*l.f3) (l.t+9)) 1::Hx Y38 []))))))))
noncomputable abbrev P_bD(W:Wd)(p:Pr)(d:VD)(f:VF)(h:VH)(z:Bool)(j:VJ)(l:VL):PL:=[(0,p.n,(frV W d f h j)),(3,h.fl,lst [.int l.f0 l.a0,.int l.f1 l.a1,.int l.f2 l.a2,.int l.f3 l.a3] l.fe),(4,j.n,lst l.tv l.te),(5,j.n+1,lst l.rv l.re),(7,l.n+1,lst [.int (sgn z*l.f0) (l.t+3),.int (sgn z*l.f1) (l.t+5),.int (sgn z*l.f2) (l.t+7),.int (sgn z*l.f3) (l.t+9)] 4)]
noncomputable def E_bD kt W z:=∀p a b c d e f g h i j k l,G.HeldIs (bD kt W p a b c d e f g h z i j k l) [(.bool (dEq j.pq h.tr),.bool true),(.bool (dEq j.pp h.pa),.bool true)] [eInt "int.__mul__" [sdv z h.t,.int l.f3 l.a3] (sgn z*l.f3) (l.n+3) (l.t+9),eInt "int.__mul__" [sdv z h.t,.int l.f2 l.a2] (sgn z*l.f2) (l.n+3) (l.t+7),eInt "int.__mul__" [sdv z h.t,.int l.f1 l.a1] (sgn z*l.f1) (l.n+3) (l.t+5),eInt "int.__mul__" [sdv z h.t,.int l.f0 l.a0] (sgn z*l.f0) (l.n+3) (l.t+3)] (lastT (oCc (bD kt W p a b c d e f g h z i j k l)) (PySem.W.ZFast.zw8004119333741010377 [.ref j.n,.ref (l.n+1)] (PySem.W.ZFast.zw12886488535604756494 .Eq (.ref j.n) (.ref (l.n+1))))) (P_bD W p d f h z j l)
noncomputable def E_bDc kt W z:=∀p a b c d e f g h i j k l,oMd (bD kt W p a b c d e f g h z i j k l)=.own []
noncomputable def bE q W p a b c d e f g h z i j k l (o:VO):=startT (S1 q W o.n o.t 60) (oCc (bD q W p a b c d e f g h z i j k l)) (.own []) (lastT (oCc (bD q W p a b c d e f g h z i j k l)) (.pure (.bool true))) [(p.n,(frV W d f h j)),(j.n+1,lst l.rv l.re)] (Hx 0x3625255411 [])
noncomputable def E_bE kt W z:=∀p a b c d e f g h i j k l o,StopIs (bE kt W p a b c d e f g h z i j k l o) [] [] (oC (bE kt W p a b c d e f g h z i j k l o)) 1 [(0,p.n,(frV W d f h j)),(1,j.n+1,lst l.rv l.re),(2,o.n,lit (j.n+1) 0),(3,o.n+1,lst [] 0),(4,o.n+2,frd W.w.params [])]
noncomputable def KL3(kt:Params→KT)(W:Wd)(p:Pr)(a:VA)(b:VB)(c:VC)(d:VD)(e:VE)(f:VF)(g:VG)(h:VH)(z:Bool)(i:VI)(j:VJ)(k:VK)(l:VL)(o:VO):Code:=klOf (oC (bE kt W p a b c d e f g h z i j k l o))
noncomputable def r0 q W p a b c d e f g h z i j k l o n t:=startC (S1 q W n t 60) (oC (bE q W p a b c d e f g h z i j k l o)) (.own []) [(o.n,lit (j.n+1) 0)] (match W.b2 with|true=>[.z]|false=>(Hx Y17 []))
noncomputable def E_r0 kt W z:=∀p a b c d e f g h i j k l o n t,AgainIs (r0 kt W p a b c d e f g h z i j k l o n t) [] [] (KL3 kt W p a b c d e f g h z i j k l o) [(0,o.n,lit (j.n+1) 0)]
noncomputable def rA q W p a b c d e f g h z i j k l o r u v x n t:=startC (S1 q W n t 60) (KL3 q W p a b c d e f g h z i j k l o) (.own []) [(o.n,lit (j.n+1) r),(j.n+1,lst l.rv l.re),(o.n+1,lst v x),(o.n+2,frd W.w.params [])] (.m 0::.u [1] 0 (lit (j.n+1) (r+1)) (.int 0 u) 0::Hx 0x222271177 (.u [] 2 (lst (v++[.int 0 u]) (x+1)) .none 0::[.z]))
noncomputable def E_rA kt W z:=∀p a b c d e f g h i j k l o q m r s n t,AgainIs (rA kt W p a b c d e f g h z i j k l o q m r s n t) [] [SQ.eApp (o.n+1) r s (.int 0 m) n (t+1),eLNext o.n (j.n+1) l.rv l.re q (.int 0 m) n t] (KL3 kt W p a b c d e f g h z i j k l o) [(0,o.n,lit (j.n+1) (q+1)),(1,j.n+1,lst l.rv l.re),(2,o.n+1,lst (r++[.int 0 m]) (s+1)),(3,o.n+2,frd W.w.params [(U2,t,.int 0 m)])]
noncomputable def rB q W p a b c d e f g h z i j k l o y A B r u v x n t:=startC (S1 q W n t 60) (KL3 q W p a b c d e f g h z i j k l o) (.own []) [(o.n,lit (j.n+1) r),(j.n+1,lst l.rv l.re),(o.n+1,lst v x),(o.n+2,frd W.w.params [(U2,y,.int A B)])] (.m 0::.u [1] 0 (lit (j.n+1) (r+1)) (.int 0 u) 0::Hx 0x222271177 (.u [] 2 (lst (v++[.int 0 u]) (x+1)) .none 0::[.z]))
noncomputable def E_rB kt W z:=∀p a b c d e f g h i j k l o u v x q m r s n t,AgainIs (rB kt W p a b c d e f g h z i j k l o u v x q m r s n t) [] [SQ.eApp (o.n+1) r s (.int 0 m) n (t+1),eLNext o.n (j.n+1) l.rv l.re q (.int 0 m) n t] (KL3 kt W p a b c d e f g h z i j k l o) [(0,o.n,lit (j.n+1) (q+1)),(1,j.n+1,lst l.rv l.re),(2,o.n+1,lst (r++[.int 0 m]) (s+1)),(3,o.n+2,frd W.w.params [(U2,u,.int 0 m)])]
noncomputable def rE q W p a b c d e f g h z i j k l o r n t:=startC (S1 q W n t 60) (KL3 q W p a b c d e f g h z i j k l o) (.own []) [(o.n,lit (j.n+1) r),(j.n+1,lst l.rv l.re)] [.m 0,.e [1] (some (0,litE r)) [tup [],G.stopIt n] (.error (.ref (n+1))) 0,.m 3]
noncomputable def E_rE kt W z:=∀p a b c d e f g h i j k l o m n t,RetIs (rE kt W p a b c d e f g h z i j k l o m n t) [] [eLEnd o.n (j.n+1) l.rv l.re m n t] (.ok .next) []
noncomputable def xA q W p a b c d e f g h z i j k l o n t:=on q W n t (bE q W p a b c d e f g h z i j k l o) (.ok .next) [(o.n+2,frd W.w.params [])] [.m 0,.z]
noncomputable def E_xA kt W z:=∀p a b c d e f g h i j k l o n t,StopIs (xA kt W p a b c d e f g h z i j k l o n t) [] [] (.call (.builtin "sum") ⟨[.ref (o.n+1)],[]⟩) 1 []
noncomputable def yA m W p a b c d e f g h z i j k l o n t S q r u:=on m W r u (xA m W p a b c d e f g h z i j k l o n t) (rt (.int S q)) [] [.v (.bool true),.s]
noncomputable def E_yA kt W z:=∀p a b c d e f g h i j k l o n t S m q r,RetIs (yA kt W p a b c d e f g h z i j k l o n t S m q r) [(.bool (dEq S 0),.bool true)] [] (.ok (.ret (.bool true))) []
noncomputable def xB q W p a b c d e f g h z i j k l o r s u n t:=on q W n t (bE q W p a b c d e f g h z i j k l o) (.ok .next) [(o.n+2,frd W.w.params [(U2,r,.int s u)])] (Hx 0x3444 [])
noncomputable def E_xB kt W z:=∀p a b c d e f g h i j k l o m q r n t,StopIs (xB kt W p a b c d e f g h z i j k l o m q r n t) [] [] (.call (.builtin "sum") ⟨[.ref (o.n+1)],[]⟩) 1 []
noncomputable def yB m W p a b c d e f g h z i j k l o q r u n t S w x y:=on m W x y (xB m W p a b c d e f g h z i j k l o q r u n t) (rt (.int S w)) [] [.v (.bool true),.s]
noncomputable def E_yB kt W z:=∀p a b c d e f g h i j k l o m q r n t S s u v,RetIs (yB kt W p a b c d e f g h z i j k l o m q r n t S s u v) [(.bool (dEq S 0),.bool true)] [] (.ok (.ret (.bool true))) []
noncomputable def LH:List ((Params→KT)→Wd→Prop):=ez E_yA::ez E_xB::ez E_yB::[]
noncomputable def LG:List ((Params→KT)→Wd→Prop):=ez E_rB::ez E_rE::ez E_xA::LH
noncomputable def LF:List ((Params→KT)→Wd→Prop):=ez E_bE::ez E_r0::ez E_rA::LG
noncomputable def LE:List ((Params→KT)→Wd→Prop):=ez E_bC::ez E_bD::ez E_bDc::LF
noncomputable def LD:List ((Params→KT)→Wd→Prop):=ez E_bA::ez E_bB::LE
noncomputable def LC:List ((Params→KT)→Wd→Prop):=E_b7::E_b8::E_b90::E_b91::LD
noncomputable def LB:List ((Params→KT)→Wd→Prop):=E_b1::E_b2::E_b3::E_b4::E_b5::E_b6::LC
noncomputable def LA:List ((Params→KT)→Wd→Prop):=E_a0::E_a0c::E_q0::E_gA::E_gAc::E_gB::E_h0::E_hA::E_hB::E_hE::E_iAA::E_jAA::E_iAB::E_jAB::E_iBA::E_jBA::E_iBB::E_jBB::E_gE::E_b0::LB
abbrev Evs:=nF LA
end LW
namespace LW
theorem eff_pow{t u n v:Nat}:(eInt "int.__pow__" [.int 10 t,.int 6 u] 1000000 n v).Ok prog w :=
 eff_intop (v:=1000000) ⟨rfl,rfl,rfl,rfl⟩ rfl slot_int_pow entry_int_pow (args_int_pow _ _) fun A E s Q hQ=>by
  have e:Builtin.«int.__pow__» ⟨[.int 10 t,.int 6 u],[]⟩=(do ret (←mkInt 1000000)):=by kernel_rfl
  rw[e]
  exact wpAny_bind (wpAny_mkInt (wpAny_pure hQ))
theorem ints_of_mem{sv:List Value}(h:intsOf sv=some xs):∀{ws:List Value},(∀v∈ws,v∈sv)→∃zs,intsOf ws=some zs
 | [],_=>⟨[],rfl⟩
 | v::r,hm=>by
  obtain⟨zs,hz⟩:=ints_of_mem h (ws:=r) fun x hx=>hm x (.tail _ hx)
  obtain⟨i,hi⟩:=List.getElem?_of_mem (hm v Z0)
  rcases intsOf_cons_get h i with⟨h1,_⟩|⟨x,t,h1,_⟩
  ·rw[h1]at hi; cases hi
  ·rw[h1]at hi
   cases hi
   exact⟨x::zs,by show(intsOf r).map _=_; rw[hz]; rfl⟩
theorem slice_mem{sv:List Value}{i j k:Int}:∀v∈(slicePick ⟨sv⟩ (some i) (some j) (some k)).toList,v∈sv:=by
 intro v hv
 unfold slicePick at hv
 obtain⟨z,_,hz⟩:=List.mem_filterMap.mp hv
 have:sv[z]?=some v:=by simpa using hz
 exact List.mem_of_getElem? this
noncomputable def frX(W:Wd)(c:Nat):Option (Nat×Int×Nat)→Obj
 | none=>frd W.w.params []
 | some (k0,k,tk)=>kK W c k0 k tk
section
theorem t_h(E:Evs kt)(p:Pr)(m:Nat)(ws:List Value)(we i:Nat)(x:Int)(tx:Nat)(y:Int)(vs:List Value)(e:Nat)(st:Option (Nat×Int×Nat))(n t:Nat):
  ∃hs st',AgainIs (startC (S1 kt W n t 60) (KL2 kt W p m) (.own []) [(m+1,lst ws we),(m+2,lit (m+1) i),(m+3,lst vs e),(m+4,frX W 120 st)] hs) [] [SQ.eApp (m+3) vs e (.int y (t+4)) n (t+5),eInt "int.__mod__" [.int x tx,.int 1000000 (t+3)] y n (t+4),eInt "int.__pow__" [.int 10 (t+1),.int 6 (t+2)] 1000000 n (t+3),eLNext (m+2) (m+1) ws we i (.int x tx) n t] (KL2 kt W p m)
   [(0,m+1,lst ws we),(1,m+2,lit (m+1) (i+1)),(2,m+3,lst (vs++[.int y (t+4)]) (e+1)),(3,m+4,frX W 120 st')]:=by
 cases st with
 | none=>exact⟨_,some (_,_,_),E 7 W p m ws we i x tx y vs e n t⟩
 | some z =>
  obtain⟨k0,k,tk⟩:=z
  exact⟨_,some (_,_,_),E 8 W p m ws we k0 k tk i x tx y vs e n t⟩
theorem hloop(E:Evs kt){p:Pr}{m we:Nat}{ws:List Value}(hm:160≤m)(hi:intsOf ws=some xs)(hA:A.handled=none)(hd:A.depth+60<1000):
  ∀(rest:List Int) {i:Nat} {s:Shared} {vs:List Value} {e:Nat} {st:Option (Nat×Int×Nat)} {ys:List Int},xs.drop i=rest→Base kt W s.heap→s.heap.get? (m+1)=some (lst ws we)→s.heap.get? (m+2)=some (lit (m+1) i)→s.heap.get? (m+3)=some (lst vs e)→s.heap.get? (m+4)=some (frX W 120 st) →
   intsOf vs=some ys→(∀y∈ys,0≤y∧y<1000000)→ys.length+rest.length≤100 →
   (∀s' vs' e' st' ys',Base kt W s'.heap→Fut [m+1,m+2,m+3,m+4] [] s s'→s'.heap.get? (m+3)=some (lst vs' e')→s'.heap.get? (m+4)=some (frX W 120 st')→intsOf vs'=some ys'→(∀y∈ys',0≤y∧y<1000000)→ys'.length≤100→R (.ok .next) s') →
   Mean W A R P (KL2 kt W p m) (.own []) (denote table (KL2 kt W p m)) s:=by
 have hlen:=intsOf_len' hi
 intro rest
 induction rest with
 | nil =>
  intro i s vs e st ys hdr B g1 g2 g3 g4 hv hb hl k
  have C:=Cur.of2 (M:=[(m+1,lst ws we),(m+2,lit (m+1) i)]) B (fc g1 (fc g2 fz)) (by show List.Nodup [m+1,m+2]; trivial) (fc (show 160≤m+1 by omega) (fc (show 160≤m+2 by omega) fz))
  refine C.startC hA hd (C.ret (E 9 W p m ws we i s.heap.objs.size s.toks) noV (SQ.he1 (eff_lend (by rw[hlen]; simpa using List.drop_eq_nil_iff.mp hdr))) rfl ?_)
  intro s' C' _ F
  exact k s' vs e st ys C'.B (F.mono (fc Z0 (fc Z1 fz)) (fun _ h=>h)) (F.keep _ _ g3 (by simp[ks])) (F.keep _ _ g4 (by simp[ks])) hv hb (by simpa using hl)
 | cons x rest ih =>
  intro i s vs e st ys hdr B g1 g2 g3 g4 hv hb hl k
  have hx:xs[i]?=some x:=by
   have:(xs.drop i)[0]?=some x:=by rw[hdr]; rfl
   simpa using this
  have hdr':xs.drop (i+1)=rest:=by rw[←List.drop_drop,hdr]; rfl
  obtain⟨tx,hwx⟩:=intsOf_get hi hx
  have hvl:=intsOf_len' hv
  simp only[List.length_cons]at hl
  have C:=Cur.of2 (M:=[(m+1,lst ws we),(m+2,lit (m+1) i),(m+3,lst vs e),(m+4,frX W 120 st)]) B (fc g1 (fc g2 (fc g3 (fc g4 fz)))) (by show List.Nodup [m+1,m+2,m+3,m+4]; trivial)
   (fc (show 160≤m+1 by omega) (fc (show 160≤m+2 by omega) (fc (show 160≤m+3 by omega) (fc (show 160≤m+4 by omega) fz))))
  obtain⟨hs,st',ee⟩:=t_h E p m ws we i x tx (Int.fmod x 1000000) vs e st s.heap.objs.size s.toks
  refine C.startC hA hd (C.again ee noV (SQ.he4 (SY.app_ok (by omega)) (eff_mod rfl ⟨rfl,rfl,rfl,rfl⟩ (by decide)) eff_pow (eff_lnext hwx)) rfl ?_)
  intro s' C' _ F
  have f1:=Int.fmod_nonneg_of_pos x (b:=1000000) (by decide)
  have f2:=Int.fmod_lt_of_pos x (b:=1000000) (by decide)
  refine ih (i:=i+1) (st:=st') (ys:=ys++[Int.fmod x 1000000]) hdr' C'.B (C'.ix 0 (m+1,_) rfl) (C'.ix 1 (m+2,_) rfl) (C'.ix 2 (m+3,_) rfl) (C'.ix 3 (m+4,frX W 120 st') rfl) (SH.intsOf_append hv rfl) (fun y hy=>?_) (by simp; omega) ?_
  ·rcases mpp.mp hy with h|h
   ·exact hb y h
   ·rw[ms]at h; subst h; exact⟨f1,f2⟩
  ·intro s'' vs' e' st'' ys' B'' F2 h3 h4 h5 h6 h7
   exact k s'' vs' e' st'' ys' B'' (F.trans F2) h3 h4 h5 h6 h7
inductive TG2(kt:Params→KT)(W:Wd)(p:Pr)(f:Int)(n:Nat)(o:Out)(sx:Option (Nat×Int×Nat))(n2 t2:Nat):Prop
 | mk (hs2:List H) (o2:Out) (ho:o2=on kt W n2 t2 o (.ok .next) [(n+4,frX W 120 sx)] hs2) (e:StopIs o2 [] [] (.call (.builtin "sum") ⟨[.ref (n+3)],[]⟩) 1 []) (q:∀(S:Int) (tS:Nat) (vs:List Value) (e n3 t3:Nat),∃hs3,AgainIs (on kt W n3 t3 o2 (.ok (.ret (.int S tS))) [(p.n+10,lst vs e)] hs3) [] [SQ.eApp (p.n+10) vs e (.int (f+S) t3) n3 (t3+1)] (KL1 kt W p) [(0,p.n+10,lst (vs++[.int (f+S) t3]) (e+1))])
inductive TG(kt:Params→KT)(W:Wd)(p:Pr)(sv:List Value)(se:Nat)(st:Option (Nat×Int×Nat))(j r f:Int)(tf:Nat)(ws:List Value)(n t:Nat):Prop
 | mk (hs:List H) (o:Out) (k0:Nat) (ho:o=startC (S1 kt W n t 60) (KL1 kt W p) (.own []) [(p.n+1,cel (some (.ref 159))),(p.n+2,cel (some (.ref (p.n+7)))),(p.n+7,firstL p),(159,lst sv se),(p.n+9,rgi j r 1),(p.n+11,frX W 107 st)] hs)
  (e:StopIs o [] [eSli 159 sv se n j t ws (n+1) (t+4),PA.eGet (p.n+7) [.int 0 p.t,.int 1177 (p.t+1),.int 942 (p.t+2),.int 2209 (p.t+3)] 0 j t (.int f tf) n (t+2),eRNx (p.n+9) j r n t] (KS2 kt W p n) 1
    [(0,p.n+1,cel (some (.ref 159))),(1,p.n+2,cel (some (.ref (p.n+7)))),(2,p.n+7,firstL p),(3,159,lst sv se),(4,p.n+9,rgi (j+1) (r-1) 1),(5,p.n+11,frX W 107 (some (k0,j,t))),(7,n+1,lst ws 0),(8,n+2,lit (n+1) 0),(9,n+3,lst [] 0),(10,n+4,frX W 120 none)])
  (q:∀(sx:Option (Nat×Int×Nat)) (n2 t2:Nat),TG2 kt W p f n o sx n2 t2)
theorem get4{x0 x1 x2 x3:Int}{t0 t1 t2 t3:Nat}:∀{j:Nat},j<4→∃(f:Int) (tf:Nat),[Value.int x0 t0,.int x1 t1,.int x2 t2,.int x3 t3][j]?=some (.int f tf)
 | 0,_=>⟨_,_,rfl⟩
 | 1,_=>⟨_,_,rfl⟩
 | 2,_=>⟨_,_,rfl⟩
 | 3,_=>⟨_,_,rfl⟩
 | j+4,h=>absurd h (Nat.not_lt.mpr (Nat.le_add_left 4 j))
theorem t_g(E:Evs kt)(p:Pr)(sv:List Value)(se:Nat)(st:Option (Nat×Int×Nat))(j r f:Int)(tf:Nat)(ws:List Value)(n t:Nat):
  TG kt W p sv se st j r f tf ws n t:=by
 cases st with
 | none =>
  have hg:=And.intro (E 3 W p sv se j r f tf ws n t) (E 4 W p sv se j r f tf ws n t)
  rw[hg.2]at hg
  refine⟨_,_,_,rfl,hg.1,fun sx n2 t2=>?_⟩
  ·cases sx with
   | none=>exact⟨_,_,rfl,E 10 W p sv se j r f tf ws n t n2 t2,fun S tS vs e n3 t3=>⟨_,E 11 W p sv se j r f tf ws n t n2 t2 S tS vs e n3 t3⟩⟩
   | some z =>
    obtain⟨k1,x1,tk1⟩:=z
    exact⟨_,_,rfl,E 12 W p sv se j r f tf ws n t k1 x1 tk1 n2 t2,fun S tS vs e n3 t3=>⟨_,E 13 W p sv se j r f tf ws n t k1 x1 tk1 n2 t2 S tS vs e n3 t3⟩⟩
 | some z =>
  obtain⟨k0,k,tk⟩:=z
  refine⟨_,_,_,rfl,E 5 W p sv se k0 k tk j r f tf ws n t,fun sx n2 t2=>?_⟩
  cases sx with
  | none=>exact⟨_,_,rfl,E 14 W p sv se k0 k tk j r f tf ws n t n2 t2,fun S tS vs e n3 t3=>⟨_,E 15 W p sv se k0 k tk j r f tf ws n t n2 t2 S tS vs e n3 t3⟩⟩
  | some z =>
   obtain⟨k1,x1,tk1⟩:=z
   exact⟨_,_,rfl,E 16 W p sv se k0 k tk j r f tf ws n t k1 x1 tk1 n2 t2,fun S tS vs e n3 t3=>⟨_,E 17 W p sv se k0 k tk j r f tf ws n t k1 x1 tk1 n2 t2 S tS vs e n3 t3⟩⟩
theorem eRNx_ok{it j r:Nat}{n t:Nat}:(eRNx it (zN j) (zN (r+1)) n t).Ok prog w:=eff_range_next rfl Z0 (by show(0:Int)<((r+1:Nat):Int); omega) rfl rfl rfl rfl
theorem gloop(E:Evs kt){p:Pr}{sv:List Value}{se:Nat}(hn:160≤p.n)(hi:intsOf sv=some xs)(hsl:sv.length≤64)(hA:A.handled=none)(hd:A.depth+65<1000):
  ∀(rest:Nat) {j:Nat} {s:Shared} {vs:List Value} {e:Nat} {st:Option (Nat×Int×Nat)} {ys:List Int},j+rest=4→(rest=0→∃z,st=some z)→Base kt W s.heap→p.n+12≤s.heap.objs.size→s.heap.get? (p.n+1)=some (cel (some (.ref 159)))→s.heap.get? (p.n+2)=some (cel (some (.ref (p.n+7))))→s.heap.get? (p.n+7)=some (firstL p)→s.heap.get? 159=some (lst sv se) →
   s.heap.get? (p.n+9)=some (rgi (zN j) (zN rest) 1)→s.heap.get? (p.n+10)=some (lst vs e)→s.heap.get? (p.n+11)=some (frX W 107 st)→intsOf vs=some ys→ys.length=j →
   (∀s' vs' e' z ys',Base kt W s'.heap→Fut [p.n+9,p.n+10,p.n+11] [] s s'→s'.heap.get? (p.n+10)=some (lst vs' e')→s'.heap.get? (p.n+11)=some (frX W 107 (some z))→intsOf vs'=some ys'→ys'.length=4→R (.ok .next) s') →
   Mean W A R P (KL1 kt W p) (.own []) (denote table (KL1 kt W p)) s:=by
 intro rest
 induction rest with
 | zero =>
  intro j s vs e st ys hj hz B hsz g1 g2 g7 gs g9 g10 g11 hv hyl k
  obtain⟨z,rfl⟩:=hz rfl
  have hj4:j=4:=by omega
  subst hj4
  have C:=Cur.of2 (M:=[(p.n+9,rgi 4 0 1)]) B (fc g9 fz) (pc fz .nil) (fc (show 160≤p.n+9 by omega) fz)
  refine C.startC hA (by omega) (C.ret (E 18 W p s.heap.objs.size s.toks) noV noE rfl ?_)
  intro s' C' _ F
  exact k s' vs e z ys C'.B (F.mono (fc Z0 fz) (fun _ h=>h)) (F.keep _ _ g10 (by simp[ks])) (F.keep _ _ g11 (by simp[ks])) hv hyl
 | succ rest ih =>
  intro j s vs e st ys hj hz B hsz g1 g2 g7 gs g9 g10 g11 hv hyl k
  obtain⟨N,hN⟩:∃N:Nat,N=s.heap.objs.size:=⟨_,rfl⟩
  obtain⟨ws,hws⟩:∃ws,ws=(slicePick ⟨sv⟩ (some (zN j)) (some 63) (some 4)).toList:=⟨_,rfl⟩
  obtain⟨zs,hzs⟩:=ints_of_mem hi (ws:=ws) (by rw[hws]; exact slice_mem)
  have hwl:ws.length≤64:=by
   have:=slicePick_size_le ⟨sv⟩ (some (zN j)) (some 63) (some 4)
   rw[hws,Array.length_toList]
   have h2:(⟨sv⟩:Array Value).size=sv.length:=rfl
   omega
  have hzl:=intsOf_len' hzs
  have hvl:=intsOf_len' hv
  obtain⟨f,tf,hf⟩:∃(f:Int) (tf:Nat),[Value.int 0 p.t,.int 1177 (p.t+1),.int 942 (p.t+2),.int 2209 (p.t+3)][j]?=some (.int f tf):=get4 (by omega)
  have C:=Cur.of (M:=[(p.n+1,cel (some (.ref 159))),(p.n+2,cel (some (.ref (p.n+7)))),(p.n+7,firstL p),(159,lst sv se),(p.n+9,rgi (zN j) (zN (rest+1)) 1),(p.n+11,frX W 107 st)]) B
   (fc g1 (fc g2 (fc g7 (fc gs (fc g9 (fc g11 fz)))))) (by show List.Nodup (α:=Nat) [p.n+1,p.n+2,p.n+7,159,p.n+9,p.n+11]; trivial)
   (fc (.inl (show 160≤p.n+1 by omega)) (fc (.inl (show 160≤p.n+2 by omega)) (fc (.inl (show 160≤p.n+7 by omega)) (fc (.inr (.inr rfl)) (fc (.inl (show 160≤p.n+9 by omega)) (fc (.inl (show 160≤p.n+11 by omega)) fz))))))
  obtain⟨hs,o,k0,ho,ee,q1⟩:=t_g E p sv se st (zN j) (zN (rest+1)) f tf ws s.heap.objs.size s.toks
  refine C.startC hA (by omega) (hs:=hs) (ho▸C.stop ee hA noV (PA.he3 (eff_list_slice rfl Z0 Z1 ⟨rfl,rfl⟩ (by decide) (by omega) rfl (by rw[hws]; rfl) rfl rfl) (PA.get_ok hf (by show 4<2 ^ 20; decide)) eRNx_ok) rfl ?_)
  rw[←hN]at q1 ⊢
  intro s₁ A1 C1 _ F1 hA1 hd1 kee
  have h1:=C1.ix 0 (p.n+1,cel (some (.ref 159))) rfl
  have h2:=C1.ix 1 (p.n+2,cel (some (.ref (p.n+7)))) rfl
  have h7:=C1.ix 2 (p.n+7,firstL p) rfl
  have hs1:=C1.ix 3 (159,lst sv se) rfl
  have h9:=C1.ix 4 (p.n+9,rgi (zN j+1) (zN (rest+1)-1) 1) rfl
  have h11:=C1.ix 5 (p.n+11,frX W 107 (some (k0,zN j,s.toks))) rfl
  have w1:=C1.ix 6 (N+1,lst ws 0) rfl
  have w2:=C1.ix 7 (N+2,lit (N+1) 0) rfl
  have w3:=C1.ix 8 (N+3,lst [] 0) rfl
  have w4:=C1.ix 9 (N+4,frX W 120 none) rfl
  simp only[show(zN (rest+1)-1:Int)=zN rest from by show((rest+1:Nat):Int)-1=(rest:Int); omega,show(zN j+1:Int)=zN (j+1)from rfl]at h9
  have FA:Fut [p.n+9,p.n+11] [] s s₁:=F1.same (fc (.inr (.inr (h1.trans g1.symm))) (fc (.inr (.inr (h2.trans g2.symm))) (fc (.inr (.inr (h7.trans g7.symm))) (fc (.inr (.inr (hs1.trans gs.symm))) (fc (.inl Z0) (fc (.inl Z1) fz))))))
  have h10:=FA.keep _ _ g10 (by show p.n+10∉([p.n+9,p.n+11]:List Nat); simp)
  have C1':=Cur.of2 (M:=[(N+2,lit (N+1) 0)]) C1.B (fc w2 fz) (pc fz .nil) (fc (show 160≤N+2 by omega) fz)
  refine code_of_mean (P:=fun _ _=>False) (C1'.startC hA1 (by omega) (C1'.again (E 6 W p N s₁.heap.objs.size s₁.toks) noV noE rfl ?_))
  intro s2 C2 _ F₂
  have w2':=C2.ix 0 (N+2,lit (N+1) 0) rfl
  have F2':Fut [] [] s₁ s2:=F₂.same (fc (.inr (.inr (w2'.trans w2.symm))) fz)
  have k2:∀{x:Nat} {o:Obj},s₁.heap.get? x=some o→s2.heap.get? x=some o:=fun h=>F2'.keep _ _ h (fun h=>nomatch h)
  refine hloop E (m:=N) (xs:=zs) (by omega) hzs hA1 (by omega) zs (i:=0) (st:=none) (ys:=[]) rfl C2.B (k2 w1) w2' (k2 w3) (k2 w4) rfl fz (by simp; omega) ?_
  intro s3 va ea sx yy B3 F3 w33 w43 hya hyb hyl'
  have C3:=Cur.of2 (M:=[(N+4,frX W 120 sx)]) B3 (fc w43 fz) (pc fz .nil) (fc (show 160≤N+4 by omega) fz)
  obtain⟨hs2,o2,ho2,e2,q2⟩:=q1 sx s3.heap.objs.size s3.toks
  refine C3.startO ho2 kee hA (by omega) (C3.stop e2 hA noV noE rfl ?_)
  intro s4 A4 C4 _ F4 hA4 hd4 ke2
  have w34:=F4.keep _ _ w33 (by show N+3∉([N+4]:List Nat); simp)
  refine sum_spec hA4 w34 hya hyb (by omega) ?_
  intro s5 tS F5
  have hi15:Fut [p.n+9,p.n+11] [] s s5:=by
   have a1:=FA.trans' F2' fz fz
   have a2:=a1.trans' F3 (fc (.inr (by rw[←hN]; exact lU _ 1)) (fc (.inr (by rw[←hN]; exact lU _ 2)) (fc (.inr (by rw[←hN]; exact lU _ 3)) (fc (.inr (by rw[←hN]; exact lU _ 4)) fz)))) fz
   have a3:=a2.trans' F4 (fc (.inr (by rw[←hN]; exact lU _ 4)) fz) fz
   exact a3.trans' F5 fz fz
  have kk:∀{x:Nat} {o:Obj},x<N→s₁.heap.get? x=some o→s5.heap.get? x=some o:=fun {x o} hx h=>by
   have b2:=k2 h
   have b3:=F3.keep _ _ b2 (by show x∉([N+1,N+2,N+3,N+4]:List Nat); exact nmq (fc (by omega) (fc (by omega) (fc (by omega) (fc (by omega) fz)))))
   have b4:=F4.keep _ _ b3 (by show x∉([N+4]:List Nat); exact nmq (fc (by omega) fz))
   exact F5.keep _ _ b4 (fun h=>nomatch h)
  have B5:=C4.B.fut F5 fz
  have C5:=Cur.of2 (M:=[(p.n+10,lst vs e)]) B5 (fc (kk (by omega) h10) fz) (pc fz .nil) (fc (show 160≤p.n+10 by omega) fz)
  obtain⟨hs3,e3⟩:=q2 yy.sum tS vs e s5.heap.objs.size s5.toks
  refine C5.startT ke2 hA (by omega) (C5.again e3 noV (SQ.he1 (SY.app_ok (by omega))) rfl ?_)
  intro s6 C6 _ F6
  have x10:=C6.ix 0 (p.n+10,lst (vs++[.int (f+yy.sum) s5.toks]) (e+1)) rfl
  have k6:∀{x:Nat} {o:Obj},x<N→x≠p.n+10→s₁.heap.get? x=some o→s6.heap.get? x=some o:=fun {x o} hx hne h=>F6.keep _ _ (kk hx h) (by show x∉([p.n+10]:List Nat); exact nmq (fc (by omega) fz))
  have FF:Fut [p.n+9,p.n+10,p.n+11] [] s s6:=(hi15.mono (fc Z0 (fc Z2 fz)) (fun _ h=>h)).trans' F6 (fc (.inl Z1) fz) fz
  refine ih (j:=j+1) (st:=some (k0,zN j,s.toks)) (ys:=ys++[f+yy.sum]) (by omega) (fun _=>⟨_,rfl⟩) C6.B (nT hsz FF.size) (k6 (by omega) (by omega) h1) (k6 (by omega) (by omega) h2) (k6 (by omega) (by omega) h7) (k6 (by omega) (by omega) hs1) (k6 (by omega) (by omega) h9) x10 (k6 (by omega) (by omega) h11) (SH.intsOf_append hv rfl) (by simp[hyl]) ?_
  intro s' vs' e' z ys' B' F' h1' h2' h3' h4'
  exact k s' vs' e' z ys' B' (FF.trans F') h1' h2' h3' h4'
end
end LW
namespace LW
section
theorem last_is(c:Code)(m:Sem Value):lastT c m=((((m>>=fun v=>boolOp (retOf (fbody c)).2 .And [pure v,eval ((retOf (fbody c)).1.getD 4 default) (fenv c)])>>=fun v=>pure (Flow.ret v))>>=fun f=>match f with
  | Flow.next=>execs [] (fenv c)
  | f=>pure f).onRaise (leaving (fenv c)))>>=fun f=>match f with
  | Flow.ret v=>ret v
  | _=>ret .none:=by
 unfold lastT
 rw[←PySem.W.ZFast.ze5920589197648130222,←PySem.W.ZFast.ze14044960220447912780,←PySem.W.ZFast.ze12563942051412417395,←PySem.W.ZFast.ze9442747609961115081,←PySem.W.ZFast.ze6905046200447255374,←PySem.W.R.onRaiseR_eq]
 simp only[←PySem.W.R.bindR_eq]
 rfl
theorem last_mean{c:Code}{m:Sem Value}(h:wpAny W.M (A.under c) m (fun v s'=>Mean W A R P c (.own []) (lastT c (.pure v)) s') (fun _ _=>False) s):Mean W A R P c (.own []) (lastT c m) s:=by
 intro Γ p hc hΓ
 rw[last_is]
 simp only[Sem.wp_bind',Sem.wp_onRaise]
 refine Sem.wp_mono W.M Γ m (fun v p' s' h'=>?_) (fun _ _ _ h'=>h'.elim) p s (h Γ p (hc▸hΓ.in))
 have z:=h' Γ p' hc hΓ
 rw[last_is]at z
 simp only[Sem.wp_bind',Sem.wp_onRaise]at z
 exact z
end
noncomputable def frR(W:Wd):Option (Nat×Int×Nat)→Obj
 | none=>frd W.w.params []
 | some (k0,k,tk)=>frd W.w.params [(⟨⟨[114,101,115,116]⟩⟩,k0,.int k tk)]
section
variable{p:Pr}{a:VA}{b:VB}{c:VC}{d:VD}{e:VE}{f:VF}{g:VG}{h:VH}{z:Bool}{i:VI}{j:VJ}{k:VK}{l:VL}{o:VO}
theorem t_r(E:Evs kt)(ix tx:Nat)(vv:List Value)(ve:Nat)(st:Option (Nat×Int×Nat))(n t:Nat):
  ∃hs st',AgainIs (startC (S1 kt W n t 60) (KL3 kt W p a b c d e f g h z i j k l o) (.own []) [(o.n,lit (j.n+1) ix),(j.n+1,lst l.rv l.re),(o.n+1,lst vv ve),(o.n+2,frR W st)] hs) [] [SQ.eApp (o.n+1) vv ve (.int 0 tx) n (t+1),eLNext o.n (j.n+1) l.rv l.re ix (.int 0 tx) n t] (KL3 kt W p a b c d e f g h z i j k l o)
   [(0,o.n,lit (j.n+1) (ix+1)),(1,j.n+1,lst l.rv l.re),(2,o.n+1,lst (vv++[.int 0 tx]) (ve+1)),(3,o.n+2,frR W st')]:=by
 cases st with
 | none=>exact⟨_,some (_,_,_),E 37 W z p a b c d e f g h i j k l o ix tx vv ve n t⟩
 | some q =>
  obtain⟨g0,g1,gt⟩:=q
  exact⟨_,some (_,_,_),E 38 W z p a b c d e f g h i j k l o g0 g1 gt ix tx vv ve n t⟩
theorem t_x(E:Evs kt)(st:Option (Nat×Int×Nat))(n t:Nat):
  ∃hs o2,o2=on kt W n t (bE kt W p a b c d e f g h z i j k l o) (.ok .next) [(o.n+2,frR W st)] hs∧StopIs o2 [] [] (.call (.builtin "sum") ⟨[.ref (o.n+1)],[]⟩) 1 [] ∧
   ∀(S:Int) (tS n2 t2:Nat),∃hs2,RetIs (on kt W n2 t2 o2 (.ok (.ret (.int S tS))) [] hs2) [(.bool (dEq S 0),.bool true)] [] (.ok (.ret (.bool true))) []:=by
 cases st with
 | none=>exact⟨_,_,rfl,E 40 W z p a b c d e f g h i j k l o n t,fun S tS n2 t2=>⟨_,E 41 W z p a b c d e f g h i j k l o n t S tS n2 t2⟩⟩
 | some q =>
  obtain⟨g0,g1,gt⟩:=q
  exact⟨_,_,rfl,E 42 W z p a b c d e f g h i j k l o g0 g1 gt n t,fun S tS n2 t2=>⟨_,E 43 W z p a b c d e f g h i j k l o g0 g1 gt n t S tS n2 t2⟩⟩
theorem rloop(E:Evs kt)(hj:160≤j.n)(ho:j.n+1<o.n){nz:Nat}(hi:intsOf l.rv=some (List.replicate nz 0))(hA:A.handled=none)(hd:A.depth+60<1000):
  ∀(rest:Nat) {ix:Nat} {s:Shared} {vv:List Value} {ve:Nat} {st:Option (Nat×Int×Nat)} {m:Nat},ix+rest=nz→Base kt W s.heap→s.heap.get? o.n=some (lit (j.n+1) ix)→s.heap.get? (j.n+1)=some (lst l.rv l.re)→s.heap.get? (o.n+1)=some (lst vv ve)→s.heap.get? (o.n+2)=some (frR W st)→intsOf vv=some (List.replicate m 0)→m+rest≤100 →
   (∀s' vv' ve' st' m',Fut [o.n,j.n+1,o.n+1,o.n+2] [] s s'→Base kt W s'.heap→s'.heap.get? (o.n+1)=some (lst vv' ve')→s'.heap.get? (o.n+2)=some (frR W st')→intsOf vv'=some (List.replicate m' 0)→m'≤100→R (.ok .next) s') →
   Mean W A R P (KL3 kt W p a b c d e f g h z i j k l o) (.own []) (denote table (KL3 kt W p a b c d e f g h z i j k l o)) s:=by
 have hlen:=intsOf_len' hi
 rw[List.length_replicate]at hlen
 intro rest
 induction rest with
 | zero =>
  intro ix s vv ve st m hx B g1 g2 g3 g4 hv hm kk
  have C:=Cur.of2 (M:=[(o.n,lit (j.n+1) ix),(j.n+1,lst l.rv l.re)]) B (fc g1 (fc g2 fz)) (by show List.Nodup [o.n,j.n+1]; trivial) (fc (show 160≤o.n by omega) (fc (show 160≤j.n+1 by omega) fz))
  refine C.startC hA hd (C.ret (E 39 W z p a b c d e f g h i j k l o ix s.heap.objs.size s.toks) noV (SQ.he1 (eff_lend (by omega))) rfl ?_)
  intro s' C' _ F
  exact kk s' vv ve st m (F.mono (fc Z0 (fc Z1 fz)) (fun _ h=>h)) C'.B (F.keep _ _ g3 (by show o.n+1∉([o.n,j.n+1]:List Nat); exact nmq (fc (by omega) (fc (by omega) fz)))) (F.keep _ _ g4 (by show o.n+2∉([o.n,j.n+1]:List Nat); exact nmq (fc (by omega) (fc (by omega) fz)))) hv (by omega)
 | succ rest ih =>
  intro ix s vv ve st m hx B g1 g2 g3 g4 hv hm kk
  obtain⟨tx,hwx⟩:=intsOf_get hi (k:=ix) (x:=0) (by rw[List.getElem?_replicate,if_pos (by omega)])
  have hvl:=intsOf_len' hv
  rw[List.length_replicate]at hvl
  have C:=Cur.of2 (M:=[(o.n,lit (j.n+1) ix),(j.n+1,lst l.rv l.re),(o.n+1,lst vv ve),(o.n+2,frR W st)]) B (fc g1 (fc g2 (fc g3 (fc g4 fz)))) (by show List.Nodup [o.n,j.n+1,o.n+1,o.n+2]; trivial)
   (fc (show 160≤o.n by omega) (fc (show 160≤j.n+1 by omega) (fc (show 160≤o.n+1 by omega) (fc (show 160≤o.n+2 by omega) fz))))
  obtain⟨hs,st',ee⟩:=t_r (p:=p) (a:=a) (b:=b) (c:=c) (d:=d) (e:=e) (f:=f) (g:=g) (h:=h) (z:=z) (i:=i) (j:=j) (k:=k) (l:=l) (o:=o) E ix tx vv ve st s.heap.objs.size s.toks
  refine C.startC hA hd (C.again ee noV (SQ.he2 (SY.app_ok (by omega)) (eff_lnext hwx)) rfl ?_)
  intro s' C' _ F
  refine ih (ix:=ix+1) (st:=st') (m:=m+1) (by omega) C'.B (C'.ix 0 (o.n,_) rfl) (C'.ix 1 (j.n+1,_) rfl) (C'.ix 2 (o.n+1,_) rfl) (C'.ix 3 (o.n+2,frR W st') rfl) ?_ (by omega) fun s' vv' ve' st' m' F'=>kk s' vv' ve' st' m' (Fut.trans F F')
  have:=SH.intsOf_append hv (b:=[.int 0 tx]) (ys:=[0]) rfl
  rw[this]
  congr 1
  exact(List.replicate_succ' (n:=m) (a:=(0:Int))).symm
structure Don(kt:Params→KT)(W:Wd)(s0 s:Shared):Prop where
 f:Fut [51,58] [] s0 s
 a:s.heap.get? 51=some (I2.tb kt W 51)∨∃c,s.heap.get? 51=some (I2.tb51 c)
 b:s.heap.get? 58=some (I2.tb kt W 58)∨∃c,s.heap.get? 58=some (D2.tb58 c)
theorem Don.mk'{s0 s:Shared}(F:Fut [51,58] [] s0 s)(t1:I2.T51 kt W s.heap)(t2:D2.T58 kt W s.heap):Don kt W s0 s :=
 ⟨F,t1.imp id fun⟨_,_,h⟩=>⟨_,h.2.1⟩,t2.imp id fun⟨_,_,h⟩=>⟨_,h.2.1⟩⟩
theorem Don.step{s0 s s':Shared}(D:Don kt W s0 s)(F:Fut L [] s s')(h0:160≤s0.heap.objs.size)(h:∀a∈L,s0.heap.objs.size≤a):Don kt W s0 s':=by
 have k:∀{a:Nat} {o:Obj},a<160→s.heap.get? a=some o→s'.heap.get? a=some o:=fun {a o} ha e=>F.keep _ _ e fun z=>by
  have h1:=h a z
  exact absurd (Nat.lt_of_lt_of_le ha h0) (Nat.not_lt.mpr h1)
 exact⟨⟨fun a o e q=>F.keep a o (D.f.keep a o e q) fun z=>absurd (Heap.lt_size e) (Nat.not_lt.mpr (h a z)),nT D.f.size F.size,fun g x e q=>F.gens g x (D.f.gens g x e q) q,nT D.f.gsz F.gsz,fun x=>F.bare (D.f.bare x),F.d.trans D.f.d,F.os.trans D.f.os⟩,
  D.a.imp (k (by decide)) fun⟨c,h⟩=>⟨c,k (by decide) h⟩,D.b.imp (k (by decide)) fun⟨c,h⟩=>⟨c,k (by decide) h⟩⟩
theorem sum_zero:∀m:Nat,(List.replicate m (0:Int)).sum=0
 | 0=>rfl
 | m+1=>by rw[List.replicate_succ,List.sum_cons,sum_zero m]; rfl
theorem stage_end(E:Evs kt){s0:Shared}(hR:∀s',Don kt W s0 s'→R (.ok (.ret (.bool true))) s')(hA:A.handled=none)(hd:A.depth+65<1000){nz:Nat}(D:Don kt W s0 s)(h0:160≤s0.heap.objs.size)(hp0:s0.heap.objs.size≤p.n)(B:Base kt W s.heap)(hn:160≤p.n)(hnj:p.n<j.n)(gn:s.heap.get? p.n=some (frV W d f h j))(gr:s.heap.get? (j.n+1)=some (lst l.rv l.re))
  (hi:intsOf l.rv=some (List.replicate nz 0)) (hz:nz≤90) :
  Mean W A R P (oCc (bD kt W p a b c d e f g h z i j k l)) (.own []) (lastT (oCc (bD kt W p a b c d e f g h z i j k l)) (.pure (.bool true))) s:=by
 obtain⟨o,hon,hot⟩:∃o:VO,o.n=s.heap.objs.size∧o.t=s.toks:=⟨⟨_,_⟩,rfl,rfl⟩
 have hjo:j.n+1<o.n:=by rw[hon]; exact Heap.lt_size gr
 have C:=Cur.of2 (M:=[(p.n,frV W d f h j),(j.n+1,lst l.rv l.re)]) B (fc gn (fc gr fz)) (by show List.Nodup [p.n,j.n+1]; trivial) (fc hn (fc (show 160≤j.n+1 by omega) fz))
 refine C.startP hon hot (o:=bE kt W p a b c d e f g h z i j k l o) rfl rfl hA (by omega) (C.stop (E 35 W z p a b c d e f g h i j k l o) hA noV noE rfl ?_)
 intro s₁ A1 C1 _ F1 hA1 hd1 keE
 have gr1:=C1.ix 1 (j.n+1,lst l.rv l.re) rfl
 have gi1:=C1.ix 2 (o.n,lit (j.n+1) 0) rfl
 have ga1:=C1.ix 3 (o.n+1,lst [] 0) rfl
 have gf1:=C1.ix 4 (o.n+2,frR W none) rfl
 have C1':=Cur.of2 (M:=[(o.n,lit (j.n+1) 0)]) C1.B (fc gi1 fz) (pc fz .nil) (fc (show 160≤o.n by omega) fz)
 refine code_of_mean (P:=fun _ _=>False) (C1'.startC hA1 (by omega) (C1'.again (E 36 W z p a b c d e f g h i j k l o s₁.heap.objs.size s₁.toks) noV noE rfl ?_))
 intro s2 C2 _ F2
 have gi2:=C2.ix 0 (o.n,lit (j.n+1) 0) rfl
 have k2:∀{x:Nat} {o':Obj},x≠o.n→s₁.heap.get? x=some o'→s2.heap.get? x=some o':=fun {x o'} hx h=>F2.keep _ _ h (by show x∉([o.n]:List Nat); exact nmq (fc (by omega) fz))
 refine rloop E (by omega) hjo hi hA1 (by omega) nz (ix:=0) (st:=none) (m:=0) (by omega) C2.B gi2 (k2 (by omega) gr1) (k2 (by omega) ga1) (k2 (by omega) gf1) rfl (by omega) ?_
 intro s3 vv ve st m F3 B3 ga3 gf3 hvv hm
 obtain⟨hs,o2,ho2,e2,q⟩:=t_x (p:=p) (a:=a) (b:=b) (c:=c) (d:=d) (e:=e) (f:=f) (g:=g) (h:=h) (z:=z) (i:=i) (j:=j) (k:=k) (l:=l) (o:=o) E st s3.heap.objs.size s3.toks
 have C3:=Cur.of2 (M:=[(o.n+2,frR W st)]) B3 (fc gf3 fz) (pc fz .nil) (fc (show 160≤o.n+2 by omega) fz)
 refine C3.startO ho2 keE hA (by omega) (C3.stop e2 hA noV noE rfl ?_)
 intro s4 A4 C4 _ F4 hA4 hd4 ke2
 have ga4:=F4.keep _ _ ga3 (by show o.n+1∉([o.n+2]:List Nat); simp)
 refine sum_spec hA4 ga4 hvv (fun x hx=>by rw[List.eq_of_mem_replicate hx]; decide) (by rw[List.length_replicate]; omega) ?_
 intro s5 tS F5
 have B5:=C4.B.fut F5 fz
 obtain⟨hs2,ey⟩:=q (List.replicate m 0).sum tS s5.heap.objs.size s5.toks
 have C5:=Cur.start (W:=W) B5 [] []
 refine C5.startT ke2 hA (by omega) (C5.ret ey (CP.hv1 (by rw[dEq_eq,sum_zero]; rfl)) noE rfl ?_)
 intro s6 _ _ F6
 have q1:s0.heap.objs.size≤j.n+1:=by omega
 have q2:s0.heap.objs.size≤o.n:=by omega
 have q3:s0.heap.objs.size≤o.n+1:=by omega
 have q4:s0.heap.objs.size≤o.n+2:=by omega
 exact hR s6 ((((((D.step F1 h0 (fc hp0 (fc q1 fz))).step F2 h0 (fc q2 fz)).step F3 h0 (fc q2 (fc q1 (fc q3 (fc q4 fz))))).step F4 h0 (fc q4 fz)).step F5 h0 fz).step F6 h0 fz)
end
end LW
structure AllEvs(kt:Params→KT):Prop where
 lw:LW.Evs kt
 tr:TR.Evs kt
 re:RE.Evs kt
 jo:JO.Evs kt
 nm:NM.Evs kt
 wr:WR.Evs kt
 sy:SY.Evs kt
 tk:EvTk kt
 pa:PA.Evs kt
 te:TextEvs kt
 sh:SH.Evs kt
 ne:NumEvs kt
theorem cUnits_le(c:Code):c.cUnits≤10:=by
 cases c with
 | builtin id args=>exact Nat.add_le_add_left (Nat.mul_le_mul_left 3 (fr_le id args)) 1
 | call _ _=>exact(by decide:1≤10)
 | _=>exact nT (Nat.mul_le_mul_left 3 (fr_le3 _)) (by decide)
namespace LW
section
variable{p:Pr}{a:VA}{b:VB}{c:VC}{d:VD}{e:VE}{f:VF}{g:VG}{h:VH}{z:Bool}{i:VI}{j:VJ}{k:VK}{l:VL}{o:VO}
theorem mul_ok(z:Bool){t x u n v:Nat}{y:Int}:(eInt "int.__mul__" [sdv z t,.int y u] (sgn z*y) n v).Ok prog w:=by
 cases z
 ·exact eff_mul rfl ⟨rfl,rfl,rfl,rfl⟩ (IntMulOk.of_left (bits_le (by decide)))
 ·exact eff_mul rfl ⟨rfl,rfl,rfl,rfl⟩ (IntMulOk.of_left (bits_le (by decide)))
theorem stage_D(E:AllEvs kt){s0:Shared}(hR:∀s',Don kt W s0 s'→R (.ok (.ret (.bool true))) s')(hA:A.handled=none)(hd:A.depth+65<1000)(hu:A.units+20<cLine){nz:Nat}(D:Don kt W s0 s)(h0:160≤s0.heap.objs.size)(hp0:s0.heap.objs.size≤p.n)(B:Base kt W s.heap)(hn:160≤p.n)(hln:l.n=s.heap.objs.size)(hlt:l.t=s.toks)
  (gn:s.heap.get? p.n=some (frV W d f h j)) (g6:s.heap.get? (p.n+6)=some (cel (some (sdv z h.t)))) (gp:s.heap.get? j.pr=some (tup [j.o1,j.o2,j.o3,.int j.pp j.tp,.int j.pq j.tq])) (gf:s.heap.get? h.fl=some (lst [.int l.f0 l.a0,.int l.f1 l.a1,.int l.f2 l.a2,.int l.f3 l.a3] l.fe))
  (gt:s.heap.get? j.n=some (lst l.tv l.te)) (gr:s.heap.get? (j.n+1)=some (lst l.rv l.re)) (h1:p.n+12≤h.fl) (h2:h.fl<j.pr) (h3:j.pr<j.n)
  (e1:j.pp=h.pa) (e2:j.pq=h.tr) (ht:intsOf l.tv=some [sgn z*l.f0,sgn z*l.f1,sgn z*l.f2,sgn z*l.f3]) (hi:intsOf l.rv=some (List.replicate nz 0)) (hz:nz≤90) :
  Mean W A R P (oCc (bC kt W p a b c d e f g h z i j k)) (oMd (bC kt W p a b c d e f g h z i j k)) (oK (bC kt W p a b c d e f g h z i j k) (.ok (.ret (.bool true)))) s:=by
 have hjl:j.n+1<l.n:=by rw[hln]; exact Heap.lt_size gr
 have C:=Cur.of2 (M:=[(p.n,frV W d f h j),(p.n+6,cel (some (sdv z h.t))),(j.pr,tup [j.o1,j.o2,j.o3,.int j.pp j.tp,.int j.pq j.tq]),(h.fl,lst [.int l.f0 l.a0,.int l.f1 l.a1,.int l.f2 l.a2,.int l.f3 l.a3] l.fe),(j.n,lst l.tv l.te),(j.n+1,lst l.rv l.re)]) B
  (fc gn (fc g6 (fc gp (fc gf (fc gt (fc gr fz)))))) (by show List.Nodup (α:=Nat) [p.n,p.n+6,j.pr,h.fl,j.n,j.n+1]; trivial)
  (fc hn (fc (show 160≤p.n+6 by omega) (fc (show 160≤j.pr by omega) (fc (show 160≤h.fl by omega) (fc (show 160≤j.n by omega) (fc (show 160≤j.n+1 by omega) fz))))))
 obtain⟨eD,eD'⟩:=And.intro (E.lw 33 W z p a b c d e f g h i j k l) (E.lw 34 W z p a b c d e f g h i j k l)
 refine C.startP hln hlt (o:=bD kt W p a b c d e f g h z i j k l) rfl (E.lw 32 W z p a b c d e f g h i j k).own hA (by omega) (C.heldM eD (CP.hv2 (by rw[dEq_eq]; exact decide_eq_true e2) (by rw[dEq_eq]; exact decide_eq_true e1)) (fc (mul_ok (x:=0) z) (fc (mul_ok (x:=0) z) (fc (mul_ok (x:=0) z) (fc (mul_ok (x:=0) z) fz)))) rfl ?_)
 intro s₁ C1 _ F1
 rw[eD',←PySem.W.ZFast.ze8004119333741010377,←PySem.W.ZFast.ze12886488535604756494]
 have gn1:=C1.ix 0 (p.n,frV W d f h j) rfl
 have gt1:=C1.ix 2 (j.n,lst l.tv l.te) rfl
 have gr1:=C1.ix 3 (j.n+1,lst l.rv l.re) rfl
 have ga1:=C1.ix 4 (l.n+1,lst [.int (sgn z*l.f0) (l.t+3),.int (sgn z*l.f1) (l.t+5),.int (sgn z*l.f2) (l.t+7),.int (sgn z*l.f3) (l.t+9)] 4) rfl
 refine last_mean (cmp_eq ?_ gt1 ga1 ht rfl ?_)
 ·have:=cUnits_le (oCc (bD kt W p a b c d e f g h z i j k l))
  show A.units+(oCc (bD kt W p a b c d e f g h z i j k l)).cUnits<cLine
  omega
 ·exact stage_end E.lw hR hA hd (D.step F1 h0 (fc hp0 (fc (show _≤p.n+6 by omega) (fc (show _≤j.pr by omega) (fc (show _≤h.fl by omega) (fc (show _≤j.n by omega) (fc (show _≤j.n+1 by omega) fz))))))) h0 hp0 C1.B hn (by omega) gn1 gr1 hi hz
end
end LW
namespace LW
section
variable{p:Pr}{a:VA}{b:VB}{c:VC}{d:VD}{e:VE}{f:VF}{g:VG}{h:VH}
noncomputable abbrev drl(c:VC):Obj:=lst [.int c.d0 c.u0,.int c.d1 c.u1,.int c.d2 c.u2,.int c.d3 c.u3] c.de
noncomputable def zof(z:Bool):Int:=match z with|false=>0|true=>1
theorem t_9(E:Evs kt)(z:Bool):(∃hs,b9 kt W p a b c d e f g h z=on kt W h.n h.t (b8 kt W p a b c d e f g) (.ok (.ret (.ref h.tt))) [(p.n,frT W d f),(p.n+3,cel (some (.ref (p.n+10)))),(p.n+6,cel none),(p.n+10,drl c),(h.tt,tup [.int h.pa h.ua,.int h.tr h.ut,.ref h.fl])] hs) ∧
  StopIs (b9 kt W p a b c d e f g h z) [] [eInt "int.__mod__" [.int c.d3 c.u3,.int 2 (h.t+4)] (zof z) (h.n+3) (h.t+5)] (.call (.ref 139) ⟨[.str f.x f.xt],[]⟩) 1
   [(0,p.n,frU W d f h),(1,p.n+3,cel (some (.ref (p.n+10)))),(2,p.n+6,cel (some (sdv z h.t))),(3,p.n+10,drl c),(4,h.tt,tup [.int h.pa h.ua,.int h.tr h.ut,.ref h.fl])]:=by
 cases z with
 | false=>exact⟨⟨_,rfl⟩,E 28 W p a b c d e f g h⟩
 | true=>exact⟨⟨_,rfl⟩,E 29 W p a b c d e f g h⟩
theorem zof_ex(x:Int):∃z:Bool,Int.fmod x 2=zof z:=by
 have h1:=Int.fmod_nonneg_of_pos x (b:=2) (by decide)
 have h2:=Int.fmod_lt_of_pos x (b:=2) (by decide)
 by_cases h:Int.fmod x 2=0
 ·exact⟨false,h⟩
 ·exact⟨true,by show Int.fmod x 2=1; omega⟩
theorem sgn_small:∀z:Bool,(sgn z).natAbs*2 ^ (7*4)<2 ^ 200
 | true=>by decide
 | false=>by decide
theorem stage_9(E:AllEvs kt){s0:Shared}(hR:∀s',Don kt W s0 s'→R (.ok (.ret (.bool true))) s')(hA:A.handled=none)(hd:A.depth+500<1000)(hu:A.units+20<cLine){dd:Nat→Int}{X:Net}{x:List Nat}{ys:List (Nat×Nat)}{fv:List Value}{fe:Nat}
  (FX:Facts dd X x ys) (hfx:f.x=⟨⟨x⟩⟩) (hp0:p.n=s0.heap.objs.size) (hn:160≤p.n) (F0:Fut [] [] s0 s) (T1:I2.T51 kt W s0.heap) (T2:D2.T58 kt W s0.heap) (B:Base kt W s.heap) (hhn:h.n=s.heap.objs.size) (hht:h.t=s.toks)
  (gn:s.heap.get? p.n=some (frT W d f)) (g3:s.heap.get? (p.n+3)=some (cel (some (.ref (p.n+10))))) (g6:s.heap.get? (p.n+6)=some (cel none)) (gd:s.heap.get? (p.n+10)=some (drl c)) (gt:s.heap.get? h.tt=some (tup [.int h.pa h.ua,.int h.tr h.ut,.ref h.fl])) (gf:s.heap.get? h.fl=some (lst fv fe))
  (h1:p.n+12≤h.fl) (h2:p.n+12≤h.tt) (hpa:h.pa=(X.part (tkOf dd)).pq.1) (htr:h.tr=(X.part (tkOf dd)).pq.2) (hfv:intsOf fv=some ((X.part (tkOf dd)).flows 1)) (hfl:((X.part (tkOf dd)).flows 1).length=4) :
  Mean W A R P (oCc (b8 kt W p a b c d e f g)) (oMd (b8 kt W p a b c d e f g)) (oK (b8 kt W p a b c d e f g) (.ok (.ret (.ref h.tt)))) s:=by
 obtain⟨z,hz⟩:=zof_ex c.d3
 obtain⟨⟨hs9,ho9⟩,e9⟩:=t_9 (W:=W) (p:=p) (a:=a) (b:=b) (c:=c) (d:=d) (e:=e) (f:=f) (g:=g) (h:=h) E.lw z
 have hne:h.tt≠h.fl:=fun q=>by rw[q,gf]at gt; exact Oc gt (by first|exact kB|exact kD)
 have dA:A.depth+60<1000:=by omega
 have C:=Cur.of2 (M:=[(p.n,frT W d f),(p.n+3,cel (some (.ref (p.n+10)))),(p.n+6,cel none),(p.n+10,drl c),(h.tt,tup [.int h.pa h.ua,.int h.tr h.ut,.ref h.fl])]) B (fc gn (fc g3 (fc g6 (fc gd (fc gt fz)))))
  (by show List.Nodup (α:=Nat) [p.n,p.n+3,p.n+6,p.n+10,h.tt]; trivial) (fc hn (fc (show 160≤p.n+3 by omega) (fc (show 160≤p.n+6 by omega) (fc (show 160≤p.n+10 by omega) (fc (show 160≤h.tt by omega) fz)))))
 refine C.startP hhn hht ho9 (E.lw 27 W p a b c d e f g).own hA dA (C.stop e9 hA noV (SQ.he1 (eff_mod rfl (hz▸⟨rfl,rfl,rfl,rfl⟩) (by decide))) rfl ?_)
 intro s₁ A1 C1 _ F1 hA1 hd1 ke9
 have gn1:=C1.ix 0 (p.n,frU W d f h) rfl
 have g61:=C1.ix 2 (p.n+6,cel (some (sdv z h.t))) rfl
 have gf1:=F1.keep _ _ gf (by show h.fl∉([p.n,p.n+3,p.n+6,p.n+10,h.tt]:List Nat); exact nmq (fc (by omega) (fc (by omega) (fc (by omega) (fc (by omega) (fc (by omega) fz))))))
 have P1:Fut [] [] s0 s₁:=F0.join F1 (fc (.inl (by rw[←hp0]; exact nR _)) (fc (.inl (by rw[←hp0]; exact lU _ 3)) (fc (.inl (by rw[←hp0]; exact lU _ 6)) (fc (.inl (by rw[←hp0]; exact lU _ 10)) (fc (.inl (by rw[←hp0]; show p.n≤h.tt; omega)) fz)))))
 have hxl:f.x.cps.toList=x:=by rw[hfx]
 have hasc:f.x.cps.all (·<128)=true:=by rw[←Array.all_toList,hxl]; exact FX.asc
 have hsz:f.x.cps.size<2 ^ 18:=by rw[←Array.length_toList,hxl]; have:=FX.xl; omega
 obtain⟨rr,hrr⟩:=FX.hd
 refine SY.spec E.sy E.te.g E.te.nl E.tk C1.B hA1 (by omega) hasc hsz (by rw[hxl]; exact FX.wf) (by rw[hxl]; exact hrr) (by decide) (by decide) (by rw[hxl]; exact FX.sy) ?_
 intro s2 (sy:Nat) MT se F2 hsy gsy tt rel
 obtain⟨i,i1,hin,hit⟩:∃i:VI,i.sy=sy∧i.n=s2.heap.objs.size∧i.t=s2.toks:=⟨⟨_,_,_⟩,rfl,rfl,rfl⟩
 subst i1
 have k2:∀{y:Nat} {o:Obj},s₁.heap.get? y=some o→s2.heap.get? y=some o:=fun h=>F2.keep _ _ h (fun h=>nomatch h)
 have B2:=C1.B.fut F2 fz
 have C2:=Cur.of2 (M:=[(p.n,frU W d f h)]) B2 (fc (k2 gn1) fz) (pc fz .nil) (fc hn fz)
 refine C2.startP hin hit (o:=bA kt W p a b c d e f g h z i) rfl ke9 hA dA (C2.stop (E.lw 30 W z p a b c d e f g h i) hA noV noE rfl ?_)
 intro s3 A3 C3 _ F3 hA3 hd3 keA
 have gn3:=C3.ix 0 (p.n,frU W d f h) rfl
 have P3:Fut [] [] s0 s3:=(P1.trans F2).join F3 (fc (.inl (by rw[←hp0]; exact nR _)) fz)
 have k3:∀{y:Nat} {o:Obj},y≠p.n→s2.heap.get? y=some o→s3.heap.get? y=some o:=fun {y o} hy h=>F3.keep _ _ h (by show y∉([p.n]:List Nat); exact nmq (fc (by omega) fz))
 have hsy160:160≤i.sy:=by have h0:p.n<s₁.heap.objs.size:=Heap.lt_size gn1; omega
 have HS:SymOK s3 i.sy MT se:=(SymOK.mk gsy tt hsy160:SymOK s2 i.sy MT se).keep F3 (fc (.inr (by rw[gn3,k2 gn1])) fz)
 have hpk:∀k,0<tkOf dd k∧tkOf dd k<64:=fun k=>by have:=pk_lt (dd k); unfold tkOf; omega
 obtain⟨po1,po2,po3,po4⟩:=part_ok hpk X
 have hX4:=FX.sz
 have hX3:=FX.ht
 refine PA.spec E.pa E.te hasc hsz FX.yl (by rw[hxl]; exact FX.gd) (i:=0) (part:=X.part (tkOf dd)) (by rw[hxl]; exact FX.pa) po1 (by omega) C3.B hA3 (by omega) HS rel ?_
 intro s4 (pr:Nat) F4 hpr HP
 obtain⟨o1,v1,v2,tp,tq,go⟩:=HP.obj
 obtain⟨j,j1,j2,j3,j4,j5,j6,j7,j8,hjn,hjt⟩:∃j:VJ,j.pr=pr∧j.o1=o1∧j.o2=v1∧j.o3=v2∧j.pp=(X.part (tkOf dd)).pq.1∧j.tp=tp∧j.pq=(X.part (tkOf dd)).pq.2∧j.tq=tq∧j.n=s4.heap.objs.size∧j.t=s4.toks:=⟨⟨_,_,_,_,_,_,_,_,_,_⟩,rfl,rfl,rfl,rfl,rfl,rfl,rfl,rfl,rfl,rfl⟩
 subst j1 j2 j3 j4 j6 j8
 rw[←j5,←j7]at go
 have k4:∀{y:Nat} {o:Obj},s3.heap.get? y=some o→s4.heap.get? y=some o:=fun h=>F4.keep _ _ h (fun h=>nomatch h)
 have B4:=C3.B.fut F4 fz
 have g64:=k4 (k3 (y:=p.n+6) (by omega) (k2 g61))
 have gf4:=k4 (k3 (y:=h.fl) (by omega) (k2 gf1))
 have hflr:h.fl<j.pr:=by have h0:h.fl<s3.heap.objs.size:=Heap.lt_size (k3 (y:=h.fl) (by omega) (k2 gf1)); omega
 have hprn:j.pr<j.n:=by rw[hjn]; exact Heap.lt_size go
 have C4:=Cur.of2 (M:=[(p.n,frU W d f h),(p.n+6,cel (some (sdv z h.t))),(j.pr,tup [j.o1,j.o2,j.o3,.int j.pp j.tp,.int j.pq j.tq])]) B4 (fc (k4 gn3) (fc g64 (fc go fz))) (by show List.Nodup (α:=Nat) [p.n,p.n+6,j.pr]; trivial) (fc hn (fc (show 160≤p.n+6 by omega) (fc (show 160≤j.pr by omega) fz)))
 refine C4.startP hjn hjt (o:=bB kt W p a b c d e f g h z i j) rfl keA hA dA (C4.stop (E.lw 31 W z p a b c d e f g h i j) hA noV (SQ.he1 (mul_ok (x:=0) z)) rfl ?_)
 intro s5 A5 C5 _ F5 hA5 hd5 keB
 have gn5:=C5.ix 0 (p.n,frV W d f h j) rfl
 have g65:=C5.ix 1 (p.n+6,cel (some (sdv z h.t))) rfl
 have go5:=C5.ix 2 (j.pr,tup [j.o1,j.o2,j.o3,.int j.pp j.tp,.int j.pq j.tq]) rfl
 have gT:=C5.ix 3 (j.n,lst [] 0) rfl
 have gR:=C5.ix 4 (j.n+1,lst [] 0) rfl
 have P5:Fut [] [] s0 s5:=(P3.trans F4).join F5 (fc (.inl (by rw[←hp0]; exact nR _)) (fc (.inl (by rw[←hp0]; exact lU _ 6)) (fc (.inl (by rw[←hp0]; show p.n≤j.pr; omega)) fz)))
 have gf5:=F5.keep _ _ gf4 (by show h.fl∉([p.n,p.n+6,j.pr]:List Nat); exact nmq (fc (by omega) (fc (by omega) (fc (by omega) fz))))
 have HP5:PartAt s5.heap (.ref j.pr) (X.part (tkOf dd)):=HP.futN (F5.same (L':=[p.n,p.n+6]) (fc (.inl Z0) (fc (.inl Z1) (fc (.inr (.inr (go5.trans go.symm))) fz)))) (fc (.inr fun vs q=>by rw[k4 gn3]at q; exact Oc q kA) (fc (.inr fun vs q=>by rw[g64]at q; exact Oc q kI) fz))
 obtain⟨t1,t2⟩:=SH.tables E.ne T1 T2 P5 fz
 have HL:SH.LS kt W s5 j.n (j.n+1) [] 0:=⟨⟨[],0,gT,rfl⟩,⟨[],0,gR,rfl⟩,t1,t2,show 160≤j.n by omega,show 160≤j.n+1 by omega,(Nat.succ_ne_self _).symm⟩
 rw[j5]
 refine SH.spec E.sh E.ne (X.part (tkOf dd)) (m:=sgn z) ⟨po1,po2,by omega,by rw[po3,hX4]; exact sgn_small z⟩ C5.B hA5 (by omega) HP5 HL (by simp; omega) (by omega) ?_
 intro s6 nz F6 L6 hnz
 have k6:∀{y:Nat} {o:Obj},160≤y→y≠j.n→y≠j.n+1→s5.heap.get? y=some o→s6.heap.get? y=some o:=fun {y o} a1 a2 a3 h=>F6.keep _ _ h (by show y∉([j.n,j.n+1,51,58]:List Nat); exact nmq (fc (by omega) (fc (by omega) (fc (by omega) (fc (by omega) fz)))))
 have B6:=C5.B.fut F6 (fc (.inl (show 160≤j.n by omega)) (fc (.inl (show 160≤j.n+1 by omega)) (fc (.inr (.inl rfl)) (fc (.inr (.inr rfl)) fz))))
 obtain⟨k,hkn,hkt⟩:∃k:VK,k.n=s6.heap.objs.size∧k.t=s6.toks:=⟨⟨_,_⟩,rfl,rfl⟩
 have gn6:=k6 (y:=p.n) hn (by omega) (by omega) gn5
 have C6:=Cur.of2 (M:=[(p.n,frV W d f h j)]) B6 (fc gn6 fz) (pc fz .nil) (fc hn fz)
 refine C6.startP hkn hkt (o:=bC kt W p a b c d e f g h z i j k) rfl keB hA dA (C6.stop (E.lw 32 W z p a b c d e f g h i j k) hA noV noE rfl ?_)
 intro s7 A7 C7 _ F7 hA7 hd7 _
 have gn7:=C7.ix 0 (p.n,frV W d f h j) rfl
 refine CP.spec E.te.c E.te.g E.te.nl (strip_spec E.te.s E.te.g E.te.nl) C7.B hA7 (by omega) hasc (by omega) (by rw[hxl]; exact FX.wf) (by rw[hxl]; exact FX.asc') (by rw[hxl]; exact FX.wf') ?_
 intro s8 F8
 rw[hxl,FX.ck]
 have k8:∀{y:Nat} {o:Obj},y≠p.n→s6.heap.get? y=some o→s8.heap.get? y=some o:=fun {y o} hy h=>F8.keep _ _ (F7.keep _ _ h (by show y∉([p.n]:List Nat); exact nmq (fc (by omega) fz))) (fun h=>nomatch h)
 have h00:160≤s0.heap.objs.size:=hp0▸hn
 have hs5:s0.heap.objs.size≤j.n:=by rw[←hp0]; omega
 have D6:Don kt W s0 s6:=Don.mk' (Fut.over P5 F6 (fc (.inr hs5) (fc (.inr (Nat.le_succ_of_le hs5)) (fc (.inl Z0) (fc (.inl Z1) fz))))) L6.t1 L6.t2
 have D8:=(D6.step F7 h00 (fc (Nat.le_of_eq hp0.symm) fz)).step F8 h00 fz
 obtain⟨⟨vt,et,gt6,hvt⟩,⟨vr,er,gr6,hvr⟩,_⟩:=L6
 obtain⟨f0,a0',f1,a1,f2,a2,f3,a3,hfv',hfl'⟩:=four hfv hfl
 subst hfv'
 have hvt':intsOf vt=some [sgn z*f0,sgn z*f1,sgn z*f2,sgn z*f3]:=by
  rw[hvt,List.nil_append,flows_mul,hfl']; rfl
 exact stage_D (l:=⟨f0,a0',f1,a1,f2,a2,f3,a3,fe,vt,et,vr,er,s8.heap.objs.size,s8.toks⟩) E hR hA (by omega) hu D8 h00 (Nat.le_of_eq hp0.symm) (C7.B.fut F8 fz) hn rfl rfl (F8.keep _ _ gn7 (fun h=>nomatch h)) (k8 (by omega) (k6 (by omega) (by omega) (by omega) g65)) (k8 (by omega) (k6 (by omega) (by omega) (by omega) go5)) (k8 (by omega) (k6 (by omega) (by omega) (by omega) gf5)) (k8 (by omega) gt6) (k8 (by omega) gr6) h1 hflr hprn (by rw[j5,hpa]) (by rw[j7,htr]) hvt' hvr (by omega)
end
end LW
theorem ntup{x:Nat}{o:Obj}(h:s.heap.get? x=some o)(hc:o.cls≠.type "tuple"):x<160∨∀vs,s.heap.get? x≠some (tup vs) :=
 .inr fun vs q=>by rw[h]at q; exact hc (congrArg Obj.cls (Option.some.inj q))
namespace LW
section
variable{p:Pr}{a:VA}{b:VB}{c:VC}{d:VD}{e e':VE}{f:VF}{g:VG}{h:VH}
noncomputable abbrev pkl(c:VC):Obj:=lst [.int c.r0 (c.t+4),.int c.r1 (c.t+9),.int c.r2 (c.t+14),.int c.r3 (c.t+19)] 4
theorem b3_eq(h:e.m0=e'.m0∧e.v0=e'.v0∧e.n0=e'.n0∧e.t0=e'.t0):b3 kt W p a b c d e=b3 kt W p a b c d e':=by
 obtain⟨⟩:=e; obtain⟨⟩:=e'; obtain⟨h1,h2,h3,h4⟩:=h
 dsimp only at h1 h2 h3 h4
 subst h1 h2 h3 h4; rfl
theorem b4_eq(h:e.m0=e'.m0∧e.v0=e'.v0∧e.n0=e'.n0∧e.t0=e'.t0)(h':e.m1=e'.m1∧e.v1=e'.v1∧e.n1=e'.n1∧e.t1=e'.t1):b4 kt W p a b c d e=b4 kt W p a b c d e':=by
 obtain⟨⟩:=e; obtain⟨⟩:=e'; obtain⟨h1,h2,h3,h4⟩:=h; obtain⟨h5,h6,h7,h8⟩:=h'
 dsimp only at h1 h2 h3 h4 h5 h6 h7 h8
 subst h1 h2 h3 h4 h5 h6 h7 h8; rfl
theorem b5_eq(h:e.m0=e'.m0∧e.v0=e'.v0∧e.n0=e'.n0∧e.t0=e'.t0)(h':e.m1=e'.m1∧e.v1=e'.v1∧e.n1=e'.n1∧e.t1=e'.t1)(h'':e.m2=e'.m2∧e.v2=e'.v2∧e.n2=e'.n2∧e.t2=e'.t2):b5 kt W p a b c d e=b5 kt W p a b c d e':=by
 obtain⟨⟩:=e; obtain⟨⟩:=e'; obtain⟨h1,h2,h3,h4⟩:=h; obtain⟨h5,h6,h7,h8⟩:=h'; obtain⟨h9,h10,h11,h12⟩:=h''
 dsimp only at h1 h2 h3 h4 h5 h6 h7 h8 h9 h10 h11 h12
 subst h1 h2 h3 h4 h5 h6 h7 h8 h9 h10 h11 h12; rfl
theorem mod48_ok{q r:Int}{u v n t:Nat}(h:r=Int.fmod q 48):(eInt "int.__mod__" [.int q u,.int 48 v] r n t).Ok prog w:=by subst h; exact eff_mod rfl ⟨rfl,rfl,rfl,rfl⟩ (by decide)
theorem fd24_ok{q x:Int}{u v n t:Nat}(h:q=Int.fdiv x 24):(eInt "int.__floordiv__" [.int x u,.int 24 v] q n t).Ok prog w:=by subst h; exact eff_floordiv rfl ⟨rfl,rfl,rfl,rfl⟩ (by decide) (by decide)
theorem nget_ok{l tk n t t0:Nat}{r x:Int}(h:r=zN (pk x)):(PA.eGet l (NM.nameVals t0 namesL 1) 0 r tk (.str ⟨⟨nmOf x⟩⟩ (t0+(1+pk x))) n t).Ok prog w:=by
 subst h
 exact PA.get_ok (names_get t0 (pk_lt x)) (by rw[show(NM.nameVals t0 namesL 1).length=48 from rfl]; decide)
noncomputable def ddOf(c:VC)(k:Nat):Int:=match k with|0=>c.d0|1=>c.d1|2=>c.d2|3=>c.d3|_=>0
theorem nm_all(x:Int):(nmOf x).all (fun c:Nat=>decide (c<128))=true:=by
 rw[List.all_eq_true]
 intro y hy
 exact decide_eq_true (nm_Nm x y hy).1
theorem stage_7(E:AllEvs kt){s0:Shared}(hR:∀s',Don kt W s0 s'→R (.ok (.ret (.bool true))) s')(hA:A.handled=none)(hd:A.depth+500<1000)(hu:A.units+20<cLine){x:List Nat}{ys:List (Nat×Nat)}
  (FX:Facts (ddOf c) (joined c.d0 c.d1 c.d2) x ys) (hp0:p.n=s0.heap.objs.size) (hn:160≤p.n) (F0:Fut [] [] s0 s) (T1:I2.T51 kt W s0.heap) (T2:D2.T58 kt W s0.heap) (B:Base kt W s.heap)
  (hr0:c.r0=zN (pk c.d0)) (hr1:c.r1=zN (pk c.d1)) (hr2:c.r2=zN (pk c.d2)) (hr3:c.r3=zN (pk c.d3))
  (gn:s.heap.get? p.n=some (frN W d)) (g3:s.heap.get? (p.n+3)=some (cel (some (.ref (p.n+10))))) (g5:s.heap.get? (p.n+5)=some (cel (some (.ref (c.n+1))))) (g6:s.heap.get? (p.n+6)=some (cel none)) (gd:s.heap.get? (p.n+10)=some (drl c)) (gk:s.heap.get? (c.n+1)=some (pkl c)) (h1:p.n+12≤c.n)
  (HN:NetAt s.heap (.ref d.y) (joined c.d0 c.d1 c.d2)) {tx:Nat} :
  Mean W A R P (oCc (b6 kt W p a b c d e)) (oMd (b6 kt W p a b c d e)) (oK (b6 kt W p a b c d e) (.ok (.ret (.str ⟨⟨(joined c.d0 c.d1 c.d2).write (marksOf (ddOf c))⟩⟩ tx)))) s:=by
 obtain⟨X,hX⟩:∃X,X=joined c.d0 c.d1 c.d2:=⟨_,rfl⟩
 rw[←hX]at FX HN ⊢
 have dA:A.depth+60<1000:=by omega
 obtain⟨f,f1,f2,hfn,hft⟩:∃f:VF,f.x=⟨⟨X.write (marksOf (ddOf c))⟩⟩∧f.xt=tx∧f.n=s.heap.objs.size∧f.t=s.toks:=⟨⟨_,_,_,_⟩,rfl,rfl,rfl,rfl⟩
 subst f2
 rw[←f1]
 have C:=Cur.of2 (M:=[(p.n,frN W d)]) B (fc gn fz) (pc fz .nil) (fc hn fz)
 refine C.startP hfn hft (o:=b7 kt W p a b c d e f) rfl (E.lw 25 W p a b c d e).own hA dA (C.stop (E.lw 26 W p a b c d e f) hA noV noE rfl ?_)
 intro s₁ A1 C1 _ F1 hA1 hd1 ke7
 have gn1:=C1.ix 0 (p.n,frT W d f) rfl
 have gp1:=C1.ix 1 (f.n,lst [.int 0 (f.t+1),.int 1 (f.t+2)] 0) rfl
 have gw1:=C1.ix 2 (f.n+1,lst [] 0) rfl
 have k1:∀{y:Nat} {o:Obj},y≠p.n→s.heap.get? y=some o→s₁.heap.get? y=some o:=fun {y o} hy h=>F1.keep _ _ h (by show y∉([p.n]:List Nat); exact nmq (fc (by omega) fz))
 have P1:Fut [] [] s0 s₁:=F0.join F1 (fc (.inl (by rw[←hp0]; exact nR _)) fz)
 have HN1:=HN.futN F1 (fc (ntup gn kA) fz)
 have hcf:c.n+1<f.n:=by rw[hfn]; exact Heap.lt_size gk
 have hX4:=FX.sz
 have hX3:=FX.ht
 refine WR.l_spec E.wr X (st:=0) (en:=1) (np:=2) (ws:=[]) C1.B hA1 (by omega) HN1 ⟨⟨_,_,gp1,rfl⟩,⟨_,_,gw1,.nil⟩,show 160≤f.n by omega,show 160≤f.n+1 by omega,(Nat.succ_ne_self _).symm⟩ (by omega) (by simp; omega) ?_
 intro s2 F2 L2
 obtain⟨⟨vp,ep,gp2,hpl⟩,⟨vw,ew,gw2,hways⟩,_⟩:=L2
 rw[List.nil_append]at hways
 have k2:∀{y:Nat} {o:Obj},y≠f.n→y≠f.n+1→s₁.heap.get? y=some o→s2.heap.get? y=some o:=fun {y o} a1 a2 h=>F2.keep _ _ h (by show y∉([f.n,f.n+1]:List Nat); exact nmq (fc (by omega) (fc (by omega) fz)))
 have P2:Fut [] [] s0 s2:=P1.join F2 (fc (.inl (by rw[←hp0]; show p.n≤f.n; omega)) (fc (.inl (by rw[←hp0]; show p.n≤f.n+1; omega)) fz))
 obtain⟨g,g1',g2',hgn,hgt⟩:∃g:VG,g.pv=vp∧g.pe=ep∧g.n=s2.heap.objs.size∧g.t=s2.toks:=⟨⟨_,_,_,_⟩,rfl,rfl,rfl,rfl⟩
 subst g1' g2'
 have B2:=C1.B.fut F2 (fc (.inl (show 160≤f.n by omega)) (fc (.inl (show 160≤f.n+1 by omega)) fz))
 have gn2:=k2 (y:=p.n) (by omega) (by omega) gn1
 have g52:=k2 (y:=p.n+5) (by omega) (by omega) (k1 (by omega) g5)
 have gk2:=k2 (y:=c.n+1) (by omega) (by omega) (k1 (by omega) gk)
 have C2:=Cur.of2 (M:=[(p.n,frT W d f),(p.n+5,cel (some (.ref (c.n+1)))),(c.n+1,pkl c),(f.n,lst g.pv g.pe)]) B2 (fc gn2 (fc g52 (fc gk2 (fc gp2 fz))))
  (by show List.Nodup (α:=Nat) [p.n,p.n+5,c.n+1,f.n]; trivial) (fc hn (fc (show 160≤p.n+5 by omega) (fc (show 160≤c.n+1 by omega) (fc (show 160≤f.n by omega) fz))))
 have hn5:=FX.n5
 refine C2.startP hgn hgt (o:=b8 kt W p a b c d e f g) rfl ke7 hA dA (C2.stop (E.lw 27 W p a b c d e f g) hA noV (SQ.he1 (eff_len_list rfl Z0 rfl rfl (by omega) rfl rfl)) rfl ?_)
 intro s3 A3 C3 _ F3 hA3 hd3 _
 have gn3:=C3.ix 0 (p.n,frT W d f) rfl
 have g53:=C3.ix 1 (p.n+5,cel (some (.ref (c.n+1)))) rfl
 have gk3:=C3.ix 2 (c.n+1,pkl c) rfl
 have gp3:=C3.ix 3 (f.n,lst g.pv g.pe) rfl
 have go3:=C3.ix 4 (g.n+1,lst [.int (7+c.r0) (g.t+2),.int (7+c.r1) (g.t+5),.int (7+c.r2) (g.t+8),.int (7+c.r3) (g.t+11)] 4) rfl
 have F3':Fut [] [] s2 s3:=F3.same (fc (.inr (.inr (gn3.trans gn2.symm))) (fc (.inr (.inr (g53.trans g52.symm))) (fc (.inr (.inr (gk3.trans gk2.symm))) (fc (.inr (.inr (gp3.trans gp2.symm))) fz))))
 have P3:Fut [] [] s0 s3:=P2.trans F3'
 have hfg:f.n+1<g.n:=by rw[hgn]; exact Heap.lt_size gw2
 have hoi:intsOf [.int (7+c.r0) (g.t+2),.int (7+c.r1) (g.t+5),.int (7+c.r2) (g.t+8),.int (7+c.r3) (g.t+11)]=some [(tkOf (ddOf c) 0:Int),(tkOf (ddOf c) 1:Int),(tkOf (ddOf c) 2:Int),(tkOf (ddOf c) 3:Int)]:=by
  have e0:∀{r:Int} {y:Int},r=zN (pk y)→(7+r:Int)=((7+pk y:Nat):Int):=fun h=>by rw[h]; simp only[Int.ofNat_eq_natCast]; omega
  rw[e0 hr0,e0 hr1,e0 hr2,e0 hr3]; rfl
 have htk:∀k,(tkOf (ddOf c) k:Int).natAbs<2 ^ 6:=fun k=>by have:=pk_lt (ddOf c k); unfold tkOf; omega
 refine TR.t_spec E.tr E.re (size:=g.pv.length) C3.B hA3 (by omega) (show 160≤f.n+1 by omega) (show 160≤g.n+1 by omega) (F3'.keep _ _ gw2 (fun h=>nomatch h)) go3 (hways.futN F3' fz) hoi FX.wl rfl (fc (htk 0) (fc (htk 1) (fc (htk 2) (fc (htk 3) fz)))) (by rw[hpl]; exact FX.n2) FX.rch ?_
 intro s4 tt fl ua ut fe fv F4 htt hfl gtt gfl hfi hf4
 rw[hpl,FX.tr]at gtt hfi hf4
 obtain⟨h,h1',h2',h3',h4',h5',h6',hhn,hht⟩:∃h:VH,h.tt=tt∧h.pa=(X.part (tkOf (ddOf c))).pq.1∧h.ua=ua∧h.tr=(X.part (tkOf (ddOf c))).pq.2∧h.ut=ut∧h.fl=fl∧h.n=s4.heap.objs.size∧h.t=s4.toks:=⟨⟨_,_,_,_,_,_,_,_⟩,rfl,rfl,rfl,rfl,rfl,rfl,rfl,rfl⟩
 subst h1' h3' h5' h6'
 dsimp only at gtt
 rw[←h2',←h4']at gtt
 have k34:∀{y:Nat} {o:Obj},s2.heap.get? y=some o→s4.heap.get? y=some o:=fun h=>F4.keep _ _ (F3'.keep _ _ h (fun h=>nomatch h)) (fun h=>nomatch h)
 have hs3:p.n+12≤s3.heap.objs.size:=by have h0:c.n+1<s3.heap.objs.size:=Heap.lt_size gk3; omega
 exact stage_9 E hR hA hd hu FX (by rw[f1,FX.wr]) hp0 hn (P3.trans F4) T1 T2 (C3.B.fut F4 fz) hhn hht (k34 gn2) (k34 (k2 (by omega) (by omega) (k1 (by omega) g3))) (k34 (k2 (by omega) (by omega) (k1 (by omega) g6))) (k34 (k2 (by omega) (by omega) (k1 (by omega) gd))) gtt gfl (by omega) (by omega) h2' h4' hfi hf4
end
end LW
namespace LW
section
variable{p:Pr}{a:VA}{b:VB}{c:VC}
theorem mam{m0 m1 m2 m3:List Nat}{v0 v1 v2 v3:Nat}:∀(k:Nat) (z:List Nat),[m0,m1,m2,m3][k]?=some z→∃t:Nat,[Value.str ⟨⟨m0⟩⟩ v0,.str ⟨⟨m1⟩⟩ v1,.str ⟨⟨m2⟩⟩ v2,.str ⟨⟨m3⟩⟩ v3][k]?=some (Value.str ⟨⟨z⟩⟩ t)
 | 0,_,h=>by cases h; exact⟨v0,rfl⟩
 | 1,_,h=>by cases h; exact⟨v1,rfl⟩
 | 2,_,h=>by cases h; exact⟨v2,rfl⟩
 | 3,_,h=>by cases h; exact⟨v3,rfl⟩
noncomputable abbrev MX(p:Pr)(c:VC)(d:VD):Mem1:=[(p.n+3,cel (some (.ref (p.n+10)))),(p.n+4,cel (some (.ref c.nl))),(p.n+5,cel (some (.ref (c.n+1)))),(p.n+10,drl c),(c.n+1,pkl c),(c.nl,lst d.nv d.ne)]
theorem hlen(x:Int):1≤(nmOf x).length∧(nmOf x).length≤3∧True:=⟨(names_ok _ (pk_lt x)).2.1,(names_ok _ (pk_lt x)).2.2.1,trivial⟩
set_option maxHeartbeats 4000000 in
theorem stage_2(E:AllEvs kt){s₀:Shared}(hR:∀s',Don kt W s₀ s'→R (.ok (.ret (.bool true))) s')(hA:A.handled=none)(hd:A.depth+500<1000)(hu:A.units+20<cLine){x:List Nat}{ys:List (Nat×Nat)}
  (FX:Facts (ddOf c) (joined c.d0 c.d1 c.d2) x ys) (hp0:p.n=s₀.heap.objs.size) (hn:160≤p.n) (F0:Fut [] [] s₀ s) (T1:I2.T51 kt W s₀.heap) (T2:D2.T58 kt W s₀.heap) (B:Base kt W s.heap)
  (hr0:c.r0=zN (pk c.d0)) (hr1:c.r1=zN (pk c.d1)) (hr2:c.r2=zN (pk c.d2)) (hr3:c.r3=zN (pk c.d3))
  (gn:s.heap.get? p.n=some (fr W.w.params [])) (g3:s.heap.get? (p.n+3)=some (cel (some (.ref (p.n+10))))) (g4:s.heap.get? (p.n+4)=some (cel (some (.ref c.nl)))) (g5:s.heap.get? (p.n+5)=some (cel (some (.ref (c.n+1))))) (g6:s.heap.get? (p.n+6)=some (cel none)) (gd:s.heap.get? (p.n+10)=some (drl c)) (gk:s.heap.get? (c.n+1)=some (pkl c))
  {t0:Nat} (gl:s.heap.get? c.nl=some (lst (NM.nameVals t0 namesL 1) 0)) (h1:p.n+12≤c.nl) (h2:c.nl<c.n) {y:Nat} (HN:NetAt s.heap (.ref y) (joined c.d0 c.d1 c.d2)) :
  Mean W A R P (oCc (b1 kt W p a b c)) (oMd (b1 kt W p a b c)) (oK (b1 kt W p a b c) (.ok (.ret (.ref y)))) s:=by
 have dA:A.depth+60<1000:=by omega
 obtain⟨d,dy,dnv,dne,hs0,hw0,hs1,hw1,hs2,hw2,hs3,hw3,hdn,hdt⟩:∃d:VD,d.y=y∧d.nv=NM.nameVals t0 namesL 1∧d.ne=0∧d.s0=⟨⟨nmOf c.d0⟩⟩∧d.w0=t0+(1+pk c.d0)∧d.s1=⟨⟨nmOf c.d1⟩⟩∧d.w1=t0+(1+pk c.d1)∧d.s2=⟨⟨nmOf c.d2⟩⟩∧d.w2=t0+(1+pk c.d2)∧d.s3=⟨⟨nmOf c.d3⟩⟩∧d.w3=t0+(1+pk c.d3)∧d.n=s.heap.objs.size∧d.t=s.toks :=
  ⟨⟨_,_,_,_,_,_,_,_,_,_,_,_,_⟩,rfl,rfl,rfl,rfl,rfl,rfl,rfl,rfl,rfl,rfl,rfl,rfl,rfl⟩
 subst dy
 rw[←dnv,←dne]at gl
 have hget:∀(tk n t:Nat) (r z:Int),r=zN (pk z)→∀{S:Str} {w:Nat},S=⟨⟨nmOf z⟩⟩→w=t0+(1+pk z)→(PA.eGet c.nl d.nv d.ne r tk (.str S w) n t).Ok PW W.w:=fun tk n t r z hr S w hS hw=>by
  rw[hS,hw,dnv,dne]; exact nget_ok hr
 have hcd:c.n+1<d.n:=by rw[hdn]; exact Heap.lt_size gk
 have gX:∀q∈MX p c d,s.heap.get? q.1=some q.2:=fc g3 (fc g4 (fc g5 (fc gd (fc gk (fc gl fz)))))
 have oX:∀q∈MX p c d,160≤q.1:=fc (show 160≤p.n+3 by omega) (fc (show 160≤p.n+4 by omega) (fc (show 160≤p.n+5 by omega) (fc (show 160≤p.n+10 by omega) (fc (show 160≤c.n+1 by omega) (fc (show 160≤c.nl by omega) fz)))))
 have C:=Cur.of2 (M:=(p.n,fr W.w.params [])::MX p c d) B (fc gn gX)
  (by show List.Nodup (α:=Nat) [p.n,p.n+3,p.n+4,p.n+5,p.n+10,c.n+1,c.nl]; trivial)
  (fc hn oX)
 have q2:=E.lw 21 W p a b c d
 refine C.startP hdn hdt (o:=b2 kt W p a b c d) rfl (E.lw 20 W p a b c).own hA dA (C.stop q2 hA noV (SQ.he1 (hget _ _ _ _ _ hr0 hs0 hw0)) rfl ?_)
 intro s0 A0 C0 _ F00 hA0 hd0 _
 rw[hs0]
 have gn0:=C0.ix 0 (p.n,frN W d) rfl
 have X0:∀q∈MX p c d,s0.heap.get? q.1=some q.2:=fun q hq=>(C0.pre (A:=(p.n,frN W d)::MX p c d) rfl) q (.tail _ hq)
 have xi:=C0.ix 7 (d.n+1,rgi 1 3 1) rfl
 have xa:=C0.ix 8 (d.n+2,lst [] 0) rfl
 have xf:=C0.ix 9 (d.n+3,kK W 107 (d.t+5) 0 (d.t+4)) rfl
 have F01:Fut [p.n] [] s s0:=F00.same (fc (.inl Z0) (same_of X0 gX))
 have g6_0:=F01.keep _ _ g6 (by show p.n+6∉([p.n]:List Nat); simp)
 have HN0:=HN.futN F01 (fc (ntup gn kA) fz)
 have P0:Fut [] [] s₀ s0:=F0.join F01 (fc (.inl (by rw[←hp0]; exact nR _)) fz)
 obtain⟨l1_0,l2_0,_⟩:=hlen c.d0
 refine NM.m_spec E.nm C0.B hA0 (by omega) l1_0 l2_0 (nm_all c.d0) ?_
 intro r0 v0 K0
 have BB0:=C0.B.fut K0 fz
 have z0:∀{y:Nat} {o:Obj},s0.heap.get? y=some o→r0.heap.get? y=some o:=fun h=>K0.keep _ _ h (fun h=>nomatch h)
 have YY0:=fut_own K0 X0
 have gi0:=z0 xi
 have ga0:=z0 xa
 have gf0:=z0 xf
 have oi:160≤d.n+1:=by omega
 have oa:160≤d.n+2:=by omega
 have of_:160≤d.n+3:=by omega
 have nd9:List.Nodup (α:=Nat) [p.n+3,p.n+4,p.n+5,p.n+10,c.n+1,c.nl,d.n+1,d.n+2,d.n+3]:=by trivial
 obtain⟨e0,h0_m0,h0_v0,h0_n0,h0_t0⟩:∃e:VE,e.m0=⟨⟨NM.markOf (nmOf c.d0) c.d0⟩⟩∧e.v0=v0∧e.n0=r0.heap.objs.size∧e.t0=r0.toks:=⟨⟨⟨⟨NM.markOf (nmOf c.d0) c.d0⟩⟩,v0,r0.heap.objs.size,r0.toks,⟨⟨[]⟩⟩,0,0,0,⟨⟨[]⟩⟩,0,0,0,⟨⟨[]⟩⟩,0,0,0⟩,rfl,rfl,rfl,rfl⟩
 rw[←h0_v0,←h0_m0]
 have D0:=Cur.of2 (M:=MX p c d++[(d.n+1,rgi 1 3 1),(d.n+2,lst [] 0),(d.n+3,kK W 107 (d.t+5) 0 (d.t+4))]) BB0 (fap YY0 (fc gi0 (fc ga0 (fc gf0 fz)))) nd9 (fap oX (fc oi (fc oa (fc of_ fz))))
 refine D0.startP h0_n0 h0_t0 (o:=b3 kt W p a b c d e0) rfl (E.lw 21 W p a b c d).own hA dA (D0.stop (E.lw 22 W p a b c d e0) hA noV (SQ.he1 (hget _ _ _ _ _ (by assumption) hs1 hw1)) rfl ?_)
 intro s1 A1 C1 _ F1 hA1 hd1 _
 rw[hs1]
 have X1:∀q∈MX p c d,s1.heap.get? q.1=some q.2:=C1.pre (A:=MX p c d) rfl
 have gi1a:=C1.ix 6 (d.n+1,rgi 2 2 1) rfl
 have ga1a:=C1.ix 7 (d.n+2,lst [.str e0.m0 e0.v0] 1) rfl
 have gf1a:=C1.ix 8 (d.n+3,kK W 107 (d.t+5) 1 e0.t0) rfl
 have FF1:Fut [d.n+1,d.n+2,d.n+3] [] r0 s1:=F1.same (fap (A:=ks (MX p c d)) (B:=[d.n+1,d.n+2,d.n+3]) (same_of X1 YY0) (fc (.inl Z0) (fc (.inl Z1) (fc (.inl Z2) fz))))
 obtain⟨l1_1,l2_1,l3_1⟩:=hlen c.d1
 refine NM.m_spec E.nm C1.B hA1 (by omega) l1_1 l2_1 (nm_all c.d1) ?_
 intro r1 v1 K1
 have BB1:=C1.B.fut K1 fz
 have G1:Fut [d.n+1,d.n+2,d.n+3] [] r0 r1:=FF1.trans' K1 fz fz
 have z1:∀{y:Nat} {o:Obj},s1.heap.get? y=some o→r1.heap.get? y=some o:=fun h=>K1.keep _ _ h (fun h=>nomatch h)
 have YY1:=fut_own K1 X1
 have gi1:=z1 gi1a
 have ga1':=z1 ga1a
 have gf1':=z1 gf1a
 obtain⟨e1,h1_m0,h1_v0,h1_n0,h1_t0,h1_m1,h1_v1,h1_n1,h1_t1⟩:∃e:VE,e.m0=e0.m0∧e.v0=e0.v0∧e.n0=e0.n0∧e.t0=e0.t0∧e.m1=⟨⟨NM.markOf (nmOf c.d1) c.d1⟩⟩∧e.v1=v1∧e.n1=r1.heap.objs.size∧e.t1=r1.toks:=⟨⟨e0.m0,e0.v0,e0.n0,e0.t0,⟨⟨NM.markOf (nmOf c.d1) c.d1⟩⟩,v1,r1.heap.objs.size,r1.toks,⟨⟨[]⟩⟩,0,0,0,⟨⟨[]⟩⟩,0,0,0⟩,rfl,rfl,rfl,rfl,rfl,rfl,rfl,rfl⟩
 rw[←h1_v1,←h1_m1]
 rw[b3_eq (kt:=kt) (W:=W) (p:=p) (a:=a) (b:=b) (c:=c) (d:=d) (e:=e0) (e':=e1) ⟨(h1_m0).symm,(h1_v0).symm,(h1_n0).symm,(h1_t0).symm⟩]
 have ga1:=ga1'
 have gf1:=gf1'
 rw[←h1_m0,←h1_v0]at ga1
 rw[←h1_t0]at gf1
 have D1:=Cur.of2 (M:=MX p c d++[(d.n+1,rgi 2 2 1),(d.n+2,lst [.str e1.m0 e1.v0] 1),(d.n+3,kK W 107 (d.t+5) 1 e1.t0)]) BB1 (fap YY1 (fc gi1 (fc ga1 (fc gf1 fz)))) nd9 (fap oX (fc oi (fc oa (fc of_ fz))))
 refine D1.startP h1_n1 h1_t1 (o:=b4 kt W p a b c d e1) rfl (E.lw 22 W p a b c d e1).own hA dA (D1.stop (E.lw 23 W p a b c d e1) hA noV (SQ.he1 (hget _ _ _ _ _ (by assumption) hs2 hw2)) rfl ?_)
 intro s2 A2 C2 _ F2 hA2 hd2 _
 rw[hs2]
 have X2:∀q∈MX p c d,s2.heap.get? q.1=some q.2:=C2.pre (A:=MX p c d) rfl
 have gi2a:=C2.ix 6 (d.n+1,rgi 3 1 1) rfl
 have ga2a:=C2.ix 7 (d.n+2,lst [.str e1.m0 e1.v0,.str e1.m1 e1.v1] 2) rfl
 have gf2a:=C2.ix 8 (d.n+3,kK W 107 (d.t+5) 2 e1.t1) rfl
 have FF2:Fut [d.n+1,d.n+2,d.n+3] [] r1 s2:=F2.same (fap (A:=ks (MX p c d)) (B:=[d.n+1,d.n+2,d.n+3]) (same_of X2 YY1) (fc (.inl Z0) (fc (.inl Z1) (fc (.inl Z2) fz))))
 obtain⟨l1_2,l2_2,l3_2⟩:=hlen c.d2
 refine NM.m_spec E.nm C2.B hA2 (by omega) l1_2 l2_2 (nm_all c.d2) ?_
 intro r2 v2 K2
 have BB2:=C2.B.fut K2 fz
 have G2:Fut [d.n+1,d.n+2,d.n+3] [] r0 r2:=G1.trans (FF2.trans' K2 fz fz)
 have z2:∀{y:Nat} {o:Obj},s2.heap.get? y=some o→r2.heap.get? y=some o:=fun h=>K2.keep _ _ h (fun h=>nomatch h)
 have YY2:=fut_own K2 X2
 have gi2:=z2 gi2a
 have ga2':=z2 ga2a
 have gf2':=z2 gf2a
 obtain⟨e2,h2_m0,h2_v0,h2_n0,h2_t0,h2_m1,h2_v1,h2_n1,h2_t1,h2_m2,h2_v2,h2_n2,h2_t2⟩:∃e:VE,e.m0=e1.m0∧e.v0=e1.v0∧e.n0=e1.n0∧e.t0=e1.t0∧e.m1=e1.m1∧e.v1=e1.v1∧e.n1=e1.n1∧e.t1=e1.t1∧e.m2=⟨⟨NM.markOf (nmOf c.d2) c.d2⟩⟩∧e.v2=v2∧e.n2=r2.heap.objs.size∧e.t2=r2.toks:=⟨⟨e1.m0,e1.v0,e1.n0,e1.t0,e1.m1,e1.v1,e1.n1,e1.t1,⟨⟨NM.markOf (nmOf c.d2) c.d2⟩⟩,v2,r2.heap.objs.size,r2.toks,⟨⟨[]⟩⟩,0,0,0⟩,rfl,rfl,rfl,rfl,rfl,rfl,rfl,rfl,rfl,rfl,rfl,rfl⟩
 rw[←h2_v2,←h2_m2]
 rw[b4_eq (kt:=kt) (W:=W) (p:=p) (a:=a) (b:=b) (c:=c) (d:=d) (e:=e1) (e':=e2) ⟨(h2_m0).symm,(h2_v0).symm,(h2_n0).symm,(h2_t0).symm⟩ ⟨(h2_m1).symm,(h2_v1).symm,(h2_n1).symm,(h2_t1).symm⟩]
 have ga2:=ga2'
 have gf2:=gf2'
 rw[←h2_m0,←h2_v0,←h2_m1,←h2_v1]at ga2
 rw[←h2_t1]at gf2
 have D2:=Cur.of2 (M:=MX p c d++[(d.n+1,rgi 3 1 1),(d.n+2,lst [.str e2.m0 e2.v0,.str e2.m1 e2.v1] 2),(d.n+3,kK W 107 (d.t+5) 2 e2.t1)]) BB2 (fap YY2 (fc gi2 (fc ga2 (fc gf2 fz)))) nd9 (fap oX (fc oi (fc oa (fc of_ fz))))
 refine D2.startP h2_n2 h2_t2 (o:=b5 kt W p a b c d e2) rfl (E.lw 23 W p a b c d e2).own hA dA (D2.stop (E.lw 24 W p a b c d e2) hA noV (SQ.he1 (hget _ _ _ _ _ (by assumption) hs3 hw3)) rfl ?_)
 intro s3 A3 C3 _ F3 hA3 hd3 _
 rw[hs3]
 have X3:∀q∈MX p c d,s3.heap.get? q.1=some q.2:=C3.pre (A:=MX p c d) rfl
 have gi3a:=C3.ix 6 (d.n+1,rgi 4 0 1) rfl
 have ga3a:=C3.ix 7 (d.n+2,lst [.str e2.m0 e2.v0,.str e2.m1 e2.v1,.str e2.m2 e2.v2] 3) rfl
 have gf3a:=C3.ix 8 (d.n+3,kK W 107 (d.t+5) 3 e2.t2) rfl
 have FF3:Fut [d.n+1,d.n+2,d.n+3] [] r2 s3:=F3.same (fap (A:=ks (MX p c d)) (B:=[d.n+1,d.n+2,d.n+3]) (same_of X3 YY2) (fc (.inl Z0) (fc (.inl Z1) (fc (.inl Z2) fz))))
 obtain⟨l1_3,l2_3,l3_3⟩:=hlen c.d3
 refine NM.m_spec E.nm C3.B hA3 (by omega) l1_3 l2_3 (nm_all c.d3) ?_
 intro r3 v3 K3
 have BB3:=C3.B.fut K3 fz
 have G3:Fut [d.n+1,d.n+2,d.n+3] [] r0 r3:=G2.trans (FF3.trans' K3 fz fz)
 have z3:∀{y:Nat} {o:Obj},s3.heap.get? y=some o→r3.heap.get? y=some o:=fun h=>K3.keep _ _ h (fun h=>nomatch h)
 have gi3:=z3 gi3a
 have ga3':=z3 ga3a
 have gf3':=z3 gf3a
 obtain⟨e,h3_m0,h3_v0,h3_n0,h3_t0,h3_m1,h3_v1,h3_n1,h3_t1,h3_m2,h3_v2,h3_n2,h3_t2,h3_m3,h3_v3,h3_n,h3_t⟩:∃e:VE,e.m0=e2.m0∧e.v0=e2.v0∧e.n0=e2.n0∧e.t0=e2.t0∧e.m1=e2.m1∧e.v1=e2.v1∧e.n1=e2.n1∧e.t1=e2.t1∧e.m2=e2.m2∧e.v2=e2.v2∧e.n2=e2.n2∧e.t2=e2.t2∧e.m3=⟨⟨NM.markOf (nmOf c.d3) c.d3⟩⟩∧e.v3=v3∧e.n=r3.heap.objs.size∧e.t=r3.toks:=⟨⟨e2.m0,e2.v0,e2.n0,e2.t0,e2.m1,e2.v1,e2.n1,e2.t1,e2.m2,e2.v2,e2.n2,e2.t2,⟨⟨NM.markOf (nmOf c.d3) c.d3⟩⟩,v3,r3.heap.objs.size,r3.toks⟩,rfl,rfl,rfl,rfl,rfl,rfl,rfl,rfl,rfl,rfl,rfl,rfl,rfl,rfl,rfl,rfl⟩
 rw[←h3_v3,←h3_m3]
 rw[b5_eq (kt:=kt) (W:=W) (p:=p) (a:=a) (b:=b) (c:=c) (d:=d) (e:=e2) (e':=e) ⟨(h3_m0).symm,(h3_v0).symm,(h3_n0).symm,(h3_t0).symm⟩ ⟨(h3_m1).symm,(h3_v1).symm,(h3_n1).symm,(h3_t1).symm⟩ ⟨(h3_m2).symm,(h3_v2).symm,(h3_n2).symm,(h3_t2).symm⟩]
 rw[←h3_m0,←h3_v0,←h3_m1,←h3_v1,←h3_m2,←h3_v2]at ga3'
 rw[←h3_t2]at gf3'
 have D3:=Cur.of2 (M:=[(d.n+1,rgi 4 0 1),(d.n+2,lst [.str e.m0 e.v0,.str e.m1 e.v1,.str e.m2 e.v2] 3),(d.n+3,kK W 107 (d.t+5) 3 e.t2)]) BB3 (fc gi3 (fc ga3' (fc gf3' fz))) (by show List.Nodup (α:=Nat) [d.n+1,d.n+2,d.n+3]; trivial) (fc oi (fc oa (fc of_ fz)))
 refine D3.startP h3_n h3_t (o:=b6 kt W p a b c d e) rfl (E.lw 24 W p a b c d e).own hA dA (D3.stop (E.lw 25 W p a b c d e) hA noV noE rfl ?_)
 intro s4 A4 C4 _ F4 hA4 hd4 _
 have ga4:=C4.ix 0 (d.n+2,lst [.str e.m0 e.v0,.str e.m1 e.v1,.str e.m2 e.v2,.str e.m3 e.v3] 4) rfl
 have HN4:=((HN0.fut0 K0).futN G3 (fc (ntup gi0 kH) (fc (ntup ga0 kB) (fc (ntup gf0 kJ) fz)))).futN F4 (fc (ntup gi3 kH) (fc (ntup ga3' (by simp[lst])) (fc (ntup gf3' (by simp[kK,frd])) fz)))
 have MAm:∀(k:Nat) (z:List Nat),(marksOf (ddOf c))[k]?=some z→∃t:Nat,[Value.str e.m0 e.v0,.str e.m1 e.v1,.str e.m2 e.v2,.str e.m3 e.v3][k]?=some (Value.str ⟨⟨z⟩⟩ t):=by
  rw[h3_m0,h2_m0,h1_m0,h0_m0,h3_m1,h2_m1,h1_m1,h3_m2,h2_m2,h3_m3]
  exact mam
 have MA:WR.MarksAt s4 (d.n+2) (marksOf (ddOf c)) [.str e.m0 e.v0,.str e.m1 e.v1,.str e.m2 e.v2,.str e.m3 e.v3] 4:=⟨ga4,oa,MAm,by simp⟩
 have hX4:=FX.sz
 have hX3:=FX.ht
 refine WR.w_spec E.wr FX.ml (joined c.d0 c.d1 c.d2) FX.inn (by omega) C4.B hA4 (by omega) HN4 MA ?_
 intro s5 ty F5
 have kk:∀{y:Nat} {o:Obj},y<d.n→s0.heap.get? y=some o→s5.heap.get? y=some o:=fun {y o} hy h=>F5.keep _ _ (F4.keep _ _ (G3.keep _ _ (z0 h) (by show y∉([d.n+1,d.n+2,d.n+3]:List Nat); exact nmq (fc (by omega) (fc (by omega) (fc (by omega) fz))))) (by show y∉([d.n+1,d.n+2,d.n+3]:List Nat); exact nmq (fc (by omega) (fc (by omega) (fc (by omega) fz))))) (fun h=>nomatch h)
 have P5:Fut [] [] s₀ s5:=(((P0.trans K0).join G3 (fc (.inl (by rw[←hp0]; show p.n≤d.n+1; omega)) (fc (.inl (by rw[←hp0]; show p.n≤d.n+2; omega)) (fc (.inl (by rw[←hp0]; show p.n≤d.n+3; omega)) fz)))).join F4 (fc (.inl (by rw[←hp0]; show p.n≤d.n+1; omega)) (fc (.inl (by rw[←hp0]; show p.n≤d.n+2; omega)) (fc (.inl (by rw[←hp0]; show p.n≤d.n+3; omega)) fz)))).trans F5
 exact stage_7 E hR hA hd hu FX hp0 hn P5 T1 T2 (C4.B.fut F5 fz) hr0 hr1 hr2 hr3 (kk (by omega) gn0) (kk (by omega) (X0 _ Z0)) (kk (by omega) (X0 _ Z2)) (kk (by omega) g6_0) (kk (by omega) (X0 _ Z3)) (kk (by omega) (X0 _ Z4)) (by omega) (HN4.fut0 F5)
end
end LW
namespace LW
section
set_option maxHeartbeats 4000000 in
theorem stage_1(E:AllEvs kt){p:Pr}{a:VA}{b:VB}{c:VC}{s0 s:Shared}(hR:∀s',Don kt W s0 s'→R (.ok (.ret (.bool true))) s')(hA:A.handled=none)(hd:A.depth+500<1000)(hu:A.units+20<cLine)(hpn:p.n=s0.heap.objs.size)(hn:160≤p.n)(P4:Fut [] [] s0 s)(T1:I2.T51 kt W s0.heap)(T2:D2.T58 kt W s0.heap)(B5:Base kt W s.heap)
  (hq0:c.q0=Int.fdiv c.d0 24) (hq1:c.q1=Int.fdiv c.d1 24) (hq2:c.q2=Int.fdiv c.d2 24) (hq3:c.q3=Int.fdiv c.d3 24) (hr0:c.r0=zN (pk c.d0)) (hr1:c.r1=zN (pk c.d1)) (hr2:c.r2=zN (pk c.d2)) (hr3:c.r3=zN (pk c.d3)) (hcn:c.n=s.heap.objs.size) (hct:c.t=s.toks)
  (gn4:s.heap.get? p.n=some (fr W.w.params [])) (g34:s.heap.get? (p.n+3)=some (cel (some (.ref (p.n+10))))) (g44:s.heap.get? (p.n+4)=some (cel none)) (g54:s.heap.get? (p.n+5)=some (cel none)) (g64:s.heap.get? (p.n+6)=some (cel none)) (gd4:s.heap.get? (p.n+10)=some (drl c)) {t0:Nat} (gnl:s.heap.get? c.nl=some (lst (NM.nameVals t0 namesL 1) 0)) (h1:p.n+12≤c.nl) :
  Mean W A R P (oCc (b0 kt W p a b)) (oMd (b0 kt W p a b)) (oK (b0 kt W p a b) (.ok (.ret (.ref c.nl)))) s:=by
 have dA:A.depth+60<1000:=by omega
 have hm:∀{q r x:Int},q=Int.fdiv x 24→r=zN (pk x)→r=Int.fmod q 48:=fun h h'=>by rw[h,h']; exact(pk_eq _).symm
 have hnc:c.nl<c.n:=by rw[hcn]; exact Heap.lt_size gnl
 have C5:=Cur.of2 (M:=[(p.n,fr W.w.params []),(p.n+3,cel (some (.ref (p.n+10)))),(p.n+4,cel none),(p.n+5,cel none),(p.n+10,drl c)]) B5 (fc gn4 (fc g34 (fc g44 (fc g54 (fc gd4 fz)))))
  (by show List.Nodup (α:=Nat) [p.n,p.n+3,p.n+4,p.n+5,p.n+10]; trivial) (fc hn (fc (show 160≤p.n+3 by omega) (fc (show 160≤p.n+4 by omega) (fc (show 160≤p.n+5 by omega) (fc (show 160≤p.n+10 by omega) fz)))))
 refine C5.startP hcn hct (o:=b1 kt W p a b c) rfl (E.lw 19 W p a b).own hA dA (C5.stop (E.lw 20 W p a b c) hA noV (fc (mod48_ok (hm hq3 hr3)) (fc (fd24_ok hq3) (fc (mod48_ok (hm hq2 hr2)) (fc (fd24_ok hq2) (fc (mod48_ok (hm hq1 hr1)) (fc (fd24_ok hq1) (fc (mod48_ok (hm hq0 hr0)) (fc (fd24_ok hq0) fz)))))))) rfl ?_)
 intro s6 A6 C6 _ F6 hA6 hd6 _
 have gn6:=C6.ix 0 (p.n,fr W.w.params []) rfl
 have g36:=C6.ix 1 (p.n+3,cel (some (.ref (p.n+10)))) rfl
 have g46:=C6.ix 2 (p.n+4,cel (some (.ref c.nl))) rfl
 have g56:=C6.ix 3 (p.n+5,cel (some (.ref (c.n+1)))) rfl
 have gd6:=C6.ix 4 (p.n+10,drl c) rfl
 have gk6:=C6.ix 5 (c.n+1,pkl c) rfl
 have gr6:=C6.ix 6 (c.n+5,lst [.int 0 (c.t+20),.int 1 (c.t+21),.int 2 (c.t+22),.int 3 (c.t+23)] 0) rfl
 have k6:∀{y:Nat} {o:Obj},y≠p.n→y≠p.n+3→y≠p.n+4→y≠p.n+5→y≠p.n+10→s.heap.get? y=some o→s6.heap.get? y=some o:=fun {y o} a1 a2 a3 a4 a5 h=>F6.keep _ _ h (by show y∉([p.n,p.n+3,p.n+4,p.n+5,p.n+10]:List Nat); exact nmq (fc (by omega) (fc (by omega) (fc (by omega) (fc (by omega) (fc (by omega) fz))))))
 have P6:Fut [] [] s0 s6:=P4.join F6 (fc (.inl (by rw[←hpn]; exact nR _)) (fc (.inl (by rw[←hpn]; exact lU _ 3)) (fc (.inl (by rw[←hpn]; exact lU _ 4)) (fc (.inl (by rw[←hpn]; exact lU _ 5)) (fc (.inl (by rw[←hpn]; exact lU _ 10)) fz)))))
 refine JO.j_spec E.jo C6.B hA6 (by omega) (show 160≤c.n+5 by omega) (show 160≤p.n+10 by omega) (by show c.n+5≠p.n+10; omega) gr6 gd6 ?_
 intro s7 (y:Nat) F7 HN
 have k7:∀{y:Nat} {o:Obj},s6.heap.get? y=some o→s7.heap.get? y=some o:=fun h=>F7.keep _ _ h (fun h=>nomatch h)
 exact stage_2 E hR hA hd hu (facts (ddOf c)) hpn hn (P6.trans F7) T1 T2 (C6.B.fut F7 fz) hr0 hr1 hr2 hr3 (k7 gn6) (k7 g36) (k7 g46) (k7 g56) (k7 (k6 (by omega) (by omega) (by omega) (by omega) (by omega) g64)) (k7 gd6) (k7 gk6) (k7 (k6 (by omega) (by omega) (by omega) (by omega) (by omega) gnl)) h1 hnc HN
set_option maxHeartbeats 4000000 in
theorem law_spec(E:AllEvs kt)(hR:∀s',Don kt W s s'→R (.ok (.ret (.bool true))) s')(hA:A.handled=none)(hd:A.depth+500<1000)(hu:A.units+20<cLine){a:VA}(B:Base kt W s.heap)(T1:I2.T51 kt W s.heap)(T2:D2.T58 kt W s.heap)
  (gs:s.heap.get? 159=some (lst a.sv a.se)) (hi:intsOf a.sv=some xs) (hsl:a.sv.length≤64):codeAny W.M A (.call (.ref 158) ⟨[.ref 159],[]⟩) R s:=by
 have dA:A.depth+60<1000:=by omega
 obtain⟨p,hpn,hpt⟩:∃p:Pr,p.n=s.heap.objs.size∧p.t=s.toks:=⟨⟨_,_⟩,rfl,rfl⟩
 have hn:160≤p.n:=by rw[hpn]; exact B.sz
 have C0:=Cur.of (M:=[(159,lst a.sv a.se)]) B (fc gs fz) (by simp[ks]) (fc (.inr (.inr rfl)) fz)
 obtain⟨e0,e0'⟩:=And.intro (E.lw 0 W p a.sv a.se) (E.lw 1 W p a.sv a.se)
 refine Cur.startFo C0 hpn hpt (o:=a0 kt W p a.sv a.se) rfl hA dA (by decide) (C0.stop e0 hA noV noE rfl ?_)
 rw[e0']
 intro s₁ A1 C1 _ F1 hA1 hd1 ke0
 have gs1:=C1.ix 0 (159,lst a.sv a.se) rfl
 have gn1:=C1.ix 1 (p.n,fr W.w.params []) rfl
 have g11:=C1.ix 2 (p.n+1,cel (some (.ref 159))) rfl
 have g21:=C1.ix 3 (p.n+2,cel (some (.ref (p.n+7)))) rfl
 have g31:=C1.ix 4 (p.n+3,cel none) rfl
 have g41:=C1.ix 5 (p.n+4,cel none) rfl
 have g51:=C1.ix 6 (p.n+5,cel none) rfl
 have g61:=C1.ix 7 (p.n+6,cel none) rfl
 have g71:=C1.ix 8 (p.n+7,firstL p) rfl
 have g91:=C1.ix 9 (p.n+9,rgi 0 4 1) rfl
 have g101:=C1.ix 10 (p.n+10,lst [] 0) rfl
 have g111:=C1.ix 11 (p.n+11,frX W 107 none) rfl
 have P1:Fut [] [] s s₁:=(Fut.refl s).join F1 (fc (.inr (by rw[gs1,gs])) fz)
 have C1':=Cur.of2 (M:=[(p.n+9,rgi 0 4 1)]) C1.B (fc g91 fz) (pc fz .nil) (fc (show 160≤p.n+9 by omega) fz)
 refine code_of_mean (P:=fun _ _=>False) (C1'.startC hA1 (by omega) (C1'.again (E.lw 2 W p s₁.heap.objs.size s₁.toks) noV noE rfl ?_))
 intro s2 C2 _ F2
 have g92:=C2.ix 0 (p.n+9,rgi 0 4 1) rfl
 have k2:∀{y:Nat} {o:Obj},y≠p.n+9→s₁.heap.get? y=some o→s2.heap.get? y=some o:=fun {y o} hy h=>F2.keep _ _ h (by show y∉([p.n+9]:List Nat); exact nmq (fc (by omega) fz))
 have P2:Fut [] [] s s2:=P1.join F2 (fc (.inl (by rw[←hpn]; exact lU _ 9)) fz)
 have hsz2:p.n+12≤s2.heap.objs.size:=by have h0:p.n+11<s₁.heap.objs.size:=Heap.lt_size g111; have h1:=F2.size; omega
 refine gloop E.lw hn hi hsl hA1 (by omega) 4 (j:=0) (st:=none) (ys:=[]) rfl (fun h=>nomatch h) C2.B hsz2 (k2 (by omega) g11) (k2 (by omega) g21) (k2 (by omega) g71) (k2 (y:=159) (by omega) gs1) g92 (k2 (by omega) g101) (k2 (by omega) g111) rfl rfl ?_
 intro s3 vs de zz ys B3 F3 gd3 g113 hys hyl
 have k3:∀{y:Nat} {o:Obj},y<p.n+9→s₁.heap.get? y=some o→s3.heap.get? y=some o:=fun {y o} hy h=>F3.keep _ _ (k2 (by omega) h) (by show y∉([p.n+9,p.n+10,p.n+11]:List Nat); exact nmq (fc (by omega) (fc (by omega) (fc (by omega) fz))))
 have P3:Fut [] [] s s3:=P2.join F3 (fc (.inl (by rw[←hpn]; exact lU _ 9)) (fc (.inl (by rw[←hpn]; exact lU _ 10)) (fc (.inl (by rw[←hpn]; exact lU _ 11)) fz)))
 obtain⟨d0,u0,d1,u1,d2,u2,d3,u3,hvs,_⟩:=four hys hyl
 subst hvs
 obtain⟨k0,k,tk⟩:=zz
 obtain⟨b,b1',b2',b3',hbn,hbt⟩:∃b:VB,b.k0=k0∧b.k=k∧b.tk=tk∧b.n=s3.heap.objs.size∧b.t=s3.toks:=⟨⟨_,_,_,_,_⟩,rfl,rfl,rfl,rfl,rfl⟩
 subst b1' b2' b3'
 have C3:=Cur.of2 (M:=[(p.n,fr W.w.params []),(p.n+3,cel none),(p.n+4,cel none),(p.n+5,cel none),(p.n+6,cel none),(p.n+11,kK W 107 b.k0 b.k b.tk)]) B3 (fc (k3 (by omega) gn1) (fc (k3 (by omega) g31) (fc (k3 (by omega) g41) (fc (k3 (by omega) g51) (fc (k3 (by omega) g61) (fc g113 fz))))))
  (by show List.Nodup (α:=Nat) [p.n,p.n+3,p.n+4,p.n+5,p.n+6,p.n+11]; trivial) (fc hn (fc (show 160≤p.n+3 by omega) (fc (show 160≤p.n+4 by omega) (fc (show 160≤p.n+5 by omega) (fc (show 160≤p.n+6 by omega) (fc (show 160≤p.n+11 by omega) fz))))))
 refine C3.startP hbn hbt (o:=b0 kt W p a b) rfl ke0 hA dA (C3.stop (E.lw 19 W p a b) hA noV noE rfl ?_)
 intro s4 A4 C4 _ F4 hA4 hd4 _
 have gn4:=C4.ix 0 (p.n,fr W.w.params []) rfl
 have g34:=C4.ix 1 (p.n+3,cel (some (.ref (p.n+10)))) rfl
 have g44:=C4.ix 2 (p.n+4,cel none) rfl
 have g54:=C4.ix 3 (p.n+5,cel none) rfl
 have g64:=C4.ix 4 (p.n+6,cel none) rfl
 have gd4:=F4.keep _ _ gd3 (by show p.n+10∉([p.n,p.n+3,p.n+4,p.n+5,p.n+6,p.n+11]:List Nat); simp)
 have P4:Fut [] [] s s4:=P3.join F4 (fc (.inl (by rw[←hpn]; exact nR _)) (fc (.inl (by rw[←hpn]; exact lU _ 3)) (fc (.inl (by rw[←hpn]; exact lU _ 4)) (fc (.inl (by rw[←hpn]; exact lU _ 5)) (fc (.inl (by rw[←hpn]; exact lU _ 6)) (fc (.inl (by rw[←hpn]; exact lU _ 11)) fz))))))
 have hsz4:p.n+12≤s4.heap.objs.size:=by have h0:p.n+11<s3.heap.objs.size:=Heap.lt_size g113; have h1:=F4.size; omega
 refine NM.n_spec E.nm C4.B hA4 (by omega) ?_
 intro s5 (nl:Nat) F5 hnl gnl
 have k5:∀{y:Nat} {o:Obj},s4.heap.get? y=some o→s5.heap.get? y=some o:=fun h=>F5.keep _ _ h (fun h=>nomatch h)
 have B5:=C4.B.fut F5 fz
 exact stage_1 E (c:={nl:=nl,d0:=d0,u0:=u0,d1:=d1,u1:=u1,d2:=d2,u2:=u2,d3:=d3,u3:=u3,de:=de,q0:=Int.fdiv d0 24,q1:=Int.fdiv d1 24,q2:=Int.fdiv d2 24,q3:=Int.fdiv d3 24,r0:=zN (pk d0),r1:=zN (pk d1),r2:=zN (pk d2),r3:=zN (pk d3),n:=s5.heap.objs.size,t:=s5.toks}) hR hA hd hu hpn hn (P4.trans F5) T1 T2 B5 rfl rfl rfl rfl rfl rfl rfl rfl rfl rfl (k5 gn4) (k5 g34) (k5 g44) (k5 g54) (k5 g64) (k5 gd4) gnl (nT hsz4 hnl)
end
end LW
noncomputable def tabOf(t:KT)(c:Nat):Option Value:=match t.get c with
 | some o=>(match o.data with|.fields vs=>vs[11]?|_=>none)
 | none=>none
noncomputable def clsOf(t:KT)(c:Nat):Value:=match t.get c with
 | some o=>o.cls
 | none=>.none
structure EvTab(kt:Params→KT):Prop where
 a:∀w,tabOf (kt w) 55=some (.ref 51)
 b:∀w,clsOf (kt w) 55=.type "code"
 c:∀w,tabOf (kt w) 62=some (.ref 58)
 d:∀w,clsOf (kt w) 62=.type "code"
 e:∀w,(kt w).get 51=some ⟨.none,none,.fields #[],#[]⟩
 f:∀w,(kt w).get 58=some ⟨.none,none,.fields #[],#[]⟩
theorem code_table{h:Heap}{t:KT}(H:KT.Holds h 1 0 t){c P:Nat}(h1:tabOf t c=some (.ref P))(h2:clsOf t c=.type "code"):isCodeTable h P:=by
 unfold tabOf at h1
 unfold clsOf at h2
 cases e:t.get c with
 | none=>rw[e]at h1; cases h1
 | some o =>
  rw[e]at h1 h2
  dsimp only at h1 h2
  split at h1
  ·rename_i vs hd
   exact⟨c,o,vs,kt_at H e,h2,hd,h1⟩
  ·cases h1
theorem ints_of(h:IntsAre vs xs):intsOf vs=some xs:=by
 induction h with
 | nil=>rfl
 | cons n t _ ih=>show Option.map _ _=_; rw[ih]; rfl
section
theorem base_of(H:KT.Holds s.heap 1 0 (kt W.w.params))(hsz:s.heap.objs.size=160):Base kt W s.heap:=by
 have h0:∀a o,kt1 kt W.w.params a=some o→s.heap.get? a=some o:=fun a o e=>by
  unfold kt1 at e
  split at e
  ·cases e
  ·split at e
   ·cases e
   ·split at e
    ·cases e
    ·exact kt_at H e
 exact⟨h0,fun a o e=>hsz▸Heap.lt_size (h0 a o e),Nat.le_of_eq hsz.symm⟩
theorem don_old(T:EvTab kt)(H:KT.Holds s.heap 1 0 (kt W.w.params))(D:LW.Don kt W s s'):OldK s.heap s'.heap:=by
 have q:∀{P:Nat} {o:Obj} (x:Array Value),(kt W.w.params).get P=some ⟨.none,none,.fields #[],#[]⟩→isCodeTable s.heap P→s.heap.get? P=some o→s'.heap.get? P=some ⟨.none,none,.fields x,#[]⟩→asItWas s.heap s'.heap P o:=fun {P o} x e t g g'=>by
  have z:=kt_at H e
  rw[g]at z
  cases z
  exact .inr (.inl ⟨t,rfl,#[],x,rfl,by rw[g',Array.empty_append]⟩)
 have old:∀b o,s.heap.get? b=some o→asItWas s.heap s'.heap b o:=fun b o g=>by
  by_cases h1:b=51
  ·subst h1
   rcases D.a with h|⟨c,h⟩
   ·refine q #[] (T.e _) (code_table H (T.a _) (T.b _)) g ?_
    rw[h,I2.tb,T.e]
   ·exact q _ (T.e _) (code_table H (T.a _) (T.b _)) g h
  ·by_cases h2:b=58
   ·subst h2
    rcases D.b with h|⟨c,h⟩
    ·refine q #[] (T.f _) (code_table H (T.c _) (T.d _)) g ?_
     rw[h,I2.tb,T.f]
    ·exact q _ (T.f _) (code_table H (T.c _) (T.d _)) g h
   ·exact .inl (D.f.keep b o g (by simp only[mc,nn,or_false,not_or]; exact⟨h1,h2⟩))
 refine⟨old,fun b o g=>?_⟩
 have h1:=Heap.lt_size g
 have h2:=D.f.size
 cases e:s'.heap.get? b with
 | some x=>exact⟨x,rfl⟩
 | none =>
  rcases old b o g with h|⟨_,_,_,_,_,h⟩|⟨_,_,⟨_,_,_,h,_⟩,_⟩<;>(rw[e]at h; cases h)
theorem law_fin(E:AllEvs kt)(T:EvTab kt){c:ClaimW}{cl:Str→Option Addr}{mean:ExcName→Option Value}{args:List WData}{its:List Value}(H:KT.Holds s.heap 1 0 (kt W.w.params))(hsz:s.heap.objs.size=160)(hg:s.gens=#[])
  (hl:s.heap.get? 159=some {cls:=.type "list",data:=.seq ⟨its⟩}) (hi:IntsAre its xs) (hlen:its.length≤64) (hr:∀cls,c.raises args cls=false) (hp:c.post args (.bool true) args=true) :
  wpAny W.M callerA (call (.ref 158) [.ref 159]) (fun v s'=>GoodWG c cl mean args s (.ok (.ret v)) s') (fun e s'=>GoodWG c cl mean args s (.error e) s') s:=by
 refine enter_call (LW.law_spec (a:=⟨its,0⟩) E ?_ rfl (by decide) (by decide) (base_of H hsz) ?_ ?_ hl (ints_of hi) hlen)
 ·intro s' D
  exact⟨.inl ⟨.bool true,.bool true,[],rfl,hr,.bool true,hp,fun _=>⟨.nil,fun _ h=>nomatch h⟩⟩,don_old T H D,D.f.os,D.f.bare (by rw[hg]; exact AllBare.empty)⟩
 ·exact .inl (by rw[kt_at H (T.e _),I2.tb,T.e])
 ·exact .inl (by rw[kt_at H (T.f _),I2.tb,T.f])
end
theorem law_fin'(E:AllEvs kt)(T:EvTab kt)(w:World){c:ClaimW}{cl:Str→Option Addr}{mean:ExcName→Option Value}{args:List WData}{its:List Value}(H:KT.Holds s.heap 1 0 (kt w.params))(hsz:s.heap.objs.size=160)(hg:s.gens=#[])
  (hl:s.heap.get? 159=some {cls:=.type "list",data:=.seq ⟨its⟩}) (hi:IntsAre its xs) (hlen:its.length≤64) (hr:∀cls,c.raises args cls=false) (hp:c.post args (.bool true) args=true) :
  wpAny (model PW w) callerA (call (.ref 158) [.ref 159]) (fun v s'=>GoodWG c cl mean args s (.ok (.ret v)) s') (fun e s'=>GoodWG c cl mean args s (.error e) s') s:=by
 obtain⟨b1,b2,hw⟩:=wB_eq w
 have h:=law_fin (W:=⟨b1,b2,w⟩) (cl:=cl) (mean:=mean) E T (by show KT.Holds s.heap 1 0 (kt (wB b1 b2 w).params); rw[hw]; exact H) hsz hg hl hi hlen hr hp
 unfold Wd.M Wd.w at h
 rw[hw]at h
 exact h
theorem W2{P:Wd→Prop}(h:∀b w,P ⟨false,b,w⟩)(h':∀b w,P ⟨true,b,w⟩):∀W,P W
|⟨false,b,w⟩=>h b w
|⟨true,b,w⟩=>h' b w
theorem W4{P:Wd→Prop}(h1:∀w,P ⟨false,false,w⟩)(h2:∀w,P ⟨false,true,w⟩)(h3:∀w,P ⟨true,false,w⟩)(h4:∀w,P ⟨true,true,w⟩):∀W,P W
|⟨false,false,w⟩=>h1 w
|⟨false,true,w⟩=>h2 w
|⟨true,false,w⟩=>h3 w
|⟨true,true,w⟩=>h4 w
noncomputable def bl(n:Nat):List Nat:=Nat.rec (motive:=fun _=>Nat→List Nat) (fun _=>[]) (fun _ r n=>cond (Nat.beq n 0) [] (Nat.sub (Nat.mod n 32) 1::r (Nat.div n 32))) 40 n
noncomputable def σ n:=sT (bl n)
noncomputable def ρ n:=rT (bl n)
noncomputable def α n:=aT (bl n)
noncomputable def η n:=G.hT (bl n)
noncomputable def υ n:=G.yT (bl n)
noncomputable def zz{A B C D F G H I J T:Type}(f:(Params→KT)→Wd→A→B→C→D→F→G→H→I→J→Bool→T):(Params→KT)→Wd→Bool→A→B→C→D→F→G→H→I→J→T:=fun k W z a b c d e g h i j=>f k W a b c d e g h i j z
theorem wi{β T:Type}{k:Params→KT}{E:(Params→KT)→Wd→Prop}(q:Out→β)(g:(Params→KT)→Wd→T)(l:Tl T)(h:∀b w,RT q l (g k ⟨false,b,w⟩)=E k ⟨false,b,w⟩)(i:∀b w,RT q l (g k ⟨true,b,w⟩)=E k ⟨true,b,w⟩):∀W,E k W:=W2 (fun b w=>RT.to (h b w)) fun b w=>RT.to (i b w)
theorem wj{β T:Type}{k:Params→KT}{E:(Params→KT)→Wd→Prop}(q:Out→β)(g:(Params→KT)→Wd→T)(l:Tl T)(h:∀w,RT q l (g k ⟨false,false,w⟩)=E k ⟨false,false,w⟩)(i:∀w,RT q l (g k ⟨false,true,w⟩)=E k ⟨false,true,w⟩)(j:∀w,RT q l (g k ⟨true,false,w⟩)=E k ⟨true,false,w⟩)(m:∀w,RT q l (g k ⟨true,true,w⟩)=E k ⟨true,true,w⟩):∀W,E k W:=W4 (fun w=>RT.to (h w)) (fun w=>RT.to (i w)) (fun w=>RT.to (j w)) fun w=>RT.to (m w)
theorem wl{β T:Type}{k:Params→KT}{E:(Params→KT)→Wd→Bool→Prop}(q:Out→β)(g:(Params→KT)→Wd→Bool→T)(l:Tl T)(h1:∀w,RT q l (g k ⟨false,false,w⟩ false)=E k ⟨false,false,w⟩ false)(h2:∀w,RT q l (g k ⟨false,true,w⟩ false)=E k ⟨false,true,w⟩ false)(h3:∀w,RT q l (g k ⟨true,false,w⟩ false)=E k ⟨true,false,w⟩ false)(h4:∀w,RT q l (g k ⟨true,true,w⟩ false)=E k ⟨true,true,w⟩ false)(h5:∀w,RT q l (g k ⟨false,false,w⟩ true)=E k ⟨false,false,w⟩ true)(h6:∀w,RT q l (g k ⟨false,true,w⟩ true)=E k ⟨false,true,w⟩ true)(h7:∀w,RT q l (g k ⟨true,false,w⟩ true)=E k ⟨true,false,w⟩ true)(h8:∀w,RT q l (g k ⟨true,true,w⟩ true)=E k ⟨true,true,w⟩ true):∀W z,E k W z:=W4 (fun w z=>z.casesOn (RT.to (h1 w)) (RT.to (h5 w))) (fun w z=>z.casesOn (RT.to (h2 w)) (RT.to (h6 w))) (fun w z=>z.casesOn (RT.to (h3 w)) (RT.to (h7 w))) fun w z=>z.casesOn (RT.to (h4 w)) (RT.to (h8 w))
def hz.tw10011936574200380524:=()
def hz.tw10429964199007535093:=()
def hz.tw11431449822135777752:=()
def hz.tw11734811781773190075:=()
def hz.tw12026615869061748521:=()
def hz.tw12243813535450605829:=()
def hz.tw12243863119443182570:=()
def hz.tw12422956096502714686:=()
def hz.tw12537076168424602934:=()
def hz.tw12889292429399208485:=()
def hz.tw12949575160307607212:=()
def hz.tw1348579817310203780:=()
def hz.tw13878532445217489311:=()
def hz.tw14427049361215030059:=()
def hz.tw15083213975239214892:=()
def hz.tw15387721044037775960:=()
def hz.tw15977225901236580816:=()
def hz.tw16058174383728102681:=()
def hz.tw16336241826912422431:=()
def hz.tw16403379571072905632:=()
def hz.tw16678417148349961741:=()
def hz.tw17289214970197588629:=()
def hz.tw17336787870679972960:=()
def hz.tw18101952642836395803:=()
def hz.tw18275973383194340182:=()
def hz.tw18353837732718769323:=()
def hz.tw1843691011253267837:=()
def hz.tw2351651644213134532:=()
def hz.tw2735408733951555682:=()
def hz.tw283924794178822991:=()
def hz.tw2866511949439093822:=()
def hz.tw3035833193185932268:=()
def hz.tw3241644412236857243:=()
def hz.tw3244810641497281152:=()
def hz.tw3308944040850845675:=()
def hz.tw3866912275884586916:=()
def hz.tw4138072296964461924:=()
def hz.tw5426572545804147340:=()
def hz.tw5983384639392768185:=()
def hz.tw6073149709941262:=()
def hz.tw6351503914634206963:=()
def hz.tw6484360232018580986:=()
def hz.tw6488168231913567413:=()
def hz.tw6513563213138905442:=()
def hz.tw6536652001705934272:=()
def hz.tw6547881312587685268:=()
def hz.tw6815260252694338854:=()
def hz.tw6916295809870778795:=()
def hz.tw7292638865201871724:=()
def hz.tw7342327400295742078:=()
def hz.tw7522276795032988519:=()
def hz.tw7581611560446312768:=()
def hz.tw8071325310934243323:=()
def hz.tw8181499813402541781:=()
def hz.tw8325386420962135856:=()
def hz.tw8348228568092318468:=()
def hz.tw8474768708940959635:=()
def hz.tw8795904624217240779:=()
def hz.tw884294898191101139:=()
def hz.tw8922283810728388834:=()
def hz.tw9212775196730583795:=()
def hz.tw9312398208610183486:=()
def hz.tw9522179005506629375:=()
def hz.tw9832355078031445292:=()
def hz.tw9977432576754884351:=()
def hz.tw10376914799648770077:=()
def hz.tw11102210183543840693:=()
def hz.tw11636545708907027534:=()
def hz.tw11637980697160806172:=()
def hz.tw12217044404746306352:=()
def hz.tw12417218475073272023:=()
def hz.tw1276601005280744188:=()
def hz.tw127787159517518172:=()
def hz.tw13582577659026152150:=()
def hz.tw13894300413010625741:=()
def hz.tw14909641694730708060:=()
def hz.tw14980781988707968391:=()
def hz.tw15330307914526905628:=()
def hz.tw15515822057964068529:=()
def hz.tw15519220644514134138:=()
def hz.tw16091905027501915528:=()
def hz.tw16320588737591904912:=()
def hz.tw16491528905970655270:=()
def hz.tw16613041427441902681:=()
def hz.tw18087598807881938102:=()
def hz.tw2374504171192738094:=()
def hz.tw2578749361337394626:=()
def hz.tw2995937540042053572:=()
def hz.tw3570518314566901741:=()
def hz.tw3571565338881310677:=()
def hz.tw3845801171090181143:=()
def hz.tw3935123628777661278:=()
def hz.tw4040738756098620657:=()
def hz.tw4440841912875040222:=()
def hz.tw474063633273619114:=()
def hz.tw5889664759048283243:=()
def hz.tw5969150300567819328:=()
def hz.tw6594938028320055650:=()
def hz.tw7842207077309364795:=()
def hz.tw8527801573402709496:=()
def hz.tw9610899198048981344:=()
def hz.tw9794738938147840311:=()
section
open PySem.W.ZRun
set_option maxHeartbeats 0
set_option Elab.async true
theorem hz:PySem.Challenge.rw_rs0195_01.Holds:=by
 w_on; o_law; z_head; (case hw => w_witness2)
 have ZlH2:nF (LW.LH.drop 2) hz.ktop_1_356:=by open LW in grind [show nF (LW.LH.drop 2) hz.ktop_1_356 from by(refine nc (wl (ρ 0) (zz yB) ?_ ?_ ?_ ?_ ?_ ?_ ?_ ?_ ?_) nz<;>first|(intros;kernel_rfl)|(intros;repeat constructor))]
 have ZlH1:nF (LW.LH.drop 1) hz.ktop_1_356:=by open LW in grind [show nF (LW.LH.drop 1) hz.ktop_1_356 from by(refine nc (wl (σ 0) (zz xB) ?_ ?_ ?_ ?_ ?_ ?_ ?_ ?_ ?_) ZlH2<;>first|(intros;kernel_rfl)|(intros;repeat constructor))]
 have ZlH:nF LW.LH hz.ktop_1_356:=by open LW in grind [show nF LW.LH hz.ktop_1_356 from by(refine nc (wl (ρ 0) (zz yA) ?_ ?_ ?_ ?_ ?_ ?_ ?_ ?_ ?_) ZlH1<;>first|(intros;kernel_rfl)|(intros;repeat constructor))]
 have ZlG2:nF (LW.LG.drop 2) hz.ktop_1_356:=by open LW in grind [show nF (LW.LG.drop 2) hz.ktop_1_356 from by(refine nc (wl (σ 0) (zz xA) ?_ ?_ ?_ ?_ ?_ ?_ ?_ ?_ ?_) ZlH<;>first|(intros;kernel_rfl)|(intros;repeat constructor))]
 have ZlG1:nF (LW.LG.drop 1) hz.ktop_1_356:=by open LW in grind [show nF (LW.LG.drop 1) hz.ktop_1_356 from by(refine nc (wl (ρ 0) (zz rE) ?_ ?_ ?_ ?_ ?_ ?_ ?_ ?_ ?_) ZlG2<;>first|(intros;kernel_rfl)|(intros;repeat constructor))]
 have ZlG:nF LW.LG hz.ktop_1_356:=by open LW in grind [show nF LW.LG hz.ktop_1_356 from by(refine nc (wl (α 0x20c41) (zz rB) ?_ ?_ ?_ ?_ ?_ ?_ ?_ ?_ ?_) ZlG1<;>first|(intros;kernel_rfl)|(intros;repeat constructor))]
 have ZlF2:nF (LW.LF.drop 2) hz.ktop_1_356:=by open LW in grind [show nF (LW.LF.drop 2) hz.ktop_1_356 from by(refine nc (wl (α 0x20c41) (zz rA) ?_ ?_ ?_ ?_ ?_ ?_ ?_ ?_ ?_) ZlG<;>first|(intros;kernel_rfl)|(intros;repeat constructor))]
 have ZlF1:nF (LW.LF.drop 1) hz.ktop_1_356:=by open LW in grind [show nF (LW.LF.drop 1) hz.ktop_1_356 from by(refine nc (wl (α 1) (zz r0) ?_ ?_ ?_ ?_ ?_ ?_ ?_ ?_ ?_) ZlF2<;>first|(intros;kernel_rfl)|(intros;repeat constructor))]
 have ZlF:nF LW.LF hz.ktop_1_356:=by open LW in grind [show nF LW.LF hz.ktop_1_356 from by(refine nc (wl (σ 0x520c41) (zz bE) ?_ ?_ ?_ ?_ ?_ ?_ ?_ ?_ ?_) ZlF1<;>first|(intros;kernel_rfl)|(intros;repeat constructor))]
 have ZlE2:nF (LW.LE.drop 2) hz.ktop_1_356:=by open LW in grind [show nF (LW.LE.drop 2) hz.ktop_1_356 from by(refine nc (wl oMd (zz bD) ?_ ?_ ?_ ?_ ?_ ?_ ?_ ?_ ?_) ZlF<;>first|(intros;kernel_rfl)|(intros;repeat constructor))]
 have ZlE1:nF (LW.LE.drop 1) hz.ktop_1_356:=by open LW in grind [show nF (LW.LE.drop 1) hz.ktop_1_356 from by(refine nc (wl (η 0x831481) (zz bD) ?_ ?_ ?_ ?_ ?_ ?_ ?_ ?_ ?_) ZlE2<;>first|(intros;kernel_rfl)|(intros;repeat constructor))]
 have ZlE:nF LW.LE hz.ktop_1_356:=by open LW in grind [show nF LW.LE hz.ktop_1_356 from by(refine nc (wl (σ 1) (zz bC) ?_ ?_ ?_ ?_ ?_ ?_ ?_ ?_ ?_) ZlE1<;>first|(intros;kernel_rfl)|(intros;repeat constructor))]
 have ZlD1:nF (LW.LD.drop 1) hz.ktop_1_356:=by open LW in grind [show nF (LW.LD.drop 1) hz.ktop_1_356 from by(refine nc (wl (σ 0x520c41) (zz bB) ?_ ?_ ?_ ?_ ?_ ?_ ?_ ?_ ?_) ZlE<;>first|(intros;kernel_rfl)|(intros;repeat constructor))]
 have ZlD:nF LW.LD hz.ktop_1_356:=by open LW in grind [show nF LW.LD hz.ktop_1_356 from by(refine nc (wl (σ 1) (zz bA) ?_ ?_ ?_ ?_ ?_ ?_ ?_ ?_ ?_) ZlD1<;>first|(intros;kernel_rfl)|(intros;repeat constructor))]
 have ZlC2:nF (LW.LC.drop 2) hz.ktop_1_356:=by open LW in grind [show nF (LW.LC.drop 2) hz.ktop_1_356 from by(refine nc (wj (σ 0x520c41) b90 ?_ ?_ ?_ ?_ ?_) (nc (wj (σ 0x520c41) b91 ?_ ?_ ?_ ?_ ?_) ZlD)<;>first|(intros;kernel_rfl)|(intros;repeat constructor))]
 have ZlC:nF LW.LC hz.ktop_1_356:=by open LW in grind [show nF LW.LC hz.ktop_1_356 from by(refine nc (wj (σ 3137) b7 ?_ ?_ ?_ ?_ ?_) (nc (wj (σ 0x620c41) b8 ?_ ?_ ?_ ?_ ?_) ZlC2)<;>first|(intros;kernel_rfl)|(intros;repeat constructor))]
 have ZlB3:nF (LW.LB.drop 3) hz.ktop_1_356:=by open LW in grind [show nF (LW.LB.drop 3) hz.ktop_1_356 from by(refine nc (wj (σ 0x941cc520c41) b4 ?_ ?_ ?_ ?_ ?_) (nc (wj (σ 0x941cc520c41) b5 ?_ ?_ ?_ ?_ ?_) (nc (wj (σ 2) b6 ?_ ?_ ?_ ?_ ?_) ZlC))<;>first|(intros;kernel_rfl)|(intros;repeat constructor))]
 have ZlB:nF LW.LB hz.ktop_1_356:=by open LW in grind [show nF LW.LB hz.ktop_1_356 from by(refine nc (wj (σ 0x2ce520c41) b1 ?_ ?_ ?_ ?_ ?_) (nc (wj (σ 0x16a49cc520c41) b2 ?_ ?_ ?_ ?_ ?_) (nc (wj (σ 0x941cc520c41) b3 ?_ ?_ ?_ ?_ ?_) ZlB3))<;>first|(intros;kernel_rfl)|(intros;repeat constructor))]
 have ZlA10:nF (LW.LA.drop 10) hz.ktop_1_356:=by open LW in grind [show nF (LW.LA.drop 10) hz.ktop_1_356 from by(refine nc (wi (σ 0) iAA ?_ ?_ ?_) (nc (wi (α 1) jAA ?_ ?_ ?_) (nc (wi (σ 0) iAB ?_ ?_ ?_) (nc (wi (α 1) jAB ?_ ?_ ?_) (nc (wi (σ 0) iBA ?_ ?_ ?_) (nc (wi (α 1) jBA ?_ ?_ ?_) (nc (wi (σ 0) iBB ?_ ?_ ?_) (nc (wi (α 1) jBB ?_ ?_ ?_) (nc (wi (ρ 0) gE ?_ ?_ ?_) (nc (wi (σ 0x520c41) b0 ?_ ?_ ?_) ZlB)))))))))<;>first|(intros;kernel_rfl)|(intros;repeat constructor))]
 have ZlA:nF LW.LA hz.ktop_1_356:=by open LW in grind [show nF LW.LA hz.ktop_1_356 from by(refine nc (wi (σ 0x6b16941cc520c41) a0 ?_ ?_ ?_) (nc (wi oC a0 ?_ ?_ ?_) (nc (wj (α 1) q0 ?_ ?_ ?_ ?_ ?_) (nc (wi (σ 0x16a4a0c520c41) gA ?_ ?_ ?_) (nc (wi oC gA ?_ ?_ ?_) (nc (wi (σ 0x16a4a0c520c41) gB ?_ ?_ ?_) (nc (wj (α 1) h0 ?_ ?_ ?_ ?_ ?_) (nc (wi (α 0x20c41) hA ?_ ?_ ?_) (nc (wi (α 0x20c41) hB ?_ ?_ ?_) (nc (wi (ρ 0) hE ?_ ?_ ?_) ZlA10)))))))))<;>first|(intros;kernel_rfl)|(intros;repeat constructor))]
 have ZtC13:nF (TR.LC.drop 13) hz.ktop_1_356:=by open TR in grind [show nF (TR.LC.drop 13) hz.ktop_1_356 from by(refine nc (wi (ρ 65) jE ?_ ?_ ?_) (nc (wi (σ 1) s4 ?_ ?_ ?_) (nc (wi (α 65) s5in ?_ ?_ ?_) (nc (wi (α 0x20c41) s5out ?_ ?_ ?_) (nc (wi (ρ 65) lE ?_ ?_ ?_) (nc (wi (α 0) s6A ?_ ?_ ?_) (nc (wi (α 0) s6B ?_ ?_ ?_) (nc (wi (α 0) s6C ?_ ?_ ?_) (nc (wi (ρ 1) mE ?_ ?_ ?_) (nc (wi (ρ 2) zA ?_ ?_ ?_) (nc (wi (ρ 2) zB ?_ ?_ ?_) (nc (wi (ρ 2) zC ?_ ?_ ?_) nz)))))))))))<;>first|(intros;kernel_rfl)|(intros;repeat constructor))]
 have ZtC:nF TR.LC hz.ktop_1_356:=by open TR in grind [show nF TR.LC hz.ktop_1_356 from by(refine nc (wi (α 65) s3AT ?_ ?_ ?_) (nc (wi (α 65) s3AF ?_ ?_ ?_) (nc (wi (α 65) s3BT ?_ ?_ ?_) (nc (wi (α 65) s3BF ?_ ?_ ?_) (nc (wi (α 65) s3CT ?_ ?_ ?_) (nc (wi (α 65) s3CF ?_ ?_ ?_) (nc (wi (σ 0x1cc520c41) l3 ?_ ?_ ?_) (nc (wi oC l3 ?_ ?_ ?_) (nc (wj (α 1) j0 ?_ ?_ ?_ ?_ ?_) (nc (wi (α 0x520c41) jAT ?_ ?_ ?_) (nc (wi (α 0x520c41) jAF ?_ ?_ ?_) (nc (wi (α 0x520c41) jBT ?_ ?_ ?_) (nc (wi (α 0x520c41) jBF ?_ ?_ ?_) ZtC13))))))))))))<;>first|(intros;kernel_rfl)|(intros;repeat constructor))]
 have ZtB8:nF (TR.LB.drop 8) hz.ktop_1_356:=by open TR in grind [show nF (TR.LB.drop 8) hz.ktop_1_356 from by(refine nc (wi (α 3137) s2BTF ?_ ?_ ?_) (nc (wi (α 3137) s2BFI ?_ ?_ ?_) (nc (wi (σ 3137) s2BFO ?_ ?_ ?_) (nc (wi (σ 0x20c41) s2CTT ?_ ?_ ?_) (nc (wi (α 3137) s2CTF ?_ ?_ ?_) (nc (wi (α 3137) s2CFI ?_ ?_ ?_) (nc (wi (σ 3137) s2CFO ?_ ?_ ?_) ZtC))))))<;>first|(intros;kernel_rfl)|(intros;repeat constructor))]
 have ZtB:nF TR.LB hz.ktop_1_356:=by open TR in grind [show nF TR.LB hz.ktop_1_356 from by(refine nc (wi (σ 1) s1A ?_ ?_ ?_) (nc (wi (σ 1) s1B ?_ ?_ ?_) (nc (wi (σ 1) s1C ?_ ?_ ?_) (nc (wi (σ 0x20c41) s2ATT ?_ ?_ ?_) (nc (wi (α 3137) s2ATF ?_ ?_ ?_) (nc (wi (α 3137) s2AFI ?_ ?_ ?_) (nc (wi (σ 3137) s2AFO ?_ ?_ ?_) (nc (wi (σ 0x20c41) s2BTT ?_ ?_ ?_) ZtB8)))))))<;>first|(intros;kernel_rfl)|(intros;repeat constructor))]
 have ZtA11:nF (TR.LA.drop 11) hz.ktop_1_356:=by open TR in grind [show nF (TR.LA.drop 11) hz.ktop_1_356 from by(refine nc (wi (α 97) m2AF ?_ ?_ ?_) (nc (wi (σ 6241) m2AT ?_ ?_ ?_) (nc (wi (α 97) m2BF ?_ ?_ ?_) (nc (wi (σ 6241) m2BT ?_ ?_ ?_) (nc (wi (α 97) m2CF ?_ ?_ ?_) (nc (wi (σ 6241) m2CT ?_ ?_ ?_) (nc (wi (α 0x20c41) wDin ?_ ?_ ?_) (nc (wi (α 0x520c41) wDout ?_ ?_ ?_) (nc (wi (α 0x20c41) wCin ?_ ?_ ?_) (nc (wi (α 0x520c41) wCout ?_ ?_ ?_) (nc (wi (ρ 0) wE ?_ ?_ ?_) ZtB))))))))))<;>first|(intros;kernel_rfl)|(intros;repeat constructor))]
 have ZtA:nF TR.LA hz.ktop_1_356:=by open TR in grind [show nF TR.LA hz.ktop_1_356 from by(refine nc (wi (σ 0x620c41) a0 ?_ ?_ ?_) (nc (wi (σ 0x20e620c41) m1A ?_ ?_ ?_) (nc (wi oC m1A ?_ ?_ ?_) (nc (wi (σ 0x20e620c41) m1B ?_ ?_ ?_) (nc (wi (σ 0x20e620c41) m1C ?_ ?_ ?_) (nc (wj (α 3137) q0 ?_ ?_ ?_ ?_ ?_) (nc (wi (α 0x20c41) qA1 ?_ ?_ ?_) (nc (wi (α 0x20c41) qA0 ?_ ?_ ?_) (nc (wi (α 0x20c41) qB1 ?_ ?_ ?_) (nc (wi (α 0x20c41) qB0 ?_ ?_ ?_) (nc (wi (ρ 0) qE ?_ ?_ ?_) ZtA11))))))))))<;>first|(intros;kernel_rfl)|(intros;repeat constructor))]
 have Znm:NM.Evs hz.ktop_1_356:=by open NM in grind [show NM.Evs hz.ktop_1_356 from by(refine nc (wi (ρ 2) n0 ?_ ?_ ?_) (nc (wi (ρ 0) m0 ?_ ?_ ?_) (nc (wj (ρ 0) m1 ?_ ?_ ?_ ?_ ?_) (nc (wj (ρ 0) m2 ?_ ?_ ?_ ?_ ?_) (nc (wj (ρ 0) m3 ?_ ?_ ?_ ?_ ?_) nz))))<;>first|(intros;kernel_rfl)|(intros;repeat constructor))]
 have Zre:RE.Evs hz.ktop_1_356:=by open RE in grind [show RE.Evs hz.ktop_1_356 from by(refine nc (wi (σ 65) a0 ?_ ?_ ?_) (nc (wi (ρ 65) wAF ?_ ?_ ?_) (nc (wi (σ 0x20c41) wAT ?_ ?_ ?_) (nc (wi (ρ 65) wBF ?_ ?_ ?_) (nc (wi (σ 0x20c41) wBT ?_ ?_ ?_) (nc (wi (ρ 65) wCF ?_ ?_ ?_) (nc (wi (σ 0x20c41) wCT ?_ ?_ ?_) (nc (wi (α 0xc520c41) fAno ?_ ?_ ?_) (nc (wi (α 0xc520c41) fAin ?_ ?_ ?_) (nc (wi (α 0xc520c41) fAnew ?_ ?_ ?_) (nc (wi (α 0xc520c41) fBno ?_ ?_ ?_) (nc (wi (α 0xc520c41) fBin ?_ ?_ ?_) (nc (wi (α 0xc520c41) fBnew ?_ ?_ ?_) (nc (wi (α 0xc520c41) fCno ?_ ?_ ?_) (nc (wi (α 0xc520c41) fCin ?_ ?_ ?_) (nc (wi (α 0xc520c41) fCnew ?_ ?_ ?_) (nc (wi (ρ 3137) fE ?_ ?_ ?_) (nc (wi (α 1) vAA ?_ ?_ ?_) (nc (wi (α 1) vAB ?_ ?_ ?_) (nc (wi (α 1) vAC ?_ ?_ ?_) (nc (wi (α 1) vBA ?_ ?_ ?_) (nc (wi (α 1) vBB ?_ ?_ ?_) (nc (wi (α 1) vBC ?_ ?_ ?_) (nc (wi (α 1) vCA ?_ ?_ ?_) (nc (wi (α 1) vCB ?_ ?_ ?_) (nc (wi (α 1) vCC ?_ ?_ ?_) (nc (wi (ρ 2) eA ?_ ?_ ?_) (nc (wi (ρ 2) eB ?_ ?_ ?_) (nc (wi (ρ 2) eC ?_ ?_ ?_) nz))))))))))))))))))))))))))))<;>first|(intros;kernel_rfl)|(intros;repeat constructor))]
 have Zjo14:nF (JO.LA.drop 14) hz.ktop_1_356:=by open JO in grind [show nF (JO.LA.drop 14) hz.ktop_1_356 from by(refine nc (wi (α 0x18720c41) uIRI11 ?_ ?_ ?_) (nc (wi (α 0x18720c41) uIIR00 ?_ ?_ ?_) (nc (wi (α 0x18720c41) uIIR01 ?_ ?_ ?_) (nc (wi (α 0x18720c41) uIIR10 ?_ ?_ ?_) (nc (wi (α 0x18720c41) uIIR11 ?_ ?_ ?_) (nc (wi (α 0x18720c41) uRI00 ?_ ?_ ?_) (nc (wi (α 0x18720c41) uRI01 ?_ ?_ ?_) (nc (wi (α 0x18720c41) uIR00 ?_ ?_ ?_) (nc (wi (α 0x18720c41) uIR01 ?_ ?_ ?_) (nc (wi (α 0x18720c41) uRR00 ?_ ?_ ?_) (nc (wi (α 0x18720c41) uRR01 ?_ ?_ ?_) (nc (wi (ρ 1) z0 ?_ ?_ ?_) (nc (wi (ρ 0) z1 ?_ ?_ ?_) nz))))))))))))<;>first|(intros;kernel_rfl)|(intros;repeat constructor))]
 have Zjo:JO.Evs hz.ktop_1_356:=by open JO in grind [show JO.Evs hz.ktop_1_356 from by(refine nc (wi (σ 97) a0 ?_ ?_ ?_) (nc (wi (α 0x18720c41) uIIII00 ?_ ?_ ?_) (nc (wi (α 0x18720c41) uIIII01 ?_ ?_ ?_) (nc (wi (α 0x18720c41) uIIII10 ?_ ?_ ?_) (nc (wi (α 0x18720c41) uIIII11 ?_ ?_ ?_) (nc (wi (α 0x18720c41) uIIII20 ?_ ?_ ?_) (nc (wi (α 0x18720c41) uIIII21 ?_ ?_ ?_) (nc (wi (α 0x18720c41) uRII00 ?_ ?_ ?_) (nc (wi (α 0x18720c41) uRII01 ?_ ?_ ?_) (nc (wi (α 0x18720c41) uRII10 ?_ ?_ ?_) (nc (wi (α 0x18720c41) uRII11 ?_ ?_ ?_) (nc (wi (α 0x18720c41) uIRI00 ?_ ?_ ?_) (nc (wi (α 0x18720c41) uIRI01 ?_ ?_ ?_) (nc (wi (α 0x18720c41) uIRI10 ?_ ?_ ?_) Zjo14)))))))))))))<;>first|(intros;kernel_rfl)|(intros;repeat constructor))]
 have Zwr16:nF (WR.LA.drop 16) hz.ktop_1_356:=by open WR in grind [show nF (WR.LA.drop 16) hz.ktop_1_356 from by(refine nc (wi (ρ 1) l3TIR ?_ ?_ ?_) (nc (wi (σ 3137) l1TR ?_ ?_ ?_) (nc (wi (σ 65) l2TRI ?_ ?_ ?_) (nc (wi (ρ 1) l3TRI ?_ ?_ ?_) (nc (wi (σ 65) l2TRR ?_ ?_ ?_) (nc (wi (ρ 1) l3TRR ?_ ?_ ?_) (nc (wi (σ 65) l1FI ?_ ?_ ?_) (nc (wi (σ 65) l2FII ?_ ?_ ?_) (nc (wi (ρ 1) l3FII ?_ ?_ ?_) (nc (wi (σ 65) l2FIR ?_ ?_ ?_) (nc (wi (ρ 1) l3FIR ?_ ?_ ?_) (nc (wi (σ 65) l1FR ?_ ?_ ?_) (nc (wi (σ 65) l2FRI ?_ ?_ ?_) (nc (wi (ρ 1) l3FRI ?_ ?_ ?_) (nc (wi (σ 65) l2FRR ?_ ?_ ?_) (nc (wi (ρ 1) l3FRR ?_ ?_ ?_) nz)))))))))))))))<;>first|(intros;kernel_rfl)|(intros;repeat constructor))]
 have Zwr:WR.Evs hz.ktop_1_356:=by open WR in grind [show WR.Evs hz.ktop_1_356 from by(refine nc (wi (ρ 1) w0 ?_ ?_ ?_) (nc (wi (σ 65) w1I ?_ ?_ ?_) (nc (wi (σ 65) w2II ?_ ?_ ?_) (nc (wi (ρ 1) w3II ?_ ?_ ?_) (nc (wi (σ 65) w2IR ?_ ?_ ?_) (nc (wi (ρ 1) w3IR ?_ ?_ ?_) (nc (wi (σ 65) w1R ?_ ?_ ?_) (nc (wi (σ 65) w2RI ?_ ?_ ?_) (nc (wi (ρ 1) w3RI ?_ ?_ ?_) (nc (wi (σ 65) w2RR ?_ ?_ ?_) (nc (wi (ρ 1) w3RR ?_ ?_ ?_) (nc (wi (ρ 97) l0 ?_ ?_ ?_) (nc (wi (σ 3137) l1TI ?_ ?_ ?_) (nc (wi (σ 65) l2TII ?_ ?_ ?_) (nc (wi (ρ 1) l3TII ?_ ?_ ?_) (nc (wi (σ 65) l2TIR ?_ ?_ ?_) Zwr16)))))))))))))))<;>first|(intros;kernel_rfl)|(intros;repeat constructor))]
 have Zsy:SY.Evs hz.ktop_1_356:=by open SY in grind [show SY.Evs hz.ktop_1_356 from by(refine nc (wi (σ 65) a0 ?_ ?_ ?_) (nc (wi (σ 3137) a1 ?_ ?_ ?_) (nc (wi (σ 3137) b0 ?_ ?_ ?_) (nc (wi (σ 3137) cL_s0 ?_ ?_ ?_) (nc (wi (α 3137) cT_qF ?_ ?_ ?_) (nc (wi (α 3137) cT_qT ?_ ?_ ?_) (nc (wi (α 3137) cT_nq ?_ ?_ ?_) (nc (wi (α 3137) cT_esc ?_ ?_ ?_) (nc (wi (σ 3137) cT_s0 ?_ ?_ ?_) (nc (wi (σ 3137) cT_s1 ?_ ?_ ?_) (nc (wi (α 0x20c41) rL_s0 ?_ ?_ ?_) (nc (wi (α 0x20c41) rT_s0 ?_ ?_ ?_) (nc (wi (σ 0x20c41) rT_s1 ?_ ?_ ?_) (nc (wi (α 0x20c41) rT_s1b ?_ ?_ ?_) (nc (wi (ρ 65) d0 ?_ ?_ ?_) (nc (wi (ρ 2) eT ?_ ?_ ?_) nz)))))))))))))))<;>first|(intros;kernel_rfl)|(intros;repeat constructor))]
 have Zpa:PA.Evs hz.ktop_1_356:=by open PA in grind [show PA.Evs hz.ktop_1_356 from by(refine nc (wi (ρ 10305) a0L ?_ ?_ ?_) (nc (wi (σ 0x48c41) a0N ?_ ?_ ?_) (nc (wi (α 0x20c41) bA_no ?_ ?_ ?_) (nc (wi (σ 0x20c41) bA_op ?_ ?_ ?_) (nc (wi (α 3137) dA_F ?_ ?_ ?_) (nc (wi (ρ 3137) dA_T ?_ ?_ ?_) (nc (wi (α 0x20c41) bB_no ?_ ?_ ?_) (nc (wi (σ 0x20c41) bB_op ?_ ?_ ?_) (nc (wi (α 3137) dB_F ?_ ?_ ?_) (nc (wi (ρ 3137) dB_T ?_ ?_ ?_) (nc (wi (σ 1) e0 ?_ ?_ ?_) (nc (wi (σ 1) e1 ?_ ?_ ?_) (nc (wi (ρ 0x629062) e2_ser ?_ ?_ ?_) (nc (wi (ρ 0x629062) e2_bar ?_ ?_ ?_) nz)))))))))))))<;>first|(intros;kernel_rfl)|(intros;repeat constructor))]
 have Zsh:SH.Evs hz.ktop_1_356:=by open SH in grind [show SH.Evs hz.ktop_1_356 from by(refine nc (wi (σ 65) a0 ?_ ?_ ?_) (nc (wi (σ 0x20c41) a1 ?_ ?_ ?_) (nc (wi (σ 65) a2 ?_ ?_ ?_) (nc (wi (ρ 131) b0 ?_ ?_ ?_) (nc (wi (σ 0x20c41) b1 ?_ ?_ ?_) (nc (wi (σ 65) c1 ?_ ?_ ?_) (nc (wi (ρ 1) d1 ?_ ?_ ?_) (nc (wi (σ 65) c2 ?_ ?_ ?_) (nc (wi (ρ 1) d2 ?_ ?_ ?_) nz))))))))<;>first|(intros;kernel_rfl)|(intros;repeat constructor))]
 have Zcp:CP.Evs hz.ktop_1_356:=by open CP in grind [show CP.Evs hz.ktop_1_356 from by(refine nc (wi (σ 1) a0 ?_ ?_ ?_) (nc (wi (σ 1) a1 ?_ ?_ ?_) (nc (wi (σ 65) a2 ?_ ?_ ?_) (nc (wi (σ 65) b0 ?_ ?_ ?_) (nc (wi (α 65) cL_open ?_ ?_ ?_) (nc (wi (α 65) cL_other ?_ ?_ ?_) (nc (wi (α 65) cL_clo ?_ ?_ ?_) (nc (wi (ρ 1) cL_neg ?_ ?_ ?_) (nc (wi (α 65) cT_open ?_ ?_ ?_) (nc (wi (α 65) cT_other ?_ ?_ ?_) (nc (wi (α 65) cT_clo ?_ ?_ ?_) (nc (wi (ρ 1) cT_neg ?_ ?_ ?_) (nc (wi (ρ 1) d0 ?_ ?_ ?_) (nc (wi (ρ 0) eL ?_ ?_ ?_) (nc (wi (ρ 0) eT ?_ ?_ ?_) (nc (wi (ρ 0) e0 ?_ ?_ ?_) nz)))))))))))))))<;>first|(intros;kernel_rfl)|(intros;repeat constructor))]
 have Zsq:SQ.Evs hz.ktop_1_356:=by open SQ in grind [show SQ.Evs hz.ktop_1_356 from by(refine nc (wi (ρ 0) a0F ?_ ?_ ?_) (nc (wi (σ 65) a0T ?_ ?_ ?_) (nc (wi (σ 3137) a1 ?_ ?_ ?_) (nc (wi (σ 3137) b0 ?_ ?_ ?_) (nc (wi (α 3137) cL_other ?_ ?_ ?_) (nc (wi (α 3137) cL_open ?_ ?_ ?_) (nc (wi (α 3137) cT_other ?_ ?_ ?_) (nc (wi (α 3137) cT_open ?_ ?_ ?_) (nc (wi (α 3137) cT_cleq ?_ ?_ ?_) (nc (wi (α 3137) cT_clne ?_ ?_ ?_) (nc (wi (ρ 65) d0 ?_ ?_ ?_) (nc (wi (ρ 0) eLF ?_ ?_ ?_) (nc (wi (ρ 0) eLT ?_ ?_ ?_) (nc (wi (ρ 0) eTF ?_ ?_ ?_) (nc (wi (ρ 0) eTT ?_ ?_ ?_) nz))))))))))))))<;>first|(intros;kernel_rfl)|(intros;repeat constructor))]
 have Zeg:G.EvsG hz.ktop_1_356:=by open G in grind [show G.EvsG hz.ktop_1_356 from by(refine nc (wi (η 1) y0 ?_ ?_ ?_) (nc (wi oMd y0 ?_ ?_ ?_) (nc (wi (ρ 1) y1 ?_ ?_ ?_) (nc (wi (α 3137) o2 ?_ ?_ ?_) (nc (wi (η 0x20c41) o3 ?_ ?_ ?_) (nc (wi (fun o=>(oCc o,oMd o)) o3 ?_ ?_ ?_) (nc (wi (υ 0x188e1) (fun kt W p i0 t0 i o' a c tc ti n t=>o4 kt W p (frA W p i0 t0 false) i o' a c tc ti n t h4p) ?_ ?_ ?_) (nc (wi (υ 0x188e1) (fun kt W p i0 t0 tk tc0 i c0 o' a c tc ti n t=>o4 kt W p (frB W p i0 t0 false tk c0 tc0) i o' a c tc ti n t h4p) ?_ ?_ ?_) (nc (wi (α 3137) (fun kt W p i0 t0 i o' a c tc ti n t=>o4 kt W p (frA W p i0 t0 false) i o' a c tc ti n t h4b) ?_ ?_ ?_) (nc (wi (α 3137) (fun kt W p i0 t0 tk tc0 i c0 o' a c tc ti n t=>o4 kt W p (frB W p i0 t0 false tk c0 tc0) i o' a c tc ti n t h4b) ?_ ?_ ?_) (nc (wi (υ 0x188e1) (fun kt W p i0 t0 tk tc0 i c0 o' a c tc ti n t=>o4 kt W p (frB W p i0 t0 true tk c0 tc0) i o' a c tc ti n t h4e) ?_ ?_ ?_) (nc (wi (α 1) (fun kt W p i0 t0 i o' a c tc ti n t Fr n' t'=>o5 kt W p (o4 kt W p (frA W p i0 t0 false) i o' a c tc ti n t h4p) Fr n' t' [.z]) ?_ ?_ ?_) (nc (wi (α 1) (fun kt W p i0 t0 tk tc0 i c0 o' a c tc ti n t Fr n' t'=>o5 kt W p (o4 kt W p (frB W p i0 t0 false tk c0 tc0) i o' a c tc ti n t h4p) Fr n' t' [.z]) ?_ ?_ ?_) (nc (wi (α 1) (fun kt W p i0 t0 tk tc0 i c0 o' a c tc ti n t n' t'=>o5 kt W p (o4 kt W p (frB W p i0 t0 true tk c0 tc0) i o' a c tc ti n t h4e) (frB W p i ti true tk (ch c) tc) n' t' [.m 0,.m 0,.z]) ?_ ?_ ?_) (nc (wi (ρ 1) (fun kt W p i0 t0 i o' n t=>oE kt W p (frA W p i0 t0 false) i o' n t) ?_ ?_ ?_) (nc (wi (ρ 1) (fun kt W p i0 t0 tk tc0 i c0 o' n t=>oE kt W p (frB W p i0 t0 false tk c0 tc0) i o' n t) ?_ ?_ ?_) (nc (fun _=>W2 ?_ ?_) nz))))))))))))))))<;>first|(intros;kernel_rfl)|(intros;repeat constructor))]
 have Zdm:DM.Evs hz.ktop_1_356:=by open DM in grind [show DM.Evs hz.ktop_1_356 from by(refine nc (wi (σ 1) o0 ?_ ?_ ?_) (nc (wi (σ 0x20c41) DM.o1 ?_ ?_ ?_) (nc (wi (σ 0x20c41) (fun kt W p qs e i n t zd zt sh=>o2 kt W p (fr1 W p) qs e i n t zd zt sh) ?_ ?_ ?_) (nc (wi (σ 0x20c41) (fun kt W p c qs e i n t zd zt sh=>o2 kt W p (fr2 W p c) qs e i n t zd zt sh) ?_ ?_ ?_) (nc (wi (ρ 0x20c41) o2e ?_ ?_ ?_) (nc (wi (α 3137) (fun kt W p qs e i n t zd zt sh x q r tq tr n' t'=>o3 kt W p (fr1 W p) (fr1c W p t zd zt) qs e i n t zd zt sh x q r tq tr n' t') ?_ ?_ ?_) (nc (wi (α 3137) (fun kt W p c qs e i n t zd zt sh x q r tq tr n' t'=>o3 kt W p (fr2 W p c) (fr2 W p {c with ad:=zd,ta:=zt}) qs e i n t zd zt sh x q r tq tr n' t') ?_ ?_ ?_) (nc (wi (σ 65) (fun kt W p qs e n t=>o4 kt W p (fr1 W p) qs e n t) ?_ ?_ ?_) (nc (wi (σ 65) (fun kt W p c qs e n t=>o4 kt W p (fr2 W p c) qs e n t) ?_ ?_ ?_) (nc (wi (ρ 2) (fun kt W p qs e n t Q tQ n' t'=>o5 kt W p (fr1 W p) qs e n t Q tQ n' t') ?_ ?_ ?_) (nc (wi (ρ 2) (fun kt W p c qs e n t Q tQ n' t'=>o5 kt W p (fr2 W p c) qs e n t Q tQ n' t') ?_ ?_ ?_) (nc (wi (ρ 2) Dv.o1 ?_ ?_ ?_) nz)))))))))))<;>first|(intros;kernel_rfl)|(intros;repeat constructor))]
 have Zei:EvI2 hz.ktop_1_356:=by open I2 in grind [show EvI2 hz.ktop_1_356 from by(refine nc (wi (ρ 0xa418826) oL_ ?_ ?_ ?_) (nc (wi (σ 0x18a418827) oN ?_ ?_ ?_) (nc (wi (σ 3137) oN2 ?_ ?_ ?_) (nc (wi (ρ 0) oN3 ?_ ?_ ?_) (nc (wi (σ 0x1c851bdc1) oA ?_ ?_ ?_) (nc (wi (ρ 7617) oA0 ?_ ?_ ?_) (nc (wi (σ 0x20a622841) oB ?_ ?_ ?_) (nc (wi (ρ 8257) oB0 ?_ ?_ ?_) (nc (wi (ρ 65) (fun kt W n t k a m ta tm vs n' t'=>oZ kt W (oA kt W n t k a m ta tm) n vs n' t') ?_ ?_ ?_) (nc (wi (ρ 65) (fun kt W n0 t0 n t k a m ta tm vs n' t'=>oZ kt W (oB kt W n0 t0 n t k a m ta tm) n vs n' t') ?_ ?_ ?_) (nc (W2 ?_ ?_) nz))))))))))<;>first|(intros;kernel_rfl)|(intros;repeat constructor))]
 have Zed:EvD2 hz.ktop_1_356:=by open D2 in grind [show EvD2 hz.ktop_1_356 from by(refine nc (wi (ρ 0xc520c41) oL_ ?_ ?_ ?_) (nc (wi (σ 0x18a418827) oN ?_ ?_ ?_) (nc (wi (σ 3137) oN2 ?_ ?_ ?_) (nc (wi (ρ 0) oN3 ?_ ?_ ?_) (nc (wi (σ 0x8862b9a1) oA ?_ ?_ ?_) (nc (wi (ρ 2465) oA0 ?_ ?_ ?_) (nc (wi (σ 0xca732441) oB ?_ ?_ ?_) (nc (wi (ρ 3137) oB0 ?_ ?_ ?_) (nc (wi (ρ 0) (fun kt W n t k l vs e m tm v tv n' t'=>oZ kt W (oA kt W n t k l vs e m tm) v tv n' t') ?_ ?_ ?_) (nc (wi (ρ 0) (fun kt W n0 t0 n t k l vs e m tm v tv n' t'=>oZ kt W (oB kt W n0 t0 n t k l vs e m tm) v tv n' t') ?_ ?_ ?_) (nc (W2 ?_ ?_) nz))))))))))<;>first|(intros;kernel_rfl)|(intros;repeat constructor))]
 have Zie:ID.EvID hz.ktop_1_356:=by open ID in grind [show ID.EvID hz.ktop_1_356 from by(refine nc (wi (σ 1) oP ?_ ?_ ?_) (nc (wi (σ 1) oN ?_ ?_ ?_) (nc (wi (ρ 0) oPz ?_ ?_ ?_) (nc (wi (ρ 6) oNz ?_ ?_ ?_) nz)))<;>first|(intros;kernel_rfl)|(intros;repeat constructor))]
 have Ztk:EvTk hz.ktop_1_356:=by grind [show EvTk hz.ktop_1_356 from by(refine W2 ?_ ?_<;>intro b w<;>kernel_rfl)]
 have Znl:EvNL0 hz.ktop_1_356:=by grind [show EvNL0 hz.ktop_1_356 from by(refine W2 ?_ ?_<;>intro b w<;>kernel_rfl)]
 have tb:EvTab hz.ktop_1_356:=by grind [show EvTab hz.ktop_1_356 from by(constructor<;>(intro w; kernel_rfl))]
 have E:AllEvs hz.ktop_1_356:=⟨ZlA,ZtA,Zre,Zjo,Znm,Zwr,Zsy,Ztk,Zpa,⟨Zcp,Zsq,Zeg,Znl.nl⟩,Zsh,⟨Zdm,Zei,Zed,Zie⟩⟩
 k_fill
 intro w s₀ s₁ mg mb G Y fa o pm cd doc dV kV ho hd hcd hD hmg hg args vals as L hpre hlay hrd hwl hlo
 z_open Y L KX ZH ZN ZT
 refine Ground.open G ?_
 intro T' B D TE TW
 wrow_args hpre hlay hrd hwl hlo
 obtain ⟨hat,hsz⟩:=script_at L
 have htk:=script_toks L ZT
 rw [ZN] at hat hsz
 subst hat
 x_fa T' KX hmg
 all_lens
 refine law_fin' E tb w ZH hsz hg (script_obj L ‹_›) ‹_› (by omega) (fun _ => rfl) (by kernel_rfl)
end
end Mine
end
theorem PySem.Challenge.cw_rs0195_01_holds : PySem.Challenge.rw_rs0195_01.Holds := by
  exact Mine.hz
