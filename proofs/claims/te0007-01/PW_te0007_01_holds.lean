import PyProof.Rows.All
import Wide.All
import OpenK.AllK
import Wide.FinOn
import PyProof.CompFree
import KE.KIsAll
import KE.KUnpack
import PyProof.RangeFor
import KE.KPar
import KE.KSuper
import KE.KTurns
import PySem.Challenge.RW_te0007_01
set_option Elab.async false
set_option maxRecDepth 1000000
set_option maxHeartbeats 8000000
set_option genInjectivity false
set_option genSizeOf false
set_option genSizeOfSpec false
set_option linter.all false
namespace Mine
open PySem PySem.W PySem.Calls PyProof.Rows
universe u v w
theorem KK {α : Sort u} {a b : α} (h : a = b := by kernel_rfl) : a = b := h
theorem OO {p : Prop} (h : p := by omega) : p := h
def aQ:=@congrArg
def bw:=@Nat.le_trans
def da:=@List.length_append
def dZ:=@if_neg
def d8:=@if_pos
def eN:=@Option.some.inj
def eO:=@wpAny_bind
def eP:=@Nat.le_of_ble_eq_true
def e9:=@List.forall_mem_cons
def fb:=@Eq.symm
def fc:=@List.append_assoc
def fy:=@Nat.le_refl
def gj:=@List.all_eq_true
def iI:=@beq_iff_eq
def iT:=@Nat.eq_of_beq_eq_true
def iU:=@Nat.le_of_eq
def ju:=@Nat.zero_le
def kS:=@Prod.mk.inj
def k5:=@wpAny_pure
def mG:=@List.length_map
def mQ:=@of_decide_eq_true
def oJ:=@Nat.le_add_left
def qe:=@Nat.mod_lt
def qu:=@Nat.lt_of_lt_of_le
def qT:=@List.forall_mem_nil
def ti:=@List.append_nil
def tj:=@List.length_replicate
def u0:=@Heap.lt_size
def u4:=@Nat.add_le_add
def u5:=@Nat.le_of_lt_succ
def xb:=@List.map_cons
def xc:=@Nat.add_assoc
def xl:=@Nat.add_le_add_left
def xm:=@Nat.not_lt
def xn:=@Option.map_eq_some_iff
def zE:=@Int.add_zero
def zM:=@Int.ofNat_le
def zN:=@Int.zero_add
def zO:=@List.getElem?_eq_getElem
def zP:=@Nat.le_add_right_of_le
def zQ:=@Nat.zero_add
def Dh:=@List.cons_append
def Fn:=@List.forall_mem_singleton
def Fo:=@Nat.ne_of_lt
def Hu:=@Heap.get?_push_size
def Hv:=@Int.add_assoc
def Hw:=@List.mem_map
def Hx:=@Nat.le_add_right
def Hy:=@decide_eq_false
def HG:=@beq_eq_false_iff_ne
def HI:=@decide_eq_true
def MT:=@Heap.get?_push_of_some
def MU:=@Int.natCast_nonneg
def MV:=@Nat.lt_succ_self
def MW:=@Nat.succ_pos
def M7:=@Heap.size_push
def M8:=@List.getElem?_eq_some_iff
def M9:=@List.length_cons
def Na:=@List.map_append
def Nb:=@Nat.add_right_comm
def Nc:=@wpAny_holding
def Rl:=@Bool.not_eq_true'
def Rm:=@List.flatten_cons
def Rn:=@List.getElem?_map
def Ro:=@List.nil_append
def Rp:=@Nat.le_of_lt
def Rq:=@Nat.lt_of_le_of_lt
def Rr:=@Nat.succ_le_succ
def Rt:=@wpAny_standAt
def SR:=@Bool.and_eq_true_iff
def SS:=@Nat.le_add_left_of_le
def SU:=@Option.isNone_iff_eq_none
def SV:=@wpAny_assign_Name
def Zd:=@List.getD_eq_getElem?_getD
def Ze:=@List.size_toArray
def Zf:=@Nat.le_of_succ_le
def Zg:=@Option.isSome_iff_exists
def Zh:=@wpAny_truthy_bool
def ZF:=@List.length_drop
def ZG:=@List.length_singleton
def ZH:=@List.length_take
def ZI:=@Nat.add_le_add_right
def ZJ:=@decide_eq_false_iff_not
def aei:=@Int.toNat_of_nonneg
abbrev l0:=PySem.Challenge.rw_te0007_01
abbrev p0:=l0.row.prog
abbrev lk0:Look:={strict:=false,foot:=none,bare:=[]}
def LM (lk:Look) (a b:List Stmt):noRoadLSs lk (a++b)=(noRoadLSs lk a&&noRoadLSs lk b):=by
 induction a with
 |nil=>rfl
 |cons s r ih=>show(noRoadLS lk s&&noRoadLSs lk (r++b))=(noRoadLS lk s&&noRoadLSs lk r&&noRoadLSs lk b);rw[ih,Bool.and_assoc]
def ahS:({strict:=!(importedModules p0.main.body).all cThrough.contains,foot:=none,bare:=(["vars","dir","locals"]:List Str).filter (readsOut p0 p0.main.body)}:Look)=lk0:=KK
def sB1:noRoadLSs lk0 (p0.main.body.take 52)=true:=KK
def sB2:noRoadLSs lk0 (p0.main.body.drop 52)=true:=KK
def sA:namesResolve p0=true:=KK
def sB:noRoadLSs {strict:=!(importedModules p0.main.body).all cThrough.contains,foot:=none,bare:=(["vars","dir","locals"]:List Str).filter (readsOut p0 p0.main.body)} p0.main.body=true:=by
 rw[ahS,<-List.take_append_drop 52 p0.main.body,LM,sB1,sB2];rfl
def sC:(namesMeet p0 p0.main.body λ_ n=>attrL n)=true:=KK
def sD:noRoadLSs {strict:=true,foot:=some l0.bound',writes:=l0.writes,may:=l0.may} l0.footing=true:=KK
def adh:l0.wellSaid=true:=by
 unfold OpenLaw.wellSaid OpenRow.wellSaid OpenRow.partSaid looksOpen
 with_reducible repeat' refine look_both ?_ ?_
 all_goals first|with_reducible (first|exact sA|exact sB|exact sC|exact sD) |kernel_rfl
section
variable (H:Array Nat->Int)
abbrev pw:Program:=PySem.Challenge.pw_te0007_01
noncomputable def eS (H:Array Nat->Int) (n:Str) (t:Nat) (v:Value):DictEntry:=⟨if n.cps.isEmpty then 0 else reduceHash (H n.cps),.str n t,v⟩
noncomputable def eV (h:Int) (k v:Value):DictEntry:=⟨h,k,v⟩
noncomputable def vN:Value:=.none
noncomputable def vT:Value:=.bool true
noncomputable def vF:Value:=.bool false
noncomputable def vI (i:Int) (t:Nat):Value:=.int i t
noncomputable def vS (s:Str) (t:Nat):Value:=.str s t
noncomputable def vY (s:String):Value:=.type s
noncomputable def vB (s:String):Value:=.builtin s
noncomputable def vR (a:Nat):Value:=.ref a
noncomputable def dP:Data:=.plain
noncomputable def dV (v:Value):Data:=.prim v
noncomputable def dS (l:List Value) (n:Nat):Data:=.seq ⟨l⟩ n
noncomputable def dD (l:List DictEntry) (n:Nat):Data:=.dict ⟨l⟩ n
noncomputable def dF (l:List Value):Data:=.fields ⟨l⟩
noncomputable def adx:List Nat->List Stmt->Stmt
 |[],_=>.Pass default
 |[i],b=>(b[i]?).getD (.Pass default)
 |i::r,b=>match b[i]? with
  |some (.ClassDef _ _ _ b' _ _ _ _ _ _ _)=>adx r b'
  |_=>.Pass default
noncomputable def fParams:Stmt->Arguments
 | .FunctionDef _ a _ _ _ _ _ _ _ _=>a
 |_=>default
noncomputable def fBody:Stmt->List Stmt
 | .FunctionDef _ _ b _ _ _ _ _ _ _=>b
 |_=>[]
noncomputable def fScope:Stmt->Scope
 | .FunctionDef _ _ _ _ _ _ sc _ _ _=>sc
 |_=>default
noncomputable def aay (p:List Nat) (nm ql:Str) (g:Nat) (cl:List (Str×Nat)) (df kw dc pm cd ct:Value) (b:Nat):FuncData:=
 let st:=adx p pw.main.body
 {name:=nm,qualname:=ql,params:=fParams st,body:=.stmts (fBody st),scope:=fScope st,globals:=g,closure:=cl,defaults:=df,kwdefaults:=kw,doc:=dc,pyModule:=pm,annotations:=none,code:=cd,closureTuple:=ct,builtins:=b}
noncomputable def dK (p:List Nat) (nm ql:Str) (g:Nat) (df pm cd:Value) (b:Nat):Data:=.func (aay p nm ql g [] df .none .none pm cd .none b)
noncomputable def dL (p:List Nat) (nm ql:Str) (g:Nat) (cl:List (Str×Nat)) (df kw dc pm cd ct:Value) (b:Nat):Data:=.func (aay p nm ql g cl df kw dc pm cd ct b)
noncomputable def dC (nm:Str) (bs mr:List Value) (ns:Nat) (ql:Str) (hd:Bool) (sb:List Value) (ab:Bool) (co:Option Bool) (de:Bool):Data:=
 .cls {name:=nm,bases:=bs,mro:=mr,ns:=ns,qualname:=ql,hasDict:=hd,slotNames:=[],subclasses:=sb,abstract:=ab,collection:=co,hasDel:=de}
noncomputable def nd (o:Obj) (l r:BT):BT:=.node o l r
noncomputable def lf (o:Obj):BT:=.node o .nil .nil
noncomputable def e:BT:=.nil
noncomputable def tC:BT->Nat->BT
 | .nil,_=>.nil
 | .node v l r,n=>bif Nat.beq n 0 then .nil else .node v (tC l (n / 2)) (tC r ((n - 1) / 2))
noncomputable def unp (x:Nat):List Nat:=Nat.rec (motive:=λ_=>Nat->List Nat) (λ_=>[]) (λ_ ih x=>bif Nat.beq x 0 then[] else(x%96+31)::ih (x/96)) 99 x
noncomputable def S (x:Nat):Str:=⟨⟨unp x⟩⟩
noncomputable def SL (l:List Nat):Str:=⟨⟨l⟩⟩
noncomputable def SJ (a b:Str):Str:=⟨⟨a.cps.1++46::b.cps.1⟩⟩
noncomputable def n0:=S 4859937803351104
noncomputable def n1:=S 6374607345551491
noncomputable def n2:=S 50624184044608
noncomputable def n3:=S 0xe9172d6e4e23c67c40
noncomputable def n4:=S 0x26d969ae1d062ec40
noncomputable def n5:=S 4859920829737024
noncomputable def Zt:=S 6698
noncomputable def n30:=S 0x2a7a64ac78b7507ca
noncomputable def n34:=S 734861
noncomputable def n36:=S 826638
noncomputable def n62:=S 0x718e6d3788935e6
noncomputable def n67:=S 791018
noncomputable def n68:=S 75983885
noncomputable def n71:=S 6009861395
noncomputable def n76:=S 773172
noncomputable def J9:=S 4860010847146048
noncomputable def ahW:=S 0x49c0c78199d8810ccb423e040
noncomputable def ahX:=S 0x5769384c2d86e9328440
noncomputable def ahY:=S 4859937725420608
noncomputable def sa:=S 0x2e0ade1eb629598e25ed90
noncomputable def ahZ:=S 0x26d92de1971c4a840
noncomputable def abO:=S 0x87911650edd5d
noncomputable def eW:=S 0x131bc2829b5ae0a911a
noncomputable def Gm:=S 6608709952
noncomputable def yu:=S 68011246
noncomputable def qq:=S 0x864ca3514c604fa
noncomputable def m9:=S 0x5f9c0f44a09f90b7ee46dc4ee
noncomputable def ph:=S 6772477493
noncomputable def Gn:=S 0xf279e51f9b9553939fcc7e5
noncomputable def Ka:=S 0x4cb8917f07ceec94ff7dfc3372ae25
noncomputable def Kb:=S 0x2219243871a24da6ffc3372ae25
noncomputable def PE:=S 76
noncomputable def jE:=S 0x26d932785e5931040
noncomputable def nZ:=S 0x325cbd423f40a911a
noncomputable def vW:=S 0x5768b1a3258140b4a040
noncomputable def jF:=S 0x49c0a70f98216f59c60211440
noncomputable def aM:=S 4860059780972608
noncomputable def Gp:=S 0x1350168061e26ac0e88
noncomputable def lz:=S 50625462626368
noncomputable def gG:=S 0x34817d7e48af303b5c434bf5cb130a76840
noncomputable def ag:=S 63532692
noncomputable def iy:=S 62656783
noncomputable def iN:=S 7621759466
noncomputable def pj:=S 62666765
noncomputable def mB:=S 650846138948
noncomputable def n6:=S 682768243843
noncomputable def n7:=S 65546947462737
noncomputable def UW:=SJ yu aM
noncomputable def gH:=S 699839205866
noncomputable def vX:=S 7293495348
noncomputable def abP:=S 67112125072884
noncomputable def UX:=SJ yu Gp
noncomputable def UY:=SJ yu lz
noncomputable def Kc:=S 4860059266894912
noncomputable def Gq:=S 0xe9174692b859dd7840
noncomputable def abQ:=S 67266115189316
noncomputable def abR:=S 0x67e4e75d212d9ce6ba44
noncomputable def abS:=S 61632468475761
noncomputable def abT:=S 0x67e4e75d1c0ded63df71
noncomputable def abU:=S 62722639
noncomputable def UZ:=SJ m9 aM
noncomputable def U0:=SJ m9 lz
noncomputable def aK:=S 0x2e2cd89b2b2b9e834
noncomputable def bg:=S 5776514558317030
noncomputable def U1:=SJ ph aM
noncomputable def U2:=S 0x726367f575becb01fd
noncomputable def dX:=S 6022229271
noncomputable def U3:=SJ Gn aM
noncomputable def U4:=S 0xda399fb5641b841e934b0159fd
noncomputable def U5:=S 0x607b15ae58c1e934b0159fd
noncomputable def cG:=S 0x131f6b77d84f40a911a
noncomputable def Gr:=S 0x22192438753f85978d265dccc14
noncomputable def Kd:=S 0xf279e51f99d77cae5dccc14
noncomputable def Ke:=S 0x91a6643728d2d522d5603d18106c69bc615d03
noncomputable def Kf:=S 0x18466609317878db23bdc1401802d58615d03
noncomputable def Kg:=S 0x2869a62feef93f68615d03
noncomputable def Kh:=S 0x18466609317878db23900a2ead6766fef5d07
noncomputable def Ki:=S 0x40bbbac32e96979db4a4ae00400798f5d07
noncomputable def Kj:=S 0xac9f475dbf45a7d69c2ead6766fef5d07
noncomputable def Kk:=S 0x1cc5368f9fe0f1560de00400798f5d07
noncomputable def Kl:=S 5991854648083052
noncomputable def Km:=S 0x2fe58297a04f3ecf7
noncomputable def Ko:=S 0x5aedb5ebe6553dcbf68615d03
noncomputable def Kp:=S 0xf279e51fbb8dfa1ff0f5d07
noncomputable def Gs:=S 0x2fe58297a4ac58502
noncomputable def Gu:=S 0x11f610f8dda6ae32dc2
noncomputable def Gv:=S 5991854647916789
noncomputable def Gw:=S 0x11f610f8dda2438e1b4
noncomputable def U6:=S 0x60fd2a8981d305e32cc939d
noncomputable def kK:=S 5472869015465446
noncomputable def U7:=SJ Gr aM
noncomputable def U8:=S 0x2ae15ef8225e32cc939d
noncomputable def U9:=S 0x9b5b85f2e283830d0f624f473427e482ed3d
noncomputable def Va:=S 0x19e4965325c09c45410360eb617e482ed3d
noncomputable def Vb:=S 0x7258fd4057e482ed3d
noncomputable def Vc:=S 60
noncomputable def Vd:=S 92
noncomputable def Ve:=S 62
noncomputable def Vf:=S 94
noncomputable def Vg:=S 32
noncomputable def Vh:=S 27
noncomputable def Vi:=S 14
noncomputable def Vj:=S 13
noncomputable def Vk:=S 24956076420317
noncomputable def Vl:=SJ Gs aM
noncomputable def Vm:=S 0x88258153134dd
noncomputable def Vn:=SJ Gu aM
noncomputable def Vo:=S 2697291773
noncomputable def Vp:=SJ Gv aM
noncomputable def Vq:=S 0x8823d9554af9d
noncomputable def AD:=S 6775924017
noncomputable def fF:=S 6014388276
noncomputable def Vr:=SJ Gw aM
noncomputable def lA:=S 0x12dcae87623620a911a
noncomputable def tJ:=S 7289993414
noncomputable def vZ:=S 0x897bea36e1ad22f
noncomputable def v3:=S 0xb9d022d874bfe1cf3b427ee75be7a7224
noncomputable def yw:=S 0x529564d1f2de347e2fee75be7a7224
noncomputable def Gx:=S 0x24b42ccf1a38dd978d265dccc14
noncomputable def Kq:=S 0x105013ea42efd7cae5dccc14
noncomputable def Gy:=S 0x529564d1fafff294ff7dfc3372ae25
noncomputable def Gz:=S 0x24b42ccf169ba5a6ffc3372ae25
noncomputable def Kr:=S 0x338e77d4990c58502
noncomputable def GA:=S 0x13556cefb946438e1b4
noncomputable def Ks:=S 0x529564d1fafff294fb751060f4a274
noncomputable def Kt:=S 0x24b42ccf169ba56671060f4a274
noncomputable def Ku:=S 0xdc390cda9d55318d4ab974f0fcee
noncomputable def Kv:=S 0x61e0777d919f0e7e974f0fcee
noncomputable def GC:=S 4860044060181568
noncomputable def Vs:=SJ tJ aM
noncomputable def Vt:=SJ tJ GC
noncomputable def ke:=S 683619331554
noncomputable def Vu:=SJ vZ aM
noncomputable def mC:=S 669973
noncomputable def pz:=S 6445788447834506
noncomputable def AE:=S 0x2a88ff11400af5d27
noncomputable def Vv:=SJ v3 aM
noncomputable def Vw:=SJ Gx aM
noncomputable def n8:=S 6445788447835558
noncomputable def yx:=S 62496523798167
noncomputable def yy:=S 74987797
noncomputable def Vx:=SJ Gy aM
noncomputable def Vy:=SJ Gz aM
noncomputable def Vz:=SJ GA aM
noncomputable def bo:=S 0x712c78941eb8c80a911a
noncomputable def AF:=S 0x12e2c6f7734780ce273
noncomputable def GD:=S 0x23e3439b548175af7bec00
noncomputable def kf:=S 682766426739
noncomputable def Kw:=S 0x7150a9ccb3ad3823e1b4
noncomputable def GF:=S 0x91569e96e2093f4
noncomputable def VA:=S 5999666361724497
noncomputable def tK:=S 0x8622015aa89e3a4
noncomputable def abV:=S 651014136467
noncomputable def VB:=SJ AF aM
noncomputable def VC:=SJ AF lz
noncomputable def iO:=S 7076
noncomputable def AG:=S 67891857
noncomputable def sd:=S 732030334833
noncomputable def AH:=S 54692731144775
noncomputable def AI:=S 5776514558463624
noncomputable def AJ:=S 0x50bf581d7e2348cad445ff3a4
noncomputable def AK:=S 578039370422
noncomputable def nf:=S 641659096116
noncomputable def VD:=SJ kf aM
noncomputable def VE:=SJ kf AG
noncomputable def gO:=S 602505950861
noncomputable def VF:=SJ kf sd
noncomputable def VG:=SJ kf AH
noncomputable def VH:=SJ kf AI
noncomputable def Kx:=S 59182341
noncomputable def VI:=SJ kf AJ
noncomputable def VJ:=SJ kf AK
noncomputable def Kz:=S 662086
noncomputable def KA:=S 0x324c84d985a9c7913
noncomputable def KC:=S 0x2a7c0316f44bc7913
noncomputable def KG:=S 0xfea49111367ddfd65dccc34
noncomputable def KH:=S 0x712c052b5c48d3abce55
noncomputable def KI:=S 5240463765578387
noncomputable def pA:=S 68011278
noncomputable def VK:=SJ GF aM
noncomputable def bq:=S 65546437779892
noncomputable def AL:=S 0x11f610fa47e445ff3a4
noncomputable def AM:=S 0x2fe5829b6a60bf291
noncomputable def AN:=S 0x7fb95c491bc0e88
noncomputable def AP:=S 0x2446b343f30bea468115bad728f
noncomputable def AQ:=S 0xd9a83397b2477da7068275320e87
noncomputable def AR:=S 0x3e274d66feefb76919b429c3e81f3a6f0e881e8f
noncomputable def AS:=S 0x82eb145c64f19e4c769a38fa9770bb5e9a52678e834
noncomputable def AU:=S 0x3e274d66feefb76919b429c3e81f3a6f0dbd5514
noncomputable def AV:=S 0x8bd86e27bd9b5cac79d55df8ca464379deea0b31293
noncomputable def AW:=S 0x2b8034727a7e8491e37df6
noncomputable def AX:=S 0x338e770c6b409ce22
noncomputable def AY:=S 0x529f8cb4e757d7c470607ff5320e87
noncomputable def AZ:=S 0x1ddc98bff43c470607ff5320e87
noncomputable def A0:=S 0x50ddfb3fd8835660a35320e87
noncomputable def A1:=S 0xb9e6fc97089b583cba064911a35320e87
noncomputable def A2:=S 0x433057b140b3cba064911a35320e87
noncomputable def A3:=S 0x396e40b90cb2e7a5778e13cba064911a35320e87
noncomputable def A4:=S 0x160ec8386b9ffa939061b1595b8cd8117eb5320e87
noncomputable def A5:=S 0x3ad215ebc9aca4ed6e11ab5d5bd8117eb5320e87
noncomputable def A6:=S 0x31a1427ef22f5c1f86f4f4b223eb454d8117eb5320e87
noncomputable def A7:=S 0x7f8dc6750cd0b061b1595b8cd8117eb5320e87
noncomputable def A8:=S 0x15424bbe4d5906e11ab5d5bd8117eb5320e87
noncomputable def A9:=S 0x11efefe8ec5290ef4f4b223eb454d8117eb5320e87
noncomputable def Ba:=S 0x26dc47f12593fd8117eb5320e87
noncomputable def Bb:=S 0xe929afa6e14c3e508ea5b5320e87
noncomputable def Bc:=S 0x91580a5f5320e87
noncomputable def Bd:=S 0xff8b278a1ab5320e87
noncomputable def Be:=S 0x1313f9e07ef75320e87
noncomputable def Bf:=S 0x7150483b6a9f75320e87
noncomputable def Bg:=S 0x74723ae35320e87
noncomputable def Bh:=S 0x2760d8f784adbc35320e87
noncomputable def Bi:=S 0x5e403b48db86b5320e87
noncomputable def Bj:=S 0x508796de8036dd1e508ea5b5320e87
noncomputable def Bk:=S 0x5fb3904bacb7f5320e87
noncomputable def Bl:=S 0x5fb360f2c31a35320e87
noncomputable def Bm:=S 0xd6bee7a6ab3d6cd8117eb5320e87
noncomputable def Bn:=S 0x11f86800a9d35320e87
noncomputable def Bo:=S 0x50ddfb3fd8835660a445ff3a4
noncomputable def Bp:=S 0xb9e6fc97089b583cba064911a445ff3a4
noncomputable def Bq:=S 0x433057b140b3cba064911a445ff3a4
noncomputable def Br:=S 0xe929afa6e14c3e508ea5c45ff3a4
noncomputable def Bs:=S 0x91580a6045ff3a4
noncomputable def Bu:=S 0xff8b278a1ac45ff3a4
noncomputable def Bv:=S 0x11f86800a9d445ff3a4
noncomputable def Bw:=S 0x4cb8918512220697403e96a633e1d4
noncomputable def Bx:=S 0xd7a548aa415e3bac633e1d4
noncomputable def By:=S 0x198d7ef8a7ac0c8aa415e3bac633e1d4
noncomputable def Bz:=S 0x12368a55d865d8284f33818e5494166f78a433e1d4
noncomputable def BA:=S 0x810e346c47a5a3497cf33818e5494166f78a433e1d4
noncomputable def BB:=S 0x309170e4ebba406b7ddeaed0e189885f2633e1d4
noncomputable def BC:=S 0x123051c4803013e16e7ddeaed0e189885f2633e1d4
noncomputable def BD:=S 0x170faf5194c0bfe4ea7ddeaed0e189885f2633e1d4
noncomputable def BE:=S 0x28efe189fb0b2bcb573a01db1548aa415e3bac633e1d4
noncomputable def BF:=S 0x12e2b6b491c5433e1d4
noncomputable def BG:=S 5462782429618644
noncomputable def BH:=S 0xd6bee7a6ab3cf850d6d1ba33e1d4
noncomputable def BI:=S 0x126512ba4b6d96f3739c883e7a6ab3cf850d6d1ba33e1d4
noncomputable def BJ:=S 0x228a664c6bd16cf39198f1b1a567a6ab3cf850d6d1ba33e1d4
noncomputable def BK:=S 0x67d350357504d4381870f083e7a6ab3cf850d6d1ba33e1d4
noncomputable def BL:=S 0x3a15f0e4dcb92565eba6ab3cf850d6d1ba33e1d4
noncomputable def BM:=S 0x23ca7bf11c8a3ccead95233e1d4
noncomputable def abW:=S 0x12f69e604f454f99f49e11611de023a6
noncomputable def abX:=S 0x46d1dac9da391de023a6
noncomputable def BN:=S 0x30f94c0147cf172f0db411d9f11c8a3ccead95233e1d4
noncomputable def BO:=S 0x9ac80ca864884a5b7f11c8a3ccead95233e1d4
noncomputable def BP:=S 0x9ae52d0cf7430e651f11c8a3ccead95233e1d4
noncomputable def BQ:=S 0x2febc001c4e33e1d4
noncomputable def BR:=S 0xd96a7905d1b0e5bc001c4e33e1d4
noncomputable def BS:=S 0x50bf696a32cdb085f2633e1d4
noncomputable def BU:=S 0x6531ab2fe85f2633e1d4
noncomputable def BV:=S 0x243c9108160db0e7d2b4c33e1d4
noncomputable def BW:=S 0x577591f2b779b5269f633e1d4
noncomputable def abY:=S 0x20c75bce7149cdca392840
noncomputable def VL:=S 0x679926dca392840
noncomputable def VM:=SJ bq aM
noncomputable def abZ:=S 66328256994212
noncomputable def VN:=SJ bq AL
noncomputable def VO:=SJ bq AM
noncomputable def VP:=SJ bq AN
noncomputable def VQ:=SJ bq AP
noncomputable def VR:=SJ bq AQ
noncomputable def ab0:=S 6602708621
noncomputable def GG:=S 836236
noncomputable def VS:=SJ bq AR
noncomputable def VT:=SJ bq AS
noncomputable def VU:=SJ bq AU
noncomputable def VV:=SJ bq AV
noncomputable def VW:=SJ bq AW
noncomputable def VX:=SJ bq AX
noncomputable def VY:=SJ bq AY
noncomputable def VZ:=SJ bq AZ
noncomputable def V0:=SJ bq A0
noncomputable def V1:=SJ bq A1
noncomputable def V2:=SJ bq A2
noncomputable def yz:=S 0x32fca29c72babce35
noncomputable def V3:=SJ bq A3
noncomputable def V4:=SJ bq A4
noncomputable def V5:=SJ bq A5
noncomputable def V6:=SJ bq A6
noncomputable def V7:=SJ bq A7
noncomputable def V8:=SJ bq A8
noncomputable def V9:=SJ bq A9
noncomputable def Wa:=SJ bq Ba
noncomputable def Wb:=SJ bq Bb
noncomputable def Wc:=SJ bq Bc
noncomputable def Wd:=SJ bq Bd
noncomputable def We:=SJ bq Be
noncomputable def Wf:=SJ bq Bf
noncomputable def Wg:=SJ bq Bg
noncomputable def Wh:=SJ bq Bh
noncomputable def Wi:=SJ bq Bi
noncomputable def Wj:=SJ bq Bj
noncomputable def Wk:=SJ bq Bk
noncomputable def Wl:=SJ bq Bl
noncomputable def Wm:=SJ bq Bm
noncomputable def Wn:=SJ bq Bn
noncomputable def Wo:=SJ bq Bo
noncomputable def Wq:=SJ bq Bp
noncomputable def Wr:=SJ bq Bq
noncomputable def Ws:=SJ bq Br
noncomputable def Wt:=SJ bq Bs
noncomputable def Wu:=SJ bq Bu
noncomputable def Wv:=SJ bq Bv
noncomputable def Ww:=SJ bq Bw
noncomputable def Wx:=SJ bq Bx
noncomputable def Wy:=SJ bq By
noncomputable def ab1:=S 7121052942
noncomputable def ab2:=S 7121090574
noncomputable def Wz:=SJ bq Bz
noncomputable def WA:=SJ bq BA
noncomputable def PF:=S 577362638089
noncomputable def WB:=SJ bq BB
noncomputable def WC:=SJ bq BC
noncomputable def WD:=SJ bq BD
noncomputable def WE:=SJ bq BE
noncomputable def WG:=SJ bq BF
noncomputable def ab3:=S 732030344340
noncomputable def WH:=SJ bq BG
noncomputable def WI:=S 568614351431
noncomputable def eB:=S 691438793636
noncomputable def KJ:=S 5472870033021860
noncomputable def KL:=S 0x897be92faca2dea
noncomputable def WJ:=S 0x338e770c6b40b380e
noncomputable def GH:=S 691427145571
noncomputable def yA:=S 0x338e770c6b40c9d0e
noncomputable def yB:=S 0x2e11aeda739bc380d
noncomputable def yC:=S 0xb570e2aea2566173f8d9744ce28d
noncomputable def WK:=SJ bq BH
noncomputable def WL:=SJ bq BI
noncomputable def WM:=SJ bq BJ
noncomputable def WN:=SJ bq BK
noncomputable def WO:=SJ bq BL
noncomputable def BY:=S 577360934469
noncomputable def WQ:=SJ bq BM
noncomputable def WR:=S 66
noncomputable def WT:=SL [9]
noncomputable def PG:=S 1
noncomputable def ab4:=S 3
noncomputable def ab5:=S 61
noncomputable def ab6:=S 16
noncomputable def ab7:=S 49
noncomputable def ab8:=SL [8233]
noncomputable def WU:=SJ bq BN
noncomputable def ab9:=S 0x1316572dcfb1ee603b8
noncomputable def WV:=SJ bq BO
noncomputable def WW:=SJ bq BP
noncomputable def WX:=SJ bq BQ
noncomputable def WY:=SJ bq BR
noncomputable def WZ:=SJ bq BS
noncomputable def W0:=SJ bq BU
noncomputable def W2:=SJ bq BV
noncomputable def W3:=SJ bq BW
noncomputable def KN:=S 0x26cd5904a3fe6b16bb841c2f122
noncomputable def KO:=S 62667333
noncomputable def KP:=S 0x2eb225250f6af5d27
noncomputable def KQ:=S 66451493540330
noncomputable def KR:=S 0xb7e56c509ea5eaa5b2e32a761ed19ee51
noncomputable def KS:=S 691685543509
noncomputable def GI:=S 0x6bc46476e1690babce55
noncomputable def eF:=S 0x12dcc6d6c1e960a911a
noncomputable def KU:=S 0x12e2c6f773478d9c4f1
noncomputable def eY:=S 682779854065
noncomputable def W4:=S 0x46d8f3c45111c1308a65
noncomputable def BZ:=S 55484825562117
noncomputable def B1:=S 0x338e77d85ec0bf291
noncomputable def B3:=S 0x897bea40fcc0e88
noncomputable def B5:=S 0x529f8cb4e757d7c470607fe6d9c511
noncomputable def B6:=S 0x6faad59da0f57fe28a25a288108bd04d95a1d8f966d9c511
noncomputable def B7:=S 0xb9e6fc97089b583cba064911a26d9c511
noncomputable def B8:=S 0x433057b140b3cba064911a26d9c511
noncomputable def B9:=S 0x1a2144dd5afd8011b03cba064911a26d9c511
noncomputable def Ca:=S 0x51886ff4cfa7278259776dde015f71
noncomputable def Cb:=S 0x1e3ec98bca9ce508ea5a6d9c511
noncomputable def Cc:=S 0x50a76eca23958117ea6d9c511
noncomputable def Cd:=S 0x14b6e0d285ed3093f1afb609d605e84fbe1dfe3be06d8bca9ce508ea5a6d9c511
noncomputable def Ce:=S 0x2a7c03938a6d9c511
noncomputable def Cf:=S 0x63b525384a11747be626bfc246824a28182291e508ea5a6d9c511
noncomputable def Cg:=S 0x8c0e403897abd4e4224a28182291e508ea5a6d9c511
noncomputable def Ci:=S 0x109e30deb6ff036291918c81dd51ee2f1edc5bdbf15166d9c511
noncomputable def Cj:=S 0x75fe9cf56729d55e760e513946a042d6be508ea5a6d9c511
noncomputable def Ck:=S 0xa5be23be0d168946a042d6be508ea5a6d9c511
noncomputable def Cm:=S 0x12368a55d86689323946a042d6be508ea5a6d9c511
noncomputable def Cn:=S 0x109e30deb702e8bf5106754b0bc061b1595b8cd8117ea6d9c511
noncomputable def Co:=S 0x1757b55ec3f1f8d0b061b1595b8cd8117ea6d9c511
noncomputable def Cp:=S 0xbd01274577a7ff9070d178e57c2d3f1f8d0b061b1595b8cd8117ea6d9c511
noncomputable def Cq:=S 0x14c4ebf639aa599c6ccb099178e57c2d3f1f8d0b061b1595b8cd8117ea6d9c511
noncomputable def Cr:=S 0x9174b072eb5bc2c33b5178e57c2d3f1f8d0b061b1595b8cd8117ea6d9c511
noncomputable def Cs:=S 0x13aa6f7e3bdc4e3a690262dee11ab5d5bd8117ea6d9c511
noncomputable def Ct:=S 0x1b9fb09facd916e11ab5d5bd8117ea6d9c511
noncomputable def Cu:=S 0x309170e4ebbc1885ee11ab5d5bd8117ea6d9c511
noncomputable def Cv:=S 0x22938a9ef8df07f25b316724806e11ab5d5bd8117ea6d9c511
noncomputable def Cw:=S 0xb5311374a07be47b3ae1c986dde015f71
noncomputable def GJ:=S 2
noncomputable def W5:=S 194
noncomputable def W6:=S 0x1a2bb8f68c04c3419f357e9516b915
noncomputable def W7:=SJ eY aM
noncomputable def W8:=SJ eY BZ
noncomputable def W9:=SJ eY B1
noncomputable def Xa:=SJ eY B3
noncomputable def jG:=S 6772477525
noncomputable def pB:=S 7289993446
noncomputable def Xb:=SJ eY B5
noncomputable def Xc:=SJ eY B6
noncomputable def Xd:=SJ eY B7
noncomputable def Xe:=SJ eY B8
noncomputable def Xf:=SJ eY B9
noncomputable def Xg:=SJ eY Ca
noncomputable def Xh:=SJ eY Cb
noncomputable def Xi:=SJ eY Cc
noncomputable def Xj:=SJ eY Cd
noncomputable def GK:=S 6515940643
noncomputable def KV:=S 0x198400f061b1595b66cb3b8431aad1ea
noncomputable def Xk:=SJ eY Ce
noncomputable def Xl:=SJ eY Cf
noncomputable def Xm:=SJ eY Cg
noncomputable def Xn:=SJ eY Ci
noncomputable def Xo:=SJ eY Cj
noncomputable def Xp:=SJ eY Ck
noncomputable def Xq:=SJ eY Cm
noncomputable def Xr:=SJ eY Cn
noncomputable def yD:=S 7294535687
noncomputable def Xs:=SJ eY Co
noncomputable def Xu:=SJ eY Cp
noncomputable def Xv:=SJ eY Cq
noncomputable def Xw:=SJ eY Cr
noncomputable def Xx:=SJ eY Cs
noncomputable def Xy:=SJ eY Ct
noncomputable def Xz:=SJ eY Cu
noncomputable def XA:=SJ eY Cv
noncomputable def XB:=SJ eY Cw
noncomputable def KW:=S 0x2b80351e8ff91aa0cc4c84
noncomputable def KX:=S 7202522382
noncomputable def GL:=S 6021244980
noncomputable def KY:=S 690934310964
noncomputable def tL:=S 0x131665a517480fa3915
noncomputable def KZ:=S 0x6be85d72ef03f21a911a
noncomputable def yE:=S 0x9375086e14778d5bc790d
noncomputable def K0:=S 0x543c9ce1aad6520
noncomputable def GN:=S 0x1f8501c0a66ad6520
noncomputable def GO:=S 0x1f8b8462d0ead6520
noncomputable def GP:=S 0x6fd2cf412ad6520
noncomputable def K1:=S 0x2a958b22f18ad6520
noncomputable def GQ:=S 0x7186c6240ad6520
noncomputable def GR:=S 0x6fd2d0ea6ad6520
noncomputable def K2:=S 817421
noncomputable def Cy:=SL []
noncomputable def aca:=S 626851
noncomputable def acb:=S 5946946657
noncomputable def acd:=SL [9,117,32,118]
noncomputable def ace:=S 63710375
noncomputable def acf:=S 603485291620
noncomputable def acg:=S 60286960143470
noncomputable def ach:=S 63418331077806
noncomputable def fq:=S 818771
noncomputable def hE:=S 62584679
noncomputable def v5:=S 690919306257
noncomputable def iz:=S 8226
noncomputable def se:=S 70564884
noncomputable def aci:=S 64316711
noncomputable def y1:="builtins.__package__:str#opaque"
noncomputable def y2:="builtins.__loader__:shared#opaque"
noncomputable def kN:=PySem.W.SL.s14018661285674007319x4
noncomputable def y61:=PySem.W.SL.s9222952809800978799x4
noncomputable def pP:=PySem.W.SL.s2742458400755230247x6
noncomputable def y70:=PySem.W.SL.s4290257624100764138x5
noncomputable def oM:=PySem.W.SL.s2766695959194262286x5
noncomputable def tT:=PySem.W.SL.s17162191345867700912x4
noncomputable def Zb:=PySem.W.SL.s4278001404047624695x13
noncomputable def M6:=PySem.W.SL.s5946037652744460706x9
noncomputable def y89:=PySem.W.SL.s10852414792293593619x7
noncomputable def aji:=PySem.W.SL.s7097527257260152453x26
noncomputable def aed:=PySem.W.SL.s6658869562736209489x6
noncomputable def Za:=PySem.W.SL.s5856160107412720595x4
noncomputable def ajj:=PySem.W.SL.s658472552662922059x5
noncomputable def Rf:=PySem.W.SL.s7174869446012820540x8
noncomputable def aee:=PySem.W.SL.s11030030927630378310x26
noncomputable def pO:=PySem.W.SL.s11443829558043349243x14
noncomputable def ajk:=PySem.W.SL.s6511155373996960695x17
noncomputable def ajl:=PySem.W.SL.s12411053484034534018x21
noncomputable def aef:=PySem.W.SL.s14755015743595814543x17
noncomputable def ajm:=PySem.W.SL.s10220274742760427390x26
noncomputable def ajn:=PySem.W.SL.s4860613602091757760x24
noncomputable def Hs:=PySem.W.SL.s5160863994218179198x17
noncomputable def aeg:=PySem.W.SL.s15660640913423913556x4
noncomputable def il (s0:Str) (i1:Int) (i2:Int) (i3:Int) (a4:Nat) (a5:Nat):Obj:=⟨vY Za,none,dF [vS s0 a4,vS s0 (a4+1),vS sa (a4+2),vI (i1) 0,vI 0 0,vI 0 0,vI 0 0,vI 0 0,vR a5,vF,vI (i2) 0,vR (a5+1),vN,vN,vN,vN,vI (i3) 0,vI (i1) 0,vS sa (a4+4)],#[]⟩
noncomputable def ip (s0:Str) (a1:Nat) (a2:Nat) (a3:Nat):Obj:=⟨vY ajj,none,dP,#[some (vR a1),some (vR 3),some (vR a2),none,some (vS s0 a3),none,some (vR 0)]⟩
noncomputable def j8 (s0:Str) (a1:Nat):Obj:=⟨vY oM,none,dS [vS s0 a1] 0,#[]⟩
noncomputable def OP (s0:Str) (a1:Nat):Obj:=⟨vN,none,dK [a1] s0 s0 0 (vN) (vN) (vN) 0,#[]⟩
noncomputable def bM (s0:Str) (s1:Str) (i2:Int) (i3:Int) (i4:Int) (a5:Nat) (a6:Nat) (a7:Nat):Obj:=⟨vY Za,none,dF [vS s0 a5,vS s1 (a5+1),vS sa (a5+2),vI (i2) 0,vI (i3) 0,vI 0 0,vI 0 0,vI 3 0,vR a6,vT,vI 181 0,vR (a6+1),vN,vR (a6+2),vR (a6+3),vR (a6+4),vI (i4) 0,vI (i2) 0,vS sa a7],#[]⟩
noncomputable def OQ (s0:Str) (s1:Str) (a2:Nat) (a3:Nat) (a4:Nat):Obj:=⟨vY Rf,none,dK [a2] s0 s0 3 (vN) (vS s1 a3) (vR a4) 0,#[]⟩
noncomputable def Uh (s0:Str) (s1:Str) (s2:Str) (s3:Str) (s4:Str) (s5:Str) (s6:Str) (a7:Nat):Obj:=⟨vY oM,none,dS [vS s0 a7,vS s1 (a7+1),vS s2 (a7+2),vS s3 (a7+3),vS s4 (a7+4),vS s5 (a7+5),vS s6 (a7+6)] 0,#[]⟩
noncomputable def bR (s0:Str) (s1:Str) (a2:Nat) (a3:Nat):Obj:=⟨vN,none,dK [a2,a3] s0 s1 0 (vN) (vN) (vN) 0,#[]⟩
noncomputable def cp (s0:Str) (s1:Str) (s2:Str) (a3:Nat) (a4:Nat) (a5:Nat) (a6:Nat):Obj:=⟨vY Rf,none,dK [a3,a4] s0 s1 3 (vN) (vS s2 a5) (vR a6) 0,#[]⟩
noncomputable def Zq (s0:Str) (s1:Str) (s2:Str) (s3:Str) (s4:Str) (s5:Str) (s6:Str) (s7:Str) (a8:Nat):Obj:=⟨vY oM,none,dS [vS s0 a8,vS s1 (a8+1),vS s2 (a8+2),vS s3 (a8+3),vS s4 (a8+4),vS s5 (a8+5),vS s6 (a8+6),vS s7 (a8+7)] 0,#[]⟩
noncomputable def kJ (s0:Str) (s1:Str) (s2:Str) (a3:Nat) (a4:Nat) (a5:Nat) (a6:Nat):Obj:=⟨vY Rf,none,dK [a3,a4] s0 s1 3 (vR a5) (vS s2 a6) (vR (a5+6)) 0,#[]⟩
noncomputable def jz (s0:Str) (s1:Str) (s2:Str) (a3:Nat):Obj:=⟨vY oM,none,dS [vS s0 a3,vS s1 (a3+1),vS s2 (a3+2)] 0,#[]⟩
noncomputable def rJ (s0:Str) (s1:Str) (s2:Str) (s3:Str) (s4:Str) (s5:Str) (a6:Nat):Obj:=⟨vY oM,none,dS [vS s0 a6,vS s1 (a6+1),vS s2 (a6+2),vS s3 (a6+3),vS s4 (a6+4),vS s5 (a6+5)] 0,#[]⟩
noncomputable def aa4 (s0:Str) (a1:Nat) (a2:Nat):Obj:=⟨vY tT,none,dC s0 [vY pP] [vR (a1+1),vY pP] a1 s0 true [] false (none) false,#[none,none,some (vS s0 a2),some (vS s0 (a2+8)),some (vB pO),some (vT)]⟩
noncomputable def Jo (a0:Nat) (a1:Nat):Obj:=⟨vY aef,none,dF [vS Kc a0,vR a1,vB ajk,vB ajl],#[]⟩
noncomputable def F2 (a0:Nat) (a1:Nat):Obj:=⟨vY aef,none,dF [vS Gq a0,vR a1,vB ajm,vN],#[]⟩
noncomputable def cW (a0:Nat):Obj:=⟨vY y70,none,dF [vR a0,vR a0,vR a0],#[]⟩
noncomputable def cY (a0:Nat):Obj:=⟨vY aee,none,dF [vB ajn,vR a0],#[]⟩
noncomputable def tI (H:Array Nat->Int) (s0:Str) (s1:Str) (i2:Int) (a3:Nat) (a4:Nat) (a5:Nat):Obj:=⟨vY kN,none,dD [eS H jE a3 (vS s0 a4),eS H vW (a3+2) (vS s1 (a3+1)),eS H jF (a3+4) (vI (i2) (a3+3)),eS H gG (a3+5) (vR a5)] 4,#[]⟩
noncomputable def Au (H:Array Nat->Int) (s0:Str) (s1:Str) (s2:Str) (i3:Int) (a4:Nat) (a5:Nat) (a6:Nat) (a7:Nat) (a8:Nat) (a9:Nat) (a10:Nat):Obj:=⟨vY kN,none,dD [eS H jE a4 (vS s0 a5),eS H jF (a4+4) (vI (i3) (a4+3)),eS H s1 a6 (vR a7),eS H s2 a8 (vR a9),eS H n2 (a8+1) (vN)] a10,#[]⟩
noncomputable def qo (a0:Nat):Obj:=⟨vY oM,none,dS [vR a0] 0,#[]⟩
noncomputable def Ud (H:Array Nat->Int) (s0:Str) (s1:Str) (s2:Str) (i3:Int) (a4:Nat) (a5:Nat) (a6:Nat) (a7:Nat) (a8:Nat) (a9:Nat):Obj:=⟨vY kN,none,dD [eS H jE a4 (vS s0 a5),eS H vW (a4+2) (vS s1 (a4+1)),eS H jF (a4+4) (vI (i3) (a4+3)),eS H aM a6 (vR a7),eS H s2 a8 (vR (a7+7)),eS H gG a9 (vR (a7+8))] 6,#[]⟩
noncomputable def Ue (i0:Int) (i1:Int) (a2:Nat):Obj:=⟨vN,none,dF [vI (i0) 0,vI 4 0,vR a2,vI (i1) 0,vI 4 0,vR (a2+7)],#[]⟩
noncomputable def fD (s0:Str) (s1:Str) (a2:Nat):Obj:=⟨vY oM,none,dS [vS s0 a2,vS s1 (a2+1)] 0,#[]⟩
noncomputable def nM (s0:Str) (s1:Str) (s2:Str) (s3:Str) (s4:Str) (a5:Nat):Obj:=⟨vY oM,none,dS [vS s0 a5,vS s1 (a5+1),vS s2 (a5+2),vS s3 (a5+3),vS s4 (a5+4)] 0,#[]⟩
noncomputable def aa5 (H:Array Nat->Int) (s0:Str) (i1:Int) (a2:Nat) (a3:Nat) (a4:Nat) (a5:Nat):Obj:=⟨vY kN,none,dD [eS H jE a2 (vS s0 a3),eS H jF (a2+4) (vI (i1) (a2+3)),eS H aM (a2+16) (vR a4),eS H lz a5 (vR (a4+7)),eS H gG (a5+6) (vR (a4+8)),eS H n2 (a5+7) (vN)] 2,#[]⟩
noncomputable def aa6 (s0:Str) (a1:Nat) (a2:Nat) (a3:Nat):Obj:=⟨vY tT,none,dC s0 [vR 67] [vR (a1+1),vR 67,vY M6,vY Zb,vY pP] a1 s0 true [] false (none) false,#[some (vR a2),none,some (vS s0 a3),some (vS s0 (a3+8)),some (vB Hs),some (vT)]⟩
noncomputable def yb (H:Array Nat->Int) (s0:Str) (s1:Str) (i2:Int) (a3:Nat) (a4:Nat) (a5:Nat) (a6:Nat) (a7:Nat):Obj:=⟨vY kN,none,dD [eS H jE a3 (vS s0 a4),eS H vW (a3+2) (vS s1 (a3+1)),eS H jF (a3+4) (vI (i2) (a3+3)),eS H aM a5 (vR a6),eS H gG a7 (vR (a6+1))] 5,#[]⟩
noncomputable def nN (i0:Int) (a1:Nat):Obj:=⟨vN,none,dF [vI (i0) 0,vI 4 0,vR a1],#[]⟩
noncomputable def aa7 (H:Array Nat->Int) (s0:Str) (i1:Int) (a2:Nat) (a3:Nat) (a4:Nat) (a5:Nat) (a6:Nat):Obj:=⟨vY kN,none,dD [eS H jE a2 (vS s0 a3),eS H jF (a2+4) (vI (i1) (a2+3)),eS H aM a4 (vR a5),eS H gG a6 (vR (a5+1)),eS H Kc (a6+2) (vR (a5+4)),eS H Gq (a6+4) (vR (a5+5)),eS H n2 (a6+5) (vN)] 4,#[]⟩
noncomputable def F3 (H:Array Nat->Int) (s0:Str) (s1:Str) (i2:Int) (a3:Nat) (a4:Nat) (a5:Nat) (a6:Nat):Obj:=⟨vY kN,none,dD [eS H jE a3 (vS eW 321),eS H vW (a3+2) (vS s0 (a3+1)),eS H jF (a3+4) (vI (i2) (a3+3)),eS H Zt (a3+6) (vS s1 (a3+5)),eS H aM a4 (vR a5),eS H gG a6 (vR (a5+1))] 6,#[]⟩
noncomputable def iq (s0:Str) (s1:Str) (s2:Str) (s3:Str) (a4:Nat):Obj:=⟨vY oM,none,dS [vS s0 a4,vS s1 (a4+1),vS s2 (a4+2),vS s3 (a4+3)] 0,#[]⟩
noncomputable def F4 (H:Array Nat->Int) (s0:Str) (i1:Int) (a2:Nat) (a3:Nat) (a4:Nat) (a5:Nat):Obj:=⟨vY kN,none,dD [eS H jE a2 (vS eW 321),eS H jF (a2+4) (vI (i1) (a2+3)),eS H Zt (a2+6) (vS s0 (a2+5)),eS H aM a3 (vR a4),eS H gG a5 (vR (a4+1)),eS H n2 (a5+1) (vN)] 2,#[]⟩
noncomputable def gN (s0:Str) (a1:Nat) (a2:Nat) (a3:Nat) (a4:Nat):Obj:=⟨vY tT,none,dC s0 [vR a1] [vR (a2+1),vR a1,vY pP] a2 s0 true [] false (none) false,#[some (vR a3),none,some (vS s0 a4),some (vS s0 (a4+8)),some (vB pO),some (vT)]⟩
noncomputable def nP (H:Array Nat->Int) (s0:Str) (s1:Str) (i2:Int) (a3:Nat) (a4:Nat):Obj:=⟨vY kN,none,dD [eS H jE a3 (vS eW 321),eS H vW (a3+2) (vS s0 (a3+1)),eS H jF (a3+4) (vI (i2) (a3+3)),eS H Zt (a3+6) (vS s1 (a3+5)),eS H gG (a3+7) (vR a4)] 5,#[]⟩
noncomputable def nQ (H:Array Nat->Int) (s0:Str) (i1:Int) (a2:Nat) (a3:Nat):Obj:=⟨vY kN,none,dD [eS H jE a2 (vS eW 321),eS H jF (a2+4) (vI (i1) (a2+3)),eS H Zt (a2+6) (vS s0 (a2+5)),eS H gG (a2+7) (vR a3),eS H n2 (a2+8) (vN)] 2,#[]⟩
noncomputable def vE (H:Array Nat->Int) (s0:Str) (i1:Int) (a2:Nat) (a3:Nat) (a4:Nat):Obj:=⟨vY kN,none,dD [eS H jE a2 (vS s0 a3),eS H jF (a2+4) (vI (i1) (a2+3)),eS H gG (a2+5) (vR a4),eS H n2 (a2+6) (vN)] 2,#[]⟩
noncomputable def Jp (s0:Str) (a1:Nat) (a2:Nat) (a3:Nat) (a4:Nat) (a5:Nat):Obj:=⟨vY tT,none,dC s0 [vR a1] [vR (a2+1),vR a1,vR a3,vY pP] a2 s0 true [] false (none) false,#[some (vR a4),none,some (vS s0 a5),some (vS s0 (a5+8)),some (vB pO),some (vT)]⟩
noncomputable def aa8 (s0:Str) (a1:Nat) (a2:Nat):Obj:=⟨vY tT,none,dC s0 [vR 469] [vR (a1+9),vR 469,vR 449,vR 427,vY pP] (a1+8) s0 true [] false (none) false,#[some (vR a1),none,some (vS s0 a2),some (vS s0 (a2+8)),some (vB pO),some (vT)]⟩
noncomputable def aa9 (s0:Str) (a1:Nat) (a2:Nat):Obj:=⟨vY tT,none,dC s0 [vR 95] [vR (a1+9),vR 95,vR 67,vY M6,vY Zb,vY pP] (a1+8) s0 true [] false (none) false,#[some (vR a1),none,some (vS s0 a2),some (vS s0 (a2+8)),some (vB Hs),some (vT)]⟩
noncomputable def aba (s0:Str) (s1:Str) (a2:Nat) (a3:Nat) (a4:Nat) (a5:Nat) (a6:Nat):Obj:=⟨vY Rf,none,dL [a2,a3] aM s0 3 [(VL,a4)] (vN) (vN) (vN) (vS s1 a5) (vR (a6+6)) (vR a6) 0,#[]⟩
noncomputable def Ug (s0:Str) (s1:Str) (s2:Str) (s3:Str) (s4:Str) (s5:Str) (s6:Str) (s7:Str) (a8:Nat):Obj:=⟨vY oM,none,dS [vS ag a8,vS s0 (a8+1),vS s1 (a8+2),vS s2 (a8+3),vS s3 (a8+4),vS s4 (a8+5),vS s5 (a8+6),vS s6 (a8+7),vS s7 (a8+8)] 0,#[]⟩
noncomputable def abb (s0:Str) (i1:Int) (i2:Int) (i3:Int) (a4:Nat) (a5:Nat):Obj:=⟨vY Za,none,dF [vS s0 a4,vS s0 (a4+1),vS sa (a4+2),vI (i1) 0,vI (i2) 0,vI 0 0,vI 0 0,vI 3 0,vR a5,vT,vI 181 0,vR (a5+1),vN,vN,vN,vR (a5+2),vI (i3) 0,vI (i1) 0,vS sa (a4+4)],#[]⟩
noncomputable def Qh (H:Array Nat->Int):List DictEntry:=[eS H n2 166 (vN),eS H n3 167 (vN),eS H n4 168 (vB aji),eS H n5 169 (vN),eS H ahW 170 (vR 6),eS H ahX 171 (vR 4),eS H ahY 173 (vS sa 172),eS H ahZ 174 (vN),eS H Gm 193 (vR 21),eS H yu 259 (vR 53),eS H qq 279 (vR 67),eS H m9 320 (vR 95),eS H ph 353 (vR 114),eS H Gn 386 (vR 135),eS H Ka 404 (vR 147),eS H Kb 422 (vR 159),eS H Gr 453 (vR 179),eS H Kd 471 (vR 191),eS H Ke 489 (vR 203),eS H Kf 507 (vR 215),eS H Kg 525 (vR 227),eS H Kh 543 (vR 239),eS H Ki 561 (vR 251),eS H Kj 579 (vR 263),eS H Kk 597 (vR 275),eS H Kl 615 (vR 287),eS H Km 633 (vR 299),eS H Ko 651 (vR 311),eS H Kp 669 (vR 323),eS H Gs 700 (vR 342),eS H Gu 731 (vR 361),eS H Gv 762 (vR 380),eS H Gw 797 (vR 400),eS H tJ 837 (vR 427),eS H vZ 866 (vR 449),eS H v3 901 (vR 469),eS H yw 917 (vR 481),eS H Gx 946 (vR 501),eS H Kq 962 (vR 513),eS H Gy 995 (vR 533),eS H Gz 1024 (vR 553),eS H Kr 1040 (vR 565),eS H GA 1077 (vR 585),eS H Ks 1093 (vR 597),eS H Kt 1109 (vR 609),eS H Ku 1125 (vR 621),eS H Kv 1141 (vR 633),eS H AF 1183 (vR 659),eS H GD 1190 (vR 668),eS H kf 1284 (vR 730),eS H Kw 1302 (vR 744),eS H GF 1341 (vR 763),eS H bq 2097 (vR 1281),eS H KU 2115 (vR 1293),eS H eY 2418 (vR 1521),eS H K0 2432 (vR 1524),eS H GN 2438 (vR 1531),eS H GO 2444 (vR 1538),eS H GP 2455 (vR 1545),eS H K1 2461 (vR 1550),eS H GQ 2468 (vR 1557),eS H GR 2475 (vR 1564),eS H K2 2481 (vR 1569)]
noncomputable def yP:List Value:=[vI 1 0,vI 0 0,vR 20,vI 5 0,vI 0 0,vR 27,vI 43 0,vI 0 0,vR 63,vI 45 0,vI 0 0,vR 76,vI 68 0,vI 0 0,vR 103,vI 73 0,vI 0 0,vR 124,vI 81 0,vI 0 0,vR 143,vI 83 0,vI 0 0,vR 155,vI 85 0,vI 0 0,vR 167,vI 92 0,vI 0 0,vR 187,vI 94 0,vI 0 0,vR 199,vI 96 0,vI 0 0,vR 211,vI 98 0,vI 0 0,vR 223,vI 100 0,vI 0 0,vR 235,vI 102 0,vI 0 0,vR 247,vI 104 0,vI 0 0,vR 259,vI 106 0,vI 0 0,vR 271,vI 108 0,vI 0 0,vR 283,vI 110 0,vI 0 0,vR 295,vI 112 0,vI 0 0,vR 307,vI 114 0,vI 0 0,vR 319,vI 116 0,vI 0 0,vR 331,vI 123 0,vI 0 0,vR 350,vI 130 0,vI 0 0,vR 369,vI 137 0,vI 0 0,vR 388,vI 147 0,vI 0 0,vR 408,vI 155 0,vI 0 0,vR 437,vI 161 0,vI 0 0,vR 457,vI 170 0,vI 0 0,vR 477,vI 172 0,vI 0 0,vR 489,vI 178 0,vI 0 0,vR 509,vI 180 0,vI 0 0,vR 521,vI 188 0,vI 0 0,vR 541,vI 194 0,vI 0 0,vR 561,vI 196 0,vI 0 0,vR 573,vI 206 0,vI 0 0,vR 593,vI 208 0,vI 0 0,vR 605,vI 210 0,vI 0 0,vR 617,vI 212 0,vI 0 0,vR 629,vI 215 0,vI 0 0,vR 641,vI 229 0,vI 0 0,vR 667,vI 231 0,vI 0 0,vR 674,vI 293 0,vI 0 0,vR 740,vI 295 0,vI 0 0,vR 752,vI 304 0,vI 0 0,vR 774,vI 1146 0,vI 0 0,vR 1289,vI 1148 0,vI 0 0,vR 1302,vI 1536 0,vI 0 0,vR 1530,vI 1538 0,vI 0 0,vR 1537,vI 1540 0,vI 0 0,vR 1544,vI 1548 0,vI 0 0,vR 1549,vI 1583 0,vI 0 0,vR 1556,vI 1585 0,vI 0 0,vR 1563,vI 1605 0,vI 0 0,vR 1568]
noncomputable def o0:Obj:=⟨vY kN,none,dD [eS H n0 1 (vS n1 160),eS H n2 2 (vB "builtins.__doc__:str#opaque"),eS H n3 3 (vB y1),eS H n4 4 (vB y2),eS H n5 5 (vB PySem.W.SL.s11665532747177232413x24),eS H (S 0x49c0c7ea93730ebb2e9328440) 6 (vB PySem.W.SL.s15183661809925369436x15),eS H (S 0x26d972ce83e378040) 7 (vB PySem.W.SL.s13915890719876406383x10),eS H (S 780642) 8 (vB PySem.W.SL.s13459172003223722735x3),eS H (S 717090) 9 (vB PySem.W.SL.s10557405761357834076x3),eS H (S 837090) 10 (vB PySem.W.SL.s4233737765568776869x3),eS H (S 6351269826) 11 (vB PySem.W.SL.s2508922471967985374x5),eS H (S 735235) 12 (vB PySem.W.SL.s15574269061696679450x3),eS H (S 0x338e889ff4a44f763) 13 (vB PySem.W.SL.s6016482663378992977x10),eS H (S 5320956670799108) 14 (vB PySem.W.SL.s5596568736180474577x8),eS H (S 772004) 15 (vB PySem.W.SL.s2839554839881490554x3),eS H (S 55427239810628) 16 (vB PySem.W.SL.s725004073602090463x7),eS H (S 65669241892485) 17 (vB PySem.W.SL.s9436932552931045734x7),eS H (S 772101) 18 (vB PySem.W.SL.s2754603736356183583x3),eS H (S 569471752197) 19 (vB PySem.W.SL.s15185746759980889043x6),eS H (S 68741350) 20 (vB PySem.W.SL.s8192189862530294059x4),eS H (S 60815782) 21 (vB PySem.W.SL.s7038307821325472102x4),eS H (S 698742262343) 22 (vB PySem.W.SL.s5662562618415449548x6),eS H (S 65669241966216) 23 (vB PySem.W.SL.s15281542589158584767x7),eS H (S 66385157020968) 24 (vB PySem.W.SL.s17651547275483570877x7),eS H (S 65669241956617) 25 (vB PySem.W.SL.s4036449017235975746x7),eS H (S 65366281) 26 (vB PySem.W.SL.s8879979712987360175x4),eS H (S 827017) 27 (vB PySem.W.SL.s1801250619170735830x3),eS H Zt 28 (vB PySem.W.SL.s17659931425627118568x2),eS H (S 7296287210) 29 (vB PySem.W.SL.s6063217899685152688x5),eS H n30 30 (vB PySem.W.SL.s8008927332132565319x10),eS H (S 0x32fca2a03afc4efca) 31 (vB PySem.W.SL.s3544116645089599534x10),eS H (S 74086442) 32 (vB PySem.W.SL.s13761710972054866084x4),eS H (S 7112298498) 33 (vB PySem.W.SL.s12896375587409280029x5),eS H n34 34 (vB PySem.W.SL.s13014049009108672802x3),eS H (S 691512061517) 35 (vB PySem.W.SL.s13935586738268321596x6),eS H n36 36 (vB PySem.W.SL.s8200498257699607233x3),eS H (S 735246) 37 (vB PySem.W.SL.s14114244577727609259x3),eS H (S 76029583) 38 (vB PySem.W.SL.s1499430450269397089x4),eS H (S 7298840034) 39 (vB PySem.W.SL.s8755793994789770505x5),eS H (S 789968) 40 (vB PySem.W.SL.s15725212667919936108x3),eS H (S 643952) 41 (vB PySem.W.SL.s15791221867095933363x3),eS H (S 818769) 42 (vB PySem.W.SL.s81309575031448614x3),eS H (S 7290029937) 43 (vB PySem.W.SL.s8069831620301644142x5),eS H (S 74186387) 44 (vB PySem.W.SL.s10061844253413749634x4),eS H (S 5931185747) 45 (vB PySem.W.SL.s9496514870978017513x5),eS H (S 65669241966228) 46 (vB PySem.W.SL.s8899691144933366716x7),eS H (S 568628562516) 47 (vB PySem.W.SL.s15201008993051130160x6),eS H (S 727188) 48 (vB PySem.W.SL.s741896355592496720x3),eS H (S 75089175) 49 (vB PySem.W.SL.s17925004256654032244x4),eS H (S 62667311) 50 (vN),eS H (S 6370774751506694) 51 (.ellipsis),eS H (S 0xd411dfcecc0357c9323122f) 52 (.notImplemented),eS H (S 6020459751) 53 (vF),eS H (S 62732117) 54 (vT),eS H (S 68869699) 55 (vY PySem.W.SL.s11695548795398191787x4),eS H (S 0x354d7060c4473128e) 56 (vY PySem.W.SL.s4156966113859768872x10),eS H (S 0x9147465a3dd1603) 57 (vY PySem.W.SL.s9501651726347032510x9),eS H (S 7197234691) 58 (vY PySem.W.SL.s15722918466584999320x5),eS H (S 0xfbb677cca341b76524) 59 (vY PySem.W.SL.s591115383303110208x11),eS H (S 70242816529988) 60 (vY PySem.W.SL.s15721156781594690315x7),eS H (S 75836421) 61 (vY kN),eS H n62 62 (vY PySem.W.SL.s14340494229221121180x9),eS H (S 682780684295) 63 (vY PySem.W.SL.s13429844117177748173x6),eS H (S 7278583079) 64 (vY PySem.W.SL.s16463266125957815391x5),eS H (S 0x89561746137df67) 65 (vY PySem.W.SL.s4922535414793169389x9),eS H (S 6830244492271473) 66 (vY PySem.W.SL.s8101838861749082086x8),eS H n67 67 (vY PySem.W.SL.s7066276694103001551x3),eS H n68 68 (vY y61),eS H (S 752910) 69 (vY PySem.W.SL.s462964344163437139x3),eS H (S 698904978800) 70 (vY pP),eS H n71 71 (vY PySem.W.SL.s1438033511350832697x5),eS H (S 5240472669607571) 72 (vY PySem.W.SL.s14365286008749172514x8),eS H (S 790164) 73 (vY PySem.W.SL.s3642769012341782148x3),eS H (S 6006277428) 74 (vY PySem.W.SL.s4674234679698826739x5),eS H (S 0x5e646cecbd1a1324e834) 75 (vY PySem.W.SL.s16656946322747308186x12),eS H n76 76 (vY PySem.W.SL.s10796804682411823810x3),eS H (S 7112262804) 77 (vY y70),eS H (S 6014305429) 78 (vY oM),eS H (S 62686741) 79 (vY tT),eS H (S 753691) 80 (vY PySem.W.SL.s14339709457334898076x3),eS H (S 0x67989e69aeacc40) 81 (vT),eS H (S 0x2877231482b222ba1ce8e3) 82 (vY Zb),eS H (S 0x4ece5bf66637d31482b222ba1ce8e3) 83 (vY PySem.W.SL.s6585700554429387442x18),eS H (S 0x7fe3fd17bcab186) 84 (vY M6),eS H (S 0x2b79b5cf9f0b8233ec3668) 85 (vY PySem.W.SL.s7410770068591931388x13),eS H (S 0xdc47df434d14d4fcb14da495426c) 86 (vY PySem.W.SL.s11817881795495490833x17),eS H (S 0x3386c483afae771f4) 87 (vY PySem.W.SL.s15679963881808890155x10),eS H (S 0x5f9c0f44ae9e0eda30a160742) 88 (vY PySem.W.SL.s3871700062485845797x15),eS H (S 0xfef57e0c8e07fd185ecefa2) 89 (vY PySem.W.SL.s7689518266570723881x14),eS H (S 0xfef57e0c7fb34f22d0c9402) 90 (vY PySem.W.SL.s9001593270443806431x14),eS H (S 0x12e2c6f773478289c63) 91 (vY PySem.W.SL.s6882542574934516792x11),eS H (S 6300318534372902) 92 (vY PySem.W.SL.s14403400214490484960x8),eS H (S 0x12e2c6f77388673816a) 93 (vY PySem.W.SL.s14457978657717015782x11),eS H (S 0x12e2c6f7730fd6d5e2d) 94 (vY PySem.W.SL.s1753610191782819921x11),eS H (S 0x12e2c6f77420473126e) 95 (vY PySem.W.SL.s14119380538032626715x11),eS H (S 0x864ca35161c10ef) 96 (vY PySem.W.SL.s11437920000406562045x9),eS H (S 65628318067632) 97 (vY y89),eS H (S 0xfef57e0c7f6a6244beb1673) 98 (vY PySem.W.SL.s14816307405966870543x14),eS H (S 0x7150a9ccaa7b0f26bc73) 99 (vY PySem.W.SL.s8682627914449686677x12),eS H (S 0x4cd22c961ce4cd73ffdbdaa870e014) 100 (vY PySem.W.SL.s4428170145600203450x18),eS H (S 0x2877231305bcffb6f0e014) 101 (vY PySem.W.SL.s5991306692159431302x13),eS H (S 0x12e2c6f773fc8a6bdf4) 102 (vY PySem.W.SL.s16067994140765818257x11),eS H (S 0x12e2c6f772afae771f4) 103 (vY PySem.W.SL.s2327743974964600596x11),eS H (S 0x864ca35161c85f5) 104 (vY PySem.W.SL.s2804747833354056582x9),eS H (S 0x325cbd3e84af3ecf7) 105 (vY PySem.W.SL.s6070975301684473832x10),eS H (S 57009061119224) 106 (vY PySem.W.SL.s14270485950484850486x7),eS H (S 0x50abace1fbf9a743c1428bedd65d07) 107 (vY PySem.W.SL.s12041534306414923332x18),eS H (S 0x2a7e3facc4bdc799da78d0) 108 (vY PySem.W.SL.s2531307568338490285x13),eS H (S 0xd71f225a97d6bd7093ecfb93c67b) 109 (vY PySem.W.SL.s631175304937289666x17),eS H (S 0x626ed3cec6f07cfd15e3) 110 (vY PySem.W.SL.s5144983644357021410x12),eS H (S 0x46136649f520a354f96ab6fecbfe65) 111 (vY PySem.W.SL.s18039099521571816885x18),eS H (S 0x530d82b677dab698b9d91adc6) 112 (vY PySem.W.SL.s6011586214260557989x15),eS H (S 0x24e98f6d8a9a148cc51467) 113 (vY PySem.W.SL.s5430567037509283100x13),eS H (S 0x24e98f6d8a9a310673816a) 114 (vY PySem.W.SL.s8117915138073963741x13),eS H (S 0x12b53dd6ce88ee9ab776154a95c5b27a91744eb671) 115 (vY PySem.W.SL.s3423317712779056401x25),eS H (S 0x530d82b677daad91849a3ea73) 116 (vY PySem.W.SL.s2007317383269046180x15),eS H (S 0xdd795c913f9c7ab0f26bc73) 117 (vY PySem.W.SL.s17481586968713580700x14),eS H (S 0x24e98f6d8a9a3848a6bdf4) 118 (vY PySem.W.SL.s2450899226349176912x13),eS H (S 0xdd795c913f9c79a16a085d6) 119 (vY PySem.W.SL.s16626165730633575011x14),eS H (S 0x1067cdf7cbd2bea77b6) 120 (vY PySem.W.SL.s14288496050688921416x11),eS H (S 0x5f9c0f44a2671db8bc0615d03) 121 (vY PySem.W.SL.s5735081916595925998x15),eS H (S 0xd71f225a9ea6f3769af5276a0384) 122 (vY PySem.W.SL.s3865607918536308442x17),eS H (S 0x5f9c0f44b542fee75be95ba24) 123 (vY PySem.W.SL.s13337502604062700212x15),eS H (S 0x5f9c0f44b84c097383a1befe7) 124 (vY PySem.W.SL.s13114017843053701147x15),eS H (S 0xd71f225a8a4faeb1368411abefe7) 125 (vY PySem.W.SL.s17467278006356818441x17),eS H (S 0x23da85b9c1b288e92b0b9ed11ca) 126 (vY PySem.W.SL.s17722149559621369488x16),eS H (S 0xd71f225aa6bfab9eced48a9867aa) 127 (vY PySem.W.SL.s7855274175708717672x17),eS H (S 0x50abace1fe87e05b8d8fb3f927122f) 128 (vY PySem.W.SL.s13351283678309829046x18),eS H (S 0x5f9c0f44b542fedddf2c8c671) 129 (vY PySem.W.SL.s6668348653404991179x15),eS H (S 0x50abace1f9fc282a9c8fe5de015f51) 130 (vY PySem.W.SL.s12913350958174193794x18),eS H (S 0x7150a9ccb5381cbc13f5) 131 (vY PySem.W.SL.s16115879512475548326x12),eS H (S 0x23da85b9c3f91f96ad771aad1ca) 132 (vY PySem.W.SL.s15920661018069861047x16),eS H (S 0x4410d9deaca2b5e30bf07daaeb7eca12c00) 133 (vY PySem.W.SL.s10779130036587390575x21),eS H (S 0x325cbd3e8aa4ad1ca) 134 (vY PySem.W.SL.s7801419657504700863x10),eS H (S 6300318534845036) 135 (vY PySem.W.SL.s1688129525768580628x8),eS H (S 0x1e4060d4bb733490ebaa927c2e62d22e) 136 (vY PySem.W.SL.s1031832959479892071x19),eS H (S 0x1e4060d4bb6ea37cecc0357c9323122f) 137 (vY PySem.W.SL.s8991790508128307865x19),eS H (S 0x9925ea34fe98a06e20f811fca14ccb52e595f1) 138 (vY PySem.W.SL.s14539662485746970245x23),eS H (S 0xfef57e0c8e07fcfa0c2aa73) 139 (vY PySem.W.SL.s11643622729373238714x14),eS H (S 0xd71f225a94f01360052ef1a189d6) 140 (vY PySem.W.SL.s3386828779285465597x17),eS H (S 0x7150a9ccaa6a16a085d6) 141 (vY PySem.W.SL.s13042696260734638735x12),eS H (S 0x5f9c0f44afdca15e9a06d5f43) 142 (vY PySem.W.SL.s18239426817015966623x15),eS H (S 0x198651b37e2559fde1cd1e19fee75be95ba24) 143 (vY PySem.W.SL.s1270395311379034370x22),eS H (S 0x198651b37e2558e2caa178f03ee75be95ba24) 144 (vY PySem.W.SL.s10696252587037064777x22),eS H (S 0xb58244fc76d6aa4ab5f03ee75be95ba24) 145 (vY PySem.W.SL.s7852717498200857586x20),eS H (S 6300318534632693) 146 (vY PySem.W.SL.s6377248116197321094x8),eS H (S 0x50abace1f452069b55991216a085d6) 147 (vY PySem.W.SL.s3834378056692298002x18),eS H (S 0x50abace1f452069c3c866a16a085d6) 148 (vY PySem.W.SL.s17586630440231065808x18),eS H (S 0x4410d9dea6374a28d2a394a4b9216a085d6) 149 (vY PySem.W.SL.s15234114252648025395x21),eS H (S 0xf910f0143993fd17bcab186) 150 (vY PySem.W.SL.s8496462677383758984x14),eS H (S 0x23da85b9c5527ccb1a7482359c6) 151 (vY y89),eS H (S 65628318067242) 152 (vY y89),eS H (S 70547120) 153 (vB PySem.W.SL.s16789243406116112673x4),eS H (S 75892882) 154 (vB PySem.W.SL.s14400166428656793546x20),eS H (S 75893158) 155 (vB PySem.W.SL.s5857708277339239366x20),eS H (S 0x89625e824fa8244) 156 (vB "builtins.copyright#opaque"),eS H (S 66451067991908) 157 (vB "builtins.credits#opaque"),eS H (S 55484730747917) 158 (vB "builtins.license#opaque"),eS H (S 72380041) 159 (vB PySem.W.SL.s7804999707787243718x20)] 159,#[]⟩
noncomputable def o1:Obj:=⟨vY kN,none,dD [eS H n1 162 (vR 4),eS H J9 163 (vR 5)] 2,#[]⟩
noncomputable def o2:Obj:=⟨vN,none,dD [] 0,#[]⟩
noncomputable def o3:Obj:=⟨vY kN,none,dD (eS H n0 165 (vS J9 164)::(Qh H).take 8) 9,#[]⟩
noncomputable def o7:Obj:=⟨vY oM,none,dS [] 0,#[]⟩
noncomputable def o8:Obj:=⟨vN,none,dF [],#[]⟩
noncomputable def aco:Obj:=⟨vY kN,none,dD (eS H n0 165 (vS eW 321)::(Qh H).take 16) 17,#[]⟩
noncomputable def XM:Obj:=⟨vN,none,dF (yP.take 24),#[]⟩
noncomputable def iP:Obj:=⟨vY aee,none,dF [vB PySem.W.SL.s10062305145149207511x16,vY tT],#[]⟩
noncomputable def o67:Obj:=⟨vY tT,none,dC qq [vY M6] [vR 67,vY M6,vY Zb,vY pP] 66 qq true [vR 95] false (none) false,#[some (vR 58),none,some (vS qq 260),some (vS qq 268),some (vB Hs),some (vT)]⟩
noncomputable def o71:=qo 67
noncomputable def o78:Obj:=⟨vY oM,none,dS [vN,vN,vN,vN,vN] 0,#[]⟩
noncomputable def o95:=aa6 m9 94 71 280
noncomputable def o98:Obj:=⟨vY oM,none,dS [vY pP] 0,#[]⟩
noncomputable def ah4:Obj:=⟨vY tT,none,dC ph [vY pP] [vR 114,vY pP] 113 ph true [vR 135,vR 147,vR 159] false (none) false,#[some (vR 98),none,some (vS ph 323),some (vS ph 331),some (vB pO),some (vT)]⟩
noncomputable def jH:=qo 114
noncomputable def acp:Obj:=⟨vY kN,none,dD (eS H n0 165 (vS cG 798)::(Qh H).take 33) 34,#[]⟩
noncomputable def XN:Obj:=⟨vN,none,dF (yP.take 75),#[]⟩
noncomputable def Lf:Obj:=⟨vY oM,none,dS [vN,vN,vN] 0,#[]⟩
noncomputable def acq:Obj:=⟨vY kN,none,dD (eS H n0 165 (vS lA 1142)::(Qh H).take 47) 48,#[]⟩
noncomputable def XO:Obj:=⟨vN,none,dF (yP.take 117),#[]⟩
noncomputable def acw:Obj:=⟨vY oM,none,dS [vN,vN] 0,#[]⟩
noncomputable def GV:=qo 427
noncomputable def XU:=qo 449
noncomputable def acx:=qo 469
noncomputable def acy:=qo 481
noncomputable def acr:Obj:=⟨vY kN,none,dD (eS H n0 165 (vS bo 1285)::(Qh H).take 52) 53,#[]⟩
noncomputable def XQ:Obj:=⟨vN,none,dF (yP.take 132),#[]⟩
noncomputable def Lg:Obj:=⟨vY tT,none,dC m9 [vR 67] [vR 95,vR 67,vY M6,vY Zb,vY pP] 94 m9 true [vR 744] false (none) false,#[some (vR 71),none,some (vS m9 280),some (vS m9 288),some (vB Hs),some (vT)]⟩
noncomputable def ah6:Obj:=⟨vY tT,none,dC kf [vY pP] [vR 730,vY pP] 729 kf true [] false (none) false,#[some (vR 669),none,some (vS kf 1191),some (vS kf 1199),some (vB pO),some (vT)]⟩
noncomputable def acz:=qo 95
noncomputable def acs:Obj:=⟨vY kN,none,dD (eS H n0 165 (vS bo 1285)::(Qh H).take 53) 54,#[]⟩
noncomputable def XR:Obj:=⟨vN,none,dF (yP.take 135),#[]⟩
noncomputable def R9:=gN bq 730 1280 768 1342
noncomputable def acu:Obj:=⟨vY kN,none,dD (eS H n0 165 (vS eF 2098)::(Qh H).take 54) 55,#[]⟩
noncomputable def XS:Obj:=⟨vN,none,dF (yP.take 138),#[]⟩
noncomputable def acv:Obj:=⟨vY kN,none,dD (eS H n0 165 (vS eF 2098)::(Qh H).take 55) 56,#[]⟩
noncomputable def XT:Obj:=⟨vN,none,dF (yP.take 141),#[]⟩
noncomputable def Sa:Obj:=⟨vY oM,none,dS [vF] 0,#[]⟩
noncomputable def zL:BT:=(nd (o0 H) (nd (o1 H) (nd ⟨vY kN,none,dD (eS H n0 165 (vS yE 2419)::(Qh H).take 63) 64,#[]⟩ (nd o7 (nd o7 (nd (Uh ag iy iN pj mB n6 n7 211) (nd (il qq 43 181 265 262 61) (nd o8 (nd iP (nd o7 (lf (cp Bk Wk bo 49 34 1285 1022)) (lf o7)) (nd (cY 763) (lf (Zq KN KO KP gH KQ KR KS GI 2085)) e)) (nd jH (nd o7 (lf o8) e) (nd (bR A2 V2 49 16) (lf (fD ag jG 2277)) e))) (nd (gN Kd 114 190 182 454) (nd (il Kp 114 181 657 654 317) (nd Lf (lf o7) e) (nd o7 (lf (nM ag jG aK bg pB 2178)) e)) (nd (jz ke bg aK 860) (nd o7 (lf ⟨vY kN,none,dD [eS H (S 89) 1960 (vI 2 1961),eS H (S 86) 1962 (vI 4 1963),eS H (S 54) 1964 (vI 8 1965)] 3,#[]⟩) e) (nd (bM Bb Wb 517 1 1565 1558 954 1566) (lf (fD ag jG 2354)) e)))) (nd ⟨vY tT,none,dC m9 [vR 67] [vR 95,vR 67,vY M6,vY Zb,vY pP] 94 m9 true [vR 744,vR 1293] false (none) false,#[some (vR 71),none,some (vS m9 280),some (vS m9 288),some (vB Hs),some (vT)]⟩ (nd (gN Kb 114 158 150 405) (nd (gN Kl 114 286 278 598) (nd Lf (lf o7) (lf (OP K2 61))) (nd (cp AM VO bo 49 2 1285 798) (lf (bM aM W7 1151 2 2141 2135 1306 2142)) e)) (nd (bR aM Vs 28 0) (nd ⟨vY kN,none,dD [eS H jE 1198 (vS lA 1142),eS H vW 1200 (vS kf 1199),eS H jF 1202 (vI 231 1201),eS H aM 1210 (vR 682),eS H AG 1219 (vR 690),eS H sd 1228 (vR 698),eS H AH 1238 (vR 706),eS H AI 1245 (vR 713),eS H AJ 1256 (vR 720),eS H AK 1264 (vR 727),eS H gG 1277 (vR 728)] 11,#[]⟩ (lf (bM BI WL 856 2 1860 1852 1178 1861)) e) (nd o8 (lf (cp Ck Xp eF 52 19 2098 1438)) e))) (nd (il Kg 98 181 513 510 221) (nd (ip eW 350 347 321) (nd o7 (lf (bR Bz Wz 49 48)) e) (nd o7 (lf (cp Ca Xg eF 52 10 2098 1374)) e)) (nd o7 (nd acz (lf o7) e) (nd (j8 ag 1606) (lf (bM Cu Xz 1514 1 2390 2385 1498 2391)) e))))) (nd o7 (nd o7 (nd (il Ka 81 181 392 389 141) (nd (il Kk 106 181 585 582 269) (nd o7 (lf o8) (lf o7)) (nd (aba VM bo 49 0 771 1285 776) (lf (cY 1293)) e)) (nd (F4 H Vq 137 770 788 397 794) (nd (bM lz VC 224 1 1172 1168 650 1173) (lf o7) e) (nd (cp A4 V4 bo 49 18 1285 910) (lf (bR Ci Xn 52 17)) e))) (nd iP (nd (iq ag dX aK bg 687) (nd o7 (lf (nM ag aK iy dX bg 1722)) e) (nd (bM AV VV 423 1 1434 1429 842 1435) (lf (bR B8 Xe 52 8)) e)) (nd o7 (nd (bM AJ VI 283 2 1254 1246 714 1255) (lf o8) e) (nd o7 (lf (bR Cs Xx 52 26)) e)))) (nd (cp aM U1 eW 6 0 321 110) (nd (bM aM U7 88 4 444 437 170 445) (nd iP (nd o7 (lf (bM Br Ws 627 1 1686 1682 1066 1687)) e) (nd o8 (lf o7) e)) (nd (cY 427) (nd o7 (lf o7) e) (nd o7 (lf o7) e))) (nd (gN Kh 114 238 230 526) (nd o7 (nd (cY 621) (lf (cp BB WB bo 49 50 1285 1134)) e) (nd (j8 ag 1473) (lf o8) e)) (nd o7 (nd (nN 297 759) (lf (bM BU W0 1096 3 2061 2052 1258 2062)) e) (nd (bR Bi Wi 49 32) (lf (rJ KW KX GL KY tL KZ 2408)) e)))))) (nd iP (nd (Zq ag gH (S 0x2c62d46842d3c9d0e) (S 61661833) vX (S 68813077) (S 643558) abP 226) (nd o71 (nd (gN Gn 114 134 119 354) (nd (gN Kj 114 262 254 562) (nd o7 (lf o7) (lf (OP GP 57))) (nd (ip bo 774 770 1285) (lf o7) e)) (nd o7 (nd (bR aM VB 43 0) (lf (Ug yz aK (S 0x864cb81e830d1ea) iy gO iO dX bg 1804)) e) (nd (bM A3 V3 470 2 1498 1491 898 1499) (lf o7) e))) (nd (il Ke 94 181 477 474 197) (nd iP (nd (Uh ke bg pz aK fF mC dX 1067) (lf o8) e) (nd (bR AU VU 49 8) (lf o7) e)) (nd o7 (nd (bR AI VH 45 4) (lf o7) e) (nd (cp Bc Wc bo 49 26 1285 966) (lf o7) e)))) (nd (il ph 68 181 328 325 101) (nd (il Gr 85 181 428 425 165) (nd (il Km 110 181 621 618 293) (nd (jz bg n8 aK 1018) (lf (bR Bq Wr 49 40)) e) (nd o7 (lf (cp BZ W8 eF 52 2 2098 1318)) e)) (nd (bM GC Vt 153 1 825 821 418 826) (nd o7 (lf (cp BJ WM bo 49 58 1285 1190)) e) (nd (j8 ag 1535) (lf o7) e))) (nd iP (nd (jz bg aK dX 725) (nd o7 (lf (bM BA WA 707 2 1759 1751 1122 1760)) e) (nd o8 (lf o7) e)) (nd o7 (nd (vE H bo 293 1294 1285 742) (lf (bR BS WZ 49 69)) e) (nd o7 (lf (cp Cv XA eF 52 29 2098 1510)) e))))) (nd (F2 255 53) (nd o8 (nd iP (nd iP (nd (cY 533) (lf (j8 ag 1664)) (lf o8)) (nd (bM AL VN 318 2 1368 1363 786 1369) (lf (ip eF 1302 1298 2098)) e)) (nd (Ue 149 153 416) (nd o8 (lf (bR BH WK 49 56)) e) (nd o7 (lf (bM Cj Xo 1392 1 2305 2300 1426 2306)) e))) (nd (gN Kf 114 214 206 490) (nd (cW 342) (nd (cY 597) (lf o7) e) (nd (cp AW VW bo 49 10 1285 854) (lf (bM B9 Xf 1229 1 2216 2211 1362 2217)) e)) (nd (cY 469) (nd (cp AK VJ lA 45 6 1142 726) (lf (Zq ag eB aK bg gH (S 690919270068) gO iO 2013)) e) (nd o8 (lf (bR Ct Xy 52 27)) e)))) (nd jH (nd iP (nd (gN Ko 114 310 302 634) (nd (cY 565) (lf (cp Bs Wt bo 49 42 1285 1078)) e) (nd (iq ag (S 0x23ceeda2b8330af95c491bb380e) ab0 GG 1403) (lf o8) e)) (nd acw (nd o7 (lf o8) e) (nd (bR Ba Wa 49 24) (lf o8) e))) (nd (il Ki 102 181 549 546 245) (nd (bR aM Vp 25 1) (nd o7 (lf o7) e) (nd o7 (lf o8) e)) (nd (cY 501) (nd (bM aM VK 297 7 1325 1315 754 1326) (lf (cp BV W2 bo 49 71 1285 1270)) e) (nd (bM Bj Wj 592 2 1629 1624 1010 1630) (lf o7) e))))))) (nd o7 (nd (OP Gm 0) (nd (cp aM UW nZ 2 0 194 34) (nd ⟨vY tT,none,dC qq [vY M6] [vR 67,vY M6,vY Zb,vY pP] 66 qq true [vR 95,vR 659] false (none) false,#[some (vR 58),none,some (vS qq 260),some (vS qq 268),some (vB Hs),some (vT)]⟩ (nd (bM aM U3 76 5 376 368 126 377) (nd (il Kj 104 181 567 564 257) (nd (cY 513) (lf o7) (lf o7)) (nd ⟨vY aeg,none,(.cell (some (vR 1281))),#[]⟩ (lf (cY 1281)) e)) (nd (nN 140 396) (nd o7 (lf (bM BE WE 741 2 1798 1792 1150 1799)) e) (nd o8 (lf (cp Cf Xl eF 52 15 2098 1410)) e))) (nd iP (nd (gN Kp 114 322 314 652) (nd o7 (lf (bR Bv Wv 49 44)) e) (nd o7 (lf (cp B6 Xc eF 52 6 2098 1346)) e)) (nd (cY 449) (nd o7 (lf o7) e) (nd (iq ag pA aK bg 1571) (lf (cp Cq Xv eF 52 24 2098 1474)) e)))) (nd iP (nd iP (nd iP (nd o7 (lf o7) e) (nd o7 (lf (j8 ag 2147)) e)) (nd o8 (nd (ip lA 674 671 1142) (lf (jz ag aK iO 1866)) e) (nd (bM A7 V7 494 1 1529 1525 926 1530) (lf o7) e))) (nd (gN Kg 114 226 218 508) (nd o7 (nd (cY 609) (lf o8) e) (nd (bR AY VY 49 12) (lf o7) e)) (nd (cY 481) (nd o8 (lf o7) e) (nd (cp Bg Wg bo 49 30 1285 994) (lf (j8 ag 2396)) e))))) (nd (rJ n6 mB iN pj iy n7 246) (nd (bR aM UZ 4 0) (nd (gN Ka 114 146 138 387) (nd (gN Kk 114 274 266 580) (nd (nM bg n8 aK yy yx 987) (lf (bM Bn Wn 608 1 1658 1654 1038 1659)) (lf (OP GQ 59))) (nd o8 (lf ⟨vY aeg,none,(.cell (some (vR 1521))),#[]⟩) e)) (nd o98 (nd (aa6 AF 658 636 1144) (lf o7) e) (nd o7 (lf o8) e))) (nd (il Kf 96 181 495 492 209) (nd (cp aM Vl eW 23 1 321 338) (nd o7 (lf (cp Bx Wx bo 49 46 1285 1106)) e) (nd (jz ag mB pA 1440) (lf o8) e)) (nd (rJ ke bg AE pz aK mC 892) (nd (fD ag gO 1260) (lf (bM BP WW 1006 3 2007 1999 1230 2008)) e) (nd (bR Be We 49 28) (lf o7) e)))) (nd (Jo 347 114) (nd (gN Gr 114 178 162 423) (nd (il Ko 112 181 639 636 305) (nd o7 (lf (j8 ag 1692)) e) (nd (bM AQ VR 352 1 1397 1392 814 1398) (lf (bR B3 Xa 52 4)) e)) (nd o7 (nd ⟨vY oM,none,dS [vI 1 1220] 0,#[]⟩ (lf (bR BL WO 49 60)) e) (nd o7 (lf (bR Co Xs 52 22)) e))) (nd iP (nd o7 (nd o7 (lf o7) e) (nd (cp A0 V0 bo 49 14 1285 882) (lf (bM Cd Xj 1269 1 2251 2247 1390 2252)) e)) (nd (jz kK bg aK 940) (nd o8 (lf (Uh ag iy aK (S 7197086276) pA PE dX 2067)) e) (nd o8 (lf (cY 1521)) e)))))) (nd (il yu 5 181 201 198 25) (nd (kJ Gp UX nZ 2 1 36 194) (nd (Ue 47 54 84) (nd iP (nd iP (nd o78 (lf (bR Bm Wm 49 36)) (lf o8)) (nd (fD ag nf 1358) (lf o7) e)) (nd (bR aM Vr 26 1) (nd o8 (lf (cp BF WG bo 49 54 1285 1162)) e) (nd (j8 ag 1504) (lf o7) e))) (nd (gN Ke 114 202 194 472) (nd (il Gs 116 181 675 672 329) (nd (cY 585) (lf (bM Bw Ww 646 1 1716 1711 1094 1717)) e) (nd o8 (lf o7) e)) (nd Lf (nd o8 (lf (bR BO WV 49 65)) e) (nd o7 (lf o7) e)))) (nd (jz ag aK bg 338) (nd o8 (nd (gN Km 114 298 290 616) (nd (cY 553) (lf o8) e) (nd (bR AP VQ 49 4) (lf o7) e)) (nd ⟨vY tT,none,dC tJ [vY pP] [vR 427,vY pP] 426 tJ true [vR 449,vR 481,vR 501,vR 513,vR 533,vR 553] false (none) false,#[some (vR 403),none,some (vS tJ 800),some (vS tJ 808),some (vB pO),some (vT)]⟩ (nd ⟨vY oM,none,dS [vI 0 1211] 0,#[]⟩ (lf o7) e) (nd (cp A8 V8 bo 49 22 1285 938) (lf (bR Cn Xr 52 21)) e))) (nd (il Kh 100 181 531 528 233) (nd (cY 361) (nd o7 (lf (iq ag aK PF sd 1765)) e) (nd (bM AZ VZ 449 1 1467 1462 870 1468) (lf (bR Cc Xi 52 12)) e)) (nd Lf (nd o7 (lf o8) e) (nd o7 (lf o7) e))))) (nd iP (nd (bM lz U0 54 1 309 304 86 310) (nd (il Kb 83 181 410 407 153) (nd (il Kl 108 181 603 600 281) (nd o7 (lf (cp Bo Wo bo 49 38 1285 1050)) (lf (bM GR GR 1585 1 2473 2469 1558 2474))) (nd (j8 ag 1374) (lf o8) e)) (nd o7 (nd (bM GD GD 229 1 1188 1184 662 1189) (lf o8) e) (nd (bR A6 V6 49 20) (lf (jz ag jG pB 2311)) e))) (nd iP (nd (F3 H Gu Vm 123 708 724 358 728) (nd o7 (lf o7) e) (nd o7 (lf (Zq ag jG ab1 ab2 PF sd dX GG 2222)) e)) (nd o7 (nd (Jo 1278 730) (lf (cp BQ WX bo 49 67 1285 1242)) e) (nd (bM Bf Wf 576 1 1600 1596 982 1601) (lf o8) e)))) (nd (nN 76 131) (nd (il Kd 92 181 459 456 185) (nd iP (nd o7 (lf o7) e) (nd (cp AR VS bo 49 6 1285 826) (lf (bM B5 Xb 1177 1 2172 2166 1334 2173)) e)) (nd o7 (nd ⟨vY oM,none,dS [vI 1 1229] 0,#[]⟩ (lf (bM BM WQ 926 2 1902 1892 1206 1903)) e) (nd o8 (lf (bM Cp Xu 1456 1 2348 2343 1462 2349)) e))) (nd (gN Ki 114 250 242 544) (nd (F4 H Vo 130 739 755 377 759) (nd (cY 633) (lf (bR BD WD 49 52)) e) (nd o7 (lf (bM Ce Xk 1272 3 2271 2254 1398 2272)) e)) (nd o7 (nd (aa4 GF 762 1303) (lf o7) e) (nd (j8 ag 1635) (lf (OQ GN yE 55 2419 1530)) e)))))))) (nd ⟨vY aed,(some 3),dP,#[]⟩ (nd (il abO 1 175 179 176 7) (nd (j8 PE 190) (nd (bR aM UW 2 0) (nd o7 (nd o7 (nd o7 (nd (gN Kq 427 512 504 947) (lf o8) (lf (bM GO GO 1538 0 2442 2439 1532 2443))) (nd iP (lf ⟨vY tT,none,dC bq [vR 730] [vR 1281,vR 730,vY pP] 1280 bq true [vR 1521] false (none) false,#[some (vR 768),none,some (vS bq 1342),some (vS bq 1350),some (vB pO),some (vT)]⟩) e)) (nd (F3 H Gw Vq 137 770 788 397 794) (nd (il AF 215 181 1149 1146 639) (lf o7) e) (nd (cp A2 V2 bo 49 16 1285 896) (lf (bR Cf Xl 52 15)) e))) (nd (cY 191) (nd o7 (nd o8 (lf (fD ag iO 1706)) e) (nd (bM AS VT 407 1 1416 1410 828 1417) (lf (bR B6 Xc 52 6)) e)) (nd ⟨vY tT,none,dC vZ [vR 427] [vR 449,vR 427,vY pP] 448 vZ true [vR 469,vR 565,vR 585] false (none) false,#[some (vR 432),none,some (vS vZ 838),some (vS vZ 846),some (vB pO),some (vT)]⟩ (nd (bM AH VG 263 2 1236 1230 700 1237) (lf o8) e) (nd o7 (lf (bR Cq Xv 52 24)) e)))) (nd (cY 95) (nd (cY 159) (nd (cY 287) (nd o8 (lf (bM Bp Wq 617 1 1672 1668 1052 1673)) (lf (OQ K2 yE 61 2419 1568))) (nd o8 (lf o7) e)) (nd (kJ aM Vs cG 28 0 410 798) (nd ⟨vN,none,dF [vI 233 0,vI 4 0,vR 681,vI 251 0,vI 4 0,vR 689,vI 258 0,vI 4 0,vR 697,vI 263 0,vI 4 0,vR 705,vI 277 0,vI 4 0,vR 712,vI 283 0,vI 4 0,vR 719,vI 289 0,vI 4 0,vR 726],#[]⟩ (lf o7) e) (nd o7 (lf o8) e))) (nd o7 (nd o8 (nd (Jp Kt 481 608 427 600 1094) (lf (cp Bz Wz bo 49 48 1285 1120)) e) (nd (fD ag pA 1457) (lf o8) e)) (nd ⟨vY tT,none,dC yw [vR 427] [vR 481,vR 427,vY pP] 480 yw true [vR 609,vR 633] false (none) false,#[some (vR 472),none,some (vS yw 902),some (vS yw 910),some (vB pO),some (vT)]⟩ (nd (tI H bo Kw 293 1294 1285 742) (lf (bM BR WY 1046 3 2037 2024 1244 2038)) e) (nd (bR Bg Wg 49 30) (lf o7) e))))) (nd (bM lz UY 37 1 243 237 44 244) (nd (rJ ag abQ abR abS abT abU 295) (nd o7 (nd o7 (nd (bM aM Vx 182 6 984 975 524 985) (lf o7) (lf (j8 aci 2465))) (nd (qo 784) (lf iP) e)) (nd (cW 400) (nd (nM tK kK iy VA abV 1175) (lf (bM BG WH 775 1 1828 1816 1164 1829)) e) (nd o8 (lf (cp Ci Xn eF 52 17 2098 1424)) e))) (nd o7 (nd (bR aM Vl 23 1) (nd (il Ks 206 181 1083 1080 591) (lf (bR Bx Wx 49 46)) e) (nd o7 (lf (cp B8 Xe eF 52 8 2098 1360)) e)) (nd (bM aM Vv 163 7 889 879 460 890) (nd o7 (lf o7) e) (nd (j8 ag 1592) (lf (cp Cs Xx eF 52 26 2098 1488)) e)))) (nd (aa7 H eW 68 330 321 343 111 346) (nd (jz kK bg aK 447) (nd o7 (nd (il Kr 194 181 1030 1027 559) (lf o7) e) (nd o7 (lf (fD ag dX 2161)) e)) (nd iP (nd (bM AG VE 251 2 1217 1212 684 1218) (lf (iq ag gH eB bg 1885)) e) (nd (bM A9 V9 500 2 1546 1539 940 1547) (lf (iq ag yD jG pB 2336)) e))) (nd (cY 239) (nd (il Gv 130 181 737 734 367) (nd iP (lf o8) e) (nd (bR A0 V0 49 14) (lf o7) e)) (nd (bM aM Vw 174 4 937 930 492 938) (nd (ip bo 752 749 1285) (lf o7) e) (nd (cp Bi Wi bo 49 32 1285 1008) (lf (Jp eY 1281 1520 730 1296 2116)) e)))))) (nd o7 (nd (bR Gp UX 2 1) (nd (Ud H nZ m9 lz 45 287 194 303 85 311 317) (nd (cY 135) (nd (cY 263) (nd (il Gy 180 181 968 965 519) (lf (fD ag fF 1649)) (lf (OQ GP yE 57 2419 1544))) (nd (j8 VL 1357) (lf (il KU 1146 181 2105 2102 1287)) e)) (nd (rJ ag dX AD aK bg fF 780) (nd (cp aM VB lA 43 0 1142 648) (lf (bR BF WG 49 54)) e) (nd o7 (lf (bM Cg Xm 1360 1 2288 2282 1412 2289)) e))) (nd o7 (nd o7 (nd (Jp GA 449 584 427 568 1041) (lf o7) e) (nd (cp AU VU bo 49 8 1285 840) (lf (bM B7 Xd 1195 1 2196 2186 1348 2197)) e)) (nd (il v3 161 181 872 869 455) (nd (cp AI VH lA 45 4 1142 712) (lf (Ug BY aK eB gO ab9 iO yB GH 1987)) e) (nd o8 (lf (bM Cr Xw 1479 1 2364 2359 1476 2365)) e)))) (nd o7 (nd Lf (nd o7 (nd (gN Gz 427 552 536 996) (lf (cp Bq Wr bo 49 40 1285 1064)) e) (nd (j8 ag 1388) (lf o8) e)) (nd (fD bg aK 828) (nd (bM aM VD 233 2 1208 1203 676 1209) (lf o8) e) (nd (bR A8 V8 49 22) (lf (fD ag jG 2328)) e))) (nd o7 (nd (gN Gu 114 360 345 701) (nd (il Ku 210 181 1115 1112 615) (lf o7) e) (nd o7 (lf (j8 ag 2243)) e)) (nd (il Gx 172 181 923 920 487) (nd (cW 744) (lf (cp BS WZ bo 49 69 1285 1256)) e) (nd (bM Bh Wh 586 1 1614 1610 996 1615) (lf o8) e))))) (nd (cY 53) (nd o7 (nd o7 (nd o7 (nd iP (lf (bR Bo Wo 49 38)) (lf o7)) (nd o7 (lf (qo 1299)) e)) (nd (ip cG 408 405 798) (nd o7 (lf (cp BH WK bo 49 56 1285 1176)) e) (nd (iq ag yz aK bg 1518) (lf o7) e))) (nd (cY 215) (nd jH (nd iP (lf (bM By Wy 680 2 1738 1730 1108 1739)) e) (nd o8 (lf o7) e)) (nd iP (nd ⟨vY kN,none,dD [eS H jE 1198 (vS lA 1142),eS H jF 1202 (vI 231 1201),eS H aM 1210 (vR 682),eS H AG 1219 (vR 690),eS H sd 1228 (vR 698),eS H AH 1238 (vR 706),eS H AI 1245 (vR 713),eS H AJ 1256 (vR 720),eS H AK 1264 (vR 727),eS H gG 1277 (vR 728),eS H Kc 1279 (vR 731),eS H Gq 1281 (vR 732),eS H n2 1282 (vN)] 4,#[]⟩ (lf (bR BQ WX 49 67)) e) (nd o7 (lf (kJ Ct Xy eF 52 27 1490 2098)) e)))) (nd (F3 H Gn U2 73 361 378 132 383) (nd o7 (nd (cY 311) (nd iP (lf o8) e) (nd (bR AR VS 49 6) (lf o7) e)) (nd o8 (nd (bM sd VF 258 2 1226 1221 692 1227) (lf o7) e) (nd (cp Ba Wa bo 49 24 1285 952) (lf o7) e))) (nd o7 (nd (cp aM Vp eW 25 1 321 376) (nd (Jp Kv 481 632 427 624 1126) (lf (iq ag aK dX iO 1785)) e) (nd (bM A1 V1 464 1 1481 1477 884 1482) (lf o7) e)) (nd iP (nd (rJ mB iN pj pA KI KH 1328) (lf o8) e) (nd o7 (lf (OP GN 55)) e))))))) (nd (il abO 1 181 185 182 11) (nd (OQ Gm J9 0 164 20) (nd o7 (nd (cW 67) (nd (iq bg iy aK dX 379) (nd o7 (nd iP (lf (bM Bl Wl 600 1 1643 1639 1024 1644)) (lf (nM fq hE v5 iz se 2448))) (nd ⟨vN,none,dF [vI 306 0,vI 4 0,vR 782,vI 318 0,vI 4 0,vR 791,vI 328 0,vI 4 0,vR 798,vI 336 0,vI 4 0,vR 805,vI 343 0,vI 4 0,vR 812,vI 352 0,vI 4 0,vR 819,vI 399 0,vI 4 0,vR 826,vI 407 0,vI 4 0,vR 833,vI 415 0,vI 4 0,vR 840,vI 423 0,vI 4 0,vR 847,vI 430 0,vI 4 0,vR 854,vI 438 0,vI 4 0,vR 861,vI 445 0,vI 4 0,vR 868,vI 449 0,vI 4 0,vR 875,vI 458 0,vI 4 0,vR 882,vI 464 0,vI 4 0,vR 889,vI 467 0,vI 4 0,vR 896,vI 470 0,vI 4 0,vR 903,vI 479 0,vI 4 0,vR 910,vI 482 0,vI 4 0,vR 917,vI 485 0,vI 4 0,vR 924,vI 494 0,vI 4 0,vR 931,vI 497 0,vI 4 0,vR 938,vI 500 0,vI 4 0,vR 945,vI 509 0,vI 4 0,vR 952,vI 517 0,vI 4 0,vR 959,vI 533 0,vI 4 0,vR 966,vI 547 0,vI 4 0,vR 973,vI 571 0,vI 4 0,vR 980,vI 576 0,vI 4 0,vR 987,vI 581 0,vI 4 0,vR 994,vI 586 0,vI 4 0,vR 1001,vI 589 0,vI 4 0,vR 1008,vI 592 0,vI 4 0,vR 1015,vI 597 0,vI 4 0,vR 1022,vI 600 0,vI 4 0,vR 1029,vI 603 0,vI 4 0,vR 1036,vI 608 0,vI 4 0,vR 1043,vI 613 0,vI 4 0,vR 1050,vI 617 0,vI 4 0,vR 1057,vI 622 0,vI 4 0,vR 1064,vI 627 0,vI 4 0,vR 1071,vI 630 0,vI 4 0,vR 1078,vI 636 0,vI 4 0,vR 1085,vI 642 0,vI 4 0,vR 1092,vI 646 0,vI 4 0,vR 1099,vI 662 0,vI 4 0,vR 1106,vI 680 0,vI 4 0,vR 1113,vI 695 0,vI 4 0,vR 1120,vI 707 0,vI 4 0,vR 1127,vI 718 0,vI 4 0,vR 1134,vI 727 0,vI 4 0,vR 1141,vI 734 0,vI 4 0,vR 1148,vI 741 0,vI 4 0,vR 1155,vI 752 0,vI 4 0,vR 1162,vI 775 0,vI 4 0,vR 1169,vI 812 0,vI 4 0,vR 1176,vI 856 0,vI 4 0,vR 1183,vI 889 0,vI 4 0,vR 1190,vI 900 0,vI 4 0,vR 1197,vI 914 0,vI 4 0,vR 1204,vI 926 0,vI 4 0,vR 1211,vI 945 0,vI 4 0,vR 1221,vI 984 0,vI 4 0,vR 1228,vI 1006 0,vI 4 0,vR 1235,vI 1019 0,vI 4 0,vR 1242,vI 1046 0,vI 4 0,vR 1249,vI 1078 0,vI 4 0,vR 1256,vI 1096 0,vI 4 0,vR 1263,vI 1117 0,vI 4 0,vR 1270,vI 1133 0,vI 4 0,vR 1277],#[]⟩ (lf iP) e)) (nd (ip eW 388 385 321) (nd (rJ ag iy VA tK kK abV 1159) (lf o7) e) (nd o7 (lf o8) e))) (nd o7 (nd (cY 323) (nd (bM aM Vz 198 8 1064 1053 576 1065) (lf (cp Bv Wv bo 49 44 1285 1092)) e) (nd (iq ag KI KH GG 1422) (lf o8) e)) (nd iP (nd (j8 ag 1242) (lf (bM BN WU 945 3 1981 1970 1216 1982)) e) (nd (bR Bc Wc 49 26) (lf o8) e)))) (nd o7 (nd o7 (nd o7 (nd (bM aM Vy 190 4 1015 1008 544 1016) (lf (j8 ag 1678)) e) (nd (bM AN VP 336 1 1382 1378 800 1383) (lf (bR BZ W8 52 2)) e)) (nd o7 (nd o8 (lf (bR BJ WM 49 58)) e) (nd o7 (lf (bM Cm Xq 1415 1 2322 2317 1440 2323)) e))) (nd (cY 227) (nd (bM aM Vn 126 4 722 715 352 723) (nd iP (lf o7) e) (nd (cp AY VY bo 49 12 1285 868) (lf (bM Cb Xh 1263 1 2237 2233 1376 2238)) e)) (nd iP (nd (ip bo 740 737 1285) (lf (rJ ag iy aK iO gO dX 2043)) e) (nd o8 (lf (bR Cv XA 52 29)) e))))) (nd (aa4 yu 52 196) (nd (kJ aM UZ nZ 4 0 78 194) (nd (cY 147) (nd (cY 275) (nd (gN Gy 427 532 516 963) (lf o7) (lf (OQ GQ yE 59 2419 1556))) (nd o7 (lf ⟨vN,none,dF [vI 1151 0,vI 4 0,vR 1311,vI 1160 0,vI 4 0,vR 1318,vI 1163 0,vI 4 0,vR 1325,vI 1169 0,vI 4 0,vR 1332,vI 1177 0,vI 4 0,vR 1339,vI 1183 0,vI 4 0,vR 1346,vI 1195 0,vI 4 0,vR 1353,vI 1217 0,vI 4 0,vR 1360,vI 1229 0,vI 4 0,vR 1367,vI 1237 0,vI 4 0,vR 1374,vI 1263 0,vI 4 0,vR 1381,vI 1266 0,vI 4 0,vR 1388,vI 1269 0,vI 4 0,vR 1395,vI 1272 0,vI 4 0,vR 1403,vI 1355 0,vI 4 0,vR 1410,vI 1360 0,vI 4 0,vR 1417,vI 1378 0,vI 4 0,vR 1424,vI 1392 0,vI 4 0,vR 1431,vI 1397 0,vI 4 0,vR 1438,vI 1415 0,vI 4 0,vR 1445,vI 1429 0,vI 4 0,vR 1452,vI 1434 0,vI 4 0,vR 1460,vI 1456 0,vI 4 0,vR 1467,vI 1465 0,vI 4 0,vR 1474,vI 1479 0,vI 4 0,vR 1481,vI 1484 0,vI 4 0,vR 1488,vI 1489 0,vI 4 0,vR 1496,vI 1514 0,vI 4 0,vR 1503,vI 1528 0,vI 4 0,vR 1510,vI 1532 0,vI 4 0,vR 1517],#[]⟩) e)) (nd (Ud H cG tJ GC 147 807 798 820 417 827 830) (nd (cY 659) (lf ⟨vY oM,none,dS [vS ag 1834,vS fF 1835,vS WI 1836,vS eB 1837,vS aK 1838,vS KJ 1839,vS KL 1840,vS WJ 1841,vS GH 1842,vS yA 1843,vS bg 1844,vS gH 1845,vS yB 1846,vS yC 1847,vS gO 1848] 0,#[]⟩) e) (nd (bM A5 V5 482 1 1512 1508 912 1513) (lf o7) e))) (nd o7 (nd (F4 H Vk 116 677 693 339 697) (nd (aa8 Ks 588 1078) (lf o8) e) (nd (bR AW VW 49 10) (lf o7) e)) (nd ⟨vY tT,none,dC v3 [vR 449] [vR 469,vR 449,vR 427,vY pP] 468 v3 true [vR 597,vR 621] false (none) false,#[some (vR 452),none,some (vS v3 867),some (vS v3 875),some (vB pO),some (vT)]⟩ (nd (bR AK VJ 45 6) (lf o7) e) (nd (cp Be We bo 49 28 1285 980) (lf (iq ag yD jG pB 2378)) e)))) (nd (cW 114) (nd (cY 179) (nd o7 (nd (Jp Kr 449 564 427 556 1025) (lf (bR Bs Wt 49 42)) e) (nd o7 (lf (cp B3 Xa eF 52 4 2098 1332)) e)) (nd (il vZ 155 181 843 840 435) (nd o8 (lf (cp BL WO bo 49 60 1285 1204)) e) (nd (jz ag aK bg 1552) (lf (kJ Co Xs eF 52 22 1454 2098)) e))) (nd o7 (nd (iq ag dX aK bg 749) (nd (il Kv 212 181 1131 1128 627) (lf (bM BC WC 727 2 1779 1772 1136 1780)) e) (nd o8 (lf ⟨vY oM,none,dS [vF,vF] 0,#[]⟩) e)) (nd (gN Gx 427 500 484 918) (nd o7 (lf (bR BV W2 49 71)) e) (nd o7 (lf o7) e)))))) (nd o7 (nd o8 (nd (ip nZ 76 73 194) (nd o7 (nd o7 (nd o8 (lf (cp Bm Wm bo 49 36 1285 1036)) (lf (abb K1 1548 6 2459 2456 1546))) (nd (bR aM VM 49 0) (lf (aa9 KU 1284 2100)) e)) (nd (kJ aM Vr eW 26 1 390 321) (nd o7 (lf o8) e) (nd (bR A4 V4 49 18) (lf (jz ag jG pB 2294)) e))) (nd (cY 203) (nd o7 (nd iP (lf o7) e) (nd o7 (lf (rJ ag jG aK bg n8 pB 2202)) e)) (nd o8 (nd o7 (lf (cp BO WV bo 49 65 1285 1228)) e) (nd (bM Bd Wd 547 1 1586 1578 968 1587) (lf (fD ag jG 2370)) e)))) (nd (bR aM U1 6 0) (nd o7 (nd (cY 299) (nd iP (lf o7) e) (nd (cp AP VQ bo 49 4 1285 812) (lf (bM B1 W9 1163 1 2155 2151 1320 2156)) e)) (nd (F2 833 427) (nd o8 (lf (bM BK WN 900 1 1879 1872 1192 1880)) e) (nd o8 (lf (cp Cn Xr eF 52 21 2098 1452)) e))) (nd o7 (nd iP (nd (aa8 Ku 612 1110) (lf (bR BB WB 49 50)) e) (nd o7 (lf (cp Cc Xi eF 52 12 2098 1388)) e)) (nd o8 (nd (yb H bo GF 295 1310 1285 1327 760 1334) (lf o7) e) (nd (j8 ag 1620) (lf (bM Cw XB 1532 2 2405 2400 1512 2406)) e))))) (nd o7 (nd (nM abQ abR abU abS abT 312) (nd o7 (nd o7 (nd (il Gz 188 181 1001 998 539) (lf o8) (lf o7)) (nd (bR AM VO 49 2) (lf o7) e)) (nd (jz ag aK bg 815) (nd o98 (lf o7) e) (nd (cp A6 V6 bo 49 20 1285 924) (lf (bR Ck Xp 52 19)) e))) (nd o7 (nd (nN 126 357) (nd (il Kt 208 181 1099 1096 603) (lf (iq ag aK ab1 ab2 1744)) e) (nd (bM AX VX 438 2 1451 1446 856 1452) (lf (bR Ca Xg 52 10)) e)) (nd (il yw 170 181 907 904 475) (nd (cW 730) (lf o8) e) (nd o7 (lf o7) e)))) (nd (ip eW 124 121 321) (nd o7 (nd o7 (nd (il GA 196 181 1046 1043 571) (lf (bM Bu Wu 636 1 1700 1696 1080 1701)) e) (nd o8 (lf o7) e)) (nd (bM aM Vu 157 4 857 850 440 858) (nd o8 (lf ⟨vY kN,none,dD [eS H (S 17) 1905 (vS (SL [0]) 1906),eS H WR 1908 (vS (SL [7]) 1909),eS H (S 67) 1911 (vS (SL [8]) 1912),eS H (S 85) 1914 (vS WT 1915),eS H WT 1917 (vS WT 1918),eS H (S 79) 1920 (vS (SL [10]) 1921),eS H (S 87) 1923 (vS (SL [11]) 1924),eS H (S 71) 1926 (vS (SL [12]) 1927),eS H (S 83) 1929 (vS (SL [13]) 1930),eS H (S 70) 1932 (vS (SL [27]) 1933),eS H PG 1935 (vS PG 1936),eS H ab4 1938 (vS ab4 1939),eS H ab5 1941 (vS ab5 1942),eS H ab6 1944 (vS ab6 1945),eS H (S 47) 1947 (vS (SL [133]) 1948),eS H (S 64) 1950 (vS (SL [160]) 1951),eS H (S 45) 1953 (vS (SL [8232]) 1954),eS H ab7 1956 (vS ab8 1957)] 18,#[]⟩) e) (nd o7 (lf o7) e))) (nd (cY 251) (nd (cW 380) (nd iP (lf (cp BD WD bo 49 52 1285 1148)) e) (nd (j8 ag 1487) (lf o7) e)) (nd (il Kq 178 181 952 949 507) (nd (F2 1337 763) (lf (bM BW W3 1133 1 2082 2077 1272 2083)) e) (nd (bR Bk Wk 49 34) (lf o8) e))))))))) (nd ⟨vN,none,dD [eS H (S 0x3238fe512a30e8471bfd6e3322d3857dbc2ffafd0e9cfac8615) 276 (vI 67 0),eS H (S 0xe7a0b3fd4f2420471bfd6e3322d3857dbc2ffafd0e9cfac8615) 277 (vI 1 0)] 2,#[]⟩ (nd ⟨vY aed,(some 0),dP,#[]⟩ (nd o8 (nd o8 (nd o7 (nd (ip nZ 63 60 194) (nd (nM ag iy dX aK bg 371) (nd (nP H Kj Ve 104 569 261) (nd (vE H cG 178 954 798 511) (lf o7) (lf (OP GO 56))) (nd (qo 730) (lf ⟨vY kN,none,dD [eS H jE 1349 (vS bo 1285),eS H jF 1353 (vI 304 1352),eS H aM 1362 (vR 783),eS H AL 1370 (vR 792),eS H AM 1377 (vR 799),eS H AN 1384 (vR 806),eS H AP 1391 (vR 813),eS H AQ 1399 (vR 820),eS H AR 1409 (vR 827),eS H AS 1418 (vR 834),eS H AU 1428 (vR 841),eS H AV 1436 (vR 848),eS H AW 1445 (vR 855),eS H AX 1453 (vR 862),eS H AY 1461 (vR 869),eS H AZ 1469 (vR 876),eS H A0 1476 (vR 883),eS H A1 1483 (vR 890),eS H A2 1490 (vR 897),eS H A3 1500 (vR 904),eS H A4 1507 (vR 911),eS H A5 1514 (vR 918),eS H A6 1524 (vR 925),eS H A7 1531 (vR 932),eS H A8 1538 (vR 939),eS H A9 1548 (vR 946),eS H Ba 1557 (vR 953),eS H Bb 1567 (vR 960),eS H Bc 1577 (vR 967),eS H Bd 1588 (vR 974),eS H Be 1595 (vR 981),eS H Bf 1602 (vR 988),eS H Bg 1609 (vR 995),eS H Bh 1616 (vR 1002),eS H Bi 1623 (vR 1009),eS H Bj 1631 (vR 1016),eS H Bk 1638 (vR 1023),eS H Bl 1645 (vR 1030),eS H Bm 1653 (vR 1037),eS H Bn 1660 (vR 1044),eS H Bo 1667 (vR 1051),eS H Bp 1674 (vR 1058),eS H Bq 1681 (vR 1065),eS H Br 1688 (vR 1072),eS H Bs 1695 (vR 1079),eS H Bu 1702 (vR 1086),eS H Bv 1710 (vR 1093),eS H Bw 1718 (vR 1100),eS H Bx 1729 (vR 1107),eS H By 1740 (vR 1114),eS H Bz 1750 (vR 1121),eS H BA 1761 (vR 1128),eS H BB 1771 (vR 1135),eS H BC 1781 (vR 1142),eS H BD 1791 (vR 1149),eS H BE 1800 (vR 1156),eS H BF 1815 (vR 1163),eS H BG 1830 (vR 1170),eS H BH 1851 (vR 1177),eS H BI 1862 (vR 1184),eS H BJ 1871 (vR 1191),eS H BK 1881 (vR 1198),eS H BL 1891 (vR 1205),eS H BM 1904 (vR 1212),eS H abW 1959 (vR 1213),eS H abX 1969 (vR 1215),eS H BN 1983 (vR 1222),eS H BO 1998 (vR 1229),eS H BP 2009 (vR 1236),eS H BQ 2023 (vR 1243),eS H BR 2039 (vR 1250),eS H BS 2051 (vR 1257),eS H BU 2063 (vR 1264),eS H BV 2076 (vR 1271),eS H BW 2084 (vR 1278),eS H gG 2093 (vR 1279),eS H n2 2095 (vN)] 3,#[]⟩) e)) (nd iP (nd (Ue 217 224 648) (lf (jz ag aK iO 1795)) e) (nd (bM A2 V2 467 1 1488 1484 891 1489) (lf o7) e))) (nd (cW 191) (nd (ip eW 319 316 321) (nd o7 (lf o8) e) (nd (bR AS VT 49 7) (lf o7) e)) (nd (Au H cG aM gG 155 845 798 859 446 863 447 2) (nd (bR AH VG 45 3) (lf o7) e) (nd (cp Bb Wb bo 49 25 1285 959) (lf o7) e)))) (nd (cW 95) (nd (cW 159) (nd (cW 287) (nd o7 (lf (bR Bp Wq 49 39)) (lf (abb K2 1605 1 2479 2476 1565))) (nd o7 (lf (aba W7 eF 52 1 1299 2098 1305)) e)) (nd (bM aM Vs 149 3 818 812 411 819) (nd o7 (lf (cp BI WL bo 49 57 1285 1183)) e) (nd (j8 ag 1528) (lf o7) e))) (nd (ip eW 223 220 321) (nd o7 (nd (vE H cG 208 1101 798 607) (lf (bM Bz Wz 695 2 1748 1741 1115 1749)) e) (nd o8 (lf o7) e)) (nd (vE H cG 170 909 798 479) (nd iP (lf (bR BR WY 49 68)) e) (nd o7 (lf (cp Cu Xz eF 52 28 2098 1503)) e))))) (nd (bR lz UY 2 2) (nd o8 (nd (ip eW 143 140 321) (nd (ip eW 271 268 321) (nd (bR aM Vx 34 0) (lf (j8 ag 1657)) (lf o8)) (nd o7 (lf (qo 1281)) e)) (nd (gN Gw 114 399 383 763) (nd (cp lz VC lA 43 1 1142 655) (lf (bR BG WH 49 55)) e) (nd o7 (lf (bM Ci Xn 1378 1 2297 2291 1419 2298)) e))) (nd (nP H Kf Va 96 497 213) (nd o7 (nd o8 (lf o7) e) (nd (cp AV VV bo 49 9 1285 847) (lf (bM B8 Xe 1217 1 2208 2199 1355 2209)) e)) (nd (bR aM Vv 30 0) (nd (cp AJ VI lA 45 5 1142 719) (lf (nM ag BY aK eB sd 2002)) e) (nd o8 (lf (bM Cs Xx 1484 1 2372 2367 1483 2373)) e)))) (nd (fD bg aK 344) (nd (kJ aM U7 eW 10 1 169 321) (nd (nP H Ko Vi 112 641 309) (nd o8 (lf (cp Br Ws bo 49 41 1285 1071)) e) (nd (fD ag iO 1395) (lf o8) e)) (nd GV (nd (bR AG VE 45 1) (lf o8) e) (nd (bR A9 V9 49 23) (lf o8) e))) (nd (cW 239) (nd (nN 133 376) (nd acy (lf o7) e) (nd o7 (lf (j8 ag 2250)) e)) (nd (bR aM Vw 32 0) (nd (il GF 295 181 1308 1305 750) (lf (cp BU W0 bo 49 70 1285 1263)) e) (nd (bM Bi Wi 589 1 1621 1617 1003 1622) (lf ⟨vY kN,none,dD [eS H jE 2123 (vS eF 2098),eS H jF 2127 (vI 1148 2126),eS H W4 2134 (vR 1304),eS H aM 2143 (vR 1312),eS H BZ 2150 (vR 1319),eS H B1 2157 (vR 1326),eS H B3 2165 (vR 1333),eS H B5 2174 (vR 1340),eS H B6 2185 (vR 1347),eS H B7 2198 (vR 1354),eS H B8 2210 (vR 1361),eS H B9 2218 (vR 1368),eS H Ca 2232 (vR 1375),eS H Cb 2239 (vR 1382),eS H Cc 2246 (vR 1389),eS H Cd 2253 (vR 1396),eS H Ce 2273 (vR 1404),eS H Cf 2281 (vR 1411),eS H Cg 2290 (vR 1418),eS H Ci 2299 (vR 1425),eS H Cj 2307 (vR 1432),eS H Ck 2316 (vR 1439),eS H Cm 2324 (vR 1446),eS H Cn 2332 (vR 1453),eS H Co 2342 (vR 1461),eS H Cp 2350 (vR 1468),eS H Cq 2358 (vR 1475),eS H Cr 2366 (vR 1482),eS H Cs 2374 (vR 1489),eS H Ct 2384 (vR 1497),eS H Cu 2392 (vR 1504),eS H Cv 2399 (vR 1511),eS H Cw 2407 (vR 1518),eS H gG 2414 (vR 1519),eS H n2 2416 (vN)] 3,#[]⟩) e)))))) (nd ⟨vY kN,none,dD [eS H jE 203 (vS nZ 194),eS H vW 205 (vS yu 204),eS H jF 207 (vI 5 206),eS H aM 220 (vR 35),eS H Gp 236 (vR 43),eS H lz 245 (vR 50),eS H gG 252 (vR 51)] 7,#[]⟩ (nd o7 (nd iP (nd (cW 135) (nd (cW 263) (nd (nN 182 529) (lf o8) (lf (bM GP GP 1540 2 2453 2445 1539 2454))) (nd (qo 771) (lf o8) e)) (nd o8 (nd (bM aM VB 217 6 1165 1156 643 1166) (lf o7) e) (nd (cp A3 V3 bo 49 17 1285 903) (lf (bR Cg Xm 52 16)) e))) (nd (ip eW 199 196 321) (nd (F3 H Gs Vk 116 677 693 339 697) (nd (Au H cG aM gG 196 1048 798 1066 582 1074 583 2) (lf (fD ag (S 5931185735) 1714)) e) (nd (bM AU VU 415 1 1426 1419 835 1427) (lf (bR B7 Xd 52 7)) e)) (nd (nN 163 465) (nd (bM AI VH 277 1 1243 1239 707 1244) (lf o8) e) (nd o7 (lf (bR Cr Xw 52 25)) e)))) (nd (ip eW 103 100 321) (nd (ip eW 167 164 321) (nd (ip eW 295 292 321) (nd (Au H cG aM gG 188 1003 798 1017 550 1021 551 2) (lf (bM Bq Wr 622 1 1679 1675 1059 1680)) e) (nd o8 (lf o7) e)) (nd (cp GC Vt cG 28 1 798 423) (nd (bR aM VD 45 0) (lf o7) e) (nd o7 (lf o8) e))) (nd (nP H Kh Vc 100 533 237) (nd (F4 H Vm 123 708 724 358 728) (nd o8 (lf (cp BA WA bo 49 49 1285 1127)) e) (nd (fD ag pA 1465) (lf o8) e)) (nd (nN 174 497) (nd (aa9 Kw 735 1287) (lf (bM BS WZ 1078 3 2049 2040 1251 2050)) e) (nd (bR Bh Wh 49 31) (lf o7) e))))) (nd (cW 53) (nd (fD ag (S 7197177869) 307) (nd (nP H Kb U5 83 412 157) (nd (nP H Kl Vg 108 605 285) (nd GV (lf o7) (lf (j8 pB 2472))) (nd (kJ AL VN bo 49 1 785 1285) (lf ⟨vY kN,none,dD [eS H GJ 2128 (vS GJ 2129),eS H W5 2130 (vS W6 2131)] 2,#[]⟩) e)) (nd (il tJ 147 181 805 802 406) (nd (j8 iO 1187) (lf (bM BH WK 812 2 1849 1831 1171 1850)) e) (nd o8 (lf (cp Cj Xo eF 52 18 2098 1431)) e))) (nd (cW 215) (nd (cY 342) (nd acy (lf (bR By Wy 49 47)) e) (nd o7 (lf (cp B9 Xf eF 52 9 2098 1367)) e)) (nd GV (nd ⟨vY oM,none,dS [vS n6 1265,vS mB 1266,vS kK 1267,vS Kz 1268,vS iN 1269,vS pj 1270,vS iy 1271,vS n7 1272,vS KA 1273,vS KC 1274,vS nf 1275,vS KG 1276] 0,#[]⟩ (lf o7) e) (nd (j8 ag 1599) (lf (bM Ct Xy 1489 2 2382 2375 1491 2383)) e)))) (nd iP (nd (nP H Kd U8 92 461 189) (nd (cW 311) (nd XU (lf o7) e) (nd o7 (lf (jz ag jG pB 2169)) e)) (nd o7 (nd (bR sd VF 45 2) (lf (Uh ag fF BY eB aK (S 6021374098) bg 1895)) e) (nd (bM Ba Wa 509 1 1555 1549 947 1556) (lf (fD ag jG 2346)) e))) (nd (ip eW 247 244 321) (nd (bM aM Vp 133 4 753 746 371 754) (nd (vE H cG 212 1133 798 631) (lf o8) e) (nd (bR A1 V1 49 15) (lf ⟨vY oM,none,dS [vS ag 2257,vS GK 2258,vS KV 2259,vS jG 2260,vS pB 2261,vS ke 2262,vS mC 2263,vS aK 2264,vS bg 2265,vS (S 5776514558343445) 2266,vS PF 2267,vS ab3 2268,vS pz 2269,vS (S 62575183) 2270] 0,#[]⟩) e)) (nd GV (nd (cp aM VK bo 48 0 1285 759) (lf o7) e) (nd (cp Bj Wj bo 49 33 1285 1015) (lf o7) e))))))) (nd ⟨vN,none,dF (yP.take 162),#[]⟩ (nd (bM Gm Gm 1 1 191 187 15 192) (nd ⟨vY oM,none,dS [vI 4 221,vI 75 222] 0,#[]⟩ (nd (F2 273 67) (nd (cp aM U3 eW 7 1 321 131) (nd (ip eW 259 256 321) (nd GV (lf (bR Bl Wl 49 35)) (lf o8)) (nd o7 (lf acz) e)) (nd (il Gw 137 181 768 765 386) (nd o8 (lf (cp BE WE bo 49 53 1285 1155)) e) (nd (iq ag yz aK bg 1494) (lf o7) e))) (nd (nP H Ke U9 94 479 201) (nd (cW 323) (nd (bR aM Vz 37 0) (lf (bM Bv Wv 642 1 1708 1703 1087 1709)) e) (nd o8 (lf o7) e)) (nd XU (nd o8 (lf (bR BN WU 49 64)) e) (nd o7 (lf o7) e)))) (nd (yb H eW ph 68 330 321 343 111 346) (nd (F3 H Gr U6 85 430 446 176 450) (nd (nP H Km Vh 110 623 297) (nd (bR aM Vy 35 0) (lf o8) e) (nd (bR AN VP 49 3) (lf o7) e)) (nd (j8 ag 824) (nd o7 (lf o7) e) (nd (cp A7 V7 bo 49 21 1285 931) (lf (bR Cm Xq 52 20)) e))) (nd (cW 227) (nd (bR aM Vn 24 1) (nd acx (lf (nM ag aK iO gO dX 1754)) e) (nd (bM AY VY 445 1 1459 1454 863 1460) (lf (bR Cb Xh 52 11)) e)) (nd GV (nd (il Kw 293 181 1292 1289 738) (lf o8) e) (nd o7 (lf o7) e))))) (nd ⟨vY kN,none,dD [eS H jE 203 (vS nZ 194),eS H jF 207 (vI 5 206),eS H aM 220 (vR 35),eS H Gp 236 (vR 43),eS H lz 245 (vR 50),eS H gG 252 (vR 51),eS H Kc 254 (vR 54),eS H Gq 256 (vR 55),eS H n2 257 (vN)] 4,#[]⟩ (nd (bM aM UZ 47 6 301 292 79 302) (nd (cW 147) (nd (cW 275) (nd (Au H cG aM gG 180 970 798 986 530 992 531 2) (lf (cp Bn Wn bo 49 37 1285 1043)) (lf (bM GQ GQ 1583 1 2466 2462 1551 2467))) (nd (fD ag abZ 1366) (lf o7) e)) (nd iP (nd (cW 659) (lf o8) e) (nd (bR A5 V5 49 19) (lf (fD ag jG 2303)) e))) (nd (ip eW 211 208 321) (nd (jz bg aK dX 694) (nd (vE H cG 206 1085 798 595) (lf o7) e) (nd o7 (lf (fD ag pB 2214)) e)) (nd (Au H cG aM gG 161 874 798 891 466 898 467 2) (nd o7 (lf (cp BP WW bo 49 66 1285 1235)) e) (nd (bM Be We 571 1 1593 1589 975 1594) (lf o8) e)))) (nd (F2 349 114) (nd (cW 179) (nd (ip eW 307 304 321) (nd (vE H cG 194 1032 798 563) (lf o7) e) (nd (cp AQ VR bo 49 5 1285 819) (lf (bM B3 Xa 1169 1 2163 2158 1327 2164)) e)) (nd (nN 157 445) (nd o7 (lf (bM BL WO 914 2 1889 1882 1199 1890)) e) (nd o8 (lf (bM Co Xs 1434 2 2340 2333 1455 2341)) e))) (nd (nP H Ki Vd 102 551 249) (nd o8 (nd o8 (lf (bR BC WC 49 51)) e) (nd o7 (lf (cp Cd Xj eF 52 13 2098 1395)) e)) (nd (Au H cG aM gG 172 925 798 939 498 943 499 2) (nd (Uh ag KH KI iN pj mB pA 1318) (lf o7) e) (nd (fD ag fF 1627) (lf ⟨vY y61,none,dS [vS WR 2421,vS Cy 2422,vS aca 2423,vS acb 2424,vS acd 2425,vS ace 2426,vS acf 2427,vS PG 2428,vS acg 2429,vS ach 2430,vS Cy 2431] 0,#[]⟩) e)))))) (nd (ip nZ 27 24 194) (nd o7 (nd (il m9 45 181 285 282 74) (nd (nP H Ka U4 81 394 145) (nd (nP H Kk Vf 106 587 273) (nd o7 (lf (bM Bm Wm 603 2 1651 1646 1031 1652)) (lf (OP K1 58))) (nd o7 (lf (vE H eF 1146 2107 2098 1291)) e)) (nd (bM aM Vr 140 6 786 777 391 787) (nd (j8 ag 1171) (lf o7) e) (nd o7 (lf o8) e))) (nd (cW 203) (nd (ip eW 331 328 321) (nd acx (lf (cp Bw Ww bo 49 45 1285 1099)) e) (nd (fD ag GG 1432) (lf o8) e)) (nd o7 (nd (nM ag Kx vX tK VA 1249) (lf (bM BO WV 984 3 1996 1984 1223 1997)) e) (nd (bR Bd Wd 49 27) (lf o8) e)))) (nd o7 (nd (iq ag aK bg kK 440) (nd (cW 299) (nd XU (lf (j8 ag 1685)) e) (nd (bM AP VQ 343 1 1389 1385 807 1390) (lf (bR B1 W9 52 3)) e)) (nd (Jo 831 427) (nd o7 (lf (bR BK WN 49 59)) e) (nd o7 (lf (bM Cn Xr 1429 1 2330 2325 1447 2331)) e))) (nd (ip eW 235 232 321) (nd jH (nd (vE H cG 210 1117 798 619) (lf o7) e) (nd (cp AZ VZ bo 49 13 1285 875) (lf (bM Cc Xi 1266 1 2244 2240 1383 2245)) e)) (nd o7 (nd iP (lf (rJ ag iy aK eB gO iO 2055)) e) (nd o8 (lf (bR Cw XB 52 30)) e))))) (nd (tI H nZ qq 43 267 194 65) (nd (cp lz U0 nZ 4 1 194 91) (nd (ip eW 155 152 321) (nd (ip eW 283 280 321) (nd (nN 190 549) (lf o7) (lf (OQ GR yE 60 2419 1563))) (nd o7 (lf (fD ag nf 2139)) e)) (nd o8 (nd (OQ GD lA 44 1142 667) (lf (nM ag aK KJ KL iO 1855)) e) (nd (bM A6 V6 485 2 1522 1515 919 1523) (lf o7) e))) (nd (nP H Kg Vb 98 515 225) (nd o7 (nd o8 (lf o8) e) (nd (bR AX VX 49 11) (lf o7) e)) (nd o8 (nd (F2 1280 730) (lf o7) e) (nd (cp Bf Wf bo 49 29 1285 987) (lf (fD ag jG 2388)) e)))) (nd (il Gn 73 181 359 356 122) (nd (ip eW 187 184 321) (nd (nP H Kp Vj 114 659 321) (nd (nN 198 581) (lf (bR Bu Wu 49 43)) e) (nd o7 (lf (cp B5 Xb eF 52 5 2098 1339)) e)) (nd (bR aM Vu 29 0) (nd o7 (lf (cp BM WQ bo 49 61 1285 1211)) e) (nd (iq ag pA aK bg 1561) (lf (cp Cp Xu eF 52 23 2098 1467)) e))) (nd (cW 251) (nd (gN Gv 114 379 364 732) (nd o71 (lf (bM BD WD 734 2 1789 1782 1143 1790)) e) (nd o8 (lf (kJ Ce Xk eF 52 14 1397 2098)) e)) (nd o8 (nd (Jo 1335 763) (lf (bR BW W3 49 72)) e) (nd o7 (lf o7) e)))))))) (nd ⟨vY kN,none,dD [] 0,#[]⟩ (nd (ip J9 9 3 164) (nd o7 (nd (bM aM UW 7 7 218 208 29 219) (nd (Au H nZ gG Gq 43 267 194 272 65 274 68 3) (nd (bR aM U3 7 1) (nd o8 (nd (cW 513) (lf (j8 ag 1642)) (lf (OQ GO yE 56 2419 1537))) (nd ⟨vY kN,none,dD [eS H jE 1349 (vS bo 1285),eS H vW 1351 (vS bq 1350),eS H jF 1353 (vI 304 1352),eS H aM 1362 (vR 783),eS H AL 1370 (vR 792),eS H AM 1377 (vR 799),eS H AN 1384 (vR 806),eS H AP 1391 (vR 813),eS H AQ 1399 (vR 820),eS H AR 1409 (vR 827),eS H AS 1418 (vR 834),eS H AU 1428 (vR 841),eS H AV 1436 (vR 848),eS H AW 1445 (vR 855),eS H AX 1453 (vR 862),eS H AY 1461 (vR 869),eS H AZ 1469 (vR 876),eS H A0 1476 (vR 883),eS H A1 1483 (vR 890),eS H A2 1490 (vR 897),eS H A3 1500 (vR 904),eS H A4 1507 (vR 911),eS H A5 1514 (vR 918),eS H A6 1524 (vR 925),eS H A7 1531 (vR 932),eS H A8 1538 (vR 939),eS H A9 1548 (vR 946),eS H Ba 1557 (vR 953),eS H Bb 1567 (vR 960),eS H Bc 1577 (vR 967),eS H Bd 1588 (vR 974),eS H Be 1595 (vR 981),eS H Bf 1602 (vR 988),eS H Bg 1609 (vR 995),eS H Bh 1616 (vR 1002),eS H Bi 1623 (vR 1009),eS H Bj 1631 (vR 1016),eS H Bk 1638 (vR 1023),eS H Bl 1645 (vR 1030),eS H Bm 1653 (vR 1037),eS H Bn 1660 (vR 1044),eS H Bo 1667 (vR 1051),eS H Bp 1674 (vR 1058),eS H Bq 1681 (vR 1065),eS H Br 1688 (vR 1072),eS H Bs 1695 (vR 1079),eS H Bu 1702 (vR 1086),eS H Bv 1710 (vR 1093),eS H Bw 1718 (vR 1100),eS H Bx 1729 (vR 1107),eS H By 1740 (vR 1114),eS H Bz 1750 (vR 1121),eS H BA 1761 (vR 1128),eS H BB 1771 (vR 1135),eS H BC 1781 (vR 1142),eS H BD 1791 (vR 1149),eS H BE 1800 (vR 1156),eS H BF 1815 (vR 1163),eS H BG 1830 (vR 1170),eS H BH 1851 (vR 1177),eS H BI 1862 (vR 1184),eS H BJ 1871 (vR 1191),eS H BK 1881 (vR 1198),eS H BL 1891 (vR 1205),eS H BM 1904 (vR 1212),eS H abW 1959 (vR 1213),eS H abX 1969 (vR 1215),eS H BN 1983 (vR 1222),eS H BO 1998 (vR 1229),eS H BP 2009 (vR 1236),eS H BQ 2023 (vR 1243),eS H BR 2039 (vR 1250),eS H BS 2051 (vR 1257),eS H BU 2063 (vR 1264),eS H BV 2076 (vR 1271),eS H BW 2084 (vR 1278),eS H gG 2093 (vR 1279),eS H abY 2094 (vR 771)] 78,#[]⟩ (lf (cW 1281)) e)) (nd o7 (nd (ip lA 641 638 1142) (lf (bR BE WE 49 53)) e) (nd o7 (lf (bM Cf Xl 1355 1 2279 2274 1405 2280)) e))) (nd jH (nd (nQ H Vj 114 659 321) (nd (Zq ag ke mC pz dX aK bg fF 1056) (lf o7) e) (nd (cp AS VT bo 49 7 1285 833) (lf (bM B6 Xc 1183 1 2183 2175 1341 2184)) e)) (nd (cW 449) (nd (kJ AH VG lA 45 3 699 1142) (lf (Zq ag BY aK eB gO iO PE (S 62575172) 1973)) e) (nd o8 (lf (bM Cq Xv 1465 1 2356 2351 1469 2357)) e)))) (nd o98 (nd jH (nd jH (nd (iq ag aK bg n8 1011) (lf (cp Bp Wq bo 49 39 1285 1057)) e) (nd (j8 ag 1381) (lf o8) e)) (nd o7 (nd (il kf 231 181 1196 1193 672) (lf o8) e) (nd (bR A7 V7 49 21) (lf (fD ag jG 2320)) e))) (nd (nQ H Vb 98 515 225) (nd (iq ag dX aK bg 718) (nd (cW 609) (lf o7) e) (nd o7 (lf (j8 ag 2236)) e)) (nd (cW 481) (nd o7 (lf (cp BR WY bo 49 68 1285 1249)) e) (nd (bM Bg Wg 581 1 1607 1603 989 1608) (lf o8) e))))) (nd (cp lz UY nZ 2 2 194 49) (nd o7 (nd (nQ H U4 81 394 145) (nd (nQ H Vf 106 587 273) (nd (kJ aM Vx cG 34 0 523 798) (lf (bR Bn Wn 49 37)) (lf o7)) (nd o7 (lf ⟨vY kN,none,dD [eS H jE 2123 (vS eF 2098),eS H vW 2125 (vS eY 2124),eS H jF 2127 (vI 1148 2126),eS H W4 2134 (vR 1304),eS H aM 2143 (vR 1312),eS H BZ 2150 (vR 1319),eS H B1 2157 (vR 1326),eS H B3 2165 (vR 1333),eS H B5 2174 (vR 1340),eS H B6 2185 (vR 1347),eS H B7 2198 (vR 1354),eS H B8 2210 (vR 1361),eS H B9 2218 (vR 1368),eS H Ca 2232 (vR 1375),eS H Cb 2239 (vR 1382),eS H Cc 2246 (vR 1389),eS H Cd 2253 (vR 1396),eS H Ce 2273 (vR 1404),eS H Cf 2281 (vR 1411),eS H Cg 2290 (vR 1418),eS H Ci 2299 (vR 1425),eS H Cj 2307 (vR 1432),eS H Ck 2316 (vR 1439),eS H Cm 2324 (vR 1446),eS H Cn 2332 (vR 1453),eS H Co 2342 (vR 1461),eS H Cp 2350 (vR 1468),eS H Cq 2358 (vR 1475),eS H Cr 2366 (vR 1482),eS H Cs 2374 (vR 1489),eS H Ct 2384 (vR 1497),eS H Cu 2392 (vR 1504),eS H Cv 2399 (vR 1511),eS H Cw 2407 (vR 1518),eS H gG 2414 (vR 1519),eS H abY 2415 (vR 1299)] 36,#[]⟩) e)) (nd (cY 400) (nd (aa5 H lA 215 1151 1142 649 1174) (lf (cp BG WH bo 49 55 1285 1169)) e) (nd (j8 ag 1511) (lf o7) e))) (nd o8 (nd (bM aM Vl 119 4 691 684 333 692) (nd (ip cG 593 590 798) (lf (bM Bx Wx 662 1 1727 1719 1101 1728)) e) (nd o8 (lf o7) e)) (nd (kJ aM Vv cG 30 0 459 798) (nd o8 (lf (bR BP WW 49 66)) e) (nd o7 (lf Sa) e)))) (nd ⟨vY tT,none,dC ph [vY pP] [vR 114,vY pP] 113 ph true [vR 135,vR 147,vR 159,vR 179,vR 191,vR 203,vR 215,vR 227,vR 239,vR 251,vR 263,vR 275,vR 287,vR 299,vR 311,vR 323,vR 342,vR 361,vR 380,vR 400] false (none) false,#[some (vR 98),none,some (vS ph 323),some (vS ph 331),some (vB pO),some (vT)]⟩ (nd (F4 H U6 85 430 446 176 450) (nd o8 (nd (ip cG 561 558 798) (lf o8) e) (nd (bR AQ VR 49 5) (lf o7) e)) (nd (yb H cG vZ 155 845 798 859 446 863) (nd (kJ AG VE lA 45 1 683 1142) (lf o7) e) (nd (cp A9 V9 bo 49 23 1285 945) (lf o7) e))) (nd jH (nd (ip eW 369 366 321) (nd (tI H cG Kv 212 1133 798 631) (lf (iq ag aK dX iO 1775)) e) (nd (bM A0 V0 458 1 1474 1470 877 1475) (lf (bR Cd Xj 52 13)) e)) (nd (kJ aM Vw cG 32 0 491 798) (nd o7 (lf o8) e) (nd o7 (lf (cW 1521)) e)))))) (nd ⟨vN,none,dF [vI 7 0,vI 4 0,vR 34,vI 15 0,vI 4 0,vR 42,vI 37 0,vI 4 0,vR 49],#[]⟩ (nd (bM Gp UX 15 3 234 223 37 235) (nd o7 (nd jH (nd jH (nd (ip cG 521 518 798) (lf o7) (lf o7)) (nd o8 (lf (ip eF 1289 1286 2098)) e)) (nd o7 (nd o7 (lf (bM BF WG 752 2 1813 1801 1157 1814)) e) (nd o8 (lf (cp Cg Xm eF 52 16 2098 1417)) e))) (nd (nQ H U9 94 479 201) (nd (nN 119 338) (nd (cW 585) (lf (bR Bw Ww 49 45)) e) (nd o7 (lf (cp B7 Xd eF 52 7 2098 1353)) e)) (nd (ip cG 457 454 798) (nd o7 (lf o7) e) (nd (nM ag GG pA aK bg 1581) (lf (cp Cr Xw eF 52 25 2098 1481)) e)))) (nd o8 (nd o7 (nd (nQ H Vh 110 623 297) (nd (cW 553) (lf o7) e) (nd o7 (lf (j8 ag 2154)) e)) (nd ⟨vY kN,none,dD [eS H jE 807 (vS cG 798),eS H jF 811 (vI 147 810),eS H aM 820 (vR 417),eS H GC 827 (vR 424),eS H gG 830 (vR 425),eS H Kc 832 (vR 428),eS H Gq 834 (vR 429),eS H n2 835 (vN)] 4,#[]⟩ (nd (cp aM VD lA 45 0 1142 681) (lf (iq ag eB yA bg 1875)) e) (nd (bM A8 V8 497 1 1536 1532 933 1537) (lf o7) e))) (nd o8 (nd (cW 361) (nd (ip cG 617 614 798) (lf o8) e) (nd (bR AZ VZ 49 13) (lf o7) e)) (nd (ip cG 489 486 798) (nd (cY 744) (lf o7) e) (nd (cp Bh Wh bo 49 31 1285 1001) (lf (fD ag pA 2403)) e))))) (nd ⟨vY oM,none,dS [vY M6] 0,#[]⟩ (nd (bR lz U0 4 1) (nd o8 (nd o8 (nd (yb H cG Gz 188 1003 798 1017 550 1021) (lf (bM Bo Wo 613 1 1665 1661 1045 1666)) (lf (OP GR 60))) (nd o8 (lf (j8 VL 2138)) e)) (nd acw (nd (OP GD 44) (lf o7) e) (nd o7 (lf o8) e))) (nd jH (nd iP (nd (tI H cG Kt 208 1101 798 607) (lf (cp By Wy bo 49 47 1285 1113)) e) (nd (fD ag mB 1449) (lf o8) e)) (nd (tI H cG yw 170 909 798 479) (nd ⟨vY tT,none,dC kf [vY pP] [vR 730,vY pP] 729 kf true [vR 1281] false (none) false,#[some (vR 669),none,some (vS kf 1191),some (vS kf 1199),some (vB pO),some (vT)]⟩ (lf (bM BQ WX 1019 1 2021 2010 1237 2022)) e) (nd (bR Bf Wf 49 29) (lf o7) e)))) (nd o7 (nd o8 (nd jH (nd (yb H cG GA 196 1048 798 1066 582 1074) (lf (j8 ag 1699)) e) (nd (bM AR VS 399 1 1407 1400 821 1408) (lf (bR B5 Xb 52 5)) e)) (nd (iq ag ke aK bg 853) (nd (kJ sd VF lA 45 2 691 1142) (lf (bR BM WQ 49 61)) e) (nd o7 (lf (bR Cp Xu 52 23)) e))) (nd (nQ H Vd 102 551 249) (nd (jz bg aK dX 756) (nd (cW 633) (lf o7) e) (nd (cp A1 V1 bo 49 15 1285 889) (lf (bR Ce Xk 52 14)) e)) (nd (tI H cG Kq 178 954 798 511) (nd (aa7 H bo 295 1310 1285 1327 760 1334) (lf (fD ag iO 2080)) e) (nd o8 (lf (bM GN GN 1536 0 2436 2433 1525 2437)) e))))))) (nd (ip J9 13 3 164) (nd o7 (nd o8 (nd (cY 67) (nd (F4 H U2 73 361 378 132 383) (nd (nQ H Ve 104 569 261) (nd (yb H cG Gy 180 970 798 986 530 992) (lf (cp Bl Wl bo 49 35 1285 1029)) (lf o7)) (nd (il bq 304 181 1347 1344 772) (lf (tI H eF KU 1146 2107 2098 1291)) e)) (nd ⟨vY oM,none,dS [vN] 0,#[]⟩ (nd o7 (lf o8) e) (nd (bR A3 V3 49 17) (lf (jz ag jG pB 2285)) e))) (nd o8 (nd jH (nd (kJ aM Vz cG 37 0 575 798) (lf o7) e) (nd o7 (lf (Uh ag jG aK yx yy bg pB 2189)) e)) (nd (yb H cG v3 161 874 798 891 466 898) (nd o7 (lf (cp BN WU bo 49 64 1285 1221)) e) (nd (bM Bc Wc 533 1 1575 1568 961 1576) (lf (fD ag jG 2362)) e)))) (nd (nN 70 110) (nd (nN 88 175) (nd o8 (nd (kJ aM Vy cG 35 0 543 798) (lf o7) e) (nd (cp AN VP bo 49 3 1285 805) (lf (bM BZ W8 1160 1 2148 2144 1313 2149)) e)) (nd (bR GC Vt 28 1) (nd (fD ag nf 1206) (lf (bM BJ WM 889 2 1869 1863 1185 1870)) e) (nd o8 (lf (cp Cm Xq eF 52 20 2098 1445)) e))) (nd jH (nd (cp aM Vn eW 24 1 321 357) (nd (tI H cG Ku 210 1117 798 619) (lf (bR BA WA 49 49)) e) (nd o7 (lf (cp Cb Xh eF 52 11 2098 1381)) e)) (nd (yb H cG Gx 172 925 798 939 498 943) (nd o7 (lf o7) e) (nd (j8 ag 1613) (lf (bM Cv XA 1528 1 2397 2393 1505 2398)) e))))) (nd (Jo 253 53) (nd o7 (nd jH (nd jH (nd (cW 533) (lf o8) (lf o7)) (nd (bR AL VN 49 1) (lf (il eY 1148 181 2121 2118 1300)) e)) (nd o7 (nd o7 (lf o7) e) (nd (cp A5 V5 bo 49 19 1285 917) (lf (bR Cj Xo 52 18)) e))) (nd (nQ H Va 96 497 213) (nd (gN Gs 114 341 326 670) (nd (cW 597) (lf (nM ag aK gO iO dX 1733)) e) (nd (bM AW VW 430 2 1443 1437 849 1444) (lf (bR B9 Xf 52 9)) e)) (nd (cW 469) (nd (bM AK VJ 289 2 1262 1257 721 1263) (lf o8) e) (nd o7 (lf o7) e)))) (nd (cY 114) (nd jH (nd (nQ H Vi 112 641 309) (nd (cW 565) (lf (bM Bs Wt 630 1 1693 1689 1073 1694)) e) (nd o8 (lf o7) e)) (nd (ip cG 437 434 798) (nd (fD ag gO 1224) (lf o7) e) (nd o7 (lf o7) e))) (nd o8 (nd o7 (nd (ip cG 629 626 798) (lf (cp BC WC bo 49 51 1285 1141)) e) (nd (j8 ag 1480) (lf o7) e)) (nd (cW 501) (nd (bR aM VK 48 0) (lf (bM BV W2 1117 3 2074 2064 1265 2075)) e) (nd (bR Bj Wj 49 33) (lf o8) e)))))) (nd o8 (nd (jz ag abP (S 6019511224) 240) (nd o78 (nd o8 (nd o8 (nd (rJ ag aK bg n8 yx yy 978) (lf o7) (lf (OQ K1 yE 58 2419 1549))) (nd (bM aM VM 306 2 1360 1354 777 1361) (lf (cW 1293)) e)) (nd (nM bg AD aK fF dX 789) (nd (bR lz VC 43 1) (lf (Ug aK iO PF ab3 gO (S 0x2a88a517480f9f7d6) dX bg 1819)) e) (nd (bM A4 V4 479 1 1505 1501 905 1506) (lf o7) e))) (nd jH (nd o8 (nd (tI H cG Ks 206 1085 798 595) (lf o8) e) (nd (bR AV VV 49 9) (lf o7) e)) (nd (Uh ag ke mC pz aK bg AE 882) (nd (bR AJ VI 45 5) (lf o7) e) (nd (cp Bd Wd bo 49 27 1285 973) (lf o7) e)))) (nd (bM aM U1 70 3 341 335 105 342) (nd (bR aM U7 10 1) (nd jH (nd (tI H cG Kr 194 1032 798 563) (lf (bR Br Ws 49 41)) e) (nd o7 (lf (cp B1 W9 eF 52 3 2098 1325)) e)) (nd (cW 427) (nd (fD ag iN 1215) (lf (cp BK WN bo 49 59 1285 1197)) e) (nd (iq ag yz aK bg 1542) (lf Sa) e))) (nd (nQ H Vc 100 533 237) (nd (F3 H Gv Vo 130 739 755 377 759) (nd (cW 621) (lf (bM BB WB 718 2 1769 1762 1129 1770)) e) (nd o8 (lf o7) e)) (nd (iq ag aK bg kK 933) (nd o7 (lf (bR BU W0 49 70)) e) (nd o7 (lf (cp Cw XB eF 52 30 2098 1517)) e))))) (nd o8 (nd (aa5 H nZ 45 287 194 85 311) (nd (nQ H U5 83 412 157) (nd (nQ H Vg 108 605 285) (nd (ip cG 541 538 798) (lf (j8 ag 1671)) (lf o8)) (nd (bM AM VO 328 1 1375 1371 793 1376) (lf (bR aM W7 52 1)) e)) (nd o7 (nd iP (lf (bR BI WL 49 57)) e) (nd o7 (lf (bM Ck Xp 1397 1 2314 2308 1433 2315)) e))) (nd o8 (nd (il Gu 123 181 706 703 348) (nd (ip cG 605 602 798) (lf o7) e) (nd (cp AX VX bo 49 11 1285 861) (lf (bM Ca Xg 1237 1 2230 2219 1369 2231)) e)) (nd (ip cG 477 474 798) (nd (cY 730) (lf ⟨vY oM,none,dS [vS ag 2027,vS gH 2028,vS aK 2029,vS eB 2030,vS gO 2031,vS ab9 2032,vS iO 2033,vS yB 2034,vS sd 2035,vS GH 2036] 0,#[]⟩) e) (nd o8 (lf (bR Cu Xz 52 28)) e)))) (nd o7 (nd (nQ H U8 92 461 189) (nd o8 (nd (ip cG 573 570 798) (lf (cp Bu Wu bo 49 43 1285 1085)) e) (nd (jz ag ab0 GG 1413) (lf o8) e)) (nd (kJ aM Vu cG 29 0 439 798) (nd (jz ag gO iO 1233) (lf ⟨vY kN,none,dD [eS H ab7 1956 (vS ab8 1957)] 1,#[]⟩) e) (nd (bR Bb Wb 49 25) (lf o8) e))) (nd jH (nd (cY 380) (nd (Ud H lA AF lz 215 1151 1142 1167 649 1174 1180) (lf o7) e) (nd o7 (lf o8) e)) (nd (ip cG 509 506 798) (nd (cW 763) (lf (cp BW W3 bo 49 72 1285 1277)) e) (nd (bM Bk Wk 597 1 1636 1632 1017 1637) (lf o7) e))))))))))
noncomputable def t0:BT:=(((tC (zL H) 15).set 3 λ_=>o3 H).set 2 λ_=>o2).set 12 λ_=>o8
noncomputable def t10:BT:=(((((tC (zL H) 162).set 3 λ_=>aco H).set 95 λ_=>o95).set 67 λ_=>o67).set 12 λ_=>XM).set 114 λ_=>ah4
noncomputable def t28:BT:=((((tC (zL H) 403).set 3 λ_=>acp H).set 95 λ_=>o95).set 67 λ_=>o67).set 12 λ_=>XN
noncomputable def t43:BT:=((((tC (zL H) 636).set 3 λ_=>acq H).set 95 λ_=>o95).set 67 λ_=>o67).set 12 λ_=>XO
noncomputable def t49:BT:=((((tC (zL H) 768).set 3 λ_=>acr H).set 95 λ_=>Lg).set 12 λ_=>XQ).set 730 λ_=>ah6
noncomputable def t50:BT:=((((tC (zL H) 1284).set 3 λ_=>acs H).set 95 λ_=>Lg).set 1281 λ_=>R9).set 12 λ_=>XR
noncomputable def t52:BT:=(((tC (zL H) 1296).set 3 λ_=>acu H).set 1281 λ_=>R9).set 12 λ_=>XS
noncomputable def t53:BT:=((tC (zL H) 1524).set 3 λ_=>acv H).set 12 λ_=>XT
noncomputable def ij (p:Program):Env:={scope:=p.main.scope,locals:=mainNs,globals:=mainNs,cells:=[],code:=.ref 13,frame:=some 14}
noncomputable def cE:Code:=.body (behindTheImports pw) (ij pw)
end
def adj (w:World) (os:OsState):PySem.W.Fast.tw10110043849684766642 PySem.W.Fast.tw14364793385576792824 pw w 11 (some (.ref 6)) 1 1769 ⟨t0 w.params.strHash,15,{},#[],{},187,os⟩ ⟨(PySem.W.Fast.tw12563942051412417395 ((pw.main.body.drop 0).take 10) (ij pw)).wrap doneF deadEnd id id,cE,⟨0,0,0,0⟩,[topFrame ⟨0,0,0,0⟩]⟩=
    some (Flow.next,⟨t10 w.params.strHash,162,{},#[],{},423,os⟩,cE,⟨83,0,84,25⟩):=by
 kernel_rfl
def adk (w:World) (os:OsState):PySem.W.Fast.tw10110043849684766642 PySem.W.Fast.tw14364793385576792824 pw w 11 (some (.ref 6)) 1 3975 ⟨t10 w.params.strHash,162,{},#[],{},423,os⟩ ⟨(PySem.W.Fast.tw12563942051412417395 ((pw.main.body.drop 10).take 18) (ij pw)).wrap doneF deadEnd id id,cE,⟨83,0,84,25⟩,[topFrame ⟨0,0,0,0⟩]⟩=
    some (Flow.next,⟨t28 w.params.strHash,403,{},#[],{},800,os⟩,cE,⟨146,0,146,8⟩):=by
 kernel_rfl
def adl (w:World) (os:OsState):PySem.W.Fast.tw10110043849684766642 PySem.W.Fast.tw14364793385576792824 pw w 11 (some (.ref 6)) 1 3405 ⟨t28 w.params.strHash,403,{},#[],{},800,os⟩ ⟨(PySem.W.Fast.tw12563942051412417395 ((pw.main.body.drop 28).take 15) (ij pw)).wrap doneF deadEnd id id,cE,⟨146,0,146,8⟩,[topFrame ⟨0,0,0,0⟩]⟩=
    some (Flow.next,⟨t43 w.params.strHash,636,{},#[],{},1144,os⟩,cE,⟨214,0,214,8⟩):=by
 kernel_rfl
def adm (w:World) (os:OsState):PySem.W.Fast.tw10110043849684766642 PySem.W.Fast.tw14364793385576792824 pw w 11 (some (.ref 6)) 1 1220 ⟨t43 w.params.strHash,636,{},#[],{},1144,os⟩ ⟨(PySem.W.Fast.tw12563942051412417395 ((pw.main.body.drop 43).take 6) (ij pw)).wrap doneF deadEnd id id,cE,⟨214,0,214,8⟩,[topFrame ⟨0,0,0,0⟩]⟩=
    some (Flow.next,⟨t49 w.params.strHash,768,{},#[],{},1342,os⟩,cE,⟨295,0,303,24⟩):=by
 kernel_rfl
def Ym (w:World) (os:OsState):PySem.W.Fast.tw10110043849684766642 PySem.W.Fast.tw14364793385576792824 pw (w.withFollow "special-get-raises" false) 11 (some (.ref 6)) 1 2961 ⟨t49 w.params.strHash,768,{},#[],{},1342,os⟩ ⟨(PySem.W.Fast.tw12563942051412417395 ((pw.main.body.drop 49).take 1) (ij pw)).wrap doneF deadEnd id id,cE,⟨295,0,303,24⟩,[topFrame ⟨0,0,0,0⟩]⟩=
    some (Flow.next,⟨t50 w.params.strHash,1284,{},#[],{},2098,os⟩,cE,⟨304,0,1144,17⟩):=by
 kernel_rfl
def Yn (w:World) (os:OsState):PySem.W.Fast.tw10110043849684766642 PySem.W.Fast.tw14364793385576792824 pw (w.withFollow "special-get-raises" true) 11 (some (.ref 6)) 1 2961 ⟨t49 w.params.strHash,768,{},#[],{},1342,os⟩ ⟨(PySem.W.Fast.tw12563942051412417395 ((pw.main.body.drop 49).take 1) (ij pw)).wrap doneF deadEnd id id,cE,⟨295,0,303,24⟩,[topFrame ⟨0,0,0,0⟩]⟩=
    some (Flow.next,⟨t50 w.params.strHash,1284,{},#[],{},2098,os⟩,cE,⟨304,0,1144,17⟩):=by
 kernel_rfl
def adn (w:World) (os:OsState):PySem.W.Fast.tw10110043849684766642 PySem.W.Fast.tw14364793385576792824 pw w 11 (some (.ref 6)) 1 237 ⟨t50 w.params.strHash,1284,{},#[],{},2098,os⟩ ⟨(PySem.W.Fast.tw12563942051412417395 ((pw.main.body.drop 50).take 2) (ij pw)).wrap doneF deadEnd id id,cE,⟨304,0,1144,17⟩,[topFrame ⟨0,0,0,0⟩]⟩=
    some (Flow.next,⟨t52 w.params.strHash,1296,{},#[],{},2116,os⟩,cE,⟨1146,0,1147,8⟩):=by
 kernel_rfl
def Yo (w:World) (os:OsState):PySem.W.Fast.tw10110043849684766642 PySem.W.Fast.tw14364793385576792824 pw (w.withFollow "special-get-raises" false) 11 (some (.ref 6)) 1 1286 ⟨t52 w.params.strHash,1296,{},#[],{},2116,os⟩ ⟨(PySem.W.Fast.tw12563942051412417395 ((pw.main.body.drop 52).take 1) (ij pw)).wrap doneF deadEnd id id,cE,⟨1146,0,1147,8⟩,[topFrame ⟨0,0,0,0⟩]⟩=
    some (Flow.next,⟨t53 w.params.strHash,1524,{},#[],{},2419,os⟩,cE,⟨1148,0,1533,69⟩):=by
 kernel_rfl
def Yp (w:World) (os:OsState):PySem.W.Fast.tw10110043849684766642 PySem.W.Fast.tw14364793385576792824 pw (w.withFollow "special-get-raises" true) 11 (some (.ref 6)) 1 1286 ⟨t52 w.params.strHash,1296,{},#[],{},2116,os⟩ ⟨(PySem.W.Fast.tw12563942051412417395 ((pw.main.body.drop 52).take 1) (ij pw)).wrap doneF deadEnd id id,cE,⟨1146,0,1147,8⟩,[topFrame ⟨0,0,0,0⟩]⟩=
    some (Flow.next,⟨t53 w.params.strHash,1524,{},#[],{},2419,os⟩,cE,⟨1148,0,1533,69⟩):=by
 kernel_rfl
def ado (w:World) (os:OsState):PySem.W.Fast.tw10110043849684766642 PySem.W.Fast.tw14364793385576792824 pw w 11 (some (.ref 6)) 1 230 ⟨t53 w.params.strHash,1524,{},#[],{},2419,os⟩ ⟨(PySem.W.Fast.tw12563942051412417395 ((pw.main.body.drop 53).take 9) (ij pw)).wrap doneF deadEnd id id,cE,⟨1148,0,1533,69⟩,[topFrame ⟨0,0,0,0⟩]⟩=
    some (Flow.next,⟨zL w.params.strHash,1570,{},#[],{},2482,os⟩,cE,⟨1605,0,1657,21⟩):=by
 kernel_rfl
noncomputable def bd:List Stmt:=pw.main.body
noncomputable def st0 (w:World) (os:OsState):SharedT:=⟨t0 w.params.strHash,15,{},#[],{},187,os⟩
noncomputable def adu (w:World) (os:OsState):SharedT:=⟨t10 w.params.strHash,162,{},#[],{},423,os⟩
noncomputable def adv (w:World) (os:OsState):SharedT:=⟨t28 w.params.strHash,403,{},#[],{},800,os⟩
noncomputable def adw (w:World) (os:OsState):SharedT:=⟨t43 w.params.strHash,636,{},#[],{},1144,os⟩
noncomputable def YB (w:World) (os:OsState):SharedT:=⟨t49 w.params.strHash,768,{},#[],{},1342,os⟩
noncomputable def YC (w:World) (os:OsState):SharedT:=⟨t50 w.params.strHash,1284,{},#[],{},2098,os⟩
noncomputable def YD (w:World) (os:OsState):SharedT:=⟨t52 w.params.strHash,1296,{},#[],{},2116,os⟩
noncomputable def YE (w:World) (os:OsState):SharedT:=⟨t53 w.params.strHash,1524,{},#[],{},2419,os⟩
noncomputable def YF (w:World) (os:OsState):SharedT:=⟨zL w.params.strHash,1570,{},#[],{},2482,os⟩
def acY (w:World) (os:OsState):segRun treeTable pw w 11 (some (.ref 6)) 1 1769 (st0 w os).abs (piecesOf ((bd.drop 0).take 10) (ij pw) cE ⟨0,0,0,0⟩ [topFrame ⟨0,0,0,0⟩])=some (Flow.next,(adu w os).abs,cE,⟨83,0,84,25⟩):=by
 refine segRun_of ?_
 have h:=adj w os
 rw[<-PySem.W.Fast.te10110043849684766642,<-PySem.W.Fast.te14364793385576792824,<-PySem.W.Fast.te12563942051412417395] at h
 exact h
def acZ (w:World) (os:OsState):segRun treeTable pw w 11 (some (.ref 6)) 1 3975 (adu w os).abs (piecesOf ((bd.drop 10).take 18) (ij pw) cE ⟨83,0,84,25⟩ [topFrame ⟨0,0,0,0⟩])=some (Flow.next,(adv w os).abs,cE,⟨146,0,146,8⟩):=by
 refine segRun_of ?_
 have h:=adk w os
 rw[<-PySem.W.Fast.te10110043849684766642,<-PySem.W.Fast.te14364793385576792824,<-PySem.W.Fast.te12563942051412417395] at h
 exact h
def ac0 (w:World) (os:OsState):segRun treeTable pw w 11 (some (.ref 6)) 1 3405 (adv w os).abs (piecesOf ((bd.drop 28).take 15) (ij pw) cE ⟨146,0,146,8⟩ [topFrame ⟨0,0,0,0⟩])=some (Flow.next,(adw w os).abs,cE,⟨214,0,214,8⟩):=by
 refine segRun_of ?_
 have h:=adl w os
 rw[<-PySem.W.Fast.te10110043849684766642,<-PySem.W.Fast.te14364793385576792824,<-PySem.W.Fast.te12563942051412417395] at h
 exact h
def ac1 (w:World) (os:OsState):segRun treeTable pw w 11 (some (.ref 6)) 1 1220 (adw w os).abs (piecesOf ((bd.drop 43).take 6) (ij pw) cE ⟨214,0,214,8⟩ [topFrame ⟨0,0,0,0⟩])=some (Flow.next,(YB w os).abs,cE,⟨295,0,303,24⟩):=by
 refine segRun_of ?_
 have h:=adm w os
 rw[<-PySem.W.Fast.te10110043849684766642,<-PySem.W.Fast.te14364793385576792824,<-PySem.W.Fast.te12563942051412417395] at h
 exact h
def ac2 (w:World) (os:OsState):segRun treeTable pw w 11 (some (.ref 6)) 1 2961 (YB w os).abs (piecesOf ((bd.drop 49).take 1) (ij pw) cE ⟨295,0,303,24⟩ [topFrame ⟨0,0,0,0⟩])=some (Flow.next,(YC w os).abs,cE,⟨304,0,1144,17⟩):=by
 refine segRun_of ?_
 have h:∀v:Bool,_:=λv:Bool=>(by cases v with
  |false=>exact Ym w os
  |true=>exact Yn w os:PySem.W.Fast.tw10110043849684766642 PySem.W.Fast.tw14364793385576792824 pw (w.withFollow "special-get-raises" v) 11 (some (.ref 6)) 1 2961 (YB w os) ⟨(PySem.W.Fast.tw12563942051412417395 ((pw.main.body.drop 49).take 1) (ij pw)).wrap doneF deadEnd id id,cE,⟨295,0,303,24⟩,[topFrame ⟨0,0,0,0⟩]⟩=
  some (Flow.next,YC w os,cE,⟨304,0,1144,17⟩))
 replace h:=h (w.params.followText "special-get-raises")
 rw[World.withFollow_self] at h
 rw[<-PySem.W.Fast.te10110043849684766642,<-PySem.W.Fast.te14364793385576792824,<-PySem.W.Fast.te12563942051412417395] at h
 exact h
def ac3 (w:World) (os:OsState):segRun treeTable pw w 11 (some (.ref 6)) 1 237 (YC w os).abs (piecesOf ((bd.drop 50).take 2) (ij pw) cE ⟨304,0,1144,17⟩ [topFrame ⟨0,0,0,0⟩])=some (Flow.next,(YD w os).abs,cE,⟨1146,0,1147,8⟩):=by
 refine segRun_of ?_
 have h:=adn w os
 rw[<-PySem.W.Fast.te10110043849684766642,<-PySem.W.Fast.te14364793385576792824,<-PySem.W.Fast.te12563942051412417395] at h
 exact h
def ac4 (w:World) (os:OsState):segRun treeTable pw w 11 (some (.ref 6)) 1 1286 (YD w os).abs (piecesOf ((bd.drop 52).take 1) (ij pw) cE ⟨1146,0,1147,8⟩ [topFrame ⟨0,0,0,0⟩])=some (Flow.next,(YE w os).abs,cE,⟨1148,0,1533,69⟩):=by
 refine segRun_of ?_
 have h:∀v:Bool,_:=λv:Bool=>(by cases v with
  |false=>exact Yo w os
  |true=>exact Yp w os:PySem.W.Fast.tw10110043849684766642 PySem.W.Fast.tw14364793385576792824 pw (w.withFollow "special-get-raises" v) 11 (some (.ref 6)) 1 1286 (YD w os) ⟨(PySem.W.Fast.tw12563942051412417395 ((pw.main.body.drop 52).take 1) (ij pw)).wrap doneF deadEnd id id,cE,⟨1146,0,1147,8⟩,[topFrame ⟨0,0,0,0⟩]⟩=
  some (Flow.next,YE w os,cE,⟨1148,0,1533,69⟩))
 replace h:=h (w.params.followText "special-get-raises")
 rw[World.withFollow_self] at h
 rw[<-PySem.W.Fast.te10110043849684766642,<-PySem.W.Fast.te14364793385576792824,<-PySem.W.Fast.te12563942051412417395] at h
 exact h
def ac5 (w:World) (os:OsState):segRun treeTable pw w 11 (some (.ref 6)) 1 230 (YE w os).abs (piecesOf ((bd.drop 53).take 9) (ij pw) cE ⟨1148,0,1533,69⟩ [topFrame ⟨0,0,0,0⟩])=some (Flow.next,(YF w os).abs,cE,⟨1605,0,1657,21⟩):=by
 refine segRun_of ?_
 have h:=ado w os
 rw[<-PySem.W.Fast.te10110043849684766642,<-PySem.W.Fast.te14364793385576792824,<-PySem.W.Fast.te12563942051412417395] at h
 exact h
def gD (a k:Nat):bd.drop a=(bd.drop a).take k++bd.drop (a+k):=by
 conv=>lhs;rw[<-List.take_append_drop k (bd.drop a)]
 rw[List.drop_drop]
def Td:bd.drop 62=[]:=KK
def Tc:behindTheImports pw=bd.drop 0:=KK
def Of (w:World) (s:Shared):topRun treeTable pw w 11 (some (.ref 6)) 2 s ⟨doneF .next,cE,⟨1605,0,1657,21⟩,[topFrame ⟨0,0,0,0⟩]⟩=some s:=by
 obtain⟨h,g,d,t,os⟩:=s
 kernel_rfl
def Qc (w:World) (os:OsState):topGo treeTable pw w 11 (some (.ref 6)) 12 ⟨boot_heap w.params,#[],boot_drawn,boot_toks,os⟩ (topStub pw)=some ((st0 w os).abs,⟨denote treeTable cE,cE,⟨0,0,0,0⟩,[topFrame ⟨0,0,0,0⟩]⟩):=by
 kernel_rfl
def Fw (w:World) (os:OsState):segRun treeTable pw w 11 (some (.ref 6)) 1 1 (st0 w os).abs (blockOf (behindTheImports pw) (ij pw) cE ⟨0,0,0,0⟩ [topFrame ⟨0,0,0,0⟩])=some (Flow.next,(st0 w os).abs,cE,⟨0,0,0,0⟩):=by
 kernel_rfl
def whole_run (w:World) (os:OsState):topRun treeTable pw w 11 (some (.ref 6)) 15098 ⟨boot_heap w.params,#[],boot_drawn,boot_toks,os⟩ (topStub pw)=some (YF w os).abs:=by
 have k62:=Of w (YF w os).abs
 rw[show(⟨doneF .next,cE,⟨1605,0,1657,21⟩,[topFrame ⟨0,0,0,0⟩]⟩:Thread)=restOf [] (ij pw) cE ⟨1605,0,1657,21⟩ [topFrame ⟨0,0,0,0⟩] from rfl,<-Td] at k62
 have k53:=piece_app (ac5 w os) k62
 rw[<-gD 53 9] at k53
 have k52:=piece_app (ac4 w os) k53
 rw[<-gD 52 1] at k52
 have k50:=piece_app (ac3 w os) k52
 rw[<-gD 50 2] at k50
 have k49:=piece_app (ac2 w os) k50
 rw[<-gD 49 1] at k49
 have k43:=piece_app (ac1 w os) k49
 rw[<-gD 43 6] at k43
 have k28:=piece_app (ac0 w os) k43
 rw[<-gD 28 15] at k28
 have k10:=piece_app (acZ w os) k28
 rw[<-gD 10 18] at k10
 have k0:=piece_app (acY w os) k10
 rw[<-gD 0 10] at k0
 rw[<-Tc] at k0
 exact go_top (Qc w os) (piece_block (Fw w os) k0)
noncomputable def jq (P:Params):Heap:=absHeap (zL P.strHash) 1570 {}
def Lv (N:Nat) (hN:Nat.ble 600 N=true):∀w:World,(fencedOpening treeTable pw w N).map (λs=>(s.heap,s.gens,s.drawn,s.toks))=some (boot_heap w.params,Array.mk [],boot_drawn,boot_toks):=
 boot_open KK hN (λs=>KK)
def Me (w:World):((boot_heap w.params).isNs mainGlobals&&(#[]:Array GenState).size==0,(boot_heap w.params).objs.size,(boot_heap w.params).nsMap mainGlobals "__annotations__")=(true,11,some (.ref 6)):=by
 kernel_rfl
noncomputable def qv:Program:={pw with main:={pw.main with body:=bd.drop 61}}
noncomputable def lo:List Str:=pw.boundNames.filter λn=>n != (Str.ofString "law")
noncomputable def sF (w:World) (os:OsState):Shared:=⟨jq w.params,#[],{},2482,os⟩
def l1 (w:World) (os:OsState):seen ((recsOf qv).map (·.name)) (ownsOf qv) [] {sF w os with gens:=#[]}=expectedOf qv:=KK
def l2 (w:World) (os:OsState):(sF w os).heap.bltView=bltViewBooted:=KK
def l3 (w:World) (os:OsState):(sF w os).heap.keysOk (looseW qv lo) ((recsOf qv).map (·.name)) ((litsOf qv).map (·.1)) ((clssOf qv (looseW qv lo)).map (·.name))=true:=KK
def l4 (w:World) (os:OsState):((sF w os).heap.accountedOkI (importedModules pw.main.body)&&(sF w os).heap.isNs mainGlobals&&(sF w os).heap.isNs builtinsNs&&tablesOk qv (sF w os).heap)=true:=KK
def l5 (w:World) (os:OsState):tabsOk qv (sF w os)=true:=KK
def l6 (w:World) (os:OsState):pinSeenD qv (drecsOf qv) (sF w os)=pinGoodD (drecsOf qv):=KK
def l7 (w:World) (os:OsState):plainSeenE qv (looseW qv lo) (sF w os)=plainGoodE qv (looseW qv lo):=KK
def l8 (w:World) (os:OsState):plainSeenD qv lo (sF w os)=plainGoodD qv lo:=KK
def l9 (w:World) (os:OsState):wideSeen qv (sF w os)=wideGood qv:=KK
def l10 (w:World) (os:OsState):clsSeenW qv lo (sF w os)=clsGoodW qv lo:=KK
def vQ (w:World) (os:OsState):(staticsOk (importedModules pw.main.body) (boot_heap w.params) (jq w.params)&&namesBound pw (jq w.params)&&gensDone ⟨jq w.params,#[],{},2482,os⟩&&laidKept (boot_heap w.params) (jq w.params))=true:=by
 kernel_rfl
def ai5 {A B C D E F G H I:Type} {a a':A} {b b':B} {c c':C} {d d':D} {e e':E} {f f':F} {g g':G} {h h':H} {i i':I}
    (h1:a=a') (h2:b=b') (h3:c=c') (h4:d=d') (h5:e=e') (h6:f=f') (h7:g=g') (h8:h=h') (h9:i=i'):(a,b,c,d,e,f,g,h,i)=(a',b',c',d',e',f',g',h',i'):=by
 subst h1 h2 h3 h4 h5 h6 h7 h8 h9;rfl
def afw {a b c d e f g:Bool} (h1:a=true) (h2:(b&&c&&d&&e)=true) (h3:f=true) (h4:g=true):(a&&b&&c&&d&&e&&f&&g)=true:=by
 rw[Bool.and_eq_true,Bool.and_eq_true,Bool.and_eq_true] at h2
 obtain⟨⟨⟨hb,hc⟩,hd⟩,he⟩:=h2
 rw[h1,hb,hc,hd,he,h3,h4];rfl
def l3' (w:World) (os:OsState):((sF w os).heap.keysOk (looseW qv lo) ((recsOf qv).map (·.name)) ((litsOf qv).map (·.1)) ((clssOf qv (looseW qv lo)).map (·.name))&&(sF w os).heap.accountedOkI (importedModules pw.main.body)&&(sF w os).heap.isNs mainGlobals&&(sF w os).heap.isNs builtinsNs&&tablesOk qv (sF w os).heap&&(λ_:Shared=>true) (sF w os)&&(if(true:Bool) then(sF w os).gens.size==0 else !leftWithCleanup (sF w os).gens))=true:=
 afw (l3 w os) (l4 w os) rfl rfl
def Gi (w:World) (os:OsState):openSeen qv lo (importedModules pw.main.body) (λ_=>true) true (sF w os)=openGood qv lo:=
 ai5 (l1 w os) (l2 w os) (l3' w os) (l5 w os) (l6 w os) (l7 w os) (l8 w os) (l9 w os) (l10 w os)
def ai4 {A B C:Type} {a a':A} {b b':B} {c:C} (h1:a=a') (h2:b=b'):(a,b,c)=(a',b',c):=by subst h1 h2;rfl
def JZ (w:World):(λos=>((staticsOk (importedModules pw.main.body) (boot_heap w.params) (jq w.params)&&namesBound pw (jq w.params)&&gensDone ⟨jq w.params,#[],{},2482,os⟩&&laidKept (boot_heap w.params) (jq w.params)),
    openSeen qv lo (importedModules pw.main.body) (λ_=>true) true ⟨jq w.params,#[],{},2482,os⟩,(λs:Shared=>s.heap) ⟨jq w.params,#[],{},2482,os⟩))=λ_=>(true,openGood qv lo,jq w.params):=
 funext λos=>ai4 (vQ w os) (Gi w os)
def JY:LeftO pw qv lo (λ_=>true) (λs=>s.heap) (λw=>jq w.params) 40000 true:=
 LeftO.of_pieces (H₀:=boot_heap) (H₁:=jq) (Lv 40000 rfl) Me (λw os=>whole_run w os) (by decide) JZ
abbrev yU:OpenRow:=PySem.Challenge.rw_te0007_01.row
def uu:(defOf qv yU.name).isSome=true:=KK
noncomputable def pa:DefRec×List (Str×Expr):=(defOf qv yU.name).get uu
def JW:defOf qv yU.name=some (pa.1,pa.2):=(Option.some_get uu).symm
def JX:yU.prog.theDef yU.name=some (pa.1.params,pa.1.body,pa.1.scope):=KK
def Pq:kwWritten? pa.1.params.kwonlyargs pa.1.params.kw_defaults=some pa.2:=KK
def Gd:pa.1.name=Str.ofString "law":=KK
def Yd:(chainsOk qv&&opensWell yU.prog&&(frees yU.toRowW&&yU.within.isEmpty))=true:=KK
def Ql:yU.toRowW.promised:=⟨[.list []],by decide+kernel,by decide+kernel⟩
def X9:pw.tablesWhole=true:=KK
def LN:yU.prog.bare:=⟨rfl,rfl,rfl,rfl,rfl,X9⟩
def aiw (adh:yU.wellSaid=true)
    (call:WalkO qv lo (λ_ _=>True) (λw h=>∀b o,(jq w.params).get? b=some o->h.get? b=some o) yU.toRowW pa.1 pa.2 λf vs=>PySem.call f vs):yU.Holds:=
 holds_open (q:=qv) (loose:=lo) (Xt:=λ_=>true) (XP:=λ_ _=>True) (Yf:=λs=>s.heap) (Ya:=λw=>jq w.params) (N:=40000)
  JY (λw s e b o h=>by rw[e];exact h) (λw h h' y k b o q=>k b o (y b o q)) (λ_ _=>trivial) (λ_ _ _ _ _=>trivial)
  JW JX Pq (λ_ _=>recFacts_nil rfl) rfl adh Yd LN Ql call
noncomputable section
section
variable {α:Sort u} {P:Prop}
def a2 {A B:Prop} (h:A/\B) (k:A->B->P):P:=k h.1 h.2
def a3 {A B C:Prop} (h:A/\B/\C) (k:A->B->C->P):P:=k h.1 h.2.1 h.2.2
def a4 {A B C D:Prop} (h:A/\B/\C/\D) (k:A->B->C->D->P):P:=k h.1 h.2.1 h.2.2.1 h.2.2.2
def a5 {A B C D E:Prop} (h:A/\B/\C/\D/\E) (k:A->B->C->D->E->P):P:=k h.1 h.2.1 h.2.2.1 h.2.2.2.1 h.2.2.2.2
def a6 {A B C D E F:Prop} (h:A/\B/\C/\D/\E/\F) (k:A->B->C->D->E->F->P):P:=a5 h λa b c d e=>k a b c d e.1 e.2
def fk {A:α->Prop} (h:∃x,A x) (k:∀x,A x->P):P:=h.elim k
def bx {A B:α->Prop} (h:∃x,A x/\B x) (k:∀x,A x->B x->P):P:=h.elim λx h=>k x h.1 h.2
def ua {A B C:α->Prop} (h:∃x,A x/\B x/\C x) (k:∀x,A x->B x->C x->P):P:=h.elim λx h=>a3 h (k x)
def Oc {A B C D:α->Prop} (h:∃x,A x/\B x/\C x/\D x) (k:∀x,A x->B x->C x->D x->P):P:=h.elim λx h=>a4 h (k x)
def e15 {A B C D E:α->Prop} (h:∃x,A x/\B x/\C x/\D x/\E x) (k:∀x,A x->B x->C x->D x->E x->P):P:=h.elim λx h=>a5 h (k x)
variable {β:α->Sort v}
def cV {A:∀x,β x->Prop} (h:∃x y,A x y) (k:∀x y,A x y->P):P:=h.elim λx h=>fk h (k x)
def mw {A B:∀x,β x->Prop} (h:∃x y,A x y/\B x y) (k:∀x y,A x y->B x y->P):P:=h.elim λx h=>bx h (k x)
def xf {A B C:∀x,β x->Prop} (h:∃x y,A x y/\B x y/\C x y) (k:∀x y,A x y->B x y->C x y->P):P:=h.elim λx h=>ua h (k x)
def Zl {A B C D:∀x,β x->Prop} (h:∃x y,A x y/\B x y/\C x y/\D x y) (k:∀x y,A x y->B x y->C x y->D x y->P):P:=h.elim λx h=>Oc h (k x)
def e25 {A B C D E:∀x,β x->Prop} (h:∃x y,A x y/\B x y/\C x y/\D x y/\E x y) (k:∀x y,A x y->B x y->C x y->D x y->E x y->P):P:=h.elim λx h=>e15 h (k x)
variable {γ:∀x,β x->Sort w}
def gq {A:∀x y,γ x y->Prop} (h:∃x y z,A x y z) (k:∀x y z,A x y z->P):P:=h.elim λx h=>cV h (k x)
def e32 {A B:∀x y,γ x y->Prop} (h:∃x y z,A x y z/\B x y z) (k:∀x y z,A x y z->B x y z->P):P:=h.elim λx h=>mw h (k x)
def e33 {A B C:∀x y,γ x y->Prop} (h:∃x y z,A x y z/\B x y z/\C x y z) (k:∀x y z,A x y z->B x y z->C x y z->P):P:=h.elim λx h=>xf h (k x)
def DO {A B C D:∀x y,γ x y->Prop} (h:∃x y z,A x y z/\B x y z/\C x y z/\D x y z) (k:∀x y z,A x y z->B x y z->C x y z->D x y z->P):P:=h.elim λx h=>Zl h (k x)
def sn {α:Type u} {a:α} (h:some a=none):P:=nomatch h
def ns {α:Type u} {a:α} (h:none=some a):P:=nomatch h
def ft (h:false=true):P:=nomatch h
def tf (h:true=false):P:=nomatch h
def nc {α:Type u} {a:α} {l:List α} (h:[]=a::l):P:=nomatch h
def cn {α:Type u} {a:α} {l:List α} (h:a::l=[]):P:=nomatch h
end
def On {α:Type} (P:α->Prop) (o:Option α):Prop:=Option.rec (motive:=λ_=>Prop) True P o
def aZ {α β:Type} (o:Option α) (g:Option β) (f:α->Option β):Option β:=Option.rec (motive:=λ_=>Option β) g f o
section
variable {α β:Type} {P R:α->Prop} {Q:β->Prop} {o:Option α} {f:α->Option β} {c:Bool} {u v:Option β}
def On.b (h:On P o) (k:∀a,P a->On Q (f a)):On Q (o.bind f):=by cases o;exact trivial;exact k _ h
def On.or (h:On P o) (k:∀a,P a->On Q (f a)) (g:o=none->On Q u):On Q (aZ o u f):=by cases o;exact g rfl;exact k _ h
def On.mk (h:∀a,o=some a->P a):On P o:=by cases o;exact trivial;exact h _ rfl
def On.get {a:α} (h:On P o) (e:o=some a):P a:=by cases e;exact h
def On.up (h:On P o) (k:∀a,P a->R a):On R o:=by cases o;exact trivial;exact k _ h
def aY (o:Option α):On (λa=>o=some a) o:=.mk λ_ e=>e
def ak (k:c=true->On Q u):On Q (bif c then u else none):=by cases c;exact trivial;exact k rfl
def CE (k:c=false->On Q u):On Q (bif c then none else u):=by cases c;exact k rfl;exact trivial
def d7 (k:c=true->On Q u) (g:c=false->On Q v):On Q (bif c then u else v):=by cases c;exact g rfl;exact k rfl
end
def iQ {T α:Type} (ix:T->Nat) (n:Nat) (el:(t:T)->ix t=n->α) (t:T):Option α:=Bool.rec (motive:=λb=>Nat.beq (ix t) n=b->Option α) (λ_=>none) (λh=>some (el t (iT h))) (Nat.beq (ix t) n) rfl
def Ez {T α:Type} {ix:T->Nat} {n:Nat} {el:(t:T)->ix t=n->α} {t:T} {P:α->Prop} (k:∀h,P (el t h)) (b:Bool):∀h:Nat.beq (ix t) n=b,On P (Bool.rec (motive:=λb=>Nat.beq (ix t) n=b->Option α) (λ_=>none) (λh=>some (el t (iT h))) b h):=by cases b;exactλ_=>trivial;exactλh=>k _
def eK {T α:Type} {ix:T->Nat} {n:Nat} {el:(t:T)->ix t=n->α} {P:T->α->Prop} (k:∀t h,P t (el t h)) (t:T):On (P t) (iQ ix n el t):=Ez (k t) _ rfl
def cH {T α:Type} {ix:T->Nat} {n:Nat} {el:(t:T)->ix t=n->α} (c:α->T) (k:∀t h,c (el t h)=t) (t:T):On (λa=>c a=t) (iQ ix n el t):=Ez (k t) _ rfl
def aw {a b:Bool} (h:(a&&b)=true):a=true/\b=true:=SR.mp h
inductive DV where
 |any|rf|none|bool (b:Bool) |int (i:Int) |str (l:List Nat)
 |sint (t:Nat) (k:Int) |gP (k:Nat)
 |tup (l:List DV) |lst (l:List DV) |iK (l:List (DV×DV))
 |inst (c:Nat) (fs:List (Str×DV))
 |self|cls (c:Nat) |fn (a:Nat) |bj (a:Nat)
inductive ae where
 |pv (v:DV) |ml (l:List DV) |md (l:List (DV×DV))
structure aj where
 aq:Option (List (Str×ae))
 loc:List (Str×ae)
def mI:DV->Option (Bool):=iQ DV.ctorIdx 3 λv h=>@DV.bool.elim (λ_=>Bool) v h id
def k8:∀v:DV,On (λp=>.bool p=v) (mI v):=cH .bool λv h=>@DV.bool.elim (λv=>∀h,DV.bool (@DV.bool.elim (λ_=>Bool) v h id)=v) v h (λ_ _=>rfl) h
def intD:DV->Option (Int):=iQ DV.ctorIdx 4 λv h=>@DV.int.elim (λ_=>Int) v h id
def bQ:∀v:DV,On (λp=>.int p=v) (intD v):=cH .int λv h=>@DV.int.elim (λv=>∀h,DV.int (@DV.int.elim (λ_=>Int) v h id)=v) v h (λ_ _=>rfl) h
def iG:DV->Option (List Nat):=iQ DV.ctorIdx 5 λv h=>@DV.str.elim (λ_=>List Nat) v h id
def cT:∀v:DV,On (λp=>.str p=v) (iG v):=cH .str λv h=>@DV.str.elim (λv=>∀h,DV.str (@DV.str.elim (λ_=>List Nat) v h id)=v) v h (λ_ _=>rfl) h
def iF:DV->Option (Nat×Int):=iQ DV.ctorIdx 6 λv h=>@DV.sint.elim (λ_=>Nat×Int) v h Prod.mk
def dx:∀v:DV,On (λp=>.sint p.1 p.2=v) (iF v):=cH (λp:Nat×Int=>DV.sint p.1 p.2) λv h=>@DV.sint.elim (λv=>∀h,(λp:Nat×Int=>DV.sint p.1 p.2) (@DV.sint.elim (λ_=>Nat×Int) v h Prod.mk)=v) v h (λ_ _ _=>rfl) h
def sO:DV->Option (Nat):=iQ DV.ctorIdx 7 λv h=>@DV.gP.elim (λ_=>Nat) v h id
def jL:∀v:DV,On (λp=>.gP p=v) (sO v):=cH .gP λv h=>@DV.gP.elim (λv=>∀h,DV.gP (@DV.gP.elim (λ_=>Nat) v h id)=v) v h (λ_ _=>rfl) h
def zv:DV->Option (List DV):=iQ DV.ctorIdx 8 λv h=>@DV.tup.elim (λ_=>List DV) v h id
def qP:∀v:DV,On (λp=>.tup p=v) (zv v):=cH .tup λv h=>@DV.tup.elim (λv=>∀h,DV.tup (@DV.tup.elim (λ_=>List DV) v h id)=v) v h (λ_ _=>rfl) h
def yp:DV->Option (List DV):=iQ DV.ctorIdx 9 λv h=>@DV.lst.elim (λ_=>List DV) v h id
def kc:∀v:DV,On (λp=>.lst p=v) (yp v):=cH .lst λv h=>@DV.lst.elim (λv=>∀h,DV.lst (@DV.lst.elim (λ_=>List DV) v h id)=v) v h (λ_ _=>rfl) h
def ID:DV->Option (List (DV×DV)):=iQ DV.ctorIdx 10 λv h=>@DV.iK.elim (λ_=>List (DV×DV)) v h id
def qE:∀v:DV,On (λp=>.iK p=v) (ID v):=cH .iK λv h=>@DV.iK.elim (λv=>∀h,DV.iK (@DV.iK.elim (λ_=>List (DV×DV)) v h id)=v) v h (λ_ _=>rfl) h
def uq:DV->Option (Nat×List (Str×DV)):=iQ DV.ctorIdx 11 λv h=>@DV.inst.elim (λ_=>Nat×List (Str×DV)) v h Prod.mk
def nT:∀v:DV,On (λp=>.inst p.1 p.2=v) (uq v):=cH (λp:Nat×List (Str×DV)=>DV.inst p.1 p.2) λv h=>@DV.inst.elim (λv=>∀h,(λp:Nat×List (Str×DV)=>DV.inst p.1 p.2) (@DV.inst.elim (λ_=>Nat×List (Str×DV)) v h Prod.mk)=v) v h (λ_ _ _=>rfl) h
def N1:DV->Option (Nat):=iQ DV.ctorIdx 13 λv h=>@DV.cls.elim (λ_=>Nat) v h id
def qB:∀v:DV,On (λp=>.cls p=v) (N1 v):=cH .cls λv h=>@DV.cls.elim (λv=>∀h,DV.cls (@DV.cls.elim (λ_=>Nat) v h id)=v) v h (λ_ _=>rfl) h
def fnD:DV->Option (Nat):=iQ DV.ctorIdx 14 λv h=>@DV.fn.elim (λ_=>Nat) v h id
def I3:∀v:DV,On (λp=>.fn p=v) (fnD v):=cH .fn λv h=>@DV.fn.elim (λv=>∀h,DV.fn (@DV.fn.elim (λ_=>Nat) v h id)=v) v h (λ_ _=>rfl) h
def J6:DV->Option (Nat):=iQ DV.ctorIdx 15 λv h=>@DV.bj.elim (λ_=>Nat) v h id
def yr:∀v:DV,On (λp=>.bj p=v) (J6 v):=cH .bj λv h=>@DV.bj.elim (λv=>∀h,DV.bj (@DV.bj.elim (λ_=>Nat) v h id)=v) v h (λ_ _=>rfl) h
def uF:ae->Option (DV):=iQ ae.ctorIdx 0 λv h=>@ae.pv.elim (λ_=>DV) v h id
def iC:∀v:ae,On (λp=>.pv p=v) (uF v):=cH .pv λv h=>@ae.pv.elim (λv=>∀h,ae.pv (@ae.pv.elim (λ_=>DV) v h id)=v) v h (λ_ _=>rfl) h
def vV:ae->Option (List DV):=iQ ae.ctorIdx 1 λv h=>@ae.ml.elim (λ_=>List DV) v h id
def AA:∀v:ae,On (λp=>.ml p=v) (vV v):=cH .ml λv h=>@ae.ml.elim (λv=>∀h,ae.ml (@ae.ml.elim (λ_=>List DV) v h id)=v) v h (λ_ _=>rfl) h
def RY:ae->Option (List (DV×DV)):=iQ ae.ctorIdx 2 λv h=>@ae.md.elim (λ_=>List (DV×DV)) v h id
def J4:∀v:ae,On (λp=>.md p=v) (RY v):=cH .md λv h=>@ae.md.elim (λv=>∀h,ae.md (@ae.md.elim (λ_=>List (DV×DV)) v h id)=v) v h (λ_ _=>rfl) h
def qp (v:DV):Bool:=Nat.beq v.ctorIdx 2
def lW {v:DV} (h:qp v=true):.none=v:=@DV.none.elim (λv=>.none=v) v (iT h) rfl
def o6 (v:DV):Bool:=Nat.beq v.ctorIdx 12
def hW {v:DV} (h:o6 v=true):.self=v:=@DV.self.elim (λv=>.self=v) v (iT h) rfl
abbrev aft:=Addr->Option Obj
structure Val where
 β:Nat->Int
 ς:Nat->List Nat
structure Base where
 hp:Heap
 V:Val
 sys:(hp.get? sysModules).isSome=true
structure Gh where
 V:Val
 g:aft
 par:Option (Addr×Addr)
 OA:Addr->Prop
 OL:Addr->Prop
def lim:Nat:=2 ^ 22
abbrev bG (vs:List Value) (n:Nat):Obj:={cls:=.type "list",data:=.seq ⟨vs⟩ n}
abbrev pN (vs:List Value) (n:Nat):Obj:={cls:=.type "tuple",data:=.seq ⟨vs⟩ n}
def look {α:Type} (l:List (Str×α)) (x:Str):Option α:=List.rec (motive:=λ_=>Option α) none (λp _ ih=>if p.1=x then some p.2 else ih) l
def put {α:Type} (l:List (Str×α)) (x:Str) (v:α):List (Str×α):=List.rec (motive:=λ_=>List (Str×α)) [(x,v)] (λp r ih=>if p.1=x then(x,v)::r else p::ih) l
def dj {α:Type} (p:Str×α) (r:List (Str×α)) (x:Str):look (p::r) x=if p.1=x then some p.2 else look r x:=rfl
def abL {α:Type} {P:List (Str×α)->Prop} (l:List (Str×α)) (h0:P []) (h1:∀n v r,P r->P ((n,v)::r)):P l:=by
 induction l with
 |nil=>exact h0
 |cons p r ih=>exact h1 _ _ _ ih
def abk {α:Type} {c:Prop} [Decidable c] {a b d:α} (h1:c->a=d) (h2:¬c->b=d):(if c then a else b)=d:=by by_cases q:c;rw[d8 q,h1 q];rw[dZ q,h2 q]
def r7 {α:Type} (l:List (Str×α)) (x:Str) (v:α) (y:Str):look (put l x v) y=if y=x then some v else look l y:=by
 induction l with
 |nil=>exact abk (λh:x=y=>by rw[d8 h.symm]) λh=>by rw[dZ λq=>h q.symm];rfl
 |cons p r ih=>
  show look (if p.1=x then(x,v)::r else p::put r x v) y=if y=x then some v else if p.1=y then some p.2 else look r y
  by_cases h:p.1=x
  ·rw[d8 h,h,dj]
   by_cases q:y=x
   ·rw[d8 q,d8 q.symm]
   ·rw[dZ q,dZ λz=>q z.symm,dZ λz=>q z.symm]
  ·rw[dZ h,dj,ih]
   by_cases q:p.1=y
   ·rw[d8 q,d8 q,dZ λz=>h (q.trans z)]
   ·rw[dZ q,dZ q]
def f9 {α β:Type} (f:α->β) (l:List (Str×α)) (x:Str):look (l.map λp=>(p.1,f p.2)) x=(look l x).map f:=by
 induction l with
 |nil=>rfl
 |cons p r ih=>
  rw[xb,dj,dj,ih]
  by_cases q:p.1=x
  ·rw[d8 q,d8 q];rfl
  ·rw[dZ q,dZ q]
inductive Zip {α β:Type} (R:α->β->Prop):List α->List β->Prop
 |nil:Zip R [] []
 |cons {a:α} {b:β} {l:List α} {m:List β}:R a b->Zip R l m->Zip R (a::l) (b::m)
section
variable {α β γ:Type} {R:α->β->Prop} {l:List α} {m:List β}
def Zip.len (h:Zip R l m):l.length=m.length:=by induction h with|nil=>rfl|cons _ _ ih=>exact aQ (· +1) ih
def Zip.mono {R':α->β->Prop} (k:∀a b,R a b->R' a b) (h:Zip R l m):Zip R' l m:=by induction h with|nil=>exact .nil|cons a _ ih=>exact .cons (k _ _ a) ih
@[elab_as_elim] def Zip.jr {Q:List β->Prop} (h:Zip R [] m) (k:Q []):Q m:=by cases h;exact k
@[elab_as_elim] def Zip.fz {a:α} {Q:List β->Prop} (h:Zip R (a::l) m) (k:∀b m',R a b->Zip R l m'->Q (b::m')):Q m:=by cases h with|cons x y=>exact k _ _ x y
def Zip.app {l':List α} {m':List β} (h:Zip R l m) (h':Zip R l' m'):Zip R (l++l') (m++m'):=by induction h with|nil=>exact h'|cons a _ ih=>exact .cons a ih
def Zip.take (h:Zip R l m):∀n,Zip R (l.take n) (m.take n):=by
 induction h with
 |nil=>intro n;rw[List.take_nil,List.take_nil];exact .nil
 |cons a _ ih=>intro n;cases n with|zero=>exact .nil|succ n=>exact .cons a (ih n)
def Zip.drop (h:Zip R l m):∀n,Zip R (l.drop n) (m.drop n):=by
 induction h with
 |nil=>intro n;rw[List.drop_nil,List.drop_nil];exact .nil
 |cons a t ih=>intro n;cases n with|zero=>exact .cons a t|succ n=>exact ih n
def Zip.erase (h:Zip R l m):∀n,Zip R (l.eraseIdx n) (m.eraseIdx n):=by
 induction h with
 |nil=>exactλ_=>.nil
 |cons a t ih=>intro n;cases n with|zero=>exact t|succ n=>exact .cons a (ih n)
def Zip.at (h:Zip R l m):∀(i:Nat) (a:α),l[i]?=some a->∃b,m[i]?=some b/\R a b:=by
 induction h with
 |nil=>exactλ_ _ e=>nomatch e
 |cons x _ ih=>intro i a e;cases i with|zero=>cases e;exact⟨_,rfl,x⟩ |succ i=>exact ih i a e
end
def DV.ind {M:DV->Prop} (any:M .any) (rf:M .rf) (none:M .none) (bool:∀b,M (.bool b)) (int:∀i,M (.int i)) (str:∀l,M (.str l)) (sint:∀t k,M (.sint t k)) (gP:∀k,M (.gP k)) (tup:∀l,(∀d∈l,M d)->M (.tup l)) (lst:∀l,(∀d∈l,M d)->M (.lst l))
    (iK:∀l,(∀p∈l,M p.2)->M (.iK l)) (inst:∀c fs,(∀x d,look fs x=some d->M d)->M (.inst c fs)) (self:M .self) (cls:∀c,M (.cls c)) (fn:∀a,M (.fn a)) (bj:∀a,M (.bj a)) (d:DV):M d:=
 DV.rec (motive_1:=M) (motive_2:=λl=>∀d∈l,M d) (motive_3:=λl=>∀p∈l,M p.2) (motive_4:=λl=>∀x d,look l x=some d->M d) (motive_5:=λp=>M p.2) (motive_6:=λp=>M p.2)
  any rf none bool int str sint gP tup lst iK inst self cls fn bj (λ_ h=>nomatch h) (λ_ _ a b=>e9.mpr ⟨a,b⟩) (λ_ h=>nomatch h) (λ_ _ a b=>e9.mpr ⟨a,b⟩) (λ_ _ h=>nomatch h)
  (λp r a b x d e=>by
    rw[dj] at e
    by_cases q:p.1=x
    ·rw[d8 q] at e;exact eN e▸a
    ·rw[dZ q] at e;exact b x d e) (λ_ _ _ h=>h) (λ_ _ h=>h) d
def S2 (P:Params) (k:DV) (e:DictEntry):Prop:=@DV.casesOn (λ_=>Prop) k False False False (λ_=>False) (λi=>∃t,e.key=.int i t/\e.hash=PySem.hashInt i) (λx=>x.length<=lim/\∃t,e.key=.str ⟨⟨x⟩⟩ t/\e.hash=PyData.keyHash P ⟨⟨x⟩⟩)
 (λ_ _=>False) (λ_=>False) (λ_=>False) (λ_=>False) (λ_=>False) (λ_ _=>False) False (λ_=>False) (λ_=>False) λ_=>False
def DR (P:Params) (G:Gh) (d:DV):Value->Prop:=DV.rec (motive_1:=λ_=>Value->Prop) (motive_2:=λ_=>List Value->Prop) (motive_3:=λ_=>List DictEntry->Prop) (motive_4:=λ_=>Str->Option (Value->Prop)) (motive_5:=λ_=>DictEntry->Prop) (motive_6:=λ_=>Str×(Value->Prop))
 (λv=>handedIn v=true) (λv=>∃a,v=.ref a) (λv=>v=.none) (λb v=>v=.bool b) (λi v=>∃t,v=.int i t) (λl v=>∃t,v=.str ⟨⟨l⟩⟩ t/\l.length<=lim) (λt k v=>∃tk,v=.int (G.V.β t+k) tk) (λk v=>∃t,v=.str ⟨⟨G.V.ς k⟩⟩ t/\(G.V.ς k).length<=lim)
 (λ_ R v=>∃a vs n,v=.ref a/\G.g a=some (pN vs n)/\vs.length<=lim/\R vs) (λ_ R v=>∃a vs n,v=.ref a/\G.g a=some (bG vs n)/\vs.length<=lim/\R vs)
 (λ_ R v=>∃a es n,v=.ref a/\(a==sysModules)=false/\G.g a=some (dictOf es n)/\R es)
 (λc _ L v=>∃a d es n,v=.ref a/\G.g a=some ⟨.ref c,some d,.plain,#[]⟩/\G.g d=some (dictOf es n)/\∀x,Option.rec (motive:=λ_=>Prop) (getL x es=some none) (λR=>∃u,getL x es=some (some u)/\R u) (L x))
 (λv=>∃p d,v=.ref p/\G.par=some (p,d)) (λc v=>v=.ref c) (λa v=>v=.ref a) (λa v=>∃m p d,v=.ref m/\G.par=some (p,d)/\G.g m=some (methodObj (.ref a) (.ref p)))
 (λvs=>vs=[]) (λ_ _ R T vs=>∃u us,vs=u::us/\R u/\T us) (λes=>es=[]) (λ_ _ R T es=>∃u us,es=u::us/\R u/\T us) (λ_=>none) (λ_ _ p L x=>if p.1=x then some p.2 else L x) (λk _ _ R e=>S2 P k e/\R e.val) (λx _ R=>(x,R)) d
def eC (P:Params) (G:Gh):List DV->List Value->Prop:=Zip (DR P G)
def qU (P:Params) (G:Gh):List (DV×DV)->List DictEntry->Prop:=Zip λp e=>S2 P p.1 e/\DR P G p.2 e.val
def lL {α β:Type} {R:α->β->Prop} {a:α} {l:List α} {T:List β->Prop} (h:∀m,Zip R l m↔T m) (m:List β):Zip R (a::l) m↔∃u us,m=u::us/\R a u/\T us:=
 ⟨λq=>q.fz (Q:=λm=>∃u us,m=u::us/\R a u/\T us) λb m' x y=>⟨b,m',rfl,x,(h m').mp y⟩,λ⟨_,_,e,x,y⟩=>e▸.cons x ((h _).mpr y)⟩
def oH {α β:Type} {R:α->β->Prop} (m:List β):Zip R ([]:List α) m↔m=[]:=⟨λq=>q.jr (Q:=λm=>m=[]) rfl,λe=>e▸.nil⟩
section
variable {P:Params} {G G':Gh}
def II (l:List DV) (v:Value):DR P G (.tup l) v↔∃a vs n,v=.ref a/\G.g a=some (pN vs n)/\vs.length<=lim/\eC P G l vs:=by
 have k:∃T:List Value->Prop,(∀vs,eC P G l vs↔T vs)/\DR P G (.tup l)=λv=>∃a vs n,v=.ref a/\G.g a=some (pN vs n)/\vs.length<=lim/\T vs:=by
  refine⟨_,?_,rfl⟩
  induction l with
  |nil=>exact oH
  |cons d l ih=>exact lL ih
 obtain⟨T,h,e⟩:=k
 rw[e,show T=eC P G l from funext λvs=>propext (h vs).symm]
def Ae (l:List DV) (v:Value):DR P G (.lst l) v↔∃a vs n,v=.ref a/\G.g a=some (bG vs n)/\vs.length<=lim/\eC P G l vs:=by
 have k:∃T:List Value->Prop,(∀vs,eC P G l vs↔T vs)/\DR P G (.lst l)=λv=>∃a vs n,v=.ref a/\G.g a=some (bG vs n)/\vs.length<=lim/\T vs:=by
  refine⟨_,?_,rfl⟩
  induction l with
  |nil=>exact oH
  |cons d l ih=>exact lL ih
 obtain⟨T,h,e⟩:=k
 rw[e,show T=eC P G l from funext λvs=>propext (h vs).symm]
def Ad (l:List (DV×DV)) (v:Value):DR P G (.iK l) v↔∃a es n,v=.ref a/\(a==sysModules)=false/\G.g a=some (dictOf es n)/\qU P G l es:=by
 have k:∃T:List DictEntry->Prop,(∀vs,qU P G l vs↔T vs)/\DR P G (.iK l)=λv=>∃a es n,v=.ref a/\(a==sysModules)=false/\G.g a=some (dictOf es n)/\T es:=by
  refine⟨_,?_,rfl⟩
  induction l with
  |nil=>exact oH
  |cons d l ih=>exact lL ih
 obtain⟨T,h,e⟩:=k
 rw[e,show T=qU P G l from funext λvs=>propext (h vs).symm]
def DM (c:Nat) (fs:List (Str×DV)) (v:Value):DR P G (.inst c fs) v↔∃a d es n,v=.ref a/\G.g a=some ⟨.ref c,some d,.plain,#[]⟩/\G.g d=some (dictOf es n)/\
    ∀x,Option.rec (motive:=λ_=>Prop) (getL x es=some none) (λR=>∃u,getL x es=some (some u)/\R u) ((look fs x).map (DR P G)):=by
 have k:∃L:Str->Option (Value->Prop),(∀x,(look fs x).map (DR P G)=L x)/\DR P G (.inst c fs)=λv=>∃a d es n,v=.ref a/\G.g a=some ⟨.ref c,some d,.plain,#[]⟩/\G.g d=some (dictOf es n)/\∀x,Option.rec (motive:=λ_=>Prop) (getL x es=some none) (λR=>∃u,getL x es=some (some u)/\R u) (L x):=by
  refine⟨_,?_,rfl⟩
  induction fs with
  |nil=>exactλ_=>rfl
  |cons p r ih=>
   intro x
   rw[dj]
   by_cases q:p.1=x
   ·rw[d8 q];exact(d8 q).symm
   ·rw[dZ q];exact(ih x).trans (dZ q).symm
 obtain⟨L,h,e⟩:=k
 rw[e,show L=λx=>(look fs x).map (DR P G) from funext λx=>(h x).symm]
def DR.int (i:Int) (t:Tok):DR P G (.int i) (.int i t):=⟨t,rfl⟩
def DR.none:DR P G .none .none:=rfl
def DR.bool (b:Bool):DR P G (.bool b) (.bool b):=rfl
def DR.any (v:Value) (h:handedIn v=true):DR P G .any v:=h
def DR.rf (a:Addr):DR P G .rf (.ref a):=⟨a,rfl⟩
def DR.cls (c:Nat):DR P G (.cls c) (.ref c):=rfl
def DR.fn (c:Nat):DR P G (.fn c) (.ref c):=rfl
def DR.str (l:List Nat) (t:Tok) (h:l.length<=lim):DR P G (.str l) (.str ⟨⟨l⟩⟩ t):=⟨t,rfl,h⟩
def DR.self {p d:Addr} (h:G.par=some (p,d)):DR P G .self (.ref p):=⟨p,d,rfl,h⟩
def DR.tup {l:List DV} {a:Addr} {vs:List Value} {n:Nat} (h:G.g a=some (pN vs n)) (z:vs.length<=lim) (r:eC P G l vs):DR P G (.tup l) (.ref a):=(II l _).mpr ⟨a,vs,n,rfl,h,z,r⟩
def DR.lst {l:List DV} {a:Addr} {vs:List Value} {n:Nat} (h:G.g a=some (bG vs n)) (z:vs.length<=lim) (r:eC P G l vs):DR P G (.lst l) (.ref a):=(Ae l _).mpr ⟨a,vs,n,rfl,h,z,r⟩
def DR.iK {l:List (DV×DV)} {a:Addr} {es:List DictEntry} {n:Nat} (q:(a==sysModules)=false) (h:G.g a=some (dictOf es n)) (r:qU P G l es):DR P G (.iK l) (.ref a):=(Ad l _).mpr ⟨a,es,n,rfl,q,h,r⟩
def DR.inst {c:Nat} {fs:List (Str×DV)} {a d:Addr} {es:List DictEntry} {n:Nat} (h:G.g a=some ⟨.ref c,some d,.plain,#[]⟩) (h':G.g d=some (dictOf es n)) (k2:∀x,look fs x=Option.none->getL x es=some Option.none)
    (k1:∀x dv,look fs x=some dv->∃v,getL x es=some (some v)/\DR P G dv v):DR P G (.inst c fs) (.ref a):=(DM c fs _).mpr ⟨a,d,es,n,rfl,h,h',λx=>by
 cases e:look fs x with
 |none=>exact k2 x e
 |some dv=>exact k1 x dv e⟩
def DR.bj {a m p d:Addr} (h:G.par=some (p,d)) (h':G.g m=some (methodObj (.ref a) (.ref p))):DR P G (.bj a) (.ref m):=⟨m,p,d,rfl,h,h'⟩
section
variable {Q:Value->Prop} {u:Value}
@[elab_as_elim] def DR.uz (h:DR P G .none u) (k:Q .none):Q u:=fb (show u=.none from h)▸k
@[elab_as_elim] def DR.k9 {b:Bool} (h:DR P G (.bool b) u) (k:Q (.bool b)):Q u:=fb (show u=.bool b from h)▸k
@[elab_as_elim] def DR.fS {i:Int} (h:DR P G (.int i) u) (k:∀t,Q (.int i t)):Q u:=Exists.elim h λt e=>fb e▸k t
@[elab_as_elim] def DR.uO {i:Nat} {j:Int} (h:DR P G (.sint i j) u) (k:∀t,Q (.int (G.V.β i+j) t)):Q u:=Exists.elim h λt e=>fb e▸k t
@[elab_as_elim] def DR.gi {l:List Nat} (h:DR P G (.str l) u) (k:∀t,l.length<=lim->Q (.str ⟨⟨l⟩⟩ t)):Q u:=Exists.elim h λt e=>fb e.1▸k t e.2
@[elab_as_elim] def DR.sP {i:Nat} (h:DR P G (.gP i) u) (k:∀t,(G.V.ς i).length<=lim->Q (.str ⟨⟨G.V.ς i⟩⟩ t)):Q u:=Exists.elim h λt e=>fb e.1▸k t e.2
@[elab_as_elim] def DR.rfE (h:DR P G .rf u) (k:∀a,Q (.ref a)):Q u:=Exists.elim h λt e=>fb e▸k t
@[elab_as_elim] def DR.N2 {c:Nat} (h:DR P G (.cls c) u) (k:Q (.ref c)):Q u:=fb (show u=.ref c from h)▸k
@[elab_as_elim] def DR.fnE {c:Nat} (h:DR P G (.fn c) u) (k:Q (.ref c)):Q u:=fb (show u=.ref c from h)▸k
@[elab_as_elim] def DR.yW (h:DR P G .self u) (k:∀p d,G.par=some (p,d)->Q (.ref p)):Q u:=mw h λp d e h=>fb e▸k p d h
@[elab_as_elim] def DR.Ef {a:Nat} (h:DR P G (.bj a) u) (k:∀m p d,G.par=some (p,d)->G.g m=some (methodObj (.ref a) (.ref p))->Q (.ref m)):Q u:=e33 h λm p d e h h'=>fb e▸k m p d h h'
@[elab_as_elim] def DR.mF {l:List DV} (h:DR P G (.tup l) u) (k:∀a vs n,G.g a=some (pN vs n)->vs.length<=lim->eC P G l vs->Q (.ref a)):Q u:=DO ((II l u).mp h) λa vs n e h z r=>fb e▸k a vs n h z r
@[elab_as_elim] def DR.lu {l:List DV} (h:DR P G (.lst l) u) (k:∀a vs n,G.g a=some (bG vs n)->vs.length<=lim->eC P G l vs->Q (.ref a)):Q u:=DO ((Ae l u).mp h) λa vs n e h z r=>fb e▸k a vs n h z r
@[elab_as_elim] def DR.vo {l:List (DV×DV)} (h:DR P G (.iK l) u) (k:∀a es n,(a==sysModules)=false->G.g a=some (dictOf es n)->qU P G l es->Q (.ref a)):Q u:=DO ((Ad l u).mp h) λa vs n e h z r=>fb e▸k a vs n h z r
@[elab_as_elim] def DR.nU {c:Nat} {fs:List (Str×DV)} (h:DR P G (.inst c fs) u) (k:∀a d es n,G.g a=some ⟨.ref c,some d,.plain,#[]⟩->G.g d=some (dictOf es n)->(∀x,look fs x=Option.none->getL x es=some Option.none)->
 (∀x dv,look fs x=some dv->∃v,getL x es=some (some v)/\DR P G dv v)->Q (.ref a)):Q u:=
  gq ((DM c fs u).mp h) λa d es q=>Oc q λn e h h' r=>fb e▸k a d es n h h' (λx q=>by have:=r x;rw[q] at this;exact this) λx dv q=>by have:=r x;rw[q] at this;exact this
end
def DR.handed {d:DV} {u:Value} (h:DR P G d u):handedIn u=true:=by
 cases d with
 |any=>exact h
 |rf=>exact Exists.elim h λa e=>e▸rfl
 |none=>exact h.uz rfl
 |bool=>exact h.k9 rfl
 |int=>exact h.fS λ_=>rfl
 |str=>exact h.gi λ_ _=>rfl
 |sint=>exact h.uO λ_=>rfl
 |gP=>exact h.sP λ_ _=>rfl
 |tup=>exact h.mF λ_ _ _ _ _ _=>rfl
 |lst=>exact h.lu λ_ _ _ _ _ _=>rfl
 |iK=>exact h.vo λ_ _ _ _ _ _=>rfl
 |inst=>exact h.nU λ_ _ _ _ _ _ _ _=>rfl
 |self=>exact h.yW λ_ _ _=>rfl
 |cls=>exact h.N2 rfl
 |fn=>exact h.fnE rfl
 |bj=>exact h.Ef λ_ _ _ _ _=>rfl
def DV.free (d:DV):Bool:=DV.rec (motive_1:=λ_=>Bool) (motive_2:=λ_=>Bool) (motive_3:=λ_=>Bool) (motive_4:=λ_=>Bool) (motive_5:=λ_=>Bool) (motive_6:=λ_=>Bool)
 true true true (λ_=>true) (λ_=>true) (λ_=>true) (λ_ _=>true) (λ_=>true) (λ_ b=>b) (λ_ b=>b) (λ_ b=>b) (λ_ _ b=>b) false (λ_=>true) (λ_=>true) (λ_=>false)
 true (λ_ _ a b=>a&&b) true (λ_ _ a b=>a&&b) true (λ_ _ a b=>a&&b) (λ_ _ _ b=>b) (λ_ _ b=>b) d
def gU (l:List DV):Bool:=(DV.tup l).free
def D0 (l:List (DV×DV)):Bool:=(DV.iK l).free
def D1 (l:List (Str×DV)):Bool:=(DV.inst 0 l).free
def o4 {l:List DV} (h:gU l=true):∀d∈l,d.free=true:=by
 induction l with
 |nil=>exactλ_ h=>nomatch h
 |cons d l ih=>have⟨a,b⟩:=aw (show(d.free&&gU l)=true from h);exact e9.mpr ⟨a,ih b⟩
def ui {l:List (DV×DV)} (h:D0 l=true):∀p∈l,p.2.free=true:=by
 induction l with
 |nil=>exactλ_ h=>nomatch h
 |cons d l ih=>have⟨a,b⟩:=aw (show(d.2.free&&D0 l)=true from h);exact e9.mpr ⟨a,ih b⟩
def rI {fs:List (Str×DV)} {x:Str} {d:DV} (h:D1 fs=true):look fs x=some d->d.free=true:=by
 induction fs with
 |nil=>exactλh=>nomatch h
 |cons p r ih=>
  have⟨h1,h2⟩:=aw (show(p.2.free&&D1 r)=true from h)
  intro e
  rw[dj] at e
  by_cases q:p.1=x
  ·rw[d8 q] at e;exact eN e▸h1
  ·rw[dZ q] at e;exact ih h2 e
def part {a b:Bool} (k:b=true->a=true) (q:a=false):b=false:=by cases b;rfl;rw[k rfl] at q;exact tf q
def Zip.imp {α β:Type} {R R':α->β->Prop} {l:List α} {m:List β} (h:Zip R l m) (k:∀a∈l,∀b,R a b->R' a b):Zip R' l m:=by
 induction h with
 |nil=>exact .nil
 |cons a _ ih=>have k:=e9.mp k;exact .cons (k.1 _ a) (ih k.2)
def DR.move (kv:G'.V=G.V) (kg:∀b o,G.g b=some o->G'.g b=some o) (d:DV):(d.free=false->∀x,G.par=some x->G'.par=some x)->∀v,DR P G d v->DR P G' d v:=by
 refine DV.ind (M:=λd=>(d.free=false->∀x,G.par=some x->G'.par=some x)->∀v,DR P G d v->DR P G' d v)
  (λ_ _ h=>h) (λ_ _ h=>h) (λ_ _ h=>h) (λ_ _ _ h=>h) (λ_ _ _ h=>h) (λ_ _ _ h=>h) (λt j _ v h=>?_) (λj _ v h=>?_)
  (λl ih k v h=>h.mF λ_ _ _ h z r=>.tup (kg _ _ h) z (r.imp λd m=>ih d m λq=>k (part (λf=>o4 f d m) q)))
  (λl ih k v h=>h.lu λ_ _ _ h z r=>.lst (kg _ _ h) z (r.imp λd m=>ih d m λq=>k (part (λf=>o4 f d m) q)))
  (λl ih k v h=>h.vo λ_ _ _ s h r=>.iK s (kg _ _ h) (r.imp λd m _ h=>⟨h.1,ih d m (λq=>k (part (λf=>ui f d m) q)) _ h.2⟩))
  (λc fs ih k v h=>h.nU λ_ _ _ _ h h' k2 k1=>.inst (kg _ _ h) (kg _ _ h') k2 λx dv e=>(k1 x dv e).elim λu h=>⟨u,h.1,ih x dv e (λq=>k (part (λf=>rI f e) q)) u h.2⟩)
  (λk v h=>h.yW λ_ _ h=>.self (k rfl _ h)) (λ_ _ _ h=>h) (λ_ _ _ h=>h) (λa k v h=>h.Ef λ_ _ _ h h'=>.bj (k rfl _ h) (kg _ _ h')) d
 ·exact h.uO λtk=>⟨tk,by rw[kv]⟩
 ·exact h.sP λtk z=>⟨tk,by rw[kv],by rw[kv];exact z⟩
structure Sub (G G':Gh):Prop where
 V:G'.V=G.V
 g:∀b o,G.g b=some o->G'.g b=some o
 par:∀x,G.par=some x->G'.par=some x
def Sub.refl (G:Gh):Sub G G:=⟨rfl,λ_ _ h=>h,λ_ h=>h⟩
def Sub.trans {xd:Gh} (a:Sub G G') (b:Sub G' xd):Sub G xd:=⟨b.V.trans a.V,λx o h=>b.g x o (a.g x o h),λx h=>b.par x (a.par x h)⟩
def DR.mono (k:Sub G G') {d:DV} {v:Value} (h:DR P G d v):DR P G' d v:=DR.move k.V k.g d (λ_=>k.par) v h
def DR.free (kv:G'.V=G.V) (kg:∀b o,G.g b=some o->G'.g b=some o) {d:DV} {v:Value} (h:DR P G d v) (f:d.free=true):DR P G' d v:=DR.move kv kg d (λq=>by rw[f] at q;exact tf q) v h
def eC.mono (k:Sub G G') {l:List DV} {vs:List Value} (h:eC P G l vs):eC P G' l vs:=Zip.mono (λ_ _=>DR.mono k) h
def qU.mono (k:Sub G G') {l:List (DV×DV)} {es:List DictEntry} (h:qU P G l es):qU P G' l es:=Zip.mono (λ_ _ x=>⟨x.1,x.2.mono k⟩) h
def eC.free (kv:G'.V=G.V) (kg:∀b o,G.g b=some o->G'.g b=some o) {l:List DV} {vs:List Value} (h:eC P G l vs) (f:gU l=true):eC P G' l vs:=Zip.imp h λd m _ h=>DR.free kv kg h (o4 f d m)
def qU.free (kv:G'.V=G.V) (kg:∀b o,G.g b=some o->G'.g b=some o) {l:List (DV×DV)} {es:List DictEntry} (h:qU P G l es) (f:D0 l=true):qU P G' l es:=Zip.imp h λd m _ h=>⟨h.1,DR.free kv kg h.2 (ui f d m)⟩
def eC.length {l:List DV} {vs:List Value} (h:eC P G l vs):l.length=vs.length:=Zip.len h
end
def ae.mut (k:ae):Bool:=ae.rec (motive:=λ_=>Bool) (λ_=>false) (λ_=>true) (λ_=>true) k
def bD (P:Params) (G:Gh) (h:Heap) (O:Addr->Prop) (k:ae):Value->Prop:=ae.rec (motive:=λ_=>Value->Prop) (λd=>DR P G d) (λl v=>∃a vs n,v=.ref a/\h.get? a=some (bG vs n)/\eC P G l vs/\vs.length<=lim/\O a)
 (λl v=>∃a es n,v=.ref a/\h.get? a=some (dictOf es n)/\qU P G l es/\O a) k
structure ck (P:Params) (G:Gh) (h:Heap) (O:Addr->Prop) (sl:List (Str×ae)) (m:Str->Option Value):Prop where
 miss:∀x,look sl x=none->m x=none
 hit:∀x k,look sl x=some k->∃v,m x=some v/\bD P G h O k v
 once:∀x y kx ky,look sl x=some kx->look sl y=some ky->kx.mut=true->ky.mut=true->m x=m y->x=y
def wh (d:Addr) (C:Nat):Obj:=⟨.ref C,some d,.plain,#[]⟩
def jS (es:List DictEntry) (x:Str):Option Value:=(getL x es).join
def qY (es:List DictEntry):Prop:=∀e∈es,∃n t,e.key=.str n t
structure mH (P:Params) (C:Nat) (G:Gh) (h:Heap) (as:List (Str×ae)) (p d:Addr) (es:List DictEntry) (n:Nat):Prop where
 par:G.par=some (p,d)
 inst:G.g p=some (wh d C)
 own:G.OA d
 dict:h.get? d=some (dictOf es n)
 len:es.length<=as.length
 str:qY es
 sl:ck P G h (λa=>G.OA a/\a≠d) as (jS es)
def Fp (P:Params) (C:Nat) (G:Gh) (h:Heap) (aq:Option (List (Str×ae))):Prop:=Option.rec (motive:=λ_=>Prop) (G.par=none) (λas=>∃p d es n,mH P C G h as p d es n) aq
structure cu (P:Params) (C:Nat) (Y:Base) (G:Gh) (aq:Option (List (Str×ae))) (s:Shared):Prop where
 pins:∀b o,G.g b=some o->s.heap.get? b=some o
 dU:∀b o,Y.hp.get? b=some o->G.g b=some o
 val:G.V=Y.V
 fM:∀b,G.OA b->G.g b=none/\b<s.heap.objs.size
 fG:∀b,G.OL b->G.g b=none/\b<s.heap.objs.size
 apart:∀b,G.OA b->¬G.OL b
 attr:Fp P C G s.heap aq
structure Rep (P:Params) (C:Nat) (Y:Base) (G:Gh) (L:Addr) (Z:aj) (s:Shared):Prop extends cu P C Y G Z.aq s where
 fB:G.OL L
 locs:∃m,s.heap.Ns L m/\ck P G s.heap (λa=>G.OL a/\a≠L) Z.loc m
def Gh.O (G:Gh) (b:Addr):Prop:=G.OA b\/G.OL b
def AttAt (G:Gh) (s:Shared) (x:Str) (v:Value):Prop:=∃p dd es n,G.par=some (p,dd)/\s.heap.get? dd=some (dictOf es n)/\jS es x=some v
def fu:List Str:=["tokens","indents","states","marks"]
structure Later (O:Addr->Prop) (G:Gh) (s:Shared) (G':Gh) (s':Shared):Prop where
 sub:Sub G G'
 qk:∀b o,b<s.heap.objs.size->¬G.O b->G'.g b=some o->G.g b=some o
 anew:∀b,b<s.heap.objs.size->G'.OA b->G.OA b
 pe:∀b,b<s.heap.objs.size->G'.OL b->G.OL b
 kept:∀b o,s.heap.get? b=some o->¬O b->s'.heap.get? b=some o
 tN:∀x∈fu,∀v,AttAt G s x v->AttAt G' s' x v
 size:s.heap.objs.size<=s'.heap.objs.size
 gens:s'.gens=s.gens
 os:s'.os=s.os
def Later.trans {O O':Addr->Prop} {G G' xd:Gh} {s s' CR:Shared} (a:Later O G s G' s') (b:Later O' G' s' xd CR) (k:∀x,x<s.heap.objs.size->O' x->O x):Later O G s xd CR:=
 ⟨a.sub.trans b.sub,λx o t n h=>a.qk x o t n (b.qk x o (qu t a.size) (λq=>n (q.imp (a.anew x t) (a.pe x t))) h),λx t h=>a.anew x t (b.anew x (qu t a.size) h),λx t h=>a.pe x t (b.pe x (qu t a.size) h),
   λx o h n=>b.kept x o (a.kept x o h n) λq=>n (k x (u0 h) q),λx hx v h=>b.tN x hx v (a.tN x hx v h),bw a.size b.size,b.gens.trans a.gens,b.os.trans a.os⟩
section
variable {G G' xd:Gh} {s s' CR:Shared}
def Later.trans' (a:Later G.O G s G' s') (b:Later G'.O G' s' xd CR):Later G.O G s xd CR:=a.trans b λx t q=>q.imp (a.anew x t) (a.pe x t)
def Later.aO (a:Later G.OA G s G' s') (b:Later G'.OA G' s' xd CR):Later G.OA G s xd CR:=a.trans b a.anew
def Later.up (a:Later G.OA G s G' s'):Later G.O G s G' s':={a with kept:=λb o h n=>a.kept b o h λq=>n (.inl q)}
variable {O:Addr->Prop}
def Later.same (k:∀b o,s.heap.get? b=some o->¬O b->s'.heap.get? b=some o) (st:∀x∈fu,∀v,AttAt G s x v->AttAt G s' x v) (z:s.heap.objs.size<=s'.heap.objs.size) (g:s'.gens=s.gens) (os:s'.os=s.os):Later O G s G s':=
 ⟨.refl G,λ_ _ _ _ h=>h,λ_ _ h=>h,λ_ _ h=>h,k,st,z,g,os⟩
def Later.keep (k:∀b o,s.heap.get? b=some o->s'.heap.get? b=some o) (z:s.heap.objs.size<=s'.heap.objs.size) (g:s'.gens=s.gens) (os:s'.os=s.os):Later O G s G s':=
 .same (λb o h _=>k b o h) (λ_ _ _ ⟨p,dd,es,n,a,b,c⟩=>⟨p,dd,es,n,a,k dd _ b,c⟩) z g os
def Later.refl (O:Addr->Prop) (G:Gh) (s:Shared):Later O G s G s:=.keep (λ_ _ h=>h) (fy _) rfl rfl
def bb {t:Nat}:Later O G s G {s with toks:=t}:=.keep (λ_ _ h=>h) (fy _) rfl rfl
def size_push (h:Heap) (o:Obj):h.objs.size<=(h.push o).objs.size:=M7 h o▸Nat.le_succ _
def eU (o:Obj) {t:Nat}:Later O G s G {s with heap:=s.heap.push o,toks:=t}:=.keep (λ_ _ h=>MT o h) (size_push s.heap o) rfl rfl
def Later.gh (S:Sub G G') (gn:∀b o,b<s.heap.objs.size->¬G.O b->G'.g b=some o->G.g b=some o) (an:∀b,b<s.heap.objs.size->G'.OA b->G.OA b) (ln:∀b,b<s.heap.objs.size->G'.OL b->G.OL b):Later O G s G' s:=
 ⟨S,gn,an,ln,λ_ _ h _=>h,λ_ _ _ ⟨p,dd,es,n,a,b,c⟩=>⟨p,dd,es,n,S.par _ a,b,c⟩,fy _,rfl,rfl⟩
end
section
variable {P:Params} {G G':Gh} {h h':Heap} {O O':Addr->Prop}
def bD.mono (k:Sub G G') {sl:ae} {v:Value} (kp:∀a o,O a->h.get? a=some o->h'.get? a=some o) (ko:∀a,O a->O' a) (x:bD P G h O sl v):bD P G' h' O' sl v:=by
 cases sl with
 |pv d=>exact DR.mono k x
 |ml l=>exact gq x λa vs n q=>a5 q λe g r z o=>⟨a,vs,n,e,kp a _ o g,r.mono k,z,ko a o⟩
 |md l=>exact DO x λa es n e g r o=>⟨a,es,n,e,kp a _ o g,r.mono k,ko a o⟩
@[elab_as_elim] def bD.AB {Q:Value->Prop} {sl:ae} {v:Value} (x:bD P G h O sl v) (m:sl.mut=true) (k:∀a,O a->a<h.objs.size->(∀G' h' (O':Addr->Prop),Sub G G'->(∀o,h.get? a=some o->h'.get? a=some o)->O' a->bD P G' h' O' sl (.ref a))->Q (.ref a)):Q v:=by
  cases sl with
  |pv d=>exact ft m
  |ml l=>exact gq x λa vs n q=>a5 q λe g r z o=>fb e▸k a o (u0 g) λG' h' O' S kp o'=>⟨a,vs,n,rfl,kp _ g,r.mono S,z,o'⟩
  |md l=>exact DO x λa es n e g r o=>fb e▸k a o (u0 g) λG' h' O' S kp o'=>⟨a,es,n,rfl,kp _ g,r.mono S,o'⟩
def bD.at {sl:ae} {a:Addr} (x:bD P G h O sl (.ref a)) (m:sl.mut=true):O a:=(x.AB (Q:=λv=>∀a,v=.ref a->O a) m λb o _ _ a e=>by cases e;exact o) a rfl
def bD.handed {sl:ae} {v:Value} (x:bD P G h O sl v):handedIn v=true:=by
 cases q:sl.mut with
 |true=>exact x.AB q λ_ _ _ _=>rfl
 |false=>cases sl with|pv d=>exact DR.handed x|ml l=>exact tf q|md l=>exact tf q
def bD.keep {a:Addr} {sl:ae} {v:Value} (x:bD P G h O sl v) (S:Sub G G') (n:sl.mut=true->v≠.ref a) (kp:∀b o,O b->b≠a->h.get? b=some o->h'.get? b=some o) (ko:∀b,O b->b≠a->O' b):bD P G' h' O' sl v:=by
 cases q:sl.mut with
 |false=>cases sl with|pv d=>exact DR.mono S x|ml l=>exact tf q|md l=>exact tf q
 |true=>
  have n:=n q
  revert n
  exact x.AB q λb o _ k n=>k G' h' O' S (λx g=>kp b x o (λz=>n (aQ _ z)) g) (ko b o λz=>n (aQ _ z))
variable {sl:List (Str×ae)} {m:Str->Option Value}
def ck.mono (k:Sub G G') (kp:∀a o,O a->h.get? a=some o->h'.get? a=some o) (ko:∀a,O a->O' a) (x:ck P G h O sl m):ck P G' h' O' sl m:=
 ⟨x.miss,λy s e=>bx (x.hit y s e) λv a b=>⟨v,a,b.mono k kp ko⟩,x.once⟩
def ck.CB (S:ck P G h O sl m) {a:Addr} (n:¬O a) (y:Str) (ky:ae) (e:look sl y=some ky) (km:ky.mut=true) (q:m y=some (.ref a)):False:=
 bx (S.hit y ky e) λv hv ok=>n ((eN (hv.symm.trans q)▸ok:bD P G h O ky (.ref a)).at km)
def ck.G0 {m':Str->Option Value} (S:ck P G h O sl m) (x:Str) (k:ae) (v:Value) (h1:m' x=some v) (h2:∀y,y≠x->m' y=m y) (hk:bD P G' h' O' k v)
    (hit:∀y ky u,y≠x->look sl y=some ky->m y=some u->bD P G h O ky u->bD P G' h' O' ky u) (one:k.mut=true->∀y ky,y≠x->look sl y=some ky->ky.mut=true->m y≠some v):ck P G' h' O' (put sl x k) m':=by
 have lk:∀y,y≠x->look (put sl x k) y=look sl y:=λy q=>(r7 ..).trans (dZ q)
 have lx:look (put sl x k) x=some k:=(r7 ..).trans (d8 rfl)
 refine⟨λy e=>?_,λy ky e=>?_,λy z ky kz ey ez my mz e=>?_⟩
 ·by_cases q:y=x
  ·rw[q,lx] at e;exact sn e
  ·exact(h2 y q).trans (S.miss y ((lk y q).symm.trans e))
 ·by_cases q:y=x
  ·rw[q,lx] at e;exact⟨v,q▸h1,eN e▸hk⟩
  ·rw[lk y q] at e;exact bx (S.hit y ky e) λu a b=>⟨u,(h2 y q).trans a,hit y ky u q e a b⟩
 ·by_cases q:y=x
  ·by_cases r:z=x
   ·exact q.trans r.symm
   ·rw[lk z r] at ez;rw[q,h1,h2 z r] at e;rw[q,lx] at ey
    exact absurd e.symm (one (eN ey▸my) z kz r ez mz)
  ·rw[lk y q] at ey;rw[h2 y q] at e
   by_cases r:z=x
   ·rw[r,h1] at e;rw[r,lx] at ez
    exact absurd e (one (eN ez▸mz) y ky q ey my)
   ·rw[lk z r] at ez;rw[h2 z r] at e
    exact S.once y z ky kz ey ez my mz e
def ck.put (S:ck P G h O sl m) (x:Str) (k:ae) (v:Value) (hk:bD P G h O k v) (one:k.mut=true->∀y ky,y≠x->look sl y=some ky->ky.mut=true->m y≠some v):ck P G h O (Mine.put sl x k) (λy=>if y=x then some v else m y):=
 S.G0 x k v (d8 rfl) (λ_ q=>dZ q) hk (λ_ _ _ _ _ _ h=>h) one
def ck.upd (S:ck P G h O sl m) {x:Str} {k k':ae} {a:Addr} (hx:look sl x=some k) (km:k.mut=true) (hm:m x=some (.ref a)) (keep:∀b o,b≠a->h.get? b=some o->h'.get? b=some o) (ok:bD P G h' O k' (.ref a)):ck P G h' O (Mine.put sl x k') m:=
 have ne:∀y ky,y≠x->look sl y=some ky->ky.mut=true->m y≠some (.ref a):=λy ky q e my z=>q (S.once y x ky k e hx my km (z.trans hm.symm))
 S.G0 x k' _ hm (λ_ _=>rfl) ok (λy ky u q e mu h=>h.keep (.refl G) (λmy z=>ne y ky q e my (z▸mu)) (λb o _ n=>keep b o n) λ_ h _=>h) λ_=>ne
def mH.mono {C:Nat} {as:List (Str×ae)} {p d:Addr} {es:List DictEntry} {n:Nat} (A:mH P C G h as p d es n) (S:Sub G G') (kp:∀a o,G.OA a->h.get? a=some o->h'.get? a=some o) (ko:∀a,G.OA a->G'.OA a):mH P C G' h' as p d es n:=
 ⟨S.par _ A.par,S.g _ _ A.inst,ko d A.own,kp d _ A.own A.dict,A.len,A.str,A.sl.mono S (λa o q=>kp a o q.1) λa q=>⟨ko a q.1,q.2⟩⟩
def Fp.mono {C:Nat} {aq:Option (List (Str×ae))} (A:Fp P C G h aq) (S:Sub G G') (hp:G.par=none->G'.par=none) (kp:∀a o,G.OA a->h.get? a=some o->h'.get? a=some o) (ko:∀a,G.OA a->G'.OA a):Fp P C G' h' aq:=by
 cases aq with
 |none=>exact hp A
 |some as=>exact cV A λp d q=>cV q λes n A=>⟨p,d,es,n,A.mono S kp ko⟩
end
section
variable {P:Params} {C:Nat} {Y:Base} {G G' eD:Gh} {L:Addr} {aq:Option (List (Str×ae))} {Z aa:aj} {s s' eL:Shared} {O:Addr->Prop} {t:Nat}
def cu.S9 (R:cu P C Y G aq s) {as:List (Str×ae)} (e:aq=some as):∃p d es n,mH P C G s.heap as p d es n:=by subst e;exact R.attr
def cu.Ex (R:cu P C Y G aq s) {p d:Addr} (h:G.par=some (p,d)):G.OA d:=by
 have:=R.attr
 cases aq with
 |none=>exact sn (h.symm.trans this)
 |some as=>exact cV this λp' d' q=>cV q λes n A=>by have e:=h.symm.trans A.par;cases e;exact A.own
def cu.fresh (R:cu P C Y G aq s) {a:Addr} (h:s.heap.objs.size<=a):¬G.OA a/\¬G.OL a/\G.g a=none:=by
 refine⟨λq=>xm.mpr h (R.fM a q).2,λq=>xm.mpr h (R.fG a q).2,?_⟩
 cases q:G.g a with
 |none=>rfl
 |some o=>exact absurd (u0 (R.pins _ _ q)) (xm.mpr h)
def oF {α:Type} {g:Addr->Option α} {a b:Addr} {o:α} (n:g a=none) (h:g b=some o):b≠a:=λe=>sn (h.symm.trans (e▸n))
def cu.keep (R:cu P C Y G aq s) (kg:∀b o,G.g b=some o->s.heap.get? b=some o->s'.heap.get? b=some o) (ka:∀b o,G.OA b->s.heap.get? b=some o->s'.heap.get? b=some o) (z:s.heap.objs.size<=s'.heap.objs.size):cu P C Y G aq s':=
 ⟨λb o h=>kg b o h (R.pins b o h),R.dU,R.val,λb h=>⟨(R.fM b h).1,qu (R.fM b h).2 z⟩,λb h=>⟨(R.fG b h).1,qu (R.fG b h).2 z⟩,R.apart,R.attr.mono (.refl G) id ka λ_ q=>q⟩
def Rep.keep (R:Rep P C Y G L Z s) (kg:∀b o,G.g b=some o->s.heap.get? b=some o->s'.heap.get? b=some o) (ko:∀b o,G.O b->s.heap.get? b=some o->s'.heap.get? b=some o) (z:s.heap.objs.size<=s'.heap.objs.size):Rep P C Y G L Z s':=
 ⟨R.tocu.keep kg (λb o q=>ko b o (.inl q)) z,R.fB,bx R.locs λm hm hs=>⟨m,hm.at λo=>ko L o (.inr R.fB),hs.mono (.refl G) (λa o q=>ko a o (.inr q.1)) λ_ h=>h⟩⟩
def Rep.ext (R:Rep P C Y G L Z s) (k:∀b o,s.heap.get? b=some o->s'.heap.get? b=some o) (z:s.heap.objs.size<=s'.heap.objs.size):Rep P C Y G L Z s':=R.keep (λb o _=>k b o) (λb o _=>k b o) z
def Rep.heap (R:Rep P C Y G L Z s) (e:s'.heap=s.heap):Rep P C Y G L Z s':=R.ext (λb o h=>by rw[e];exact h) (iU (aQ (λh:Heap=>h.objs.size) e.symm))
def Rep.toks (R:Rep P C Y G L Z s):Rep P C Y G L Z {s with toks:=t}:=R.heap rfl
def Rep.push (R:Rep P C Y G L Z s) (o:Obj):Rep P C Y G L Z {s with heap:=s.heap.push o,toks:=t}:=R.ext (λ_ _ h=>MT o h) (size_push s.heap o)
def Rep.toA {loc:List (Str×ae)} (R:Rep P C Y G L ⟨aq,loc⟩ s):cu P C Y G aq s:=R.tocu
def cu.gh (R:cu P C Y G aq s) (S:Sub G G') (hp:G'.par=G.par) (pins:∀b o,G'.g b=some o->s.heap.get? b=some o) (a:∀b,G'.OA b->G'.g b=none/\b<s.heap.objs.size) (l:∀b,G'.OL b->G'.g b=none/\b<s.heap.objs.size) (ap:∀b,G'.OA b->¬G'.OL b) (ko:∀b,G.OA b->G'.OA b):cu P C Y G' aq s:=
 ⟨pins,λb o h=>S.g b o (R.dU b o h),S.V.trans R.val,a,l,ap,R.attr.mono S hp.trans (λ_ _ _ h=>h) ko⟩
def Rep.gh (R:Rep P C Y G L Z s) (S:Sub G G') (A:cu P C Y G' Z.aq s) (ko:∀b,G.OL b->G'.OL b):Rep P C Y G' L Z s:=
 ⟨A,ko L R.fB,bx R.locs λm hm hs=>⟨m,hm,hs.mono S (λ_ _ _ h=>h) λa q=>⟨ko a q.1,q.2⟩⟩⟩
def pinned (G:Gh) (a:Addr) (o:Obj):Gh:={G with g:=λb=>if b=a then some o else G.g b}
def dw {a:Addr} {o:Obj}:(pinned G a o).g a=some o:=d8 rfl
def cD {a b:Addr} {o:Obj} (h:b≠a):(pinned G a o).g b=G.g b:=dZ h
def oq {a b:Addr} {o x:Obj} (hp:∀b o,G.g b=some o->s.heap.get? b=some o) (h:s.heap.get? a=some o) (e:(pinned G a o).g b=some x):s.heap.get? b=some x:=by
 by_cases q:b=a
 ·rw[q,dw] at e;rw[q,h,e]
 ·rw[cD q] at e;exact hp _ _ e
def ki (hp:∀b o,G.g b=some o->s.heap.get? b=some o) {a:Addr} {o:Obj} (h:s.heap.get? a=some o):Sub G (pinned G a o):=
 ⟨rfl,λb x e=>by
   by_cases q:b=a
   ·rw[q] at e ⊢;exact dw.trans (h.symm.trans (hp _ _ e))
   ·exact(cD q).trans e,λ_ e=>e⟩
def Rep.pin (R:Rep P C Y G L Z s) {a:Addr} {o:Obj} (h:s.heap.get? a=some o) (nA:¬G.OA a) (nL:¬G.OL a):Rep P C Y (pinned G a o) L Z s:=
 have S:=ki R.pins h
 R.gh S (R.tocu.gh S rfl (λ_ _=>oq R.pins h) (λb q=>⟨(cD λz:b=a=>nA (z▸q)).trans (R.fM b q).1,(R.fM b q).2⟩) (λb q=>⟨(cD λz:b=a=>nL (z▸q)).trans (R.fG b q).1,(R.fG b q).2⟩) R.apart λ_ q=>q) λ_ q=>q
def Later.pin (l:Later O eD eL G s) (hp:∀b o,G.g b=some o->s.heap.get? b=some o) {a:Addr} {o:Obj} (h:s.heap.get? a=some o) (f:¬eD.O a->a<eL.heap.objs.size->False):Later O eD eL (pinned G a o) s:=
 ⟨l.sub.trans (ki hp h),λb x t n e=>l.qk b x t n ((cD λz:b=a=>f (z▸n) (z▸t)).symm.trans e),l.anew,l.pe,l.kept,λx hx v q=>l.tN x hx v q,l.size,l.gens,l.os⟩
def Rep.wk (R:Rep P C Y G L Z s) (o:Obj) (hf:o.isFreed=false):
    Rep P C Y (pinned G s.heap.objs.size o) L Z {s with heap:=s.heap.push o,toks:=t}/\Later G.OA G s (pinned G s.heap.objs.size o) {s with heap:=s.heap.push o,toks:=t}/\(pinned G s.heap.objs.size o).g s.heap.objs.size=some o:=
 have R':Rep P C Y G L Z {s with heap:=s.heap.push o,toks:=t}:=R.push o
 have f:=R.fresh (fy _)
 ⟨R'.pin (Hu _ hf) f.1 f.2.1,Later.pin (eU o) R'.pins (Hu _ hf) λ_ h=>Nat.lt_irrefl _ h,dw⟩
def own (G:Gh) (a:Addr):Gh:={G with OL:=λb=>G.OL b\/b=a}
def oi (a:Addr):Sub G (own G a):=⟨rfl,λ_ _ h=>h,λ_ h=>h⟩
def Rep.own (R:Rep P C Y G L Z s) {a:Addr} (nA:¬G.OA a) (ng:G.g a=none) (lt:a<s.heap.objs.size):Rep P C Y (own G a) L Z s:=
 R.gh (oi a) (R.tocu.gh (oi a) rfl R.pins R.fM (λb q=>q.elim (R.fG b) λe:b=a=>fb e▸⟨ng,lt⟩) (λb q q'=>q'.elim (R.apart b q) λe=>nA (e▸q)) λ_ q=>q) λ_=>.inl
def Ly (G:Gh) (a:Addr):Gh:={G with OA:=λb=>G.OA b\/b=a}
def oo (G:Gh) (a:Addr):Sub G (Ly G a):=⟨rfl,λ_ _ h=>h,λ_ h=>h⟩
def Rep.CG (R:Rep P C Y G L Z s) {a:Addr} (nL:¬G.OL a) (ng:G.g a=none) (lt:a<s.heap.objs.size):Rep P C Y (Ly G a) L Z s:=
 R.gh (oo G a) (R.tocu.gh (oo G a) rfl R.pins (λb q=>q.elim (R.fM b) λe:b=a=>fb e▸⟨ng,lt⟩) R.fG (λb q q'=>q.elim (λq=>R.apart b q q') λe=>nL (e▸q')) λ_=>.inl) λ_ q=>q
def Later.own (l:Later O eD eL G s) {a:Addr} (f:eL.heap.objs.size<=a):Later O eD eL (Mine.own G a) s:={l with sub:=l.sub.trans (oi a),pe:=λb t q=>q.elim (l.pe b t) λe=>absurd t (xm.mpr (e▸f))}
def Later.CG (l:Later O eD eL G s) {a:Addr} (f:eL.heap.objs.size<=a):Later O eD eL (Ly G a) s:={l with sub:=l.sub.trans (oo G a),anew:=λb t q=>q.elim (l.anew b t) λe=>absurd t (xm.mpr (e▸f))}
def Rep.off {I:Addr} (R:Rep P C Y G L Z s) (nA:¬G.OA I) (nL:¬G.OL I) (ng:G.g I=none) (k:∀b o,b≠I->s.heap.get? b=some o->s'.heap.get? b=some o) (z:s.heap.objs.size<=s'.heap.objs.size):Rep P C Y G L Z s':=
 R.keep (λb o h=>k b o (oF ng h)) (λb o q=>k b o λe=>q.elim (e▸nA) (e▸nL)) z
def Later.off {I:Addr} (l:Later O eD eL G s) (R:Rep P C Y G L Z s) (nA:¬G.OA I) (hI:eL.heap.objs.size<=I) (k:∀b o,b≠I->s.heap.get? b=some o->s'.heap.get? b=some o) (z:s.heap.objs.size<=s'.heap.objs.size) (g:s'.gens=s.gens) (os:s'.os=s.os):Later O eD eL G s':=
 ⟨l.sub,l.qk,l.anew,l.pe,λb o h n=>k b o (λe=>xm.mpr hI (e▸u0 h)) (l.kept b o h n),λx hx v q=>gq (l.tN x hx v q) λp d es q=>ua q λn h1 h2 h3=>⟨p,d,es,n,h1,k d _ (λe=>nA (e▸R.Ex h1)) h2,h3⟩,
   bw l.size z,g.trans l.gens,os.trans l.os⟩
def Rep.ads (R:Rep P C Y G L Z s) {h':Heap} {iw:List (Str×ae)} (sb:Heap.SameBut L s.heap h')
    (k:∀m,s.heap.Ns L m->ck P G s.heap (λa=>G.OL a/\a≠L) Z.loc m->∃m',h'.Ns L m'/\ck P G s.heap (λa=>G.OL a/\a≠L) iw m'):
    Rep P C Y G L {Z with loc:=iw} {s with heap:=h',toks:=t}/\Later G.O G s G {s with heap:=h',toks:=t}:=
 have up:∀b o,b≠L->s.heap.get? b=some o->h'.get? b=some o:=λb o n e=>(sb.2 b n).trans e
 have z:s.heap.objs.size<=h'.objs.size:=iU sb.1.symm
 have aL:∀b,G.OA b->b≠L:=λb q e=>R.apart b q (e▸R.fB)
 ⟨⟨R.tocu.keep (λb o h=>up b o (oF (R.fG L R.fB).1 h)) (λb o q=>up b o (aL b q)) z,R.fB,bx R.locs λm hm hs=>bx (k m hm hs) λm' zH Js=>⟨m',zH,Js.mono (.refl G) (λa o q=>up a o q.2) λ_ q=>q⟩⟩,
   .same (λb o e n=>up b o (λq=>n (.inr (q▸R.fB))) e) (λx _ v q=>gq q λp d es q=>ua q λn h1 h2 h3=>⟨p,d,es,n,h1,up d _ (aL d (R.Ex h1)) h2,h3⟩) z rfl rfl⟩
def oh {h:Heap} {L:Addr} {m m':Str->Option Value} (a:h.Ns L m) (b:h.Ns L m'):m=m':=funext (a.agree b)
def ae5 {h h':Heap} {L:Addr} {m:Str->Option Value} (a:h.Ns L m) (k:∀o,h.get? L=some o->h'.get? L=some o):h'.Ns L m:=a.at k
def rC {es tH:List DictEntry} {n n':Nat} (e:dictOf es n=dictOf tH n'):es=tH:=by
 injection aQ Obj.data e with q
 exact aQ Array.toList q
def gC {es:List DictEntry} {x:Str} {v:Value} (h:jS es x=some v):getL x es=some (some v):=Option.join_eq_some_iff.mp h
def xu {es:List DictEntry} {x:Str} (h:jS es x=none) (k:(getL x es).isSome=true):getL x es=some none:=
 (Option.join_eq_none_iff.mp h).elim (λe=>by rw[e] at k;exact ft k) id
inductive Pl where|loc (x:Str) |aq (x:Str)
def Nw (aq:Option (List (Str×ae))) (x:Str):Option ae:=aq.bind λas=>look as x
def Ta (aq:Option (List (Str×ae))) (x:Str) (k:ae):Option (List (Str×ae)):=aq.map λas=>put as x k
def Pl.get (Z:aj) (p:Pl):Option ae:=Pl.rec (motive:=λ_=>Option ae) (look Z.loc) (Nw Z.aq) p
def Pl.set (Z:aj) (k:ae) (p:Pl):aj:=Pl.rec (motive:=λ_=>aj) (λx=>⟨Z.aq,put Z.loc x k⟩) (λx=>⟨Ta Z.aq x k,Z.loc⟩) p
def At (G:Gh) (L:Addr) (s:Shared) (p:Pl) (a:Addr):Prop:=Pl.rec (motive:=λ_=>Prop) (λx=>∃m,s.heap.Ns L m/\m x=some (.ref a)) (λx=>AttAt G s x (.ref a)) p
def Pl.fix (p:Pl):Bool:=Pl.rec (motive:=λ_=>Bool) (λ_=>true) (λx=>fu.contains x) p
def Pl.own (G:Gh) (p:Pl):Addr->Prop:=Pl.rec (motive:=λ_=>Addr->Prop) (λ_=>G.OL) (λ_=>G.OA) p
def Pl.Qj (G:Gh) (p:Pl):Addr->Prop:=Pl.rec (motive:=λ_=>Addr->Prop) (λ_=>G.O) (λ_=>G.OA) p
def At.later {p:Pl} {a:Addr} (x:At G L s p a) (R:Rep P C Y G L Z s) (l:Later G.OA G s eD s') (hf:p.fix=true):At eD L s' p a:=by
 cases p with
 |loc n=>exact bx x λm h1 h2=>⟨m,h1.at λo e=>l.kept L o e λq=>R.apart L q R.fB,h2⟩
 |aq n=>exact l.tN n (List.contains_iff_mem.mp (show fu.contains n=true from hf)) _ x
def At.toks {p:Pl} {a:Addr} (x:At G L s p a):At G L {s with toks:=t} p a:=by cases p<;>exact x
def cu.vg {Q:Prop} {n:Str} {v:Value} (R:cu P C Y G aq s) (x:AttAt G s n v) (k:∀as p d es m,aq=some as->jS es n=some v->mH P C G s.heap as p d es m->Q):Q:=by
 have h:=R.attr
 cases aq with
 |none=>exact gq x λp d es q=>ua q λn h1 _ _=>sn (h1.symm.trans h)
 |some as=>
  exact gq x λp d es q=>ua q λn h1 h2 h3=>cV h λp' d' q=>cV q λtH n' A=>by
   have e:=h1.symm.trans A.par
   cases e
   exact k as p d tH n' rfl (rC (eN (h2.symm.trans A.dict))▸h3) A
end
inductive Res where
 |pv (v:DV) |fl (l:List DV) |fd (l:List (DV×DV))
def Res.slot (r:Res):ae:=Res.rec (motive:=λ_=>ae) .pv .ml .md r
def Res.rest (r:Res):DV:=Res.rec (motive:=λ_=>DV) id .lst .iK r
structure Loose (G:Gh) (z:Nat) (a:Addr):Prop where
 nA:¬G.OA a
 nL:¬G.OL a
 ng:G.g a=none
 ge:z<=a
def nz (P:Params) (G:Gh) (h:Heap) (z:Nat) (r:Res):Value->Prop:=bD P G h (Loose G z) r.slot
def nz.low {P:Params} {G:Gh} {h:Heap} {z z':Nat} {r:Res} {v:Value} (k:z'<=z) (x:nz P G h z r v):nz P G h z' r v:=bD.mono (.refl G) (λ_ _ _ h=>h) (λ_ q=>⟨q.nA,q.nL,q.ng,bw k q.ge⟩) x
def WP {α:Type} (U:Program) (w:World) (A:Around) (t:Sem α) (s:Shared) (Q:α->Shared->Prop):Prop:=wpAny (model U w) A t Q (λ_ _=>False) s
structure dI (A:Around) (d:Nat):Prop where
 depth:A.depth+4*d+8<=recursionLimit
 units:A.units+40*d+60<=cLine
 handled:A.handled=none
structure cN (sc:Scope) (L:Addr) (env:Env):Prop where
 scope:env.scope=sc
 locals:env.locals=L
 globals:env.globals=mainGlobals
 builtins:env.builtins=builtinsNs
 kind:sc.kind=.function
structure cQ (K:Frag) (Y:Base):Prop where
 Jz:K.In Y.hp
 nolimit:Y.hp.NoLimit
 glob:∃mg,Y.hp.Ns mainGlobals mg
 blt:∃mb,Y.hp.Ns builtinsNs mb/\∀x:Str,x≠"__name__"->mb x=bootBuiltins x
section
variable (U:Program) (w:World) (C:Nat) (Y:Base) (sc:Scope) (d:Nat)
def cO (e:Expr) (Z:aj) (r:Res) (ba:aj):Prop:=∀(A:Around) (G:Gh) (L:Addr) (s:Shared) (env:Env),dI A d->cN sc L env->Rep w.params C Y G L Z s->
 ∀Q:Value->Shared->Prop,(∀G' v s',Rep w.params C Y G' L ba s'->Later G.OA G s G' s'->nz w.params G' s'.heap s.heap.objs.size r v->Q v s')->WP U w A (eval e env) s Q
def aC (e:Expr) (Z:aj) (v:DV) (ba:aj):Prop:=∀(A:Around) (G:Gh) (L:Addr) (s:Shared) (env:Env),dI A d->cN sc L env->Rep w.params C Y G L Z s->
 ∀Q:Value->Shared->Prop,(∀G' u s',Rep w.params C Y G' L ba s'->Later G.OA G s G' s'->DR w.params G' v u->Q u s')->WP U w A (eval e env) s Q
def bu (e:Expr) (Z:aj) (b:Bool) (ba:aj):Prop:=∀(A:Around) (G:Gh) (L:Addr) (s:Shared) (env:Env),dI A d->cN sc L env->Rep w.params C Y G L Z s->
 ∀Q:Bool->Shared->Prop,(∀G' s',Rep w.params C Y G' L ba s'->Later G.OA G s G' s'->Q b s')->WP U w A (isTrue e env (eval e env)) s Q
end
section
variable {U:Program} {w:World} {C:Nat} {K:Frag} {Y:Base} {sc:Scope} {d:Nat} {Z aa ah:aj} {A:Around} {G eD:Gh} {L:Addr} {s eL:Shared} {α:Type} {O:Addr->Prop}
def WP.mono {t:Sem α} {Q Q':α->Shared->Prop} (h:WP U w A t s Q) (k:∀a s',Q a s'->Q' a s'):WP U w A t s Q':=wpAny_mono h k λ_ _ x=>x
def cu.v8 {P:Params} {aq:Option (List (Str×ae))} {a:Addr} (R:cu P C Y G aq s) (ng:G.g a=none):(a==sysModules)=false:=
 HG.mpr λe=>(Zg.mp Y.sys).elim λo h=>sn ((R.dU _ _ h).symm.trans (e▸ng))
def Qi {r:Res} {v:Value} {z:Nat} {Q:Prop} (R:Rep w.params C Y G L Z s) (l:Later O eD eL G s) (h:nz w.params G s.heap z r v) (hz:eL.heap.objs.size<=z) (k:∀G',Rep w.params C Y G' L Z s->Later O eD eL G' s->DR w.params G' r.rest v->Q):Q:=by
 cases r with
 |pv d=>exact k G R l h
 |fl xs=>exact gq h λa vs n q=>a5 q λe g r z' f=>k _ (R.pin g f.nA f.nL) (l.pin R.pins g λ_ t=>xm.mpr (bw hz f.ge) t) (fb e▸.lst dw z' (r.mono (ki R.pins g)))
 |fd xs=>exact DO h λa es n e g r f=>k _ (R.pin g f.nA f.nL) (l.pin R.pins g λ_ t=>xm.mpr (bw hz f.ge) t) (fb e▸.iK (R.v8 f.ng) dw (r.mono (ki R.pins g)))
def cO.rest {e:Expr} {r:Res} (h:cO U w C Y sc d e Z r aa):aC U w C Y sc d e Z r.rest aa:=λA G L s env ro eo R Q k=>
 h A G L s env ro eo R Q λ_ v s' R l q=>Qi R l q (fy _) λG' R l q=>k G' v s' R l q
def aC.plain {e:Expr} {v:DV} (h:aC U w C Y sc d e Z v aa):cO U w C Y sc d e Z (.pv v) aa:=h
def y4 {k:Nat} {pos:Pos}:aC U w C Y sc d (.Constant .none k pos) Z .none Z:=λ_ G _ s _ _ _ R _ k _ _ _=>k G _ s R (.refl _ _ _) rfl
def yZ {b:Bool} {k:Nat} {pos:Pos}:aC U w C Y sc d (.Constant (.bool b) k pos) Z (.bool b) Z:=λ_ G _ s _ _ _ R _ k _ _ _=>k G _ s R (.refl _ _ _) rfl
def EK {i:Int} {k:Nat} {pos:Pos}:aC U w C Y sc d (.Constant (.int i) k pos) Z (.int i) Z:=λ_ G _ _ _ _ _ R _ k _ _ _=>k G _ _ R.toks bb ⟨_,rfl⟩
def EM {x:Str} {k:Nat} {pos:Pos} (h:x.cps.toList.length<=lim):aC U w C Y sc d (.Constant (.str x) k pos) Z (.str x.cps.toList) Z:=λ_ G _ _ _ _ _ R _ k _ _ _=>k G _ _ R.toks bb ⟨_,rfl,h⟩
def kb {x:Str} {pos:Pos} {k:ae} {env:Env} {Q:Value->Shared->Prop} (eo:cN sc L env) (R:Rep w.params C Y G L Z s) (hl:sc.names.lookup x=some .local) (hx:look Z.loc x=some k) (hd:(x==("__debug__":Str))=false)
    (h:∀m u,s.heap.Ns L m->m x=some u->ck w.params G s.heap (λa=>G.OL a/\a≠L) Z.loc m->bD w.params G s.heap (λa=>G.OL a/\a≠L) k u->Q u s):WP U w A (eval (.Name x pos) env) s Q:=
 bx R.locs λm hm hs=>bx (hs.hit x k hx) λu hu q=>wpAny_Name (wpAny_loadName_local (m:=m) (v:=u) (by rw[eo.scope];exact eo.kind) (by rw[Env.kindOf,eo.scope];exact hl) (eo.locals▸hm) hu (h m u hm hu hs q)) hd
def jC {x:Str} {pos:Pos} {v:DV} {env:Env} {Q:Value->Shared->Prop} (eo:cN sc L env) (R:Rep w.params C Y G L Z s) (hl:sc.names.lookup x=some .local) (hx:look Z.loc x=some (.pv v)) (hd:(x==("__debug__":Str))=false) (h:∀u,DR w.params G v u->Q u s):WP U w A (eval (.Name x pos) env) s Q:=
 kb eo R hl hx hd λ_ u _ _ _ q=>h u q
def pH {x:Str} {pos:Pos} {v:DV} (hl:sc.names.lookup x=some .local) (hx:look Z.loc x=some (.pv v)) (hd:(x==("__debug__":Str))=false):aC U w C Y sc d (.Name x pos) Z v Z:=λ_ G _ s _ _ eo R _ k=>
 jC eo R hl hx hd λu q=>k G u s R (.refl _ _ _) q
def lU (T:cQ K Y) {aq:Option (List (Str×ae))} (R:cu w.params C Y G aq s):K.In s.heap:=T.Jz.keeps λb o h=>R.pins b o (R.dU b o h)
def fm (T:cQ K Y) (R:Rep w.params C Y G L Z s):K.In s.heap:=lU T R.tocu
def OE (T:cQ K Y) (R:Rep w.params C Y G L Z s) {x:Str} {v:Value} (e:nsIn K mainGlobals x=some (some v)):∃mg,s.heap.Ns mainGlobals mg/\mg x=some v:=
 T.glob.elim λmg h=>⟨mg,h.keeps λb o q=>R.pins b o (R.dU b o q),mg_of T.Jz h e⟩
def nk (T:cQ K Y) {x:Str} {pos:Pos} {v:Value} {u:DV} (hl:sc.names.lookup x=some .globalImplicit) (e:nsIn K mainGlobals x=some (some v)) (hd:(x==("__debug__":Str))=false)
    (hv:∀G:Gh,(∀b o,Y.hp.get? b=some o->G.g b=some o)->DR w.params G u v):aC U w C Y sc d (.Name x pos) Z u Z:=λ_ G _ s _ _ eo R _ k=>
 bx (OE T R e) λ_ hg hm=>Name_function_global (by rw[eo.scope];exact eo.kind) (by rw[Env.kindOf,eo.scope];exact hl) (loadGlobal_global (by rw[eo.globals];exact hg) hm (k G v s R (.refl _ _ _) (hv G R.dU))) hd
end
section
variable (U:Program) (w:World)
def fi (V:Val) (op:CmpOp) (x y:DV) (b:Bool):Prop:=∀(A:Around) (G:Gh) (s:Shared) (u v:Value),dI A 0->G.V=V->(∀c o,G.g c=some o->s.heap.get? c=some o)->DR w.params G x u->DR w.params G y v->
 ∀Q:Value->Shared->Prop,(∀t,Q (.bool b) {s with toks:=t})->WP U w A (compareOp op u v) s Q
def qf (op:Operator) (x y z:DV):Prop:=∀(A:Around) (G:Gh) (s:Shared) (u v:Value),dI A 0->DR w.params G x u->DR w.params G y v->
 ∀Q:Value->Shared->Prop,(∀r t,DR w.params G z r->Q r {s with toks:=t})->WP U w A (binaryOp op u v) s Q
def Nh (op:Operator) (x y z:DV):Prop:=∀(A:Around) (G:Gh) (s:Shared) (u v:Value),dI A 0->DR w.params G x u->DR w.params G y v->
 ∀Q:Value->Shared->Prop,(∀r t,DR w.params G z r->Q r {s with toks:=t})->WP U w A (inplaceOp op u v) s Q
end
section
variable {U:Program} {w:World} {V:Val}
def z6:CmpOp->Int->Int->Option Bool
 | .Eq,a,b=>some (a==b)
 | .NotEq,a,b=>some (a != b)
 | .Lt,a,b=>some (decide (a<b))
 | .LtE,a,b=>some (decide (a<=b))
 | .Gt,a,b=>some (decide (b<a))
 | .GtE,a,b=>some (decide (b<=a))
 |_,_,_=>none
def CC (x:DV):Option (Option Nat×Int):=aZ (intD x) ((iF x).bind λq=>some (some q.1,q.2)) λi=>some (none,i)
def RZ (o:Option Nat) (i:Int):DV:=Option.rec (motive:=λ_=>DV) (.int i) (λt=>.sint t i) o
def wM (V:Val) (o:Option Nat):Int:=Option.rec (motive:=λ_=>Int) 0 V.β o
def En (x:DV):On (λp=>RZ p.1 p.2=x) (CC x):=(bQ x).or (λ_ h=>h) λ_=>(dx x).b λ_ h=>h
def Nj (V:Val) (p:Option Nat×Int):Int:=Option.rec (motive:=λ_=>Int) p.2 (λt=>V.β t+p.2) p.1
def Nl (V:Val) (p:Option Nat×Int):Nj V p=wM V p.1+p.2:=by
 obtain⟨_|t,i⟩:=p
 ·exact(zN i).symm
 ·rfl
def intOf (V:Val) (x:DV):Option Int:=(CC x).map (Nj V)
def qK (V:Val) (x:DV):On (λp=>intOf V x=some (wM V p.1+p.2)) (CC x):=.mk λp h=>(aQ (Option.map _) h).trans (aQ some (Nl V p))
def aiZ {P:Params} {G:Gh} {p:Option Nat×Int} {u:Value} (hu:DR P G (RZ p.1 p.2) u):∃t,u=.int (Nj G.V p) t:=by
 obtain⟨_|t,i⟩:=p
 ·exact hu.fS λt=>⟨t,rfl⟩
 ·exact hu.uO λt=>⟨t,rfl⟩
def ai0 {P:Params} {G:Gh} {p:Option Nat×Int} {t:Tok}:DR P G (RZ p.1 p.2) (.int (Nj G.V p) t):=by obtain⟨_|k,i⟩:=p<;>exact⟨t,rfl⟩
@[elab_as_elim] def DR.intOf {P:Params} {G:Gh} {x:DV} {u:Value} {i:Int} {Q:Value->Prop} (hu:DR P G x u) (h:intOf G.V x=some i) (k:∀t,Q (.int i t)):Q u:=
  bx (xn.mp h) λp h1 h2=>fk (aiZ (p:=p) (G:=G) (u:=u) (fb ((En x).get h1)▸hu:DR P G (RZ p.1 p.2) u)) λt e=>by rw[e,h2];exact k t
def DR.ofInt {P:Params} {G:Gh} {z:DV} {i:Int} {t:Tok} (h:Mine.intOf G.V z=some i):DR P G z (.int i t):=
 bx (xn.mp h) λp h1 h2=>(En z).get h1▸h2▸ai0
def lg {op:CmpOp} {x y:DV} {a b:Int} {c:Bool} (hx:intOf V x=some a) (hy:intOf V y=some b) (h:z6 op a b=some c):fi U w V op x y c:=λA G s u v _ e _ hu hv Q k=>by
 subst e
 refine hu.intOf hx λt=>hv.intOf hy λt'=>?_
 have k:=k s.toks
 cases op
 case Eq=>exact eq_int (eN h▸k)
 case NotEq=>exact ne_int (eN h▸k)
 case Lt=>exact lt_int (eN h▸k)
 case LtE=>exact le_int (eN h▸k)
 case Gt=>exact gt_int (eN h▸k)
 case GtE=>exact ge_int (eN h▸k)
 all_goals exact ns h
def N6 {op:CmpOp} {a b:Int} {c:Bool} (h:z6 op a b=some c):fi U w V op (.int a) (.int b) c:=lg rfl rfl h
def afZ:CmpOp->List Nat->List Nat->Option Bool
 | .Eq,a,b=>some (a==b)
 | .NotEq,a,b=>some (a != b)
 | .LtE,a,b=>some (!decide (b<a))
 | .In,[c],b=>some (decide (c∈b))
 | .NotIn,[c],b=>some (!decide (c∈b))
 |_,_,_=>none
def Il {op:CmpOp} {a b:List Nat} {c:Bool} (h:∀(A:Around) (s:Shared) (t t':Tok) (Q:Value->Shared->Prop),Q (.bool c) s->WP U w A (compareOp op (.str ⟨⟨a⟩⟩ t) (.str ⟨⟨b⟩⟩ t')) s Q):fi U w V op (.str a) (.str b) c:=λA _ s _ _ _ _ _ hu hv Q k=>
 hu.gi λt _=>hv.gi λt' _=>h A s t t' Q (k s.toks)
def jZ {op:CmpOp} {a b:List Nat} {c:Bool} (h:afZ op a b=some c):fi U w V op (.str a) (.str b) c:=by
 refine Il λA s t t' Q k=>?_
 cases op
 case Eq=>exact P.eq_str (eN h▸k)
 case NotEq=>exact P.ne_str (eN h▸k)
 case LtE=>exact P.le_str (eN h▸k)
 case In=>
  match a,h with
  |[j],h=>exact in_str ((aQ Value.bool (StrLaws.found_one ..)).symm▸eN h▸k)
 case NotIn=>
  match a,h with
  |[j],h=>exact notIn_str ((aQ (λb=>Value.bool (!b)) (StrLaws.found_one ..)).symm▸eN h▸k)
 all_goals exact ns h
def oU {x y:DV} {op:CmpOp} {b c:Bool} (hop:(op=.Is/\c=b)\/(op=.IsNot/\c=!b))
    (hp:∀(P:Params) (G:Gh) (u v:Value),DR P G x u->DR P G y v->plainIs u v=true/\(u==v)=b):fi U w V op x y c:=λA G s u v _ _ _ hu hv Q k=>
 have⟨p,q⟩:=hp _ _ _ _ hu hv
 hop.elim (λh=>by have k:=k s.toks;rw[h.2,<-q] at k;rw[h.1];exact wpAny_is_plain p k) λh=>by have k:=k s.toks;rw[h.2,<-q] at k;rw[h.1];exact wpAny_isNot_plain p k
def isNone (x:DV):Option Bool:=bif Nat.beq x.ctorIdx 0 then none else some (qp x)
def isBool (k:Bool) (x:DV):Option Bool:=bif Nat.beq x.ctorIdx 0 then none else some (Option.rec (motive:=λ_=>Bool) false (· ==k) (mI x))
def yN {x:DV} {b:Bool} {v:Value} {f:DV->Option Bool} (h0:f .any=none) (hn:∀b,f .none=some b->plainIs .none v=true/\(Value.none==v)=b) (hb:∀c b,f (.bool c)=some b->plainIs (.bool c) v=true/\(Value.bool c==v)=b)
    (ho:∀i t,plainIs (.int i t) v=true/\(Value.int i t==v)=false) (hs:∀i t,plainIs (.str i t) v=true/\(Value.str i t==v)=false) (hr:∀a,plainIs (.ref a) v=true/\(Value.ref a==v)=false)
    (h:f x=some b) (hf:∀x,isNone x=some false->mI x=none->f x=some false) (P:Params) (G:Gh) (u:Value) (hu:DR P G x u):plainIs u v=true/\(u==v)=b:=by
 have z:isNone x=some false->mI x=none->b=false:=λh1 h2=>eN (h.symm.trans (hf _ h1 h2))
 cases x with
 |any=>exact sn (h.symm.trans h0)
 |none=>exact hu.uz (hn b h)
 |bool c=>exact hu.k9 (hb c b h)
 |int i=>exact z rfl rfl▸hu.fS (ho i)
 |str i=>exact z rfl rfl▸hu.gi λt _=>hs _ t
 |sint i j=>exact z rfl rfl▸hu.uO (ho _)
 |gP i=>exact z rfl rfl▸hu.sP λt _=>hs _ t
 |rf=>exact z rfl rfl▸hu.rfE hr
 |tup=>exact z rfl rfl▸hu.mF λa _ _ _ _ _=>hr a
 |lst=>exact z rfl rfl▸hu.lu λa _ _ _ _ _=>hr a
 |iK=>exact z rfl rfl▸hu.vo λa _ _ _ _ _=>hr a
 |inst=>exact z rfl rfl▸hu.nU λa _ _ _ _ _ _ _=>hr a
 |self=>exact z rfl rfl▸hu.yW λa _ _=>hr a
 |cls=>exact z rfl rfl▸hu.N2 (hr _)
 |fn=>exact z rfl rfl▸hu.fnE (hr _)
 |bj=>exact z rfl rfl▸hu.Ef λa _ _ _ _=>hr a
def qI {x:DV} {b:Bool} (h:isNone x=some b) (P:Params) (G:Gh) (u v:Value) (hu:DR P G x u) (hv:DR P G .none v):plainIs u v=true/\(u==v)=b:=
 hv.uz (yN rfl (λ_ e=>⟨rfl,eN e⟩) (λ_ _ e=>⟨rfl,eN e⟩) (λ_ _=>⟨rfl,rfl⟩) (λ_ _=>⟨rfl,rfl⟩) (λ_=>⟨rfl,rfl⟩) h (λ_ h _=>h) P G u hu)
def NQ (c k:Bool):(Value.bool c==Value.bool k)=(c==k):=by cases c<;>cases k<;>rfl
def DC {x:DV} {k b:Bool} (h:isBool k x=some b) (P:Params) (G:Gh) (u v:Value) (hu:DR P G x u) (hv:DR P G (.bool k) v):plainIs u v=true/\(u==v)=b:=
 hv.k9 (yN rfl (λ_ e=>⟨rfl,eN e⟩) (λc _ e=>⟨rfl,(NQ c k).trans (eN e)⟩) (λ_ _=>⟨rfl,rfl⟩) (λ_ _=>⟨rfl,rfl⟩) (λ_=>⟨rfl,rfl⟩) h (λx h n=>by
  unfold isBool isNone at*
  rw[n]
  cases q:Nat.beq x.ctorIdx 0 with
  |true=>rw[q] at h;exact ns h
  |false=>rfl) P G u hu)
def vm {l:List Nat}:fi U w V .Eq .none (.str l) false:=λ_ _ s _ _ _ _ _ hu hv _ k=>hu.uz (hv.gi λ_ _=>EqNone.eq_none_str (k s.toks))
def tv {x:DV} {i:Int} (h:intOf V x=some i):fi U w V .Eq .none x false:=λ_ _ s _ _ _ e _ hu hv _ k=>hu.uz (hv.intOf (e▸h) λ_=>EqNone.eq_none_int (k s.toks))
def z7 (op:CmpOp) (z a b:Int):z6 op (z+a) (z+b)=z6 op a b:=by
 have h1:((z+a)==(z+b))=(a==b):=by rw[Bool.eq_iff_iff,iI,iI];lia
 have h2:∀a b:Int,decide (z+a<z+b)=decide (a<b):=λa b=>by rw[decide_eq_decide];lia
 have h3:∀a b:Int,decide (z+a<=z+b)=decide (a<=b):=λa b=>by rw[decide_eq_decide];lia
 cases op<;>first|rfl|exact aQ some h1|exact aQ (λx=>some (!x)) h1|exact aQ some (h2 ..) |exact aQ some (h3 ..)
def binI:Operator->Int->Int->Option Int
 | .Add,a,b=>some (a+b)
 | .Sub,a,b=>some (a - b)
 | .Mult,a,b=>if a.natAbs<2 ^ 32/\b.natAbs<2 ^ 32 then some (a*b) else none
 | .Mod,a,b=>if b=0 then none else some (a.fmod b)
 | .FloorDiv,a,b=>if b=0\/2 ^ 28<=a.natAbs\/2 ^ 28<=b.natAbs then none else some (a.fdiv b)
 |_,_,_=>none
def rS {α:Type} {c:Prop} [Decidable c] {a b:α} (h:(if c then some a else none)=some b):c/\a=b:=by by_cases q:c;rw[d8 q] at h;exact⟨q,eN h⟩;rw[dZ q] at h;exact ns h
def yh {α:Type} {c:Prop} [Decidable c] {a b:α} (h:(if c then none else some a)=some b):¬c/\a=b:=by by_cases q:c;rw[d8 q] at h;exact ns h;rw[dZ q] at h;exact⟨q,eN h⟩
def Zx {a b:Int} (h2:¬2 ^ 28<=a.natAbs) (h3:¬2 ^ 28<=b.natAbs):a.natAbs<2 ^ 28/\b.natAbs<2 ^ 28:=⟨Nat.not_le.mp h2,Nat.not_le.mp h3⟩
def jT {op:Operator} {a b c:Int} (h:binI op a b=some c):qf U w op (.int a) (.int b) (.int c):=λA G s u v _ hu hv Q k=>by
 refine hu.fS λt=>hv.fS λt'=>?_
 have k:∀t n,Q (.int c t) {s with toks:=n}:=λt n=>k _ n ⟨t,rfl⟩
 cases op
 case Add=>rw[<-eN h] at k;exact add_int (k _ _)
 case Sub=>rw[<-eN h] at k;exact sub_int (k _ _)
 case Mod=>have⟨hb,e⟩:=yh h;rw[<-e] at k;exact mod_int' hb (k _ _)
 case FloorDiv=>have⟨hb,e⟩:=yh h;rw[<-e] at k;exact floordiv_int (λq=>hb (.inl q)) (k _ _) (.inl (PyProof.noPylong_small (by lia)))
 case Mult=>have⟨hb,e⟩:=rS h;rw[<-e] at k;exact mul_int (k _ _) (IntMulOk.of_left (intBits_le_64 (by lia) (by lia)))
 all_goals exact ns h
def Fq (op:Operator) (x y:DV):Option DV:=(CC x).bind λp=>(CC y).bind λq=>match op with
 | .Add=>bif p.1.isNone then some (RZ q.1 (p.2+q.2)) else bif q.1.isNone then some (RZ p.1 (p.2+q.2)) else none
 | .Sub=>bif q.1.isNone then some (RZ p.1 (p.2 - q.2)) else bif decide (p.1=q.1) then some (.int (p.2 - q.2)) else none
 |_=>none
def rO (V:Val) (o:Option Nat) {i j:Int} (h:wM V o+i=j):intOf V (RZ o i)=some j:=by
 rw[<-h]
 cases o
 ·exact aQ some (zN _).symm
 ·exact rfl
def Dj (op:Operator) (x y:DV) (V:Val):On (λz=>∃a b,intOf V x=some a/\intOf V y=some b/\((op=.Add/\intOf V z=some (a+b))\/(op=.Sub/\intOf V z=some (a - b)))) (Fq op x y):=
 (qK V x).b λp h1=>(qK V y).b λq h2=>by
   have z:∀{o:Option Nat},o.isNone=true->wM V o=0:=λh=>by rw[SU.mp h];rfl
   cases op<;>first|exact trivial|skip
   ·exact d7 (λc=>⟨_,_,h1,h2,.inl ⟨rfl,rO V _ (by rw[z c];lia)⟩⟩) λ_=>ak λc=>⟨_,_,h1,h2,.inl ⟨rfl,rO V _ (by rw[z c];lia)⟩⟩
   ·exact d7 (λc=>⟨_,_,h1,h2,.inr ⟨rfl,rO V _ (by rw[z c];lia)⟩⟩) λ_=>ak λc=>⟨_,_,h1,h2,.inr ⟨rfl,aQ some (show p.2 - q.2=_ by rw[mQ c];lia)⟩⟩
def Dw {op:Operator} {x y z:DV} (h:Fq op x y=some z):qf U w op x y z:=λA G s u v _ hu hv Q k=>
 mw ((Dj op x y G.V).get h) λa b h1 h2=>(a2 h2 λh2 h3=>hu.intOf h1 λt=>hv.intOf h2 λt'=>h3.elim (λh=>by rw[h.1];exact add_int (k _ _ (.ofInt h.2))) λh=>by rw[h.1];exact sub_int (k _ _ (.ofInt h.2)))
def O1 {op:Operator} {x y z:DV} (h:Fq op x y=some z):Nh U w op x y z:=λA G s u v _ hu hv Q k=>
 mw ((Dj op x y G.V).get h) λa b h1 h2=>(a2 h2 λh2 h3=>hu.intOf h1 λt=>hv.intOf h2 λt'=>h3.elim (λh=>by rw[h.1];exact iadd_int (k _ _ (.ofInt h.2))) λh=>by rw[h.1];exact isub_int (k _ _ (.ofInt h.2)))
def cK {n:Nat} (h:n<=lim):n<=sizeLine:=bw h (by decide)
def EW {a:List Nat} (h:a≠[]):((⟨⟨a⟩⟩:Str).length==0)=false:=by cases a;exact absurd rfl h;rfl
def QK (a b:List Nat):((⟨⟨a⟩⟩:Str)++(⟨⟨b⟩⟩:Str))=(⟨⟨a++b⟩⟩:Str):=Str.ext' (by simp[Str.cps_append])
def lN {a b:List Nat} (hz:a.length+b.length<=lim):qf U w .Add (.str a) (.str b) (.str (a++b)):=λA G s u v _ hu hv Q k=>hu.gi λt z=>hv.gi λt' z'=>P.add_str (by
 have k:∀l t n,l=a++b->Q (.str ⟨⟨l⟩⟩ t) {s with toks:=n}:=λl t n e=>k _ n ⟨t,by rw[e],by rw[da];exact hz⟩
 by_cases h1:a=[]
 ·rw[h1];exact k b t' s.toks (h1▸rfl)
 ·rw[EW h1]
  by_cases h2:b=[]
  ·rw[h2];exact k a t s.toks (h2▸(ti a).symm)
  ·rw[EW h2]
   show(Made.str _).post _ s
   rw[QK]
   exact⟨cK (by show(a++b).length<=lim;rw[da];exact hz),k _ _ _ rfl⟩)
def strsOf (l:List DV):Option (List (List Nat)):=List.rec (motive:=λ_=>Option (List (List Nat))) (some []) (λd _ ih=>match d with| .str a=>ih.map (a::·) |_=>none) l
def strs_map:∀{l:List DV} {ls:List (List Nat)},strsOf l=some ls->l=ls.map .str:=by
 intro l
 induction l with
 |nil=>intro ls h;cases h;rfl
 |cons d l ih=>
  intro ls h
  cases d with
  |str a=>obtain⟨q,hq,e⟩:=xn.mp (show(strsOf l).map (a::·)=some ls from h);rw[<-e,ih hq];rfl
  |_=>exact ns h
def eqS (a:List Nat) (v:Value):Bool:=match v with| .str y _=>y==(⟨⟨a⟩⟩:Str) |_=>false
def Hh {P:Params} {G:Gh} (a:List Nat):∀{ls:List (List Nat)} {vs:List Value},eC P G (ls.map .str) vs->
    (vs.any (eqS a))=ls.contains a/\∀y∈vs,∃x t,y=.str ⟨⟨x⟩⟩ t:=by
 intro ls
 induction ls with
 |nil=>exactλh=>h.jr ⟨rfl,λ_ h=>nomatch h⟩
 |cons x r ih=>
  refineλh=>h.fz λu us h1 h2=>h1.gi λt _=>⟨?_,e9.mpr ⟨⟨x,t,rfl⟩,(ih h2).2⟩⟩
  rw[List.any_cons,(ih h2).1,List.contains_cons]
  congr 1
  show((⟨⟨x⟩⟩:Str)==(⟨⟨a⟩⟩:Str))=(a==x)
  rw[Bool.eq_iff_iff,iI,iI]
  exact⟨λq=>aQ (λs:Str=>s.cps.toList) q.symm,λq=>q▸rfl⟩
def DH {op:CmpOp} {a:List Nat} {l:List DV} {ls:List (List Nat)} {f:Bool->Bool} (h:strsOf l=some ls) (r:∀(A:Around) (s:Shared) (b:Addr) (vs:List Value) (t:Tok) (Q:Value->Shared->Prop),s.heap.IsTuple b ⟨vs⟩->(∀y∈vs,∃x t,y=.str ⟨⟨x⟩⟩ t)->
    Q (.bool (f (vs.any (eqS a)))) s->WP U w A (compareOp op (.str ⟨⟨a⟩⟩ t) (.ref b)) s Q):fi U w V op (.str a) (.tup l) (f (ls.contains a)):=λA G s u v _ _ hp hu hv Q k=>
 hu.gi λt _=>hv.mF λb vs n hg _ hd=>by
  obtain⟨e1,e2⟩:=Hh a (strs_map h▸hd)
  exact r A s b vs t Q ⟨_,hp _ _ hg,rfl,n,rfl⟩ e2 (by rw[e1];exact k s.toks)
def EV {A:Around} {s:Shared} {a:List Nat} {t:Tok} {vs:List Value} (h:∀y∈vs,∃x t,y=.str ⟨⟨x⟩⟩ t) (y:Value) (hy:y∈(⟨vs⟩:Array Value)):SeqAt.EqAt A s y (.str ⟨⟨a⟩⟩ t) (eqS a y):=
 cV (h y (Array.mem_def.mp hy)) λx t' e=>by rw[e];exact SeqAt.EqAt.str_str _ _ _ _
def z9 {a:List Nat} {l:List DV} {ls:List (List Nat)} (h:strsOf l=some ls):fi U w V .In (.str a) (.tup l) (ls.contains a):=DH (f:=id) h λA s b vs t Q ht hy k=>
 SeqAt.in_tupleAt (items:=⟨vs⟩) (eqS a) ht (EV hy) (by rw[List.any_toArray];exact k)
def tA {a:List Nat} {l:List DV} {ls:List (List Nat)} (h:strsOf l=some ls):fi U w V .NotIn (.str a) (.tup l) (!ls.contains a):=DH (f:=not) h λA s b vs t Q ht hy k=>
 SeqAt.notIn_tupleAt (items:=⟨vs⟩) (eqS a) ht (EV hy) (by rw[List.any_toArray];exact k)
end
section
variable {U:Program} {w:World} {C:Nat} {K:Frag} {Y:Base} {sc:Scope} {d:Nat} {Z aa ah cC:aj}
def dI.low {A:Around} (h:dI A d):dI A 0:=have r:∀{x k c L:Nat},x+k*d+c<=L->x+k*0+c<=L:=λh=>bw (ZI (xl (Nat.mul_le_mul_left _ (ju d)) _) _) h
 ⟨r h.depth,r h.units,h.handled⟩
def Later.tk {O:Addr->Prop} {G G':Gh} {s s':Shared} {t:Nat} (l:Later O G s G' s'):Later O G s G' {s' with toks:=t}:=⟨l.sub,l.qk,l.anew,l.pe,l.kept,l.tN,l.size,l.gens,l.os⟩
def wu {dE cv:Expr} {op:CmpOp} {pos:Pos} {x y:DV} {b:Bool} (cf:aC U w C Y sc d dE Z x aa) (cP:aC U w C Y sc d cv aa y ah) (h:fi U w Y.V op x y b) (hm:behindInMarks op cv=false):
    aC U w C Y sc d (.Compare dE [op] [cv] pos) Z (.bool b) ah:=λA G L s env ro eo R _ k=>
 wpAny_Compare1 (cf A G L s env ro eo R _ λaz u ax aB aH aV=>cP A az L ax env ro eo aB _ λaD v ay aE aJ cA=>
  h A aD ay u v ro.low aE.val aE.pins (aV.mono aJ.sub) cA _ λ_=>k aD _ _ aE.toks (aH.aO aJ).tk rfl) hm
def wZ {dE cv:Expr} {op:CmpOp} {pos:Pos} {x y:DV} {b:Bool} (cf:aC U w C Y sc d dE Z x aa) (cP:aC U w C Y sc d cv aa y ah) (h:fi U w Y.V op x y b) (hm:behindInMarks op cv=false):
    bu U w C Y sc d (.Compare dE [op] [cv] pos) Z b ah:=λA G L s env ro eo R _ k=>
 wpAny_isTrue_Compare1 (cf A G L s env ro eo R _ λaz u ax aB aH aV=>cP A az L ax env ro eo aB _ λaD v ay aE aJ cA=>
  h A aD ay u v ro.low aE.val aE.pins (aV.mono aJ.sub) cA _ λ_=>Zh (k aD _ aE.toks (aH.aO aJ).tk)) hm
def me {dE cv:Expr} {op:Operator} {pos:Pos} {x y z:DV} (cf:aC U w C Y sc d dE Z x aa) (cP:aC U w C Y sc d cv aa y ah) (h:qf U w op x y z):aC U w C Y sc d (.BinOp dE op cv pos) Z z ah:=λA G L s env ro eo R Q k=>
 show WP U w A (eval dE env >>= λa=>holding [a] (eval cv env) >>= λb=>standAt pos >>= λ_=>operate [a,b] (binaryOp op a b)) s Q from
 eO (cf A G L s env ro eo R _ λaz u ax aB aH aV=>eO (Nc (cP A az L ax env ro eo aB _ λaD v ay aE aJ cA=>eO (Rt (wpAny_operate'
  (h A aD ay u v ro.low (aV.mono aJ.sub) cA _ λr _ q=>k aD r _ aE.toks (aH.aO aJ).tk q))))))
def Fb {e:Expr} {pos:Pos} {b:Bool} (h:bu U w C Y sc d e Z b aa):bu U w C Y sc d (.UnaryOp .Not e pos) Z (!b) aa:=λA G L s env ro eo R _ k=>isTrue_not (h A G L s env ro eo R _ k)
def ji {pos:Pos}:bu U w C Y sc d (.BoolOp .And [] pos) Z true Z:=λ_ G _ s _ _ _ R _ k=>isTrue_and_nil (k G s R (.refl _ _ _))
def td {pos:Pos}:bu U w C Y sc d (.BoolOp .Or [] pos) Z false Z:=λ_ G _ s _ _ _ R _ k=>isTrue_or_nil (k G s R (.refl _ _ _))
def jh {e:Expr} {es:List Expr} {pos:Pos} {c b:Bool} (h:bu U w C Y sc d e Z c aa) (k:if c then bu U w C Y sc d (.BoolOp .And es pos) aa b ah else b=false/\ah=aa):bu U w C Y sc d (.BoolOp .And (e::es) pos) Z b ah:=λA G L s env ro eo R _ kk=>
 isTrue_and (whole:=eval (.BoolOp .And (e::es) pos) env) (h A G L s env ro eo R _ λG' s' R' l=>by
  cases c with
  |true=>exact k A G' L s' env ro eo R' _ λxd CR S4 l'=>kk xd CR S4 (l.aO l')
  |false=>obtain⟨rfl,rfl⟩:=k;exact kk G' s' R' l)
def w2 {e:Expr} {es:List Expr} {pos:Pos} {c b:Bool} (h:bu U w C Y sc d e Z c aa) (k:if c then b=true/\ah=aa else bu U w C Y sc d (.BoolOp .Or es pos) aa b ah):bu U w C Y sc d (.BoolOp .Or (e::es) pos) Z b ah:=λA G L s env ro eo R _ kk=>
 isTrue_or (whole:=eval (.BoolOp .Or (e::es) pos) env) (h A G L s env ro eo R _ λG' s' R' l=>by
  cases c with
  |false=>exact k A G' L s' env ro eo R' _ λxd CR S4 l'=>kk xd CR S4 (l.aO l')
  |true=>obtain⟨rfl,rfl⟩:=k;exact kk G' s' R' l)
def mE (x:DV):Option Bool:=@DV.casesOn (λ_=>Option Bool) x none none (some false) some (λi=>some (i != 0)) (λl=>some (!l.isEmpty)) (λ_ _=>none) (λ_=>none) (λl=>some (!l.isEmpty)) (λl=>some (!l.isEmpty)) (λ_=>none) (λ_ _=>none) none (λ_=>none) (λ_=>none) λ_=>some true
def mM:typeLookup (.type "method") "__bool__"=pure none:=by rw[typeLookup_type,builtinLookup_eq_fast];kernel_rfl
def od:typeLookup (.type "method") "__len__"=pure none:=by rw[typeLookup_type,builtinLookup_eq_fast];kernel_rfl
def UO {α β:Type} {l:List α} {m:List β} (h:l.length=m.length):((m.length:Int) != 0)=!l.isEmpty:=by cases l<;>cases m<;>first|rfl|cases h
def xU {α β:Type} {l:List α} {m:List β} (h:l.length=m.length):(!(⟨m⟩:Array β).isEmpty)=!l.isEmpty:=by cases l<;>cases m<;>first|rfl|cases h
def vP {n:Nat} (h:n<=lim):(n:Int)<2 ^ 63:=Int.lt_of_le_of_lt (zM.mpr h) (by decide)
def zu {A:Around} {G:Gh} {s:Shared} {l:List DV} {a:Addr} {vs:List Value} {n:Nat} {Q:Bool->Shared->Prop} (g:s.heap.get? a=some (bG vs n)) (z:vs.length<=lim) (r:eC w.params G l vs) (k:∀t,Q (!l.isEmpty) {s with toks:=t}):WP U w A (truthy (.ref a)) s Q:=
 wpAny_truthy_list (items:=⟨vs⟩) ⟨_,g,rfl,n,rfl⟩ (vP z) (xU r.length▸k _)
def MF {A:Around} {s:Shared} {m:Addr} {Q:Bool->Shared->Prop} (hT:s.TypeIs (.ref m) "method") (k:Q true s):WP U w A (truthy (.ref m)) s Q:=by
 show wpAny _ _ (truthy _) _ _ _
 unfold truthy
 first
  |refine eO (wpAny_callSpecial?_none (name:=Str.ofString "__bool__") hT mM ?_)
  |refine eO (k5 (eO (wpAny_callSpecial?_none (name:=Str.ofString "__bool__") hT mM ?_)))
 first
  |refine eO (wpAny_specialOf (name:=Str.ofString "__len__") hT od ?_)
  |refine eO (k5 (eO (wpAny_specialOf (name:=Str.ofString "__len__") hT od ?_)))
 exact k5 k
def wW {A:Around} {G:Gh} {s:Shared} {x:DV} {u:Value} {b:Bool} {Q:Bool->Shared->Prop} (hp:∀c o,G.g c=some o->s.heap.get? c=some o) (h:mE x=some b) (hu:DR w.params G x u) (k:∀t,Q b {s with toks:=t}):WP U w A (truthy u) s Q:=by
 cases x with
 |none=>exact hu.uz (k5 (eN h▸k s.toks))
 |bool c=>exact hu.k9 (Zh (eN h▸k s.toks))
 |int i=>exact hu.fS λt=>truthy_int (eN h▸k s.toks)
 |str l=>rw[<-eN h] at k;exact hu.gi λt z=>P.truthy_str (λq=>absurd (vP z) (Int.not_lt.mpr q)) (UO (rfl:l.length=l.length)▸k _)
 |tup l=>rw[<-eN h] at k;exact hu.mF λa vs n g z r=>truthy_tuple (items:=⟨vs⟩) ⟨_,hp _ _ g,rfl,n,rfl⟩ (vP z) (xU r.length▸k _)
 |lst l=>rw[<-eN h] at k;exact hu.lu λa vs n g z r=>zu (hp _ _ g) z r k
 |bj f=>rw[<-eN h] at k;exact hu.Ef λm p d _ hm=>MF ⟨_,hp _ _ hm,rfl⟩ (k s.toks)
 |_=>exact ns h
def w5 {e:Expr} {x:DV} {b:Bool} (h:aC U w C Y sc d e Z x aa) (ht:mE x=some b)
    (he:∀env,isTrue e env (eval e env)=(do let v<-eval e env;standAt e.pos;holding [v] (truthy v))):bu U w C Y sc d e Z b aa:=λA G L s env ro eo R _ k=>
 isTrue_plain (h A G L s env ro eo R _ λaz u ax aB aH aV=>wW aB.pins ht aV λ_=>k az _ aB.toks aH.tk) (he env)
def Qx {e:Expr} {pos:Pos} {x:DV} {b:Bool} (h:aC U w C Y sc d e Z x aa) (ht:mE x=some b):aC U w C Y sc d (.UnaryOp .Not e pos) Z (.bool (!b)) aa:=λA G L s env ro eo R _ k=>
 wpAny_UnaryOp (h A G L s env ro eo R _ λaz u ax aB aH aV=>not_of (wW aB.pins ht aV λ_=>k az _ _ aB.toks aH.tk rfl))
def EL {e:Expr} {pos:Pos} {i:Int} (h:aC U w C Y sc d e Z (.int i) aa):aC U w C Y sc d (.UnaryOp .USub e pos) Z (.int (-i)) aa:=λA G L s env ro eo R _ k=>
 wpAny_UnaryOp (h A G L s env ro eo R _ λaz u ax aB aH aV=>aV.fS λt=>neg_int (k az _ _ aB.toks aH.tk ⟨_,rfl⟩))
def sJ {t b o:Expr} {pos:Pos} {c:Bool} {r:Res} (h:bu U w C Y sc d t Z c aa) (k:cO U w C Y sc d (if c then b else o) aa r ah):cO U w C Y sc d (.IfExp t b o pos) Z r ah:=λA G L s env ro eo R _ kk=>
 wpAny_IfExp (h A G L s env ro eo R _ λG' s' R' l=>by
  have k:=k A G' L s' env ro eo R' _ λxd v CR S4 l' q=>kk xd v CR S4 (l.aO l') (q.low l.size)
  cases c<;>exact k)
def G8 {op:BoolOp} {e:Expr} {pos:Pos} {x:DV} (h:aC U w C Y sc d e Z x aa):aC U w C Y sc d (.BoolOp op [e] pos) Z x aa:=h
def sI {op:BoolOp} {e e':Expr} {es:List Expr} {pos:Pos} {x y:DV} {c stop:Bool} (h:aC U w C Y sc d e Z x aa) (ht:mE x=some c) (hs:stop=(match op,c with| .And,false| .Or,true=>true|_,_=>false))
    (k:if stop then y=x/\ah=aa else aC U w C Y sc d (.BoolOp op (e'::es) pos) aa y ah):aC U w C Y sc d (.BoolOp op (e::e'::es) pos) Z y ah:=λA G L s env ro eo R Q kk=>
 show WP U w A (eval e env >>= λv=>standAt pos >>= λ_=>holding [v] (truthy v) >>= λt=>match op,t with| .And,false| .Or,true=>pure v|_,_=>boolOp pos op (evalEach (e'::es) env)) s Q from
 eO (h A G L s env ro eo R _ λaz u ax aB aH aV=>eO (Rt (eO (Nc (wW aB.pins ht aV λt=>by
  have go:stop=false->WP U w A (boolOp pos op (evalEach (e'::es) env)) {ax with toks:=t} Q:=λz=>by
   subst z
   exact k A az L _ env ro eo aB.toks _ λxd v CR S4 l' q=>kk xd v CR S4 (aH.tk.aO l') q
  have fin:stop=true->Q u {ax with toks:=t}:=λz=>by
   subst z
   obtain⟨rfl,rfl⟩:=k
   exact kk az u _ aB.toks aH.tk aV
  cases op<;>cases c<;>first|exact go hs|exact k5 (fin hs))))))
def EJ {e e':Expr} {es:List Expr} {pos:Pos} {x y:DV} {c:Bool} (h:aC U w C Y sc d e Z x aa) (ht:mE x=some c)
    (k:if c then aC U w C Y sc d (.BoolOp .And (e'::es) pos) aa y ah else y=x/\ah=aa):aC U w C Y sc d (.BoolOp .And (e::e'::es) pos) Z y ah:=sI (stop:=!c) h ht (by cases c<;>rfl) (by cases c<;>exact k)
def L8 {e e':Expr} {es:List Expr} {pos:Pos} {x y:DV} {c:Bool} (h:aC U w C Y sc d e Z x aa) (ht:mE x=some c)
    (k:if c then y=x/\ah=aa else aC U w C Y sc d (.BoolOp .Or (e'::es) pos) aa y ah):aC U w C Y sc d (.BoolOp .Or (e::e'::es) pos) Z y ah:=sI (stop:=c) h ht (by cases c<;>rfl) k
end
def hU (x:Str) (e:DictEntry) (n:Str) (t:Tok) (he:e.key=.str n t) (es:List DictEntry):getL x (e::es)=if n=x then some (some e.val) else getL x es:=by
 unfold getL
 have h1:e.key.isStr x=decide (n=x):=by rw[he];rfl
 have h2:e.refKey=false:=by obtain⟨a,b,c⟩:=e;cases he;rfl
 rw[List.find?_cons,h1,List.any_cons,h2,Bool.false_or]
 by_cases q:n=x
 ·rw[HI q,d8 q]
 ·rw[Hy q,dZ q]
@[elab_as_elim] def qY.ind {P:List DictEntry->Prop} {es:List DictEntry} (h:qY es) (h0:P []) (h1:∀e r n t,e.key=.str n t->qY r->P r->P (e::r)):P es:=by
  induction es with
  |nil=>exact h0
  |cons e r ih=>have⟨a,b⟩:=e9.mp h;exact a.elim λn a=>a.elim λt a=>h1 e r n t a b (ih b)
def qY.some {es:List DictEntry} (x:Str) (h:qY es):(getL x es).isSome=true:=h.ind rfl λe r n t he _ ih=>by
 rw[hU x e n t he];by_cases q:n=x;rw[d8 q];rfl;rw[dZ q];exact ih
def pE (x:Str) (h:Int) (k v:Value) (e:DictEntry) (n:Str) (t:Tok) (he:e.key=.str n t) (r:List DictEntry):putL x h k v (e::r)=if n=x then⟨e.hash,e.key,v⟩::r else e::putL x h k v r:=by
 rw[putL,show e.key.isStr x=decide (n=x) by rw[he];rfl]
 by_cases q:n=x
 ·rw[HI q,d8 q,d8 rfl]
 ·rw[Hy q,dZ q,dZ Bool.false_ne_true]
section
variable {x:Str} {h:Int} {t:Tok} {v:Value} {es:List DictEntry} (K:qY es)
include K
theorem qY.put:qY (putL x h (.str x t) v es):=K.ind (e9.mpr ⟨⟨x,t,rfl⟩,λ_ h=>nomatch h⟩) (λe r n t' he K ih=>by
 rw[pE _ _ _ _ e n t' he]
 by_cases q:n=x
 ·rw[d8 q];exact e9.mpr ⟨⟨n,t',he⟩,K⟩
 ·rw[dZ q];exact e9.mpr ⟨⟨n,t',he⟩,ih⟩)
theorem uj (y:Str):getL y (putL x h (.str x t) v es)=if y=x then some (some v) else getL y es:=K.ind ((hU y ⟨h,.str x t,v⟩ x t rfl []).trans (by
 by_cases q:y=x
 ·rw[d8 q,d8 q.symm]
 ·rw[dZ q,dZ λz=>q z.symm])) λe r n t' he _ ih=>by
 rw[pE _ _ _ _ e n t' he,hU y e n t' he]
 by_cases q:n=x
 ·rw[d8 q,hU y ⟨e.hash,e.key,v⟩ n t' he,q]
  by_cases z:y=x
  ·rw[d8 z,d8 z.symm]
  ·rw[dZ z,dZ λy=>z y.symm,dZ λy=>z y.symm]
 ·rw[dZ q,hU y e n t' he,ih]
  by_cases z:n=y
  ·rw[d8 z,d8 z,dZ λw=>q (z.trans w)]
  ·rw[dZ z,dZ z]
theorem so:(putL x h (.str x t) v es).length<=es.length+1/\∀u,getL x es=some (some u)->(putL x h (.str x t) v es).length=es.length:=K.ind ⟨fy _,λ_ h=>nomatch h⟩ λe r n t' he _ ih=>by
 rw[pE _ _ _ _ e n t' he,hU x e n t' he]
 by_cases q:n=x
 ·rw[d8 q];exact⟨Nat.le_succ _,λ_ _=>rfl⟩
 ·rw[dZ q,dZ q];exact⟨Rr ih.1,λu e=>aQ (· +1) (ih.2 u e)⟩
end
def ou {α:Type} (l:List (Str×α)) (x:Str) (v:α):(look l x=none->(put l x v).length=l.length+1)/\∀u,look l x=some u->(put l x v).length=l.length:=by
 induction l with
 |nil=>exact⟨λ_=>rfl,λ_ h=>nomatch h⟩
 |cons p r ih=>
  rw[dj,show put (p::r) x v=if p.1=x then(x,v)::r else p::put r x v from rfl]
  by_cases q:p.1=x
  ·rw[d8 q,d8 q];exact⟨(λh=>nomatch h),λ_ _=>rfl⟩
  ·rw[dZ q,dZ q];exact⟨λe=>aQ (· +1) (ih.1 e),λu e=>aQ (· +1) (ih.2 u e)⟩
def bN (K:Frag) (C:Nat):Bool:=plainGet K C "x"&&hasDictIn K C
def d9 (K:Frag) (C:Nat) (x:Str):Bool:=(findIn K (.ref C) x).any λa=>noGet K a
def jl (K:Frag) (C:Nat) (x:Str) (v:Value):Bool:=findIn K (.ref C) x==some (some v)&&specialIn K v "__get__"==some none&&handedIn v&&!copiedNames.contains x
section
variable {U:Program} {w:World} {C:Nat} {K:Frag} {Y:Base} {sc:Scope} {d:Nat} {Z aa ah:aj} {A:Around} {G:Gh} {L:Addr} {s:Shared} {Q:Value->Shared->Prop} {x:Str} {c:Nat} {v:Value} {p dd:Addr} {es:List DictEntry} {n:Nat}
def g8 (h:bN K c=true):findIn K (.ref c) "__getattribute__"=some (some (.builtin "object.__getattribute__"))/\hasDictIn K c=true:=⟨(plainGet_of (aw h).1).1,(aw h).2⟩
def get_own {ox:Obj} (X:K.In s.heap) (I:InstAt s.heap p ox c (some (dictOf es n))) (hc:bN K c=true) (ha:d9 K c x=true) (hv:getL x es=some (some v)) (hh:handedIn v=true) (k:∀t,Q v {s with toks:=t}):WP U w A (getAttr (.ref p) x true) s Q:=
 bx (any_some ha) λ_ e1 e2=>get_value X I (g8 hc).1 (findObj_own (g8 hc).2 e1 e2 hv) hh (k _)
def uk {ox:Obj} (X:K.In s.heap) (I:InstAt s.heap p ox c (some (dictOf es n))) (hc:bN K c=true) (ha:jl K c x v=true) (hv:getL x es=some none) (k:∀t,Q v {s with toks:=t}):WP U w A (getAttr (.ref p) x true) s Q:=by
 have⟨h,a4⟩:=aw ha
 have⟨h,a3⟩:=aw h
 have⟨a1,a2⟩:=aw h
 exact get_value X I (g8 hc).1 (findObj_cls (g8 hc).2 (iI.mp a1) (iI.mp a2) a3 (Rl _▸a4) hv) a3 (k _)
def OD {fs:List (Str×DV)} {u:Value} {v:DV} (T:cQ K Y) (R:Rep w.params C Y G L Z s) (hu:DR w.params G (.inst c fs) u) (hc:bN K c=true) (ha:d9 K c x=true) (hx:look fs x=some v) (k:∀r t,DR w.params G v r->Q r {s with toks:=t}):
    WP U w A (getAttr u x true) s Q:=hu.nU λa d es n h1 h2 _ k1=>bx (k1 x v hx) λr hg hd=>get_own (fm T R) ⟨R.pins _ _ h1,rfl,rfl,R.pins _ _ h2⟩ hc ha hg hd.handed λt=>k r t hd
def Aq {fs:List (Str×DV)} {u:Value} (T:cQ K Y) (R:Rep w.params C Y G L Z s) (hu:DR w.params G (.inst c fs) u) (hc:bN K c=true) (ha:jl K c x v=true) (hx:look fs x=none) (k:∀t,Q v {s with toks:=t}):
    WP U w A (getAttr u x true) s Q:=hu.nU λa d es n h1 h2 k2 _=>uk (fm T R) ⟨R.pins _ _ h1,rfl,rfl,R.pins _ _ h2⟩ hc ha (k2 x hx) k
@[elab_as_elim] def gs {as:List (Str×ae)} {u:Value} {Q:Value->Prop} (hu:DR w.params G .self u) (R:cu w.params C Y G (some as) s) (k:∀p dd es n,mH w.params C G s.heap as p dd es n->InstAt s.heap p (wh dd C) C (some (dictOf es n))->Q (.ref p)):Q u:=
  hu.yW λp d hp=>cV R.attr λp' d' q=>cV q λes n A=>by
   have e:=hp.symm.trans A.par
   cases e
   exact k _ _ es n A ⟨R.pins _ _ A.inst,rfl,rfl,A.dict⟩
def mH.none {P:Params} {h:Heap} {as:List (Str×ae)} (A:mH P C G h as p dd es n) (hx:look as x=none):getL x es=some none:=xu (A.sl.miss x hx) (A.str.some x)
variable {as:List (Str×ae)} {u:Value} (T:cQ K Y) (hu:DR w.params G .self u) (R:cu w.params C Y G (some as) s) (hc:bN K C=true)
include T hu R hc
theorem get_slot {k:ae} (ha:d9 K C x=true) (hx:look as x=some k) (kk:∀r t dd,AttAt G s x r->bD w.params G s.heap (λa=>G.OA a/\a≠dd) k r->Q r {s with toks:=t}):WP U w A (getAttr u x true) s Q:=
 gs hu R λp dd es n A I=>bx (A.sl.hit x k hx) λv hv ok=>get_own (lU T R) I hc ha (gC hv) ok.handed λt=>kk v t dd ⟨p,dd,es,n,A.par,A.dict,hv⟩ ok
theorem x8 {z:DV} (ha:d9 K C x=true) (hx:look as x=some (.pv z)) (k:∀r t,DR w.params G z r->Q r {s with toks:=t}):WP U w A (getAttr u x true) s Q:=get_slot T hu R hc ha hx λr t _ _ ok=>k r t ok
theorem x9 (ha:jl K C x v=true) (hx:look as x=none) (k:∀t,Q v {s with toks:=t}):WP U w A (getAttr u x true) s Q:=gs hu R λ_ _ _ _ A I=>uk (lU T R) I hc ha (A.none hx) k
end
def hH (K:Frag) (C:Nat) (x:Str):Bool:=findIn K (.ref C) "__setattr__"==some (some (.builtin "object.__setattr__"))&&plainOver K C&&takerIn K C x==some none&&hasDictIn K C
section
variable {U:Program} {w:World} {K:Frag} {A:Around} {s:Shared} {E:Value->Shared->Prop}
def Hf {p dd c:Addr} {es:List DictEntry} {n:Nat} {x:Str} {v:Value} {Q:Unit->Shared->Prop} (X:K.In s.heap) (I:InstAt s.heap p (wh dd c) c (some (dictOf es n))) (hd:s.heap.get? dd=some (dictOf es n)) (hf:hH K c x=true)
    (hs:qY es) (hz:(putL x (PyData.keyHash w.params x) (.str x (s.toks+1)) v es).length<=1000)
    (h:Q () {s with heap:=s.heap.update dd (Obj.putName x (PyData.keyHash w.params x) (.str x (s.toks+1)) v),toks:=s.toks+2}):wpAny (model U w) A (setAttr (.ref p) x v) Q E s:=by
 have⟨hf,f4⟩:=aw hf
 have⟨hf,f3⟩:=aw hf
 have⟨f1,f2⟩:=aw hf
 refine set_plain X I (iI.mp f1) (osa_open (s:={s with toks:=s.toks+1}) X I f2 (iI.mp f3) λb=>bx (any_some f4) λcd hc RJ=>?_)
 have hp:({s with toks:=s.toks+1}:Shared).heap.get? p=some (wh dd c):=I.at_
 have Ar:({s with toks:=s.toks+1}:Shared).heap.get? dd=some (dictOf es n):=hd
 have ON:(s.heap.update dd (Obj.putName x (PyData.keyHash w.params x) (.str x (s.toks+1)) v)).get? dd=some (dictOf (putL x (PyData.keyHash w.params x) (.str x (s.toks+1)) v es) (putN x es n)):=by
  rw[<-putName_dict]
  exact Heap.get?_update_self _ hd (by rw[putName_dict];rfl)
 have hnr:(!es.toArray.any (·.key.isStr x)&&es.toArray.any (·.refKey))=false:=by
  rw[List.any_toArray,List.any_toArray,show es.any (·.refKey)=false from hs.ind rfl λe r n t he _ ih=>by
   rw[List.any_cons,ih];obtain⟨a,b,c⟩:=e;cases he;rfl,Bool.and_false]
 refine eO (k5 (eO (eO (wpAny_loadPart hp (eO (looks_clsIn X hc _ _ _ _ (λ_ _ e=>e) ?_))))))
 rw[RJ]
 refine k5 (a:=some dd) (eO (k5 (eO ?_)))
 unfold nsSet
 refine eO (eO (wpAny_askSetting (k5 (eO (wpAny_mkText (eO (wpAny_loadPart Ar ?_)))))))
 dsimp only
 rw[aRefKeyMayBeTheName_at,hnr]
 exact wpAny_updatePart hd (eO (wpAny_lookBehind ON (pastItsLine_dict (by rw[Ze,sizeLine_eq];lia)) (k5 h)))
end
section
variable {P:Params} {C:Nat} {Y:Base} {G:Gh} {L:Addr} {Z:aj} {s:Shared} {t:Nat}
def Ny {es:List DictEntry} (K:qY es) {x:Str} {h:Int} {tk:Tok} {v:Value}:jS (putL x h (.str x tk) v es) x=some v/\∀y,y≠x->jS (putL x h (.str x tk) v es) y=jS es y:=
 ⟨aQ Option.join ((uj K x).trans (d8 rfl)),λy q=>aQ Option.join ((uj K y).trans (dZ q))⟩
def Rep.Mb {as loc:List (Str×ae)} {p dd:Addr} {es:List DictEntry} {n:Nat} {x:Str} {k:ae} {v:Value} {hh:Int} {tk:Nat} (R:Rep P C Y G L ⟨some as,loc⟩ s) (A:mH P C G s.heap as p dd es n) (jA:x∈fu->look as x=none)
    (hk:bD P G s.heap (λa=>G.OA a/\a≠dd) k v) (one:k.mut=true->∀y ky,y≠x->look as y=some ky->ky.mut=true->jS es y≠some v):
    Rep P C Y G L ⟨some (put as x k),loc⟩ {s with heap:=s.heap.update dd (Obj.putName x hh (.str x tk) v),toks:=t}/\Later G.O G s G {s with heap:=s.heap.update dd (Obj.putName x hh (.str x tk) v),toks:=t}:=by
 have up:∀b o,b≠dd->s.heap.get? b=some o->(s.heap.update dd (Obj.putName x hh (.str x tk) v)).get? b=some o:=λb o q e=>(Heap.get?_update_ne _ _ _ _ q).trans e
 have z:s.heap.objs.size<=(s.heap.update dd (Obj.putName x hh (.str x tk) v)).objs.size:=iU (Heap.size_update ..).symm
 have ON:(s.heap.update dd (Obj.putName x hh (.str x tk) v)).get? dd=some (dictOf (putL x hh (.str x tk) v es) (putN x es n)):=by
  rw[<-putName_dict]
  exact Heap.get?_update_self _ A.dict (by rw[putName_dict];rfl)
 have nL:∀b,G.OL b->b≠dd:=λb q e=>R.apart dd A.own (e▸q)
 have av:=Ny (x:=x) (h:=hh) (tk:=tk) (v:=v) A.str
 refine⟨⟨⟨λb o h=>up b o (oF (R.fM dd A.own).1 h) (R.pins b o h),R.dU,R.val,λb q=>⟨(R.fM b q).1,qu (R.fM b q).2 z⟩,λb q=>⟨(R.fG b q).1,qu (R.fG b q).2 z⟩,R.apart,
  p,dd,_,_,A.par,A.inst,A.own,ON,?_,A.str.put,A.sl.G0 x k v av.1 av.2 (hk.mono (.refl G) (λa o q=>up a o q.2) λ_ q=>q) (λy ky u _ _ _ h=>h.mono (.refl G) (λa o q=>up a o q.2) λ_ q=>q) one⟩,
  R.fB,bx R.locs λm hm hs=>⟨m,hm.at λo=>up L o (nL L R.fB),hs.mono (.refl G) (λa o q=>up a o (nL a q.1)) λ_ q=>q⟩⟩,
  .same (λb o h q=>up b o (λe=>q (.inl (e▸A.own))) h) (λy hy u q=>R.vg q λvd p' d' tH m e h A'=>?_) z rfl rfl⟩
 ·have l:=A.len
  cases q:look as x with
  |none=>rw[(ou as x k).1 q];exact bw (so A.str).1 (Rr l)
  |some k'=>rw[(ou as x k).2 k' q];exact bx (A.sl.hit x k' q) λu hu _=>((so A.str).2 u (gC hu)).symm▸l
 ·cases e
  have e:=A.par.symm.trans A'.par
  cases e
  have e:=rC (eN (A.dict.symm.trans A'.dict))
  cases e
  exact⟨p,dd,_,_,A.par,ON,(av.2 y λz=>sn (h.symm.trans (A.sl.miss y (z▸jA (z▸hy))))).trans h⟩
def Rep.MH {p:Pl} {a:Addr} {k k':ae} {h':Heap} (sb:Heap.SameBut a s.heap h') (R:Rep P C Y G L Z s) (x:At G L s p a) (h:p.get Z=some k) (km:k.mut=true) (ok:∀O:Addr->Prop,O a->bD P G h' O k' (.ref a)):
    Rep P C Y G L (p.set Z k') {s with heap:=h',toks:=t}/\Later (p.Qj G) G s G {s with heap:=h',toks:=t}:=by
 have up:∀b o,b≠a->s.heap.get? b=some o->h'.get? b=some o:=λb o n e=>(sb.2 b n).trans e
 have z:s.heap.objs.size<=h'.objs.size:=iU sb.1.symm
 obtain⟨aq,loc⟩:=Z
 cases p with
 |loc n=>
  refine bx x λm h1 h2=>bx R.locs λm' hm hs=>?_
  cases oh h1 hm
  have o:=bx (hs.hit n k h) λv hv ok=>(eN (hv.symm.trans h2)▸ok:bD P G s.heap (λa=>G.OL a/\a≠L) k (.ref a)).at km
  have aA:∀b,G.OA b->b≠a:=λb q e=>R.apart b q (e▸o.1)
  exact⟨⟨R.tocu.keep (λb x h=>up b x (oF (R.fG a o.1).1 h)) (λb x q=>up b x (aA b q)) z,R.fB,m,hm.at λx=>up L x o.2.symm,hs.upd h km h2 up (ok _ o)⟩,
   .same (λb x e q=>up b x (λz=>q (.inr (z▸o.1))) e) (λy _ u q=>gq q λp d es q=>ua q λn h1 h2 h3=>⟨p,d,es,n,h1,up d _ (aA d (R.Ex h1)) h2,h3⟩) z rfl rfl⟩
 |aq n=>
  refine R.vg x λas p d es j e hv A=>?_
  cases e
  have o:=bx (A.sl.hit n k h) λv hv' ok=>(eN (hv'.symm.trans hv)▸ok:bD P G s.heap (λa=>G.OA a/\a≠d) k (.ref a)).at km
  have aL:∀b,G.OL b->b≠a:=λb q e=>R.apart a o.1 (e▸q)
  exact⟨⟨⟨λb x h=>up b x (oF (R.fM a o.1).1 h) (R.pins b x h),R.dU,R.val,λb q=>⟨(R.fM b q).1,qu (R.fM b q).2 z⟩,λb q=>⟨(R.fG b q).1,qu (R.fG b q).2 z⟩,R.apart,
   p,d,es,j,A.par,A.inst,A.own,up d _ o.2.symm A.dict,((ou as n k').2 k h).symm▸A.len,A.str,A.sl.upd h km hv up (ok _ o)⟩,R.fB,
   bx R.locs λm hm hs=>⟨m,hm.at λx=>up L x (aL L R.fB),hs.mono (.refl G) (λb x q=>up b x (aL b q.1)) λ_ q=>q⟩⟩,
   .same (λb x e q=>up b x (λz=>q (z▸o.1)) e) (λy _ u q=>gq q λp' d' es q=>ua q λn h1 h2 h3=>⟨p',d',es,n,h1,up d' _ (λe=>o.2 (by have:=h1.symm.trans A.par;cases this;exact e.symm)) h2,h3⟩) z rfl rfl⟩
def Rep.turn {p:Pl} {a:Addr} {k k':ae} {f:Obj->Obj} (R:Rep P C Y G L Z s) (x:At G L s p a) (h:p.get Z=some k) (km:k.mut=true) (ok:∀O:Addr->Prop,O a->bD P G (s.heap.update a f) O k' (.ref a)):
    Rep P C Y G L (p.set Z k') {s with heap:=s.heap.update a f,toks:=t}/\Later (p.Qj G) G s G {s with heap:=s.heap.update a f,toks:=t}:=R.MH (Heap.SameBut.update ..) x h km ok
def Later.turn {p:Pl} {eD G':Gh} {eL s':Shared} (l:Later eD.OA eD eL G s) (l':Later (p.Qj G) G s G' s'):Later eD.O eD eL G' s':=by
 cases p with
 |loc x=>exact l.up.trans' l'
 |aq x=>exact(l.aO l').up
def Rep.gZ {p:Pl} {a:Addr} {k:ae} (R:Rep P C Y G L Z s) (x:At G L s p a) (h:p.get Z=some k):bD P G s.heap (p.own G) k (.ref a):=by
 obtain⟨aq,loc⟩:=Z
 cases p with
 |loc n=>
  refine bx x λm h1 h2=>bx R.locs λm' hm hs=>?_
  cases oh h1 hm
  exact bx (hs.hit n k h) λv hv ok=>eN (hv.symm.trans h2)▸ok.mono (.refl G) (λ_ _ _ h=>h) λ_ q=>q.1
 |aq n=>
  refine R.vg x λas p d es j e hv A=>?_
  cases e
  exact bx (A.sl.hit n k h) λv hv' ok=>eN (hv'.symm.trans hv)▸ok.mono (.refl G) (λ_ _ _ h=>h) λ_ q=>q.1
end
inductive au where
 |next|brk|cont|ret (v:DV)
def dQ (P:Params) (G:Gh) (f:au):Flow->Prop:=au.rec (motive:=λ_=>Flow->Prop) (λr=>r=.next) (λr=>r=.brk) (λr=>r=.cont) (λd r=>∃v,r=.ret v/\DR P G d v) f
@[elab_as_elim] def dQ.K7 {P:Params} {G:Gh} {Q:Flow->Prop} {r:Flow} (h:dQ P G .next r) (k:Q .next):Q r:=fb (show r=.next from h)▸k
@[elab_as_elim] def dQ.brkE {P:Params} {G:Gh} {Q:Flow->Prop} {r:Flow} (h:dQ P G .brk r) (k:Q .brk):Q r:=fb (show r=.brk from h)▸k
@[elab_as_elim] def dQ.Ir {P:Params} {G:Gh} {Q:Flow->Prop} {r:Flow} (h:dQ P G .cont r) (k:Q .cont):Q r:=fb (show r=.cont from h)▸k
@[elab_as_elim] def dQ.wm {P:Params} {G:Gh} {Q:Flow->Prop} {r:Flow} {d:DV} (h:dQ P G (.ret d) r) (k:∀v,DR P G d v->Q (.ret v)):Q r:=h.elim λv h=>fb h.1▸k v h.2
def dQ.mono {P:Params} {G G':Gh} (k:Sub G G') {f:au} {r:Flow} (h:dQ P G f r):dQ P G' f r:=by
 cases f with
 |ret d=>exact h.elim λv h=>⟨v,h.1,h.2.mono k⟩
 |_=>exact h
section
variable (U:Program) (w:World) (C:Nat) (Y:Base) (sc:Scope) (d:Nat)
def aU (st:Stmt) (Z:aj) (f:au) (ba:aj):Prop:=∀(A:Around) (G:Gh) (L:Addr) (s:Shared) (env:Env),dI A d->cN sc L env->Rep w.params C Y G L Z s->
 ∀Q:Flow->Shared->Prop,(∀G' r s',Rep w.params C Y G' L ba s'->Later G.O G s G' s'->dQ w.params G' f r->Q r s')->WP U w A (exec st env) s Q
def aF (l:List Stmt) (Z:aj) (f:au) (ba:aj):Prop:=∀(A:Around) (G:Gh) (L:Addr) (s:Shared) (env:Env),dI A d->cN sc L env->Rep w.params C Y G L Z s->
 ∀Q:Flow->Shared->Prop,(∀G' r s',Rep w.params C Y G' L ba s'->Later G.O G s G' s'->dQ w.params G' f r->Q r s')->WP U w A (execs l env) s Q
end
section
variable {U:Program} {w:World} {C:Nat} {K:Frag} {Y:Base} {sc:Scope} {d:Nat} {Z aa ah cC:aj} {A:Around} {G:Gh} {L:Addr} {s:Shared}
def WP.to {α:Type} {t:Sem α} {Q:α->Shared->Prop} {E:Value->Shared->Prop} (h:WP U w A t s Q):wpAny (model U w) A t Q E s:=wpAny_mono h (λ_ _ x=>x) λ_ _ q=>q.elim
def cZ (e:Expr):Bool:=!(Nat.ble 8 e.ctorIdx&&Nat.ble e.ctorIdx 10)
def dq {value:Expr} {t:Option Expr} {n:Nat} {env:Env} (h:cZ value=true):swapsWith value t n env=pure false:=by
 cases value<;>first|rfl|exact ft h
def nt {env:Env} {x:Str} {u:Value} {kk:ae} {Q:Unit->Shared->Prop} (eo:cN sc L env) (R:Rep w.params C Y G L Z s) (hl:sc.names.lookup x=some .local) (ok:bD w.params G s.heap (λa=>G.OL a/\a≠L) kk u)
    (one:∀m,s.heap.Ns L m->kk.mut=true->∀y ky,y≠x->look Z.loc y=some ky->ky.mut=true->m y≠some u) (k:∀s',Rep w.params C Y G L {Z with loc:=put Z.loc x kk} s'->Later G.O G s G s'->Q () s'):WP U w A (storeName env x u) s Q:=
 bx R.locs λm hm _=>wpAny_storeName_local (m:=m) (by rw[Env.kindOf,eo.scope];exact hl) (eo.locals▸hm) (λh' F1 hsb=>by
  rw[eo.locals] at F1 hsb
  have q:=R.ads (iw:=put Z.loc x kk) (t:=s.toks+1) hsb λm' zH Js=>⟨_,F1,by rw[oh hm zH];exact Js.put x kk u ok (one m' zH)⟩
  exact k _ q.1 q.2) (by rw[eo.scope,eo.kind];rfl)
def gf {env:Env} {x:Str} {u:Value} {v:DV} {Q:Unit->Shared->Prop} (eo:cN sc L env) (R:Rep w.params C Y G L Z s) (hl:sc.names.lookup x=some .local) (h:DR w.params G v u) (k:∀s',Rep w.params C Y G L {Z with loc:=put Z.loc x (.pv v)} s'->Later G.O G s G s'->Q () s'):
    WP U w A (storeName env x u) s Q:=nt (kk:=.pv v) eo R hl h (λ_ _ q=>ft q) k
def zk {env:Env} {x:Str} {u:Value} {r:Res} {z:Nat} {Q:Unit->Shared->Prop} (eo:cN sc L env) (R:Rep w.params C Y G L Z s) (hl:sc.names.lookup x=some .local) (h:nz w.params G s.heap z r u) {eD:Gh} {eL:Shared} (l:Later eD.O eD eL G s) (hz:eL.heap.objs.size<=z)
    (k:∀G' s',Rep w.params C Y G' L {Z with loc:=put Z.loc x r.slot} s'->Later eD.O eD eL G' s'->Q () s'):WP U w A (storeName env x u) s Q:=by
 cases q:r.slot.mut with
 |false=>cases r with|pv dv=>exact gf eo R hl h λs' R' l'=>k G s' R' (l.trans' l') |fl l=>exact tf q|fd l=>exact tf q
 |true=>exact h.AB q λa f lt ok=>nt eo (R.own f.nA f.ng lt) hl (ok _ _ _ (oi a) (λ_ h=>h) ⟨.inr rfl,λe=>f.nL (e▸R.fB)⟩) (λm hm _ y ky _ e km z=>bx R.locs λm' zH hs=>hs.CB (λo=>f.nL o.1) y ky e km (oh hm zH▸z)) λs' R' l'=>k _ s' R' ((l.own (bw hz f.ge)).trans' l')
def bA:aF U w C Y sc d [] Z .next Z:=λ_ G _ s _ _ _ R _ k=>wpAny_execs_nil (k G _ s R (.refl _ _ _) rfl)
def ao {st:Stmt} {l:List Stmt} {f:au} (h:aU U w C Y sc d st Z .next aa) (k:aF U w C Y sc d l aa f ah):aF U w C Y sc d (st::l) Z f ah:=λA G L s env ro eo R _ kk=>
 wpAny_execs_cons (h A G L s env ro eo R _ λaz r ax aB aH aV=>aV.K7 (k A az L ax env ro eo aB _ λaD r ay aE aJ=>kk aD r ay aE (aH.trans' aJ)))
def au.p8 (f:au):Bool:=au.rec (motive:=λ_=>Bool) false true true (λ_=>true) f
def jd {st:Stmt} {l:List Stmt} {f:au} (h:aU U w C Y sc d st Z f aa) (hf:f.p8=true):aF U w C Y sc d (st::l) Z f aa:=λA G L s env ro eo R _ k=>
 wpAny_execs_cons (h A G L s env ro eo R _ λaz r ax aB aH aV=>by
  have kk:=k az r ax aB aH aV
  cases f with
  |next=>exact ft hf
  |brk=>revert kk;exact aV.brkE id
  |cont=>revert kk;exact aV.Ir id
  |ret v=>revert kk;exact aV.wm λ_ _=>id)
def gx {x:Str} {e:Expr} {p pos:Pos} {r:Res} (h:cO U w C Y sc d e Z r aa) (hl:sc.names.lookup x=some .local) (hc:cZ e=true):aU U w C Y sc d (.Assign [.Name x p] e pos) Z .next {aa with loc:=put aa.loc x r.slot}:=λA G L s env ro eo R _ k=>
 wpAny_Assign_Name (h A G L s env ro eo R _ λaz u ax aB aH aV=>zk eo aB hl aV aH.up (fy _) λaD ay aE aJ=>k aD _ ay aE aJ rfl) (dq hc)
def EZ {e:Expr} {pos:Pos} {v:DV} (h:aC U w C Y sc d e Z v aa) (hc:cZ e=true):aU U w C Y sc d (.Expr e pos) Z .next aa:=λA G L s env ro eo R _ k=>
 wpAny_Expr_any (h A G L s env ro eo R _ λaz _ ax aB aH _=>k az _ ax aB aH.up rfl) (by rw[interactive,eo.scope,eo.kind];rfl) (dq hc)
def qa {t:Expr} {b o:List Stmt} {pos:Pos} {c:Bool} {f:au} (h:bu U w C Y sc d t Z c aa) (k:aF U w C Y sc d (if c then b else o) aa f ah):aU U w C Y sc d (.If t b o pos) Z f ah:=λA G L s env ro eo R _ kk=>
 wpAny_If (h A G L s env ro eo R _ λaz ax aB aH=>by
  have k:=k A az L ax env ro eo aB _ λaD r ay aE aJ=>kk aD r ay aE (aH.up.trans' aJ)
  cases c<;>exact k)
def sV {e:Expr} {pos:Pos} {v:DV} (h:aC U w C Y sc d e Z v aa):aU U w C Y sc d (.Return (some e) pos) Z (.ret v) aa:=λA G L s env ro eo R _ k=>wpAny_Return_some (h A G L s env ro eo R _ λaz u ax aB aH aV=>k az _ ax aB aH.up ⟨u,rfl,aV⟩)
def QS {pos:Pos}:aU U w C Y sc d (.Return none pos) Z (.ret .none) Z:=λ_ G _ s _ _ _ R _ k=>wpAny_Return_none (k G _ s R (.refl _ _ _) ⟨_,rfl,rfl⟩)
def E2 {pos:Pos}:aU U w C Y sc d (.Pass pos) Z .next Z:=λ_ G _ s _ _ _ R _ k=>wpAny_Pass (k G _ s R (.refl _ _ _) rfl)
def Mt {pos:Pos}:aU U w C Y sc d (.Break pos) Z .brk Z:=λ_ G _ s _ _ _ R _ k=>wpAny_Break (k G _ s R (.refl _ _ _) rfl)
def EY {pos:Pos}:aU U w C Y sc d (.Continue pos) Z .cont Z:=λ_ G _ s _ _ _ R _ k=>wpAny_Continue (k G _ s R (.refl _ _ _) rfl)
def Hk {t:Expr} {m:Option Expr} {pos:Pos} (h:bu U w C Y sc d t Z true aa):aU U w C Y sc d (.Assert t m pos) Z .next aa:=λA G L s env ro eo R _ k=>
 wpAny_Assert_holds (h A G L s env ro eo R _ λaz ax aB aH=>⟨rfl,k az _ ax aB aH.up rfl⟩)
def Goes (go:aj->au->aj->Prop) (f:au) (Z:aj) (fe:au) (iS:aj):Prop:=au.rec (motive:=λ_=>Prop) (go Z fe iS) (fe=.next/\iS=Z) (go Z fe iS) (λv=>fe=.ret v/\iS=Z) f
def Goes.post {go:aj->au->aj->Prop} {f fe:au} {MS iS:aj} {r:Flow} {HP:Gh} {I:Prop} {Rk:Flow->Prop} (h:Goes go f MS fe iS) (q:dQ w.params HP f r) (hg:go MS fe iS->I) (hk:iS=MS->∀r,dQ w.params HP fe r->Rk r):
    match(generalizing:=false) r with| .next| .cont=>I| .brk=>Rk .next| .ret v=>Rk (.ret v):=by
 cases f with
 |next=>exact q.K7 (hg h)
 |cont=>exact q.Ir (hg h)
 |brk=>exact q.brkE (hk h.2 .next (by rw[h.1];exact rfl))
 |ret d=>exact q.wm λv q=>hk h.2 (.ret v) (by rw[h.1];exact⟨v,rfl,q⟩)
def cI (U:Program) (w:World) (C:Nat) (Y:Base) (sc:Scope) (d:Nat) (t:Expr) (b:List Stmt) (n:Nat):aj->au->aj->Prop:=Nat.rec (motive:=λ_=>aj->au->aj->Prop) (λZ f iS=>bu U w C Y sc d t Z false iS/\f=.next)
 (λ_ go Z f iS=>(bu U w C Y sc d t Z false iS/\f=.next)\/∃aa g ah,bu U w C Y sc d t Z true aa/\aF U w C Y sc d b aa g ah/\Goes go g ah f iS) n
section
variable {t:Expr} {b:List Stmt} {n:Nat} {f:au} {v:DV}
def cI.stop (h:bu U w C Y sc d t Z false aa):cI U w C Y sc d t b n Z .next aa:=by cases n;exact⟨h,rfl⟩;exact .inl ⟨h,rfl⟩
def cI.brk (h:bu U w C Y sc d t Z true aa) (h':aF U w C Y sc d b aa .brk ah):cI U w C Y sc d t b (n+1) Z .next ah:=.inr ⟨aa,_,ah,h,h',rfl,rfl⟩
def cI.ret (h:bu U w C Y sc d t Z true aa) (h':aF U w C Y sc d b aa (.ret v) ah):cI U w C Y sc d t b (n+1) Z (.ret v) ah:=.inr ⟨aa,_,ah,h,h',rfl,rfl⟩
def cI.next (h:bu U w C Y sc d t Z true aa) (h':aF U w C Y sc d b aa .next ah) (g:cI U w C Y sc d t b n ah f cC):cI U w C Y sc d t b (n+1) Z f cC:=.inr ⟨aa,_,ah,h,h',g⟩
def cI.cont (h:bu U w C Y sc d t Z true aa) (h':aF U w C Y sc d b aa .cont ah) (g:cI U w C Y sc d t b n ah f cC):cI U w C Y sc d t b (n+1) Z f cC:=.inr ⟨aa,_,ah,h,h',g⟩
def cI.succ (h:cI U w C Y sc d t b (n+1) Z f cC):(bu U w C Y sc d t Z false cC/\f=.next)\/∃aa g ah,bu U w C Y sc d t Z true aa/\aF U w C Y sc d b aa g ah/\Goes (cI U w C Y sc d t b n) g ah f cC:=h
def oG {pos:Pos} (h:cI U w C Y sc d t b n Z f aa):aU U w C Y sc d (.While t b [] pos) Z f aa:=λA G L s env ro eo R Q k=>
 wpAny_While (codeAny_whileLoop (I:=λn s'=>∃az ba,cI U w C Y sc d t b n ba f aa/\Rep w.params C Y az L ba s'/\Later G.O G s az s') (λn s' q=>xf q λaz ba tu R' l'=>by
  have fin:f=.next->∀aD ay,Rep w.params C Y aD L aa ay->Later az.OA az s' aD ay->∀E,wpAny (model U w) A (execs [] env) Q E ay:=λh aD ay aE aJ E=>wpAny_execs_nil (k aD .next ay aE (l'.trans' aJ.up) (by rw[h];exact rfl))
  cases n with
  |zero=>exact(tu.1 A az L s' env ro eo R' _ λaD ay aE aJ=>fin tu.2 aD ay aE aJ _).to
  |succ n=>
   exact tu.succ.elim (λtu=>(tu.1 A az L s' env ro eo R' _ λaD ay aE aJ=>fin tu.2 aD ay aE aJ _).to) λq=>e33 q λσt g σb ht hb go=>(ht A az L s' env ro eo R' _ λaD ay aE aJ=>(hb A aD L ay env ro eo aE _ λiL r cB cF cL q=>
    go.post q (λgo=>⟨n,MV n,iL,σb,go,cF,(l'.trans' aJ.up).trans' cL⟩) λe r q=>k iL r cB (e▸cF) ((l'.trans' aJ.up).trans' cL) q).to).to)
  n ⟨G,Z,h,R,.refl _ _ _⟩)
end
end
section
variable (U:Program) (w:World) (C:Nat) (Y:Base) (sc:Scope) (d:Nat)
def vb (e:Expr) (Z:aj) (k:ae):Prop:=∀(A:Around) (G:Gh) (L:Addr) (s:Shared) (env:Env),dI A d->cN sc L env->Rep w.params C Y G L Z s->
 ∀Q:Value->Shared->Prop,(∀v t,bD w.params G s.heap G.O k v->Q v {s with toks:=t})->WP U w A (eval e env) s Q
def gB (e:Expr) (Z:aj) (p:Pl):Prop:=∀(A:Around) (G:Gh) (L:Addr) (s:Shared) (env:Env),dI A d->cN sc L env->Rep w.params C Y G L Z s->
 ∀Q:Value->Shared->Prop,(∀a t,At G L s p a->Q (.ref a) {s with toks:=t})->WP U w A (eval e env) s Q
end
section
variable {U:Program} {w:World} {C:Nat} {K:Frag} {Y:Base} {sc:Scope} {d:Nat} {Z aa ah cC:aj} {A:Around} {G:Gh} {L:Addr} {s:Shared} {x y:Str} {p p' pos:Pos} {e:Expr} {as vd:List (Str×ae)} {k:ae}
def G3 (hl:sc.names.lookup x=some .local) (hx:look Z.loc x=some k) (hd:(x==("__debug__":Str))=false):vb U w C Y sc d (.Name x pos) Z k:=λA G L s env ro eo R _ kk=>
 kb eo R hl hx hd λ_ u _ _ _ q=>kk u s.toks (q.mono (.refl G) (λ_ _ _ h=>h) λ_ h=>.inr h.1)
def uD (hl:sc.names.lookup x=some .local) (hx:look Z.loc x=some k) (km:k.mut=true) (hd:(x==("__debug__":Str))=false):gB U w C Y sc d (.Name x pos) Z (.loc x):=λA G L s env ro eo R Q kk=>
 kb eo R hl hx hd λm u hm hu _ q=>q.AB (Q:=λu=>m x=some u->Q u s) km (λa _ _ _ hu=>kk a s.toks ⟨m,hm,hu⟩) hu
def oP (R:Rep w.params C Y G L Z s) (hs:Z.aq=some as):cu w.params C Y G (some as) s:=hs▸R.tocu
variable (T:cQ K Y) (hl:sc.names.lookup y=some .local) (hd:(y==("__debug__":Str))=false)
include T hl hd
theorem LI (hy:look Z.loc y=some (.pv .self)) (hs:Z.aq=some as) (hc:bN K C=true) (ha:d9 K C x=true) (hx:look as x=some k):vb U w C Y sc d (.Attribute (.Name y p) x pos) Z k:=λA G L s env ro eo R _ kk=>
 Attribute_name (jC eo R hl hy hd λov RM=>get_slot T RM (oP R hs) hc ha hx λr t _ _ q=>kk r t (q.mono (.refl G) (λ_ _ _ h=>h) λ_ h=>.inl h.1))
theorem GY (hy:look Z.loc y=some (.pv .self)) (hs:Z.aq=some as) (hc:bN K C=true) (ha:d9 K C x=true) (hx:look as x=some k) (km:k.mut=true):gB U w C Y sc d (.Attribute (.Name y p) x pos) Z (.aq x):=λA G L s env ro eo R Q kk=>
 Attribute_name (jC eo R hl hy hd λov RM=>get_slot T RM (oP R hs) hc ha hx λr t _ at_ q=>q.AB (Q:=λr=>AttAt G s x r->Q r {s with toks:=t}) km (λa _ _ _ h=>kk a t h) at_)
omit T hl hd
theorem vb.val {v:DV} (h:vb U w C Y sc d e Z (.pv v)):aC U w C Y sc d e Z v Z:=λA G L s env ro eo R _ k=>h A G L s env ro eo R _ λu t q=>k G u _ R.toks bb q
def ME:ae->Option Bool
 | .pv v=>mE v
 | .ml l=>some (!l.isEmpty)
 | .md []=>some false
 | .md (_::_)=>none
theorem Fc {b:Bool} (h:vb U w C Y sc d e Z k) (ht:ME k=some b) (he:∀env,isTrue e env (eval e env)=(do let v<-eval e env;standAt e.pos;holding [v] (truthy v))):bu U w C Y sc d e Z b Z:=λA G L s env ro eo R Q kk=>
 isTrue_plain (h A G L s env ro eo R _ λu t q=>by
  have kk:∀t,Q b {s with toks:=t}:=λt=>kk G _ R.toks bb
  cases k with
  |pv v=>exact wW (s:={s with toks:=t}) R.pins ht q kk
  |ml l=>rw[<-eN ht] at kk;exact gq q λa vs n q=>a5 q λe g r z _=>by rw[e];exact zu (s:={s with toks:=t}) g z r kk
  |md l=>
   cases l with
   |cons _ _=>exact ns ht
   |nil=>
    rw[<-eN ht] at kk
    exact DO q λa es n e g r o=>by
     rw[e]
     exact r.jr (Q:=λes=>s.heap.get? a=some (dictOf es n)->_) (λg=>wpAny_truthy_dict (knd:=strKind U w) (kvs:=[]) (R.v8 (o.elim (λh=>(R.fM a h).1) λh=>(R.fG a h).1)) ⟨_,⟨[]⟩,n,g,⟨rfl,rfl,rfl⟩,rfl,(λe h=>by simp at h),.nil,List.nodup_nil⟩ (by decide) (kk _)) g) (he env)
theorem sS {u v:Value} {r:Res} {z:Nat} {loc:List (Str×ae)} {Q:Unit->Shared->Prop} (T:cQ K Y) (R:Rep w.params C Y G L ⟨some as,loc⟩ s) (hu:DR w.params G .self u) (hf:hH K C x=true) (hl:as.length<1000) (jA:x∈fu->look as x=none)
 (h:nz w.params G s.heap z r v) {eD:Gh} {eL:Shared} (l:Later eD.O eD eL G s) (hz:eL.heap.objs.size<=z) (k:∀G' s',Rep w.params C Y G' L ⟨some (put as x r.slot),loc⟩ s'->Later eD.O eD eL G' s'->Q () s'):WP U w A (setAttr u x v) s Q:=
 gs hu R.tocu λp dd es n A I=>Hf (fm T R) I A.dict hf A.str (bw (so A.str).1 (Nat.succ_le_of_lt (Rq A.len hl))) (by
  cases q:r.slot.mut with
  |false=>
   cases r with
   |pv dv=>have q:=R.Mb (hh:=PyData.keyHash w.params x) (tk:=s.toks+1) (t:=s.toks+2) A jA (k:=.pv dv) (v:=v) h λkm=>ft km
           exact k G _ q.1 (l.trans' q.2)
   |fl l=>exact tf q
   |fd l=>exact tf q
  |true=>
   refine h.AB (Q:=λv=>Q () {s with heap:=s.heap.update dd (Obj.putName x (PyData.keyHash w.params x) (.str x (s.toks+1)) v),toks:=s.toks+2}) q λa f lt ok=>?_
   have q:=(R.CG f.nL f.ng lt).Mb (hh:=PyData.keyHash w.params x) (tk:=s.toks+1) (t:=s.toks+2) (A.mono (oo G a) (λ_ _ _ h=>h) λ_=>.inl) jA (ok _ _ _ (oo G a) (λ_ h=>h) ⟨.inr rfl,λe=>f.nA (e▸A.own)⟩) λ_ y ky _ e km z=>A.sl.CB (λo=>f.nA o.1) y ky e km z
   exact k _ _ q.1 ((l.CG (bw hz f.ge)).trans' q.2))
theorem Ms {r:Res} (T:cQ K Y) (h:cO U w C Y sc d e Z r aa) (hc:cZ e=true) (hl:sc.names.lookup y=some .local) (hy:look aa.loc y=some (.pv .self)) (hd:(y==("__debug__":Str))=false)
 (hs:aa.aq=some as) (hf:hH K C x=true) (hn:as.length<1000) (jA:x∈fu->look as x=none):aU U w C Y sc d (.Assign [.Attribute (.Name y p) x p'] e pos) Z .next {aa with aq:=some (put as x r.slot)}:=λA G L s env ro eo R _ k=>
 plainObj_wpAny_Assign_Attribute (h A G L s env ro eo R _ λaz u ax aB aH aV=>jC eo aB hl hy hd λov RM=>by
  obtain⟨aq,loc⟩:=aa
  cases hs
  exact sS T aB RM hf hn jA aV aH.up (fy _) λaD ay aE aJ=>k aD _ ay aE aJ rfl) (dq hc)
theorem YL {op:Operator} {v u z:DV} (hl:sc.names.lookup x=some .local) (hx:look Z.loc x=some (.pv v)) (h:aC U w C Y sc d e Z u aa) (hi:Nh U w op v u z):aU U w C Y sc d (.AugAssign (.Name x p) op e pos) Z .next {aa with loc:=put aa.loc x (.pv z)}:=λA G L s env ro eo R _ k=>
 wpAny_AugAssign_Name (bx R.locs λm hm hs=>bx (hs.hit x _ hx) λo ho q=>wpAny_loadName_local (m:=m) (v:=o) (by rw[eo.scope];exact eo.kind) (by rw[Env.kindOf,eo.scope];exact hl) (eo.locals▸hm) ho
  (h A G L s env ro eo R _ λaz b ax aB aH aV=>hi A az ax o b ro.low (DR.mono aH.sub q) aV _ λc _ cA=>gf eo aB.toks hl cA λcB aE aJ=>k az _ cB aE (aH.tk.up.trans' aJ) rfl))
theorem Hl {op:Operator} {v u z:DV} (T:cQ K Y) (hl:sc.names.lookup y=some .local) (hy:look Z.loc y=some (.pv .self)) (hd:(y==("__debug__":Str))=false)
 (hs:Z.aq=some as) (hc:bN K C=true) (ha:d9 K C x=true) (hx:look as x=some (.pv v)) (h:aC U w C Y sc d e Z u aa) (hi:Nh U w op v u z) (Js:aa.aq=some vd) (hf:hH K C x=true) (hn:vd.length<1000) (jA:x∈fu->look vd x=none):
 aU U w C Y sc d (.AugAssign (.Attribute (.Name y p) x p') op e pos) Z .next {aa with aq:=some (put vd x (.pv z))}:=λA G L s env ro eo R _ k=>
 wpAny_AugAssign_AttributeAny (jC eo R hl hy hd λov RM=>x8 T RM (oP R hs) hc ha hx λo _ q=>h A G L _ env ro eo R.toks _ λaz b ax aB aH aV=>hi A az ax o b ro.low (q.mono aH.sub) aV _ λc t cA=>by
  obtain⟨aq,loc⟩:=aa
  cases Js
  exact sS (s:={ax with toks:=t}) (r:=.pv z) (z:=s.heap.objs.size) (eD:=G) (eL:=s) T aB.toks (RM.mono aH.sub) hf hn jA cA ((Later.trans' bb aH.up).trans' bb) (fy _) λaD ay aE aJ=>k aD _ ay aE aJ rfl)
end
def Nd (P:Params) (G:Gh):List (Str×DV)->List (Str×Value)->Prop:=Zip λp q=>q.1=p.1/\DR P G p.2 q.2
def Nd.cons {P:Params} {G:Gh} {x:Str} {d:DV} {v:Value} {l:List (Str×DV)} {vs:List (Str×Value)} (a:DR P G d v) (b:Nd P G l vs):Nd P G ((x,d)::l) ((x,v)::vs):=Zip.cons ⟨rfl,a⟩ b
def Nd.names {P:Params} {G:Gh} {l:List (Str×DV)} {vs:List (Str×Value)} (h:Nd P G l vs):vs.map (·.1)=l.map (·.1):=by
 induction h with
 |nil=>rfl
 |cons a _ ih=>rw[xb,xb,ih,a.1]
def gc {α:Type} (n:Str) (v:α) (r:List (Str×α)) (x:Str):((n,v)::r).lookup x=if x=n then some v else r.lookup x:=by
 rw[List.lookup_cons]
 by_cases q:x=n
 ·rw[d8 q,iI.mpr q]
 ·rw[dZ q,HG.mpr q]
def lookup_none {α:Type} (x:Str) (l:List (Str×α)) (h:x ∉ l.map (·.1)):l.lookup x=none:=by
 induction l with
 |nil=>rfl
 |cons p r ih=>rw[gc p.1 p.2,dZ λq:x=p.1=>h (by rw[q];exact .head _)];exact ih λq=>h (.tail _ q)
def r8 {α:Type} (x:Str) (l:List (Str×α)) (h:(l.map (·.1)).Nodup):l.reverse.lookup x=l.lookup x:=by
 induction l with
 |nil=>rfl
 |cons p r ih=>
  have⟨h1,h2⟩:=List.nodup_cons.mp h
  rw[List.reverse_cons,List.lookup_append,ih h2,gc p.1 p.2,gc p.1 p.2]
  by_cases q:x=p.1
  ·rw[lookup_none x r (q▸h1),d8 q,d8 q];rfl
  ·rw[dZ q,dZ q];exact Option.or_none
def xS {P:Params} {G:Gh} {l:List (Str×DV)} {vs:List (Str×Value)} (h:Nd P G l vs) (x:Str):(look l x=none->vs.lookup x=none)/\∀d,look l x=some d->∃v,vs.lookup x=some v/\DR P G d v:=by
 induction h with
 |nil=>exact⟨λ_=>rfl,λ_ h=>nomatch h⟩
 |@cons p q _ _ a _ ih=>
  rw[gc q.1 q.2,dj,a.1]
  by_cases z:p.1=x
  ·rw[d8 z,d8 z.symm];exact⟨λh=>ns h.symm,λd h=>⟨_,rfl,eN h▸a.2⟩⟩
  ·rw[dZ z,dZ λq=>z q.symm];exact ih
section
variable (U:Program) (w:World) (C:Nat) (Y:Base) (d:Nat)
def af (f:Value) (args:List DV) (kw:List (Str×DV)) (aq:Option (List (Str×ae))) (r:DV) (aX:Option (List (Str×ae))):Prop:=
 ∀(A:Around) (G:Gh) (s:Shared) (vs ks:List Value),dI A d->cu w.params C Y G aq s->eC w.params G args vs->eC w.params G (kw.map (·.2)) ks->
  ∀Q:Value->Shared->Prop,(∀G' v s',cu w.params C Y G' aX s'->Later G.OA G s G' s'->G'.OL=G.OL->DR w.params G' r v->Q v s')->
   codeAny (model U w) A (.call f ⟨vs,(kw.map (·.1)).zip ks⟩) (λx s'=>match x with| .ok (.ret v)=>Q v s'| .ok _=>False| .error _=>False) s
end
section
variable {U:Program} {w:World} {C:Nat} {K:Frag} {Y:Base} {d:Nat} {Z aa ah:aj} {A:Around} {G:Gh} {L:Addr} {s:Shared} {aq aX:Option (List (Str×ae))} {loc iw:List (Str×ae)}
def qM {x j k d c L:Nat} (h:x+k*(d+1)+c<=L) (hj:j<=k):x+j+k*d+c<=L:=bw (ZI (bw (iU (xc ..)) (xl (bw (ZI hj _) (iU (Nat.add_comm ..))) x)) c) h
def dI.deeper {env:Env} (h:dI A (d+1)):dI (A.deeper env) d:=⟨qM (j:=1) h.depth (by decide),qM (j:=3) h.units (by decide),h.handled⟩
def Rep.ofA (R:Rep w.params C Y G L ⟨aq,loc⟩ s) {G':Gh} {s':Shared} (R':cu w.params C Y G' aX s') (l:Later G.OA G s G' s') (e:G'.OL=G.OL):Rep w.params C Y G' L ⟨aX,loc⟩ s':=
 have kp:∀b o,G.OL b->s.heap.get? b=some o->s'.heap.get? b=some o:=λb o q h=>l.kept b o h λz=>R.apart b z q
 ⟨R',e▸R.fB,bx R.locs λm hm hs=>⟨m,hm.at λo=>kp L o R.fB,hs.mono l.sub (λa o q=>kp a o q.1) λ_ q=>e▸q⟩⟩
def nR (G:Gh) (n:Addr):Gh:={G with OL:=λb=>b=n}
def cu.move (R:cu w.params C Y G aq s) {s':Shared} (k:∀b o,s.heap.get? b=some o->s'.heap.get? b=some o) (z:s.heap.objs.size<=s'.heap.objs.size):cu w.params C Y G aq s':=R.keep (λb o _=>k b o) (λb o _=>k b o) z
def cu.enter (R:cu w.params C Y G aq s) {bl:List (Str×DV)} {binds:List (Str×Value)} (hb:Nd w.params G bl binds) (hn:(bl.map (·.1)).Nodup) {h₀:Heap} {t:Nat} (F1:h₀.Ns s.heap.objs.size λx=>binds.reverse.lookup x) (hk:∀b o,s.heap.get? b=some o->h₀.get? b=some o):
    Rep w.params C Y (nR G s.heap.objs.size) s.heap.objs.size ⟨aq,bl.map λp=>(p.1,.pv p.2)⟩ {s with heap:=h₀,toks:=t}:=by
 have f:=R.fresh (fy _)
 have S:Sub G (nR G s.heap.objs.size):=⟨rfl,λ_ _ h=>h,λ_ h=>h⟩
 have R':cu w.params C Y G aq {s with heap:=h₀,toks:=t}:=R.move hk (Rp F1.lt)
 have lk:∀x,binds.reverse.lookup x=binds.lookup x:=λx=>r8 x binds (hb.names▸hn)
 refine⟨R'.gh S rfl R'.pins R'.fM (λb (h:b=_)=>fb h▸⟨f.2.2,F1.lt⟩) (λb q (q':b=_)=>f.1 (q'▸q)) λ_ q=>q,rfl,_,F1,λx e=>?_,λx k e=>?_,λx y kx ky ex ey mx my=>?_⟩
 ·rw[f9] at e;rw[lk];exact(xS hb x).1 (Option.map_eq_none_iff.mp e)
 ·rw[f9] at e
  exact bx (xn.mp e) λdv h1 h2=>bx ((xS hb x).2 dv h1) λv h3 h4=>⟨v,(lk x).trans h3,h2▸h4.mono S⟩
 ·rw[f9] at ex
  exact bx (xn.mp ex) λdv _ h2=>by rw[<-h2] at mx;exact ft mx
def cu.leave (R:cu w.params C Y G aq s) {h₀:Heap} {t:Nat} {aD:Gh} {ay:Shared} (hk:∀b o,s.heap.get? b=some o->h₀.get? b=some o) (hz:s.heap.objs.size<h₀.objs.size) (aE:Rep w.params C Y aD s.heap.objs.size ⟨aX,iw⟩ ay)
    (l:Later (nR G s.heap.objs.size).O (nR G s.heap.objs.size) {s with heap:=h₀,toks:=t} aD ay):cu w.params C Y {aD with OL:=G.OL} aX ay/\Later G.OA G s {aD with OL:=G.OL} ay/\Sub aD {aD with OL:=G.OL}:=by
 have ZS:Sub aD {aD with OL:=G.OL}:=⟨rfl,λ_ _ h=>h,λ_ h=>h⟩
 have no:∀b,b<s.heap.objs.size->¬G.OA b->¬(nR G s.heap.objs.size).O b:=λb t n q=>q.elim n λ(e:b=_)=>Nat.lt_irrefl _ (e▸t)
 have up:∀b,b<s.heap.objs.size->b<h₀.objs.size:=λb t=>Nat.lt_trans t hz
 refine⟨aE.tocu.gh ZS rfl aE.pins aE.fM (λb q=>⟨?_,qu (up b (R.fG b q).2) l.size⟩) (λb q q'=>R.apart b (l.anew b (up b (R.fG b q').2) q) q') λ_ q=>q,
  ⟨⟨l.sub.V,l.sub.g,l.sub.par⟩,λb o t n=>l.qk b o (up b t) (no b t λq=>n (.inl q)),λb t=>l.anew b (up b t),λ_ _ q=>q,λb o h n=>l.kept b o (hk b o h) (no b (u0 h) n),λx hx v q=>l.tN x hx v (gq q λp d es q=>ua q λn a b c=>⟨p,d,es,n,a,hk _ _ b,c⟩),
    bw (Rp hz) l.size,l.gens,l.os⟩,ZS⟩
 cases z:aD.g b with
 |none=>rfl
 |some o=>exact sn ((l.qk b o (up b (R.fG b q).2) (no b (R.fG b q).2 λz=>R.apart b z q) z).symm.trans (R.fG b q).1)
def au.val (f:au):DV:=au.rec (motive:=λ_=>DV) .none .none .none id f
def dQ.val {P:Params} {f:au} {r:Flow} (h:dQ P G f r):DR P G f.val (match(generalizing:=false) r with| .ret v=>v|_=>.none):=by
 cases f with
 |next=>exact h.K7 rfl
 |brk=>exact h.brkE rfl
 |cont=>exact h.Ir rfl
 |ret d=>exact h.wm λv q=>q
def af.call {f:Value} {args:List DV} {kw:List (Str×DV)} {r:DV} (h:af U w C Y d f args kw aq r aX) {vs ks:List Value} (ro:dI A d) (R:Rep w.params C Y G L ⟨aq,loc⟩ s) (ha:eC w.params G args vs) (hk:eC w.params G (kw.map (·.2)) ks)
    {Q:Value->Shared->Prop} (k:∀G' v s',Rep w.params C Y G' L ⟨aX,loc⟩ s'->Later G.OA G s G' s'->DR w.params G' r v->Q v s'):WP U w A (PySem.call f vs ((kw.map (·.1)).zip ks)) s Q:=
 wpAny_call (h A G s vs ks ro R.tocu ha hk Q λG' v s' R' l e q=>k G' v s' (R.ofA R' l e) l q)
structure Callee (w:World) (K:Frag) (Y:Base) (f:Addr) (args:List DV) (kw bl:List (Str×DV)) (fd:FuncData) (body:List Stmt):Prop where
 ho:∃o,Y.hp.get? f=some o/\o.data=.func fd
 cd:codeIn K fd.code fd.qualname=true
 bd:fd.body=.stmts body
 gl:fd.globals=mainGlobals
 bt:fd.builtins=builtinsNs
 cell:∀x∈fd.scope.names,x.2≠.cell
 loc:∀x∈bl,fd.scope.names.lookup x.1=some .local
 nd:(bl.map (·.1)).Nodup
 bi:∀(G:Gh) (s:Shared) (vs ks:List Value),K.In s.heap->(∀b o,Y.hp.get? b=some o->G.g b=some o)->eC w.params G args vs->eC w.params G (kw.map (·.2)) ks->∃binds,BindsTo s fd ⟨vs,(kw.map (·.1)).zip ks⟩ binds/\Nd w.params G bl binds
 co:fd.scope.isCoroutine=false
 ge:fd.scope.isGenerator=false
 kd:fd.scope.kind=.function
section
variable {f:Addr} {fd:FuncData} {body:List Stmt} {args:List DV} {kw bl:List (Str×DV)} {fl:au} (T:cQ K Y) (c:Callee w K Y f args kw bl fd body)
include T c
theorem uK (h:∀(A:Around) (G:Gh) (L:Addr) (s:Shared),dI A d->cN fd.scope L (callEnv fd L f)->Rep w.params C Y G L ⟨aq,bl.map λp=>(p.1,.pv p.2)⟩ s->∀Q:Flow->Shared->Prop,(∀G' r s',Rep w.params C Y G' L ⟨aX,iw⟩ s'->Later G.O G s G' s'->dQ w.params G' fl r->Q r s')->
 _root_.PySem.wpAt (model U w) A (.func body (callEnv fd L f)) (execs body (callEnv fd L f)) Q (λ_ _=>False) s):af U w C Y (d+1) (.ref f) args kw aq fl.val aX:=λA G s vs ks ro R ha hkw Q k=>
 bx (c.bi G s vs ks (lU T R) R.dU ha hkw) λbinds hB hD=>bx c.ho λo ho aaX=>
 ks_codeAny_call_defAt (fd:=fd) (by have:=ro.depth;lia) (R.pins _ _ (R.dU _ _ ho)) aaX (T.nolimit.keeps λb o q=>R.pins b o (R.dU b o q)) (codeRec_of (lU T R) c.cd) c.bd hB c.cell (λx q=>bx (Hw.mp (show x.1∈bl.map (·.1) by rw[<-hD.names];exact List.mem_map_of_mem q)) λy y1 y2=>y2▸c.loc y y1)
  (λh₀ F1 hkp=>_root_.PySem.wpAt_mono (h (A.deeper (callEnv fd s.heap.objs.size f)) _ _ _ ro.deeper ⟨rfl,rfl,c.gl,c.bt,c.kd⟩ (R.enter hD c.nd (t:=s.toks+binds.length) F1 hkp) _ λaD r ay aE aJ q=>a3 (R.leave hkp F1.lt aE aJ) λcF cL HS=>k _ _ ay cF cL rfl (q.val.mono HS)) (λ_ _ h=>h) λ_ _ (q:False)=>q.elim) c.co c.ge c.kd
theorem Qv (h:aF U w C Y fd.scope d body ⟨aq,bl.map λp=>(p.1,.pv p.2)⟩ fl ⟨aX,iw⟩):af U w C Y (d+1) (.ref f) args kw aq fl.val aX:=uK T c λA G L s ro eo R Q k=>_root_.PySem.wpAt_of_wpAny (h A G L s _ ro eo R Q k)
end
end
def noStar (e:Expr):Bool:=!Nat.beq e.ctorIdx 22
def gw {e:Expr} {rest:List Expr} {env:Env} (h:noStar e=true):starEach (e::rest) env=(false,eval e env)::starEach rest env:=by
 cases e<;>first|rfl|exact ft h
def lG {env:Env} {pos:Pos} (es:List Expr) (h:es.all noStar=true):(backTo pos (starEach es env)).any (·.1)=false/\(backTo pos (starEach es env)).all (λp=>!p.1)=true:=by
 induction es with
 |nil=>exact⟨rfl,rfl⟩
 |cons e r ih=>have⟨h1,h2⟩:=aw h;rw[gw h1];exact ih h2
section
variable (U:Program) (w:World) (C:Nat) (Y:Base) (sc:Scope) (d:Nat)
inductive dJ:List Expr->aj->List DV->aj->Prop
 |nil {Z:aj}:dJ [] Z [] Z
 |cons {e:Expr} {es:List Expr} {Z aa ah:aj} {v:DV} {vs:List DV}:noStar e=true->aC U w C Y sc d e Z v aa->dJ es aa vs ah->dJ (e::es) Z (v::vs) ah
inductive jv:List Keyword->aj->List (Str×DV)->aj->Prop
 |nil {Z:aj}:jv [] Z [] Z
 |cons {x:Str} {e:Expr} {p:Pos} {es:List Keyword} {Z aa ah:aj} {v:DV} {vs:List (Str×DV)}:aC U w C Y sc d e Z v aa->jv es aa vs ah->jv (⟨some x,e,p⟩::es) Z ((x,v)::vs) ah
end
section
variable {U:Program} {w:World} {C:Nat} {K:Frag} {Y:Base} {sc:Scope} {d:Nat} {Z aa ah:aj} {A:Around} {G:Gh} {L:Addr} {s:Shared} {env:Env} {es:List Expr} {vs:List DV} {dh:List Keyword} {ks:List (Str×DV)}
def dJ.Mm (h:dJ U w C Y sc d es Z vs aa):es.all noStar=true:=by induction h with|nil=>rfl|cons a _ _ ih=>exact SR.mpr ⟨a,ih⟩
def dJ.run (h:dJ U w C Y sc d es Z vs aa) (pos:Pos):∀(A:Around) (G:Gh) (L:Addr) (s:Shared) (env:Env),dI A d->cN sc L env->Rep w.params C Y G L Z s->
    ∀Q:List Value->Shared->Prop,(∀G' us s',Rep w.params C Y G' L aa s'->Later G.OA G s G' s'->eC w.params G' vs us->Q us s')->WP U w A (spliced (backTo pos (starEach es env))) s Q:=by
 induction h with
 |nil=>exactλA G L s env ro eo R Q k=>Calls.spliced_nil (k G _ s R (.refl _ _ _) .nil)
 |cons a h1 _ ih=>
  intro A G L s env ro eo R Q k
  rw[gw a]
  exact Calls.spliced_cons (h1 A G L s env ro eo R _ λaz u ax aB aH aV=>ih A az L ax env ro eo aB _ λaD us ay aE aJ cA=>k aD _ ay aE (aH.aO aJ) (.cons (aV.mono aJ.sub) cA))
def jv.run (h:jv U w C Y sc d dh Z ks aa) (pos:Pos):∀(A:Around) (G:Gh) (L:Addr) (s:Shared) (env:Env),dI A d->cN sc L env->Rep w.params C Y G L Z s->
    ∀Q:List Value->Shared->Prop,(∀G' us s',Rep w.params C Y G' L aa s'->Later G.OA G s G' s'->eC w.params G' (ks.map (·.2)) us->Q us s')->WP U w A (evalAll ((backToKw pos (keywordEach dh env)).map (·.2))) s Q:=by
 induction h with
 |nil=>exactλA G L s env ro eo R Q k=>kwAll_nil (k G _ s R (.refl _ _ _) .nil)
 |cons h1 _ ih=>exactλA G L s env ro eo R Q k=>kwAll_cons (h1 A G L s env ro eo R _ λaz u ax aB aH aV=>ih A az L ax env ro eo aB _ λaD us ay aE aJ cA=>k aD _ ay aE (aH.aO aJ) (.cons (aV.mono aJ.sub) cA))
def jv.names (h:jv U w C Y sc d dh Z ks aa) (pos:Pos):(backToKw pos (keywordEach dh env)).all (·.1.isSome)=true/\(backToKw pos (keywordEach dh env)).any (·.1.isNone)=false/\(backToKw pos (keywordEach dh env)).filterMap (·.1)=ks.map (·.1):=by
 induction h with
 |nil=>exact⟨rfl,rfl,rfl⟩
 |cons _ _ ih=>exact⟨ih.1,ih.2.1,aQ _ ih.2.2⟩
def jv.PI (h:jv U w C Y sc d [] Z ks aa):ks=[]/\aa=Z:=by cases h;exact⟨rfl,rfl⟩
def dJ.PI (h:dJ U w C Y sc d [] Z vs aa):vs=[]/\aa=Z:=by cases h;exact⟨rfl,rfl⟩
def xt {f:Value} {pos:Pos} {Q:Args->Shared->Prop} (ha:dJ U w C Y sc d es Z vs aa) (hk:jv U w C Y sc d dh aa ks ah) (ro:dI A d) (eo:cN sc L env) (R:Rep w.params C Y G L Z s)
    (k:∀G' s' us kk,Rep w.params C Y G' L ah s'->Later G.OA G s G' s'->eC w.params G' vs us->eC w.params G' (ks.map (·.2)) kk->Q ⟨us,(ks.map (·.1)).zip kk⟩ s'):WP U w A (evalArgs f true (backTo pos (starEach es env)) (backToKw pos (keywordEach dh env))) s Q:=by
 have⟨n1,_,n3⟩:=hk.names (env:=env) pos
 have st:=ha.Mm
 rw[<-n3] at k
 cases dh with
 |nil=>
  obtain⟨e1,e2⟩:=hk.PI
  rw[e1,e2] at k
  cases es with
  |nil=>obtain⟨e1,e2⟩:=ha.PI;rw[e1,e2] at k;exact evalArgs_nil3 (k G s [] [] R (.refl _ _ _) .nil .nil)
  |cons e es=>have h:=ha.run pos A G L s env ro eo R _ λaz us ax aB aH aV=>k az ax us [] aB aH aV .nil
              rw[gw (aw st).1] at h ⊢;exact evalArgs_plain h
 |cons kw dh=>
  cases es with
  |nil=>obtain⟨e1,e2⟩:=ha.PI;rw[e2] at hk;rw[e1] at k;exact evalArgs_kw2_nil n1 (hk.run pos A G L s env ro eo R _ λaD kk ay aE aJ cA=>k aD ay [] kk aE aJ .nil cA)
  |cons e es=>exact evalArgs_kw2 n1 (ha.run pos A G L s env ro eo R _ λaz us ax aB aH aV=>hk.run pos A az L ax env ro eo aB _ λaD kk ay aE aJ cA=>k aD ay us kk aE (aH.aO aJ) (aV.mono aJ.sub) cA) (gw (aw st).1)
def xN {f:Value} {first:List Value} {pos:Pos} {Q:Value->Shared->Prop}
    (kp:∀az ax,Rep w.params C Y az L ah ax->Sub G az->∃k,(k=Keeper.frame\/k=Keeper.machine\/k=Keeper.boundFrame)/\Looks (model U w) ax.heap (keeperOf f) k)
    (ha:dJ U w C Y sc d es Z vs aa) (hk:jv U w C Y sc d dh aa ks ah) (ro:dI A d) (eo:cN sc L env) (R:Rep w.params C Y G L Z s)
    (h:∀az ax us kk,Rep w.params C Y az L ah ax->Later G.OA G s az ax->eC w.params az vs us->eC w.params az (ks.map (·.2)) kk->WP U w A (call f (first++us) ((ks.map (·.1)).zip kk)) ax Q):
    WP U w A (callWith pos f first (backTo pos (starEach es env)) (backToKw pos (keywordEach dh env))) s Q:=
 callWith_of (P:=λhp=>∃k,(k=Keeper.frame\/k=Keeper.machine\/k=Keeper.boundFrame)/\Looks (model U w) hp (keeperOf f) k) (by rw[(lG es ha.Mm).1,(hk.names (env:=env) pos).2.1];rfl) (λ_ h=>h)
  (xt ha hk ro eo R λaz ax us kk aB aH aV cA=>⟨kp az ax aB aH.sub,h az ax us kk aB aH aV cA⟩)
end
def cS (e:Expr):Bool:=!Nat.beq e.ctorIdx 16
def Nz {o:Expr} {x:Str} {env:Env} {t:Sem Value} (h:cS o=true):attributeBase o x env t=t:=by
 cases o<;>first|exact ft h|exact Eq.refl t
def dW (args:List Expr) (dh:List Keyword) (apos pos:Pos):Bool:=args.all noStar&&(dh.all (λk=>k.arg.isSome)&&(decide (args.length+dh.length+1<30)&&(apos.endLine==pos.line)))
section
variable {U:Program} {w:World} {C:Nat} {K:Frag} {Y:Base} {sc:Scope} {d:Nat} {Z aa ah cC:aj} {A:Around} {G:Gh} {L:Addr} {s:Shared} {env:Env} {o:Expr} {x:Str} {apos pos:Pos} {es:List Expr} {vs:List DV} {dh:List Keyword} {ks:List (Str×DV)} {as:List (Str×ae)} {f:Addr} {r:DV} {aX:Option (List (Str×ae))}
def Pj {env:Env} {pos:Pos} (dh:List Keyword) (h:dh.all (λk=>k.arg.isSome)=true):(backToKw pos (keywordEach dh env)).all (·.1.isSome)=true:=by
 induction dh with
 |nil=>rfl
 |cons k r ih=>obtain⟨n,e,p⟩:=k;have⟨h1,h2⟩:=aw h;exact SR.mpr ⟨h1,ih h2⟩
def xY {args:List Expr} {p:Pos} (hf:dW args dh apos pos=true):methodCallForm (args.length+dh.length) (backTo p (starEach args env)) (backToKw p (keywordEach dh env))=true:=by
 have⟨f1,hf⟩:=aw hf
 have⟨f2,hf⟩:=aw hf
 have f3:=mQ (aw hf).1
 unfold methodCallForm
 rw[(lG args f1).2,Pj dh f2]
 simp only[Bool.true_and,decide_eq_true_eq]
 split<;>lia
def gz {args:List Expr} {Q:Value->Shared->Prop} (ho:cS o=true) (hf:dW args dh apos pos=true)
    (h:WP U w A (eval o env) s λov ax=>∀pl,WP U w A (getMethod ov x pl) ax λfx ay=>WP U w A (callWith pos fx.1 fx.2 (backTo pos (starEach args env)) (backToKw pos (keywordEach dh env))) ay Q):
    WP U w A (eval (.Call (.Attribute o x apos) args dh pos) env) s Q:=by
 show WP U w A (attributeBase o x env (eval o env) >>= λov=>standAt apos.atName >>= λ_=>methodCall o x apos pos env ov (args.length+dh.length) (backTo pos (starEach args env)) (backToKw pos (keywordEach dh env))) s Q
 rw[Nz ho]
 refine eO (h.mono λov ax cf=>eO (Rt ?_))
 unfold methodCall
 rw[xY hf]
 refine eO (Nc (WP.mono (cf _) λfx ay cP=>?_))
 unfold methodCallPos
 rw[(aw (aw (aw hf).2).2).2]
 exact eO (k5 cP)
def CT (K:Frag) (C:Nat) (x:Str) (f:Addr):Bool:=plainGet K C x&&(findIn K (.ref C) x==some (some (.ref f))&&(isFn K (.ref f)&&keepIn K (.ref f)))
def sL (T:cQ K Y) (ho:cS o=true) (hf:dW es dh apos pos=true) (hm:CT K C x f=true) (h₀:aC U w C Y sc d o Z .self aa) (hs:aa.aq=some as) (hx:look as x=none) (ha:dJ U w C Y sc d es aa vs ah) (hk:jv U w C Y sc d dh ah ks cC)
    (hc:af U w C Y d (.ref f) (.self::vs) ks cC.aq r aX):aC U w C Y sc d (.Call (.Attribute o x apos) es dh pos) Z r ⟨aX,cC.loc⟩:=λA G L s env ro eo R _ k=>by
 have⟨m1,hm⟩:=aw hm
 have⟨m2,hm⟩:=aw hm
 have⟨m3,m4⟩:=aw hm
 exact gz ho hf (h₀ A G L s env ro eo R _ λaz u ax aB aH aV pl=>gs aV (oP aB hs) λp dd eS n AO I=>
  method_fn (fm T aB) I (plainGet_of m1).1 (plainGet_of m1).2 (iI.mp m2) (iI.mp m3) (by show(lookIn x (dictOf eS n)).map _=_;rw[lookIn_dict,AO.none hx];rfl)
   (xN (λaD ay aE _=>keeps_K m4 _ (fm T aE)) ha hk ro eo aB λaD ay us kk aE aJ cA lB=>hc.call (loc:=cC.loc) ro aE (.cons ((DR.self AO.par).mono aJ.sub) cA) lB λiL v cB cF cL q=>k iL v cB cF ((aH.aO aJ).aO cL) q))
def mf {p:Pos} {f:Value} {fv:DV} (T:cQ K Y) (hkp:keepIn K f=true) (hfv:∀P G u,DR P G fv u->u=f) (h₀:aC U w C Y sc d (.Name x p) Z fv aa) (ha:dJ U w C Y sc d es aa vs ah) (hk:jv U w C Y sc d dh ah ks cC)
    (hc:af U w C Y d f vs ks cC.aq r aX):aC U w C Y sc d (.Call (.Name x p) es dh pos) Z r ⟨aX,cC.loc⟩:=λA G L s env ro eo R _ k=>
 wpAny_Call_Name_kw (h₀ A G L s env ro eo R _ λaz u ax aB aH aV=>fb (hfv _ _ _ aV)▸xN (λaD ay aE _=>keeps_K hkp _ (fm T aE)) ha hk ro eo aB λaD ay us kk aE aJ cA lB=>
  hc.call (loc:=cC.loc) ro aE cA lB λiL v cB cF cL q=>k iL v cB cF ((aH.aO aJ).aO cL) q)
def ru {c:Nat} (P:Params) (G:Gh) (u:Value) (h:DR P G (.cls c) u):u=.ref c:=h
def DW {c:Nat} (P:Params) (G:Gh) (u:Value) (h:DR P G (.fn c) u):u=.ref c:=h
def oy (K:Frag) (C:Nat) (x:Str) (f:Addr):Bool:=plainGet K C x&&(hasDictIn K C&&(findIn K (.ref C) x==some (some (.ref f))&&(isFn K (.ref f)&&(specialIn K (.ref f) "__get__"==some (some (.builtin "function.__get__"))&&(takesIn K (.ref f)==some false&&!copiedNames.contains x)))))
def vz {u:Value} {loc:List (Str×ae)} {Q:Value->Shared->Prop} (T:cQ K Y) (R:Rep w.params C Y G L ⟨some as,loc⟩ s) (hu:DR w.params G .self u) (hm:oy K C x f=true) (hx:look as x=none)
    (k:∀G' r s',Rep w.params C Y G' L ⟨some as,loc⟩ s'->Later G.OA G s G' s'->DR w.params G' (.bj f) r->Q r s'):WP U w A (getAttr u x true) s Q:=by
 have⟨m1,hm⟩:=aw hm
 have⟨m2,hm⟩:=aw hm
 have⟨m3,hm⟩:=aw hm
 have⟨m4,hm⟩:=aw hm
 have⟨m5,hm⟩:=aw hm
 have⟨m6,m7⟩:=aw hm
 exact gs hu R.tocu λp dd es n AO I=>get_bind (fm T R) I (plainGet_of m1).1 (findObj_fn m2 (iI.mp m3) (iI.mp m5) (iI.mp m6) (Rl _▸m7) (by rw[lookIn_dict,AO.none hx])) (plainGet_of m1).2
  (wpAny_call (fn_get (s:={s with toks:=s.toks+1}) (fm T R.toks) (iI.mp m4) (handed_on rfl (a3 (R.wk (methodObj (.ref f) (.ref p)) rfl (t:=s.toks+1)) λR' l' g'=>k _ _ _ R' l' (.bj (d:=dd) AO.par g')))))
def v7 (K:Frag) (C:Nat) (x:Str):Bool:=plainGet K C x&&(hasDictIn K C&&findIn K (.ref C) x==some none)
def mN (T:cQ K Y) (ho:cS o=true) (hf:dW es [] apos pos=true) (hm:v7 K C x=true) (hfn:fnIn K f=true) (h₀:aC U w C Y sc d o Z .self aa) (hs:aa.aq=some as) (hx:look as x=some (.pv (.bj f))) (ha:dJ U w C Y sc d es aa vs ah)
    (hc:af U w C Y d (.ref f) (.self::vs) [] ah.aq r aX):aC U w C Y sc d (.Call (.Attribute o x apos) es [] pos) Z r ⟨aX,ah.loc⟩:=λA G L s env ro eo R _ k=>by
 have⟨m1,hm⟩:=aw hm
 have⟨m2,m3⟩:=aw hm
 have m3:=iI.mp m3
 exact gz ho hf (h₀ A G L s env ro eo R _ λaz u ax aB aH aV pl=>gs aV (oP aB hs) λp dd eS n AO I=>method_usual (fm T aB) I (plainGet_of m1).1 (plainGet_of m1).2 m3 rfl
  (bx (AO.sl.hit x _ hx) λv hv ok=>get_value (fm T aB) I (plainGet_of m1).1 (findObj_own m2 m3 rfl (gC hv)) (bD.handed ok) (e33 (show ∃m p d,_ from ok) λm p' d' ev h h2=>by
    have e:=h.symm.trans AO.par
    cases e
    rw[ev]
    exact xN (G:=az) (λaD cB aE sb=>keeps_M hfn _ ⟨aE.pins _ _ (sb.g _ _ h2),fm T aE⟩) ha .nil ro eo aB.toks λaD cB us kk aE aJ cA lB=>lB.jr (wpAny_call (method_call (aE.pins _ _ (aJ.sub.g _ _ h2))
     (hc A aD cB _ _ ro aE.tocu (.cons ((DR.self AO.par).mono aJ.sub) cA) .nil _ λiL v pK cF cL e q=>k iL v pK (aE.ofA (loc:=ah.loc) cF cL e) ((aH.tk.aO aJ).aO cL) q))))))
end
section
variable {U:Program} {w:World} {C:Nat} {K:Frag} {Y:Base} {sc:Scope} {d:Nat} {Z aa:aj}
def G5 {A:Around} {c:Addr} {vs:List Value} {kw:List (Str×Value)} (h:dI A (d+1)):dI (A.under (.builtin "type.__call__" ⟨.ref c::vs,kw⟩)) d:=by
 have e1:(Code.builtin "type.__call__" ⟨.ref c::vs,kw⟩).weight=1:=KK
 have e2:(Code.builtin "type.__call__" ⟨.ref c::vs,kw⟩).cUnits=1:=KK
 exact⟨by have:=h.depth;show A.depth+(Code.builtin "type.__call__" ⟨.ref c::vs,kw⟩).weight+4*d+8<=_;rw[e1];exact qM this (by decide),by have:=h.units;show A.units+(Code.builtin "type.__call__" ⟨.ref c::vs,kw⟩).cUnits+40*d+60<=_;rw[e2];exact qM this (by decide),h.handled⟩
def uN {es:List Expr} {k:Nat} {pos:Pos} {vs:List DV} (h:dJ U w C Y sc d es Z vs aa) (hz:vs.length<=lim):aC U w C Y sc d (.Tuple es k pos) Z (.tup vs) aa:=λA G L s env ro eo R _ k=>
 Tuple_ (h.run pos A G L s env ro eo R _ λaz us ax aB aH aV=>wpAny_newTuple (a3 (aB.wk (pN us 0) rfl (t:=ax.toks)) λaE aJ OI=>k _ _ _ aE (aH.aO aJ) (.tup OI (aV.length▸hz) (aV.mono aJ.sub))) (cK (aV.length▸hz)))
def cu.loose {P:Params} {aq:Option (List (Str×ae))} {G:Gh} {s:Shared} {z:Nat} (R:cu P C Y G aq s) (h:z<=s.heap.objs.size):Loose G z s.heap.objs.size:=have f:=R.fresh (fy _);⟨f.1,f.2.1,f.2.2,h⟩
def y3 {es:List Expr} {pos:Pos} {vs:List DV} (h:dJ U w C Y sc d es Z vs aa) (hz:vs.length<=lim):cO U w C Y sc d (.List es pos) Z (.fl vs) aa:=λA G L s env ro eo R _ k=>
 List_ (h.run pos A G L s env ro eo R _ λaz us ax aB aH aV=>wpAny_newList (k az _ _ (aB.push (t:=ax.toks) _) (aH.aO (eU (t:=ax.toks) _)) ⟨_,us,0,rfl,Hu _ rfl,aV,aV.length▸hz,aB.loose aH.size⟩) (cK (aV.length▸hz)))
def G9 {pos:Pos}:cO U w C Y sc d (.Dict [] [] pos) Z (.fd []) Z:=λA G L s env ro eo R _ k=>wpAny_Dict_empty (k G _ _ (R.push (t:=s.toks) _) (eU (t:=s.toks) _) ⟨_,[],0,rfl,Hu _ rfl,.nil,R.loose (fy _)⟩)
def af.Ow {f:Value} {args:List DV} {kw:List (Str×DV)} {aq aX:Option (List (Str×ae))} {c:Nat} {fs:List (Str×DV)} (h:af U w C Y d f args kw aq (.inst c fs) aX):af U w C Y d f args kw aq .rf aX:=λA G s vs ks ro R ha hk Q k=>
 h A G s vs ks ro R ha hk Q λG' v s' R' l e q=>q.nU (Q:=λv=>(DR w.params G' .rf v->Q v s')->Q v s') (λa _ _ _ _ _ _ _ k=>k ⟨a,rfl⟩) λq=>k G' v s' R' l e q
def lY (K:Frag) (c fI:Addr):Bool:=makesIn K c&&(findIn K (.ref c) "__init__"==some (some (.ref fI))&&typeIn K (.ref fI)==some (.type "function"))
structure SX (G aD:Gh) (s ay:Shared):Prop where
 sub:aD.V=G.V/\∀b o,G.g b=some o->aD.g b=some o
 par:aD.par=some (s.heap.objs.size+1,s.heap.objs.size)
 back:∀b o,b<s.heap.objs.size->aD.g b=some o->G.g b=some o
 acm:∀b,aD.OA b->s.heap.objs.size<=b
 keep:∀b o,s.heap.get? b=some o->ay.heap.get? b=some o
 size:s.heap.objs.size<=ay.heap.objs.size
 io:ay.gens=s.gens/\ay.os=s.os
def SX.no {G aD:Gh} {s ay:Shared} (B:SX G aD s ay) {b:Addr} (e:G.g b=none/\b<s.heap.objs.size):aD.g b=none/\b<ay.heap.objs.size:=⟨by
 cases q:aD.g b with
 |none=>rfl
 |some o=>exact sn ((B.back b o e.2 q).symm.trans e.1),qu e.2 B.size⟩
def yq {c fI:Addr} {args:List DV} {kw:List (Str×DV)} {as:List (Str×ae)} {aq:Option (List (Str×ae))} (T:cQ K Y) (hm:lY K c fI=true) (f1:gU args=true) (f2:gU (kw.map (·.2))=true) (h:af U w c Y d (.ref fI) (.self::args) kw (some []) .none (some as))
    {A:Around} {G:Gh} {s:Shared} {vs ks:List Value} (ro:dI A (d+1)) (R:cu w.params C Y G aq s) (ha:eC w.params G args vs) (hk:eC w.params G (kw.map (·.2)) ks) {Q:Value->Shared->Prop} (k:∀aD ay,cu w.params c Y aD (some as) ay->SX G aD s ay->Q (.ref (s.heap.objs.size+1)) ay):
    codeAny (model U w) A (.call (.ref c) ⟨vs,(kw.map (·.1)).zip ks⟩) (λx s'=>match x with| .ok (.ret v)=>Q v s'| .ok _=>False| .error _=>False) s:=by
 have⟨m1,hm⟩:=aw hm
 have⟨m2,m3⟩:=aw hm
 have X:=lU T R
 obtain⟨hh,g,dr,t,os⟩:=s
 have X:K.In hh:=X
 refine make_core (makes_of X m1) (looks_findIn X (iI.mp m2)) (λself=>bind_fn X self (iI.mp m3)) (.inl rfl) ?_
 have k0:∀b o,hh.get? b=some o->((hh.push emptyDict).push (instObj c hh.objs.size)).get? b=some o:=λb o e=>MT _ (MT _ e)
 have z1:((hh.push emptyDict).push (instObj c hh.objs.size)).objs.size=hh.objs.size+2:=by rw[M7,M7]
 have hx:((hh.push emptyDict).push (instObj c hh.objs.size)).get? (hh.objs.size+1)=some (instObj c hh.objs.size):=by
  have:=Hu (hh.push emptyDict) (o:=instObj c hh.objs.size) rfl
  rwa [M7] at this
 have lt:∀b,b<hh.objs.size->b<((hh.push emptyDict).push (instObj c hh.objs.size)).objs.size/\b≠hh.objs.size/\b≠hh.objs.size+1:=λb q=>⟨z1▸Nat.lt_add_right 2 q,Fo q,Fo (Nat.lt_succ_of_lt q)⟩
 have g0:∀b o,G.g b=some o->b<hh.objs.size:=λb o e=>u0 (R.pins b o e)
 let az:Gh:={pinned G (hh.objs.size+1) (instObj c hh.objs.size) with par:=some (hh.objs.size+1,hh.objs.size),OA:=λb=>b=hh.objs.size,OL:=λ_=>False}
 have kg:∀b o,G.g b=some o->az.g b=some o:=λb o e=>(cD (lt b (g0 b o e)).2.2).trans e
 have ng:az.g hh.objs.size=none:=(cD (Fo (MV _))).trans (R.fresh (fy _)).2.2
 have aB:cu w.params c Y az (some []) ⟨(hh.push emptyDict).push (instObj c hh.objs.size),g,dr,t,os⟩:=
  ⟨λb o=>oq (s:=⟨(hh.push emptyDict).push (instObj c hh.objs.size),g,dr,t,os⟩) (λb o e=>k0 b o (R.pins b o e)) hx,λb o e=>kg b o (R.dU b o e),R.val,λb (q:b=_)=>fb q▸⟨ng,by show _<((hh.push emptyDict).push _).objs.size;rw[z1];exact Nat.lt_add_of_pos_right (by decide)⟩,λb q=>q.elim,λb _ q=>q,
    _,_,[],0,rfl,dw,rfl,MT _ (Hu _ rfl),fy _,λ_ h=>(nomatch h),(λ_ _=>rfl),(λ_ _ e=>ns e),λ_ _ _ _ e=>ns e⟩
 refine codeAny_mono (h _ az _ _ ks (G5 ro) aB (.cons (.self rfl) (eC.free (G:=G) (G':=az) rfl kg ha f1)) (eC.free (G:=G) (G':=az) rfl kg hk f2) (λv ay=>v=.none/\Q (.ref (hh.objs.size+1)) ay) λaD v ay aE l _ dv=>⟨dv,k aD ay aE
  ⟨⟨l.sub.V,λb o e=>l.sub.g b o (kg b o e)⟩,l.sub.par _ rfl,λb o q e=>(cD (lt b q).2.2).symm.trans (l.qk b o (lt b q).1 (λz=>z.elim (lt b q).2.1 id) e),
    λb q=>xm.mp λz=>(lt b z).2.1 (l.anew b (lt b z).1 q),λb o e=>l.kept b o (k0 b o e) λ(q:b=_)=>(lt b (u0 e)).2.1 q,bw (Hx _ 2) (z1▸l.size),l.gens,l.os⟩⟩) λx s' q=>?_
 rcases x with e|f'
 ·exact q
 ·cases f'<;>first|exact q.elim|exact q
def L6 {c fI:Addr} {args:List DV} {kw:List (Str×DV)} {fs:List (Str×DV)} {aq:Option (List (Str×ae))} (T:cQ K Y) (hm:lY K c fI=true) (f1:gU args=true) (f2:gU (kw.map (·.2))=true) (f3:D1 fs=true)
    (h:af U w c Y d (.ref fI) (.self::args) kw (some []) .none (some (fs.map λp=>(p.1,.pv p.2)))):af U w C Y (d+1) (.ref c) args kw aq (.inst c fs) aq:=λA G s vs ks ro R ha hk Q k=>
 yq T hm f1 f2 h ro R ha hk λaD ay aE B=>cV aE.attr λp dd q=>cV q λes n AO=>by
  have e:=AO.par.symm.trans B.par
  cases e
  have D:=ki aE.pins AO.dict
  have HS:Sub G {G with g:=(pinned aD s.heap.objs.size (dictOf es n)).g}:=⟨rfl,λb o e=>D.g b o (B.sub.2 b o e),λ_ e=>e⟩
  have back:∀b o,b<s.heap.objs.size->(pinned aD s.heap.objs.size (dictOf es n)).g b=some o->G.g b=some o:=λb o q e=>B.back b o q ((cD (Fo q)).symm.trans e)
  have R7:∀b,G.g b=none/\b<s.heap.objs.size->(pinned aD s.heap.objs.size (dictOf es n)).g b=none/\b<ay.heap.objs.size:=λb e=>(B.no e).imp_left (cD (Fo e.2)).trans
  exact k {G with g:=(pinned aD s.heap.objs.size (dictOf es n)).g} _ ay ⟨λb o=>oq aE.pins AO.dict,λb o e=>HS.g b o (R.dU b o e),R.val,λb q=>R7 b (R.fM b q),λb q=>R7 b (R.fG b q),R.apart,R.attr.mono HS id (λb o _=>B.keep b o) λ_ q=>q⟩
   ⟨HS,λb o q _=>back b o q,λ_ _ q=>q,λ_ _ q=>q,λb o e _=>B.keep b o e,λx _ v q=>gq q λp d es q=>ua q λn a b c=>⟨p,d,es,n,a,B.keep _ _ b,c⟩,B.size,B.io.1,B.io.2⟩ rfl
   (.inst (D.g _ _ AO.inst) dw (λx e=>AO.none (by rw[f9,e];rfl)) λx dv e=>bx (AO.sl.hit x (.pv dv) (by rw[f9,e];rfl)) λu hu ok=>⟨u,gC hu,DR.free (G:=aD) (G':={G with g:=(pinned aD s.heap.objs.size (dictOf es n)).g}) B.sub.1.symm D.g ok (rI f3 e)⟩)
def wx {c fI:Addr} {args:List DV} {kw:List (Str×DV)} {as:List (Str×ae)} (T:cQ K Y) (hm:lY K c fI=true) (f1:gU args=true) (f2:gU (kw.map (·.2))=true)
    (h:af U w c Y d (.ref fI) (.self::args) kw (some []) .none (some as)):af U w c Y (d+1) (.ref c) args kw none .self (some as):=λA G s vs ks ro R ha hk Q k=>
 yq T hm f1 f2 h ro R ha hk λaD ay aE B=>k {aD with OA:=λb=>G.OA b\/aD.OA b,OL:=G.OL} _ ay
  ⟨aE.pins,aE.dU,aE.val,λb q=>q.elim (λq=>B.no (R.fM b q)) (aE.fM b),λb q=>B.no (R.fG b q),λb q q'=>q.elim (λq=>R.apart b q q') λq=>xm.mpr (B.acm b q) (R.fG b q').2,aE.attr.mono ⟨rfl,λ_ _ e=>e,λ_ e=>e⟩ id (λ_ _ _ e=>e) λ_=>.inr⟩
  ⟨⟨B.sub.1,B.sub.2,λx e=>ns ((show G.par=none from R.attr).symm.trans e)⟩,λb o q _=>B.back b o q,λb z q=>q.elim id λq=>absurd z (xm.mpr (B.acm b q)),λ_ _ q=>q,λb o e _=>B.keep b o e,λx _ v q=>gq q λp d es q=>fk q λn q=>ns ((show G.par=none from R.attr).symm.trans q.1),B.size,B.io.1,B.io.2⟩ rfl (.self B.par)
end
def iu {h:Heap} {a:Addr} {vs HF:List Value} {n:Nat} {f:Array Value->Array Value} (e:h.get? a=some (bG vs n)) (hf:f ⟨vs⟩=⟨HF⟩):∃n',(h.update a (Obj.mapSeq f)).get? a=some (bG HF n'):=
 ⟨_,hf▸IsL.update (l:=a) (items:=⟨vs⟩) (n:=n) e f⟩
section
variable {U:Program} {w:World} {C:Nat} {K:Frag} {Y:Base} {sc:Scope} {d:Nat} {Z aa ah cC:aj} {A:Around} {G:Gh} {L:Addr} {s:Shared} {env:Env} {o e:Expr} {x:Str} {apos pos qr:Pos} {p:Pl} {l:List DV} {es:List Expr} {vs:List DV} {v:DV}
def xZ {dh:List Keyword} (hf:dW (e::es) dh apos pos=true):noStar e=true:=(aw (aw hf).1).1
def uv {id:String} {Q:Value->Shared->Prop} (ho:cS o=true) (hf:dW es [] apos pos=true) (hP:gB U w C Y sc d o Z p) (lp:p.fix=true) (ha:dJ U w C Y sc d es Z vs aa) (h₀:∃ly,p.get Z=some (.ml ly)) (cf:p.get aa=some (.ml l)) (slot:Slot "list" x id)
    (hty:typeOf (.builtin id)=pure (.type "method_descriptor")) (ro:dI A d) (eo:cN sc L env) (R:Rep w.params C Y G L Z s)
    (k:∀az ax a us items n,Rep w.params C Y az L aa ax->Later G.OA G s az ax->At az L ax p a->ax.heap.get? a=some (bG items n)->eC w.params az l items->items.length<=lim->eC w.params az vs us->WP U w A (call (.builtin id) (.ref a::us) []) ax Q):
    WP U w A (eval (.Call (.Attribute o x apos) es [] pos) env) s Q:=
 gz ho hf (hP A G L s env ro eo R _ λa t lS pl=>h₀.elim λly h₀=>gq (R.gZ lS h₀) λb JJ ah3 q=>a5 q λe aaN _ _ _=>by
  cases e
  exact getMethod_list_of (s:={s with toks:=t}) (items:=⟨JJ⟩) slot hty ⟨_,aaN,rfl,ah3,rfl⟩ ⟨_,aaN,rfl⟩ (callWith_builtin (lG es ha.Mm).1 (xt ha .nil ro eo R.toks λaD ay us kk aE aJ cA lB=>lB.jr (by
   have Ji:=lS.toks.later R.toks aJ lp
   exact gq (aE.gZ Ji cf) λb items n q=>a5 q λe g hd hz _=>by cases e;exact k aD ay a us items n aE (Later.aO bb aJ) Ji g hd hz cA))))
def pb {id:String} {l':List DV} (ho:cS o=true) (hf:dW es [] apos pos=true) (hP:gB U w C Y sc d o Z p) (lp:p.fix=true) (ha:dJ U w C Y sc d es Z vs aa) (h₀:∃ly,p.get Z=some (.ml ly)) (cf:p.get aa=some (.ml l)) (slot:Slot "list" x id)
    (hty:typeOf (.builtin id)=pure (.type "method_descriptor"))
    (k:∀(A:Around) (G:Gh) (s:Shared) (a:Addr) (us items:List Value) (n:Nat) (Q:Value->Shared->Prop),(∀c o,G.g c=some o->s.heap.get? c=some o)->s.heap.get? a=some (bG items n)->eC w.params G l items->items.length<=lim->eC w.params G vs us->
      (∀(f:Array Value->Array Value) rT,f ⟨items⟩=⟨rT⟩->eC w.params G l' rT->rT.length<=lim->Q .none {s with heap:=s.heap.update a (Obj.mapSeq f)})->WP U w A (call (.builtin id) (.ref a::us) []) s Q):
    aU U w C Y sc d (.Expr (.Call (.Attribute o x apos) es [] pos) qr) Z .next (p.set aa (.ml l')):=λA G L s env ro eo R Q kk=>
 wpAny_Expr_any (uv ho hf hP lp ha h₀ cf slot hty ro eo R λaz ax a us items n aB aH lS g hd hz hu=>k A az ax a us items n _ aB.pins g hd hz hu λf rT hf Ar rK=>by
  obtain⟨n',g'⟩:=iu g hf
  have q:=aB.turn (k':=.ml l') (t:=ax.toks) lS cf rfl λO o=>⟨a,rT,n',rfl,g',Ar,rK,o⟩
  exact kk az _ _ q.1 (aH.turn q.2) rfl) (by rw[interactive,eo.scope,eo.kind];rfl) rfl
def Pr {n:Nat} (h:n<=lim):Builtin.List.listTooLong n=false:=by
 unfold Builtin.List.listTooLong
 have:=cK h
 rw[ZJ];lia
def yd {I:Int} {i:Nat} (hI:I=i) (h:i<=lim):Builtin.List.listFitsIndex I=true:=by
 have:i<=2 ^ 22:=h
 unfold Builtin.List.listFitsIndex
 simp only[Bool.and_eq_true,decide_eq_true_eq]
 lia
def uS (ho:cS o=true) (hf:dW [e] [] apos pos=true) (hP:gB U w C Y sc d o Z p) (lp:p.fix=true) (he:aC U w C Y sc d e Z v aa) (h₀:∃ly,p.get Z=some (.ml ly)) (cf:p.get aa=some (.ml l)) (hz:l.length+1<=lim):
    aU U w C Y sc d (.Expr (.Call (.Attribute o "append" apos) [e] [] pos) qr) Z .next (p.set aa (.ml (l++[v]))):=
 pb ho hf hP lp (.cons (xZ hf) he .nil) h₀ cf PySem.F.slot_list_append PySem.F.type_list_append λA G s a us items n Q _ g hd rK hu k=>hu.fz λu us hu h=>h.jr
  (call_meets PySem.F.slot_list_append ⟨_,g,rfl⟩ PySem.F.entry_list_append (PySem.F.args_list_append_2 _ _) (list_append a ⟨items⟩ n u (cK rK)) ⟨g,k (λx=>x.push u) (items++[u]) (by simp) (hd.app (.cons hu .nil)) (by rw[da,<-hd.length];exact hz)⟩)
def uT {l':List DV} (ho:cS o=true) (hf:dW [e] [] apos pos=true) (hP:gB U w C Y sc d o Z p) (lp:p.fix=true) (he:aC U w C Y sc d e Z (.lst l') aa) (h₀:∃ly,p.get Z=some (.ml ly)) (cf:p.get aa=some (.ml l)) (hz:l.length+l'.length<=lim):
    aU U w C Y sc d (.Expr (.Call (.Attribute o "extend" apos) [e] [] pos) qr) Z .next (p.set aa (.ml (l++l'))):=
 pb ho hf hP lp (.cons (xZ hf) he .nil) h₀ cf PySem.F.slot_list_extend PySem.F.type_list_extend λA G s a us items n Q hp g hd rK hu k=>hu.fz λu us hu h=>h.jr (hu.lu λb o9 n2 hg2 hz2 hd2=>by
  have hzz:items.length+o9.length<=lim:=by rw[<-hd.length,<-hd2.length];exact hz
  exact call_meets PySem.F.slot_list_extend ⟨_,g,rfl⟩ PySem.F.entry_list_extend (PySem.F.args_list_extend_2 _ _) (AutoSeq1.list_extend_list_list_0 a ⟨items⟩ n b ⟨o9⟩ n2 (by
   show ¬(!_&&Builtin.List.listTooLong (items.length+o9.length))=true
   rw[Pr hzz,Bool.and_false];exact Bool.false_ne_true) (cK rK) (Nat.le_succ_of_le (cK hzz))) ⟨g,hp _ _ hg2,k (λx=>x++⟨o9⟩) (items++o9) (by simp) (hd.app hd2) (by rw[da];exact hzz)⟩)
def Hm {dE cv:Expr} {i:Nat} {I:Int} (hI:I=i) (ho:cS o=true) (hf:dW [dE,cv] [] apos pos=true) (hP:gB U w C Y sc d o Z p) (lp:p.fix=true)
    (ha:dJ U w C Y sc d [dE,cv] Z [.int I,v] aa) (h₀:∃ly,p.get Z=some (.ml ly)) (cf:p.get aa=some (.ml l)) (hz:l.length+1<=lim) (hi:i<=l.length):
    aU U w C Y sc d (.Expr (.Call (.Attribute o "insert" apos) [dE,cv] [] pos) qr) Z .next (p.set aa (.ml (l.take i++v::l.drop i))):=
 pb ho hf hP lp ha h₀ cf PySem.F.slot_list_insert PySem.F.type_list_insert λA G s a us items n Q hp g hd rK hu k=>hu.fz λu1 us hu1 h=>h.fz λu us hu h=>h.jr (hu1.fS λt=>by
  have hl:=hd.length
  refine call_meets PySem.F.slot_list_insert ⟨_,g,rfl⟩ PySem.F.entry_list_insert (PySem.F.args_list_insert_3 _ _ _) (AutoSeq1.list_insert_list_int_val_1 a ⟨items⟩ n I t u (by rw[yd hI (bw hi (Zf hz))];decide) (cK rK)) ⟨g,k _ (items.take i++u::items.drop i) ?_ ((hd.take i).app (.cons hu (hd.drop i))) ?_⟩
  ·have h0:¬(I<0):=by lia
   have h1:I.toNat=i:=by lia
   have h2:min i items.length=i:=Nat.min_eq_left (by lia)
   simp[h0,h1,h2]
   exact List.take_of_length_le (by simp)
  ·rw[da,M9,ZH,ZF,Nat.min_eq_left (hl▸hi)]
   generalize lim=z at*
   lia)
def Qy {i:Nat} {I:Int} (hI:I=i) (ho:cS o=true) (hf:dW es [] apos pos=true) (hP:gB U w C Y sc d o Z (.aq x)) (lp:fu.contains x=true)
    (ha:dJ U w C Y sc d es Z vs aa) (h₀:∃ly,(Pl.aq x).get Z=some (.ml ly)) (cf:(Pl.aq x).get aa=some (.ml l)) (hi:l[i]?=some v) (hv:(vs=[]/\i=l.length - 1)\/vs=[.int I]):
    aC U w C Y sc d (.Call (.Attribute o "pop" apos) es [] pos) Z v ((Pl.aq x).set aa (.ml (l.eraseIdx i))):=λA G L s env ro eo R Q k=>
 uv ho hf hP lp ha h₀ cf PySem.F.slot_list_pop PySem.F.type_list_pop ro eo R λaz ax a us items n aB aH lS g hd rK hu=>bx (hd.at i v hi) λy hy dy=>by
  have hl:=hd.length
  have fin:Q y {ax with heap:=ax.heap.update a (Obj.mapSeq λxs=>xs.eraseIdxIfInBounds i)}:=by
   obtain⟨n',g'⟩:=iu (f:=λxs=>xs.eraseIdxIfInBounds i) (HF:=items.eraseIdx i) g (by
    show items.toArray.eraseIdxIfInBounds i=(items.eraseIdx i).toArray
    rw[List.eraseIdxIfInBounds_toArray])
   have q:=aB.turn (k':=.ml (l.eraseIdx i)) (t:=ax.toks) lS cf rfl λO o=>⟨a,_,n',rfl,g',hd.erase i,bw (List.length_eraseIdx_le _ _) rK,o⟩
   exact k az y _ q.1 (aH.aO q.2) dy
  rcases hv with⟨e1,e⟩ |e1
  ·rw[e1] at hu
   rw[e,hl] at fin hy
   exact hu.jr (call_meets PySem.F.slot_list_pop ⟨_,g,rfl⟩ PySem.F.entry_list_pop (PySem.F.args_list_pop_1 _) (MeetsSeq.list_pop_last a ⟨items⟩ n y (by simp only[Ze,List.getElem?_toArray];exact hy) (cK rK)) ⟨g,fin⟩)
  ·rw[e1] at hu
   have RL:i<items.length:=(M8.mp hy).1
   exact hu.fz λu us hu1 h=>h.jr (hu1.fS λt=>call_meets PySem.F.slot_list_pop ⟨_,g,rfl⟩ PySem.F.entry_list_pop (PySem.F.args_list_pop_2 _ _) (MeetsSeq.list_pop_at a ⟨items⟩ n I t i y (yd hI (bw (Rp RL) rK)) (by
    unfold seqIndex?
    have:¬(I<0):=by lia
    have h1:I.toNat=i:=by lia
    simp[this,h1];lia) (by simpa using hy) (cK rK)) ⟨g,fin⟩)
end
def gS:Expr->Option (Expr×List Expr×List Keyword×Pos):=iQ Expr.ctorIdx 16 λe h=>@Expr.Call.elim (λ_=>Expr×List Expr×List Keyword×Pos) e h λa b c d=>(a,b,c,d)
def ic:∀e:Expr,On (λq=>.Call q.1 q.2.1 q.2.2.1 q.2.2.2=e) (gS e):=cH (λq:Expr×List Expr×List Keyword×Pos=>Expr.Call q.1 q.2.1 q.2.2.1 q.2.2.2) λe h=>
 @Expr.Call.elim (λe=>∀h,(λq:Expr×List Expr×List Keyword×Pos=>Expr.Call q.1 q.2.1 q.2.2.1 q.2.2.2) (@Expr.Call.elim (λ_=>Expr×List Expr×List Keyword×Pos) e h λa b c d=>(a,b,c,d))=e) e h (λ_ _ _ _ _=>rfl) h
def ma (e:Expr):Bool:=Option.rec (motive:=λ_=>Bool) true (λq=>!Nat.beq q.1.ctorIdx 23) (gS e)
def zT {o:Expr} {x:Str} {env:Env} {t:Sem Value} (h:ma o=true):attributeBase o x env t=t:=by
 cases o<;>first|exact Eq.refl t|skip
 rename_i f a k p
 cases f<;>first|exact ft h|exact Eq.refl t
def eG (e:Expr):Bool:=!Nat.beq e.ctorIdx 26
def R8 {e:Expr} (h:eG e=true) (a b c:Option Expr) (p:Pos):e≠.Slice a b c p:=λq=>by rw[q] at h;exact ft h
section
variable (U:Program) (w:World) (C:Nat) (Y:Base)
def xp (aq:Option (List (Str×ae))) (v:DV) (x:Str) (z:DV):Prop:=∀(A:Around) (G:Gh) (L:Addr) (loc:List (Str×ae)) (s:Shared) (u:Value),Rep w.params C Y G L ⟨aq,loc⟩ s->DR w.params G v u->
 ∀Q:Value->Shared->Prop,(∀G' r s',Rep w.params C Y G' L ⟨aq,loc⟩ s'->Later G.OA G s G' s'->DR w.params G' z r->Q r s')->WP U w A (getAttr u x true) s Q
def qg (V:Val) (x i z:DV):Prop:=∀(A:Around) (G:Gh) (s:Shared) (u v:Value),dI A 0->G.V=V->(∀c o,G.g c=some o->s.heap.get? c=some o)->DR w.params G x u->DR w.params G i v->
 ∃T id,s.TypeIs u T/\typeLookup (.type T) "__getitem__"=pure (some (.builtin id))/\∀Q:Value->Shared->Prop,(∀r t,DR w.params G z r->Q r {s with toks:=t})->WP U w A (getItem u v) s Q
end
section
variable {U:Program} {w:World} {C:Nat} {K:Frag} {Y:Base} {sc:Scope} {d:Nat} {Z aa ah cC:aj} {A:Around} {G:Gh} {L:Addr} {s:Shared} {env:Env} {aq:Option (List (Str×ae))} {x:Str} {c:Nat} {z:DV} {v:Value} {as:List (Str×ae)} {pos:Pos} {V:Val}
def Rc {o:Expr} {Q:Value->Shared->Prop} (ho:ma o=true) (h:WP U w A (eval o env) s λu ax=>WP U w A (getAttr u x true) ax Q):WP U w A (eval (.Attribute o x pos) env) s Q:=by
 unfold WP
 rw[arm_eval_Attribute,zT ho]
 exact eO (h.mono λu ax cf=>eO (Rt (eO (Nc (WP.mono cf λr ay cP=>eO (wpAny_letTemporaryGo (k5 cP)))))))
def Qt {o:Expr} {v:DV} (ho:ma o=true) (h:aC U w C Y sc d o Z v aa) (hg:xp U w C Y aa.aq v x z):aC U w C Y sc d (.Attribute o x pos) Z z aa:=λA G L s env ro eo R _ k=>
 Rc ho (h A G L s env ro eo R _ λaz u ax aB aH aV=>hg A az L aa.loc ax u aB aV _ λaD r ay aE aJ cA=>k aD r ay aE (aH.aO aJ) cA)
section
variable (T:cQ K Y)
include T
theorem aaL {fs:List (Str×DV)} (hc:bN K c=true) (ha:d9 K c x=true) (hx:look fs x=some z):xp U w C Y aq (.inst c fs) x z:=λA G L loc s u R hu _ k=>OD T R hu hc ha hx λr _ q=>k G r _ R.toks bb q
theorem Jd {fs:List (Str×DV)} (hc:bN K c=true) (ha:jl K c x v=true) (hx:look fs x=none) (hv:∀G:Gh,(∀b o,Y.hp.get? b=some o->G.g b=some o)->DR w.params G z v):xp U w C Y aq (.inst c fs) x z:=λA G L loc s u R hu _ k=>
 Aq T R hu hc ha hx λ_=>k G v _ R.toks bb (hv G R.dU)
theorem T6 (hc:bN K C=true) (ha:d9 K C x=true) (hx:look as x=some (.pv z)):xp U w C Y (some as) .self x z:=λA G L loc s u R hu _ k=>x8 T hu R.tocu hc ha hx λr _ q=>k G r _ R.toks bb q
theorem FW (hc:bN K C=true) (ha:jl K C x v=true) (hx:look as x=none) (hv:∀G:Gh,(∀b o,Y.hp.get? b=some o->G.g b=some o)->DR w.params G z v):xp U w C Y (some as) .self x z:=λA G L loc s u R hu _ k=>
 x9 T hu R.tocu hc ha hx λ_=>k G v _ R.toks bb (hv G R.dU)
theorem Ap {f:Addr} (hm:oy K C x f=true) (hx:look as x=none):xp U w C Y (some as) .self x (.bj f):=λA G L loc s u R hu _ k=>vz T R hu hm hx k
def isVal (v:Value):Option CFound->Bool
 |some (.val u)=>u==v
 |_=>false
omit T in
theorem JI {v:Value} {o:Option CFound} (h:isVal v o=true):o=some (.val v):=by
 cases o with
 |none=>exact ft h
 |some f=>cases f<;>first|exact ft h|exact aQ (λv=>some (CFound.val v)) (iI.mp h)
def vk (K:Frag) (c:Addr) (x:Str) (v:Value):Bool:=readsIn K c (.type "type")&&(isVal v (findCls K (.ref c) (.type "type") x)&&handedIn v)
theorem aaK (ha:vk K c x v=true) (hv:∀G:Gh,(∀b o,Y.hp.get? b=some o->G.g b=some o)->DR w.params G z v):xp U w C Y aq (.cls c) x z:=λA G L loc s u R hu Q k=>
 have⟨a1,ha⟩:=aw ha
 hu.N2 (cls_value (fm T R) a1 (JI (aw ha).1) (aw ha).2 (k G v _ R.toks bb (hv G R.dU)))
end
def Hi {slice:Expr} {o i:Value} (hn:eG slice=true):subscripted slice false o i=operate [o,i] (getItem o i):=by cases slice<;>first|exact ft hn|exact Eq.refl (operate [o,i] (getItem o i))
def hM {value slice:Expr} {Q:Value->Shared->Prop} (hn:eG slice=true) (h:WP U w A (eval value env) s λo ax=>WP U w A (eval slice env) ax λi ay=>
    ∃T id,ay.TypeIs o T/\typeLookup (.type T) "__getitem__"=pure (some (.builtin id))/\WP U w A (getItem o i) ay Q):WP U w A (eval (.Subscript value slice pos) env) s Q:=by
 refine Subscript_ (h.mono λo ax cf=>WP.mono cf λi ay q=>xf q λT id hT hl cP=>?_)
 unfold subscriptTail
 refine eO ?_
 rw[getitemInPython_of_ne hT.not_modules]
 refine eO (wpAny_specialOf hT hl ?_)
 have fin:wpAny (model U w) A (subscripted slice false o i) (λr cB=>wpAny (model U w) A (letTemporaryGo value o r >>= λ_=>pure r) Q (λ_ _=>False) cB) (λ_ _=>False) ay:=by
  rw[Hi hn]
  exact wpAny_operating (WP.mono cP λr cB vG=>eO (wpAny_letTemporaryGo (k5 vG)))
 first
  |exact k5 (eO fin)
  |exact eO (k5 (eO fin))
  |exact eO fin
def oz {dE cv:Expr} {x i:DV} (hn:eG cv=true) (cf:aC U w C Y sc d dE Z x aa) (cP:aC U w C Y sc d cv aa i ah) (h:qg U w Y.V x i z):aC U w C Y sc d (.Subscript dE cv pos) Z z ah:=λA G L s env ro eo R _ k=>
 hM hn (cf A G L s env ro eo R _ λaz u ax aB aH aV=>cP A az L ax env ro eo aB _ λaD v ay aE aJ cA=>xf (h A aD ay u v ro.low aE.val aE.pins (aV.mono aJ.sub) cA) λT id t1 t2 t3=>
  ⟨T,id,t1,t2,t3 _ λr _ q=>k aD r _ aE.toks (aH.aO aJ).tk q⟩)
def idx (i:Int) (n:Nat):Option Nat:=if 0<=i then(if i<n then some i.toNat else none) else if -(n:Int)<=i then some (i+n).toNat else none
def K5 {i:Int} {k:Nat} (h:0<=i) (e:i.toNat=k):i=k:=(aei h).symm.trans (aQ _ e)
def vH {i:Int} {n k:Nat} (h:idx i n=some k):(0<=i/\i=k\/i<0/\i+n=k)/\ -(n:Int)<=i/\i<n:=by
 unfold idx at h
 by_cases h0:0<=i
 ·rw[d8 h0] at h;have⟨h1,e⟩:=rS h;exact⟨.inl ⟨h0,K5 h0 e⟩,by lia,h1⟩
 ·rw[dZ h0] at h;have⟨h1,e⟩:=rS h;exact⟨.inr ⟨by lia,K5 (by lia) e⟩,h1,by lia⟩
def Ma {j:Int} {n k:Nat} (e:j=k) (h:k<n):(if(decide (0<=j)&&decide (j<n))=true then some j.toNat else none)=some k:=by
 rw[e,HI (MU k),HI (Int.ofNat_lt.mpr h)];rfl
def D7 {i:Int} {n k:Nat} (h:idx i n=some k):seqIndex? i n=some k:=by
 have⟨h1,h2,h3⟩:=vH h
 unfold seqIndex?
 rcases h1 with⟨h0,e⟩ |⟨h0,e⟩
 ·rw[dZ (Int.not_lt.mpr h0)];exact Ma e (by lia)
 ·rw[d8 h0];exact Ma e (by lia)
def LW {l:List Nat} {i:Int} {k c:Nat} {t tk:Tok} {Q:Value->Shared->Prop} (h:idx i l.length=some k) (hc:l[k]?=some c) (hz:l.length<=lim) (kk:∀t n,Q (.str ⟨⟨[c]⟩⟩ t) {s with toks:=n}):WP U w A (getItem (.str ⟨⟨l⟩⟩ t) (.int i tk)) s Q:=by
 have⟨_,h2,h3⟩:=vH h
 refine P.getItem_str (c:=c) ?_ ?_ (kk _ _)
 ·have hz:l.length<=2 ^ 22:=hz
  rw[Bool.or_eq_false_iff,ZJ,ZJ]
  lia
 ·show(seqIndex? i l.length).bind _=_
  rw[D7 h]
  show(⟨l⟩:Array Nat)[k]?=_
  simpa using hc
def Eu {c:Nat}:[c].length<=lim:=show 1<=lim by decide
def LV {l:List Nat} {i:Int} {k c:Nat} (h:idx i l.length=some k) (hc:l[k]?=some c):qg U w V (.str l) (.int i) (.str [c]):=λA G s u v _ _ _ hu hv=>hu.gi λt z=>hv.fS λtk=>
 ⟨"str",_,rfl,PySem.F.slot_str_getitem.lookup,λQ kk=>LW h hc z λt n=>kk _ n (.str _ t Eu)⟩
def Yi {j t:Nat} {i:Int} {k c:Nat} (h:V.β t+i=(k:Int)) (hc:(V.ς j)[k]?=some c):qg U w V (.gP j) (.sint t i) (.str [c]):=λA G s u v _ e _ hu hv=>by
 subst e
 refine hu.sP λtu z=>hv.uO λtk=>⟨"str",_,rfl,PySem.F.slot_str_getitem.lookup,λQ kk=>LW (l:=G.V.ς j) (k:=k) (c:=c) ?_ hc z λt n=>kk _ n (.str _ t Eu)⟩
 have:=(M8.mp hc).1
 rw[h,idx,d8 (by lia),d8 (by lia)];rfl
def adg {l:List DV} {i:Int} {k:Nat} (h:idx i l.length=some k) (hc:l[k]?=some z):qg U w V (.tup l) (.int i) z:=λA G s u v _ _ hp hu hv=>hu.mF λa vs n hg hz hd=>hv.fS λtk=>bx (hd.at k z hc) λy hy dy=>by
 have hl:=hd.length
 have hz:vs.length<=2 ^ 22:=hz
 have⟨_,h2,h3⟩:=vH h
 exact⟨"tuple",_,⟨_,hp _ _ hg,rfl⟩,PySem.F.slot_tuple_getitem.lookup,λQ kk=>PyProof.Rows.getItem_tuple (items:=⟨vs⟩) ⟨_,hp _ _ hg,rfl,n,rfl⟩ (by lia) (by lia) (by rw[Ze,<-hd.length];exact D7 h) (by simpa using hy) (kk _ _ dy)⟩
def ym {l:List DV} {i:Int} {k:Nat} {a:Addr} {vs:List Value} {n:Nat} {tk:Tok} (h:idx i l.length=some k) (hc:l[k]?=some z) (hg:s.heap.get? a=some (bG vs n)) (hz:vs.length<=lim) (hd:eC w.params G l vs):
    ∃T id,s.TypeIs (.ref a) T/\typeLookup (.type T) "__getitem__"=pure (some (.builtin id))/\∀Q:Value->Shared->Prop,(∀r t,DR w.params G z r->Q r {s with toks:=t})->WP U w A (getItem (.ref a) (.int i tk)) s Q:=bx (hd.at k z hc) λy hy dy=>by
 have hl:=hd.length
 have hz:vs.length<=2 ^ 22:=hz
 have⟨h1,h2,h3⟩:=vH h
 refine⟨"list",_,⟨_,hg,rfl⟩,PySem.F.slot_list_getitem.lookup,λQ kk=>?_⟩
 rcases h1 with⟨h0,e⟩ |⟨h0,e⟩
 ·rw[e];exact wpAny_getItem_list (items:=⟨vs⟩) ⟨_,hg,rfl,n,rfl⟩ (by lia) (by lia) (by simpa using hy) (kk _ _ dy)
 ·exact wpAny_getItem_list_neg (items:=⟨vs⟩) ⟨_,hg,rfl,n,rfl⟩ (by lia) (by rw[Ze];lia) (by lia) (by rw[Ze,<-hl,e];simpa using hy) (kk _ _ dy)
def EG {l:List DV} {i:Int} {k:Nat} (h:idx i l.length=some k) (hc:l[k]?=some z):qg U w V (.lst l) (.int i) z:=λA G s u v _ _ hp hu hv=>hu.lu λa vs n hg hz hd=>hv.fS λtk=>ym h hc (hp _ _ hg) hz hd
def sM {dE cv:Expr} {p:Pl} {l:List DV} {i:Int} {k:Nat} (hn:eG cv=true) (cf:gB U w C Y sc d dE Z p) (lp:p.fix=true) (cP:aC U w C Y sc d cv Z (.int i) aa) (hl:p.get aa=some (.ml l))
    (h:idx i l.length=some k) (hc:l[k]?=some z):aC U w C Y sc d (.Subscript dE cv pos) Z z aa:=λA G L s env ro eo R _ kk=>
 hM hn (cf A G L s env ro eo R _ λa t lS=>cP A G L _ env ro eo R.toks _ λaD v ay aE aJ cA=>cA.fS λtk=>gq (aE.gZ (lS.toks.later R.toks aJ lp) hl) λb vs n q=>a5 q λe g hd hz _=>by
  cases e
  exact xf (ym (U:=U) (A:=A) (tk:=tk) h hc g hz hd) λT id t1 t2 t3=>⟨T,id,t1,t2,t3 _ λr _ q=>kk aD r _ aE.toks (Later.aO bb aJ).tk q⟩)
end
def HL (d:Addr) (h:Heap):Prop:=d<h.objs.size/\h.get? d=none
structure Grows (h h':Heap):Prop where
 size:h.objs.size<=h'.objs.size
 dead:∀d,HL d h->HL d h'
def Grows.refl (h:Heap):Grows h h:=⟨fy _,λ_ x=>x⟩
def Grows.trans {h h' FZ:Heap} (a:Grows h h') (b:Grows h' FZ):Grows h FZ:=⟨bw a.size b.size,λd x=>b.dead d (a.dead d x)⟩
def Grows.push (h:Heap) (o:Obj):Grows h (h.push o):=⟨by rw[M7];exact Nat.le_succ _,λd x=>⟨by rw[M7];exact Nat.lt_succ_of_lt x.1,by rw[Heap.get?_push_ne h d o (Fo x.1)];exact x.2⟩⟩
def Grows.update {h:Heap} {a:Addr} {f:Obj->Obj} (ha:(h.get? a).isSome):Grows h (h.update a f):=⟨iU (Heap.size_update ..).symm,λd x=>
 ⟨by rw[Heap.size_update];exact x.1,by rw[Heap.get?_update_ne h d a f λe=>by rw[<-e,x.2] at ha;exact ft ha];exact x.2⟩⟩
def mc {M:Model} {Γ:Ctx} {p:Pos} {t:Sem Fin} {fs:List Frame} {s s':Shared} {e:End} (h:Runs M Γ p t fs s e s'):Grows s.heap s'.heap:=by
 induction h with
 |done|raise|yield=>exact .refl _
 |again _ _ ih|load _ _ ih|choose _ _ ih|genState _ _ ih=>exact ih
 |rule _ ih|«at» _ ih|loadIfAlive _ ih|point _ ih|fresh _ ih|ask _ ih|os _ ih|handled _ ih|stack _ ih|thread _ ih|newGen _ ih=>exact ih
 |update ha _ ih=>exact(Grows.update ha).trans ih
 |alloc _ ih=>exact(Grows.push _ _).trans ih
 |call _ _ a b|segRet _ _ a b|segGen _ _ a b=>exact a.trans b
 |callSusp _ a|segSuspOut _ _ a=>exact a
 |resumeFresh _ _ _ _ a b|resumeSuspended _ _ _ _ a b|segSuspGen _ _ _ _ a b=>exact a.trans b
 |resumeJustStarted _ _ _ a=>exact a
 |resumeThrowFresh _ _ a|resumeRunning _ _ a|resumeFinished _ _ a=>exact a
def Dd {M:Model} {Γ:Ctx} {p:Pos} {g:Nat} {r:Resume} {s s':Shared} {res:GenResult} (h:Wakes M Γ p g r s res s'):Grows s.heap s'.heap:=by
 unfold Wakes at h
 split at h
 ·exact h.elim
 ·split at h
  ·obtain⟨_,_,a,_,_,rfl⟩:=h;have:=mc a;exact this
  ·obtain⟨_,rfl⟩:=h;exact .refl _
  ·obtain⟨_,rfl⟩:=h;exact .refl _
 ·obtain⟨_,_,a,_,_,rfl⟩:=h;have:=mc a;exact this
 ·obtain⟨_,rfl⟩:=h;exact .refl _
 ·obtain⟨_,rfl⟩:=h;exact .refl _
def Rd {α:Type} {M:Model} {Γ:Ctx} {h₀:Heap} {t:Sem α} {Q:α->Pos->Shared->Prop} {E:Value->Pos->Shared->Prop} {p:Pos} {s:Shared} (hn:Grows h₀ s.heap) (h:Sem.wp M Γ t Q E p s):
    Sem.wp M Γ t (λa p' s'=>Q a p' s'/\Grows h₀ s'.heap) (λe p' s'=>E e p' s'/\Grows h₀ s'.heap) p s:=by
 revert h
 induction t generalizing p s with
 |pure x=>exactλh=>⟨h,hn⟩
 |raise v=>exactλh=>⟨h,hn⟩
 |unsupported|finish|yield|fork|await|register=>exact id
 |rule _ k ih|«at» _ k ih|loadIfAlive _ k ih|point _ k ih|fresh k ih|ask k ih|os _ _ k ih|handled _ k ih|newGen _ k ih|stack k ih|thread k ih=>exact ih _ hn
 |alloc o k ih=>exact ih _ (hn.trans (.push _ _))
 |load a _ k ih|genState a k ih=>exactλ⟨o,ho,h⟩=>⟨o,ho,ih _ hn h⟩
 |update a _ f k ih=>exactλ⟨ha,h⟩=>⟨ha,ih _ (hn.trans (.update ha)) h⟩
 |choose _ _ k ih=>exactλ⟨ha,h⟩=>⟨ha,ih _ hn h⟩
 |call c h g l k ih=>exactλ⟨r,s',hr,h⟩=>⟨r,s',hr,ih r (hn.trans (mc hr)) h⟩
 |resume g r l k ih=>exactλ⟨res,s',hw,h⟩=>⟨res,s',hw,ih _ (hn.trans (Dd hw)) h⟩
def e8 {α:Type} {M:Model} {A:Around} {t:Sem α} {Q:α->Shared->Prop} {E:Value->Shared->Prop} {s:Shared} (h:wpAny M A t (λa s'=>Grows s.heap s'.heap->Q a s') E s):wpAny M A t Q E s:=λΓ p hΓ=>
 Sem.wp_mono M Γ t (λ_ _ _ ⟨a,b⟩=>a b) (λ_ _ _ q=>q.1) p s (Rd (.refl _) (h Γ p hΓ))
def Grows.new {h h':Heap} (g:Grows h h') {b:Addr} {o:Obj} (e:h.get? b=none) (e':h'.get? b=some o):h.objs.size<=b:=xm.mp λq=>sn (e'.symm.trans (g.dead b ⟨q,e⟩).2)
section
variable {U:Program} {w:World} {C:Nat} {K:Frag} {Y:Base} {sc:Scope} {d:Nat} {Z aa ah cC:aj} {A:Around} {G:Gh} {L:Addr} {s:Shared} {env:Env} {x y z:Str} {p q r pos:Pos} {e:Expr} {v:DV} {u:Value}
def WP.grow {α:Type} {t:Sem α} {Q:α->Shared->Prop} (h:WP U w A t s λa s'=>Grows s.heap s'.heap->Q a s'):WP U w A t s Q:=e8 h
def dY:Expr->Option Str:=iQ Expr.ctorIdx 23 λe h=>@Expr.Name.elim (λ_=>Str) e h λx _=>x
def dp (e:Expr):On (λx=>.Name x e.pos=e) (dY e):=eK (P:=λe x=>Expr.Name x e.pos=e) (λe h=>@Expr.Name.elim (λe=>∀h,Expr.Name (@Expr.Name.elim (λ_=>Str) e h λx _=>x) e.pos=e) e h (λ_ _ _=>rfl) h) e
def PJ (h:dY e=some x):∃p,e=.Name x p:=⟨_,((dp e).get h).symm⟩
def names (sc:Scope) (es:List Expr):Option (List Str):=List.rec (motive:=λ_=>Option (List Str)) (some []) (λe _ ih=>(dY e).bind λx=>if sc.names.lookup x=some .local then ih.map (x::·) else none) es
def p6 {es:List Expr} {xs:List Str} (h:names sc (e::es)=some xs):∃x p ys,e=.Name x p/\xs=x::ys/\sc.names.lookup x=some .local/\names sc es=some ys:=
 bx (Option.bind_eq_some_iff.mp (show(dY e).bind _=some xs from h)) λx h1 h=>fk (PJ h1) λp e1=>by
  by_cases hx:sc.names.lookup x=some .local
  ·rw[d8 hx] at h
   exact bx (xn.mp h) λys h2 e2=>⟨x,p,ys,e1,e2.symm,hx,h2⟩
  ·rw[dZ hx] at h;exact ns h
def putAll (loc:List (Str×ae)) (xs:List Str) (vs:List DV):List (Str×ae):=List.rec (motive:=λ_=>List DV->List (Str×ae)->List (Str×ae)) (λ_ l=>l) (λx _ ih vs l=>match vs with|v::vs=>ih vs (put l x (.pv v)) |[]=>l) xs vs loc
def sf (es:List Expr):∀{xs:List Str},names sc es=some xs->(assignEach es env).length=xs.length/\(assignEach es env).findIdx? (·.1)=none:=by
 induction es with
 |nil=>exactλh=>by rw[<-eN h];exact⟨rfl,rfl⟩
 |cons e r ih=>
  intro xs h
  obtain⟨x,p,ys,rfl,rfl,_,h1⟩:=p6 h
  refine⟨aQ (· +1) (ih h1).1,?_⟩
  show List.findIdx? (·.1) ((false,assign (.Name x p) env)::assignEach r env)=none
  rw[List.findIdx?_cons,(ih h1).2];rfl
def uQ (eo:cN sc L env) (es:List Expr):∀(xs:List Str) (vs:List DV) (us:List Value) (Z:aj) (s:Shared),names sc es=some xs->xs.length=vs.length->Rep w.params C Y G L Z s->eC w.params G vs us->
    ∀Q:Unit->Shared->Prop,(∀s',Rep w.params C Y G L {Z with loc:=putAll Z.loc xs vs} s'->Later G.O G s G s'->Q () s')->WP U w A (assignInOrder ((assignEach es env).map (·.2)) us) s Q:=by
 induction es with
 |nil=>
  intro xs vs us Z s h hn R hd Q k
  rw[<-eN h] at hn k
  exact k5 (k s R (.refl _ _ _))
 |cons e r ih=>
  intro xs vs us Z s h hn R hd Q k
  obtain⟨x,p,ys,rfl,rfl,hx,h1⟩:=p6 h
  cases vs with
  |nil=>exact nomatch hn
  |cons v vs=>
   exact hd.fz λu us' d1 d2=>show WP U w A (holding us' (assign (.Name x p) env u) >>= λ_=>assignInOrder ((assignEach r env).map (·.2)) us') s Q from
    eO (Nc (SV (gf eo R hx d1 λax aB aH=>ih ys vs us' _ ax h1 (Nat.succ.inj hn) aB d2 Q λay aE aJ=>k ay aE (aH.trans' aJ))))
def q9 {es:List Expr} {k:Nat} {xs:List Str} {vs:List DV} {a:Addr} {us:Array Value} {Q:Unit->Shared->Prop} (eo:cN sc L env) (hh:A.handled=none) (hx:names sc es=some xs) (hn:xs.length=vs.length) (R:Rep w.params C Y G L Z s) (ht:s.heap.IsTuple a us) (hd:eC w.params G vs us.toList)
    (kk:∀s',Rep w.params C Y G L {Z with loc:=putAll Z.loc xs vs} s'->Later G.O G s G s'->Q () s'):WP U w A (assign (.Tuple es k p) env (.ref a)) s Q:=by
 have⟨n1,n2⟩:=sf (env:=env) es hx
 have hz:(assignEach es env).length=us.size:=n1.trans (hn.trans hd.length)
 unfold WP
 rw[arm_assign_Tuple]
 refine eO (Rt ?_)
 unfold unpack
 rw[hz,n2]
 refine eO (Nc (e8 (wpAny_unpackItems_tuple hh ht λh' he g=>?_)))
 have up:∀b o,s.heap.get? b=some o->h'.get? b=some o:=λb o e=>he b o (Fo (u0 e)) e
 exact uQ eo es xs vs us.toList Z _ hx hn (R.ext up g.size) hd Q λcB cF cL=>kk cB cF (Later.trans' (.keep up g.size rfl rfl) cL)
def pJ {es:List Expr} {k:Nat} {xs:List Str} {vs:List DV} (h:aC U w C Y sc d e Z (.tup vs) aa) (hx:names sc es=some xs) (hn:xs.length=vs.length) (hc:cZ e=true)
    (hw:∀env,swappedStores [.Tuple es k p] e env=pure none):aU U w C Y sc d (.Assign [.Tuple es k p] e pos) Z .next {aa with loc:=putAll aa.loc xs vs}:=λA G L s env ro eo R _ kk=>
 wpAny_Assign_stores (h A G L s env ro eo R _ λaz u ax aB aH aV=>show WP U w A (assign (.Tuple es k p) env u) ax _ from aV.mF λa us n g _ hd=>
  q9 (us:=⟨us⟩) eo ro.handled hx hn aB ⟨_,aB.pins _ _ g,rfl,n,rfl⟩ hd λcB cF cL=>kk az _ cB cF (aH.up.trans' cL) rfl) (show swapsWith e (some (.Tuple es k p)) pos.line env=pure false from dq hc) (hw env)
def C3 (h:aC U w C Y sc d e Z v aa) (hx:sc.names.lookup x=some .local) (hy:sc.names.lookup y=some .local) (hw:∀env,swappedStores [.Name x p,.Name y q] e env=pure none):aU U w C Y sc d (.Assign [.Name x p,.Name y q] e pos) Z .next {aa with loc:=put (put aa.loc x (.pv v)) y (.pv v)}:=λA G L s env ro eo R _ k=>
 wpAny_Assign_two (h A G L s env ro eo R _ λaz u ax aB aH aV=>SV (gf eo aB hx aV λay aE aJ=>SV (gf eo aE hy aV λcB cF cL=>k az _ cB cF ((aH.up.trans' aJ).trans' cL) rfl))) rfl (hw env)
def C4 (h:aC U w C Y sc d e Z v aa) (hx:sc.names.lookup x=some .local) (hy:sc.names.lookup y=some .local) (hz:sc.names.lookup z=some .local) (hw:∀env,swappedStores [.Name x p,.Name y q,.Name z r] e env=pure none):aU U w C Y sc d (.Assign [.Name x p,.Name y q,.Name z r] e pos) Z .next {aa with loc:=put (put (put aa.loc x (.pv v)) y (.pv v)) z (.pv v)}:=λA G L s env ro eo R _ k=>
 wpAny_Assign_three (h A G L s env ro eo R _ λaz u ax aB aH aV=>SV (gf eo aB hx aV λay aE aJ=>SV (gf eo aE hy aV λcB cF cL=>SV (gf eo cF hz aV λpK S5 J3=>k az _ pK S5 (((aH.up.trans' aJ).trans' cL).trans' J3) rfl)))) rfl (hw env)
end
def mS (U:Program) (w:World) (C:Nat) (Y:Base) (sc:Scope) (d:Nat) {V:Type} (pt:aj->V->aj) (b:List Stmt) (vs:List V):aj->au->aj->Prop:=
 List.rec (motive:=λ_=>aj->au->aj->Prop) (λZ f iS=>f=.next/\iS=Z) (λv _ go Z f iS=>∃g aa,aF U w C Y sc d b (pt Z v) g aa/\Goes go g aa f iS) vs
def ptN (x:Str) (Z:aj) (v:DV):aj:={Z with loc:=put Z.loc x (.pv v)}
def ptT (xs:List Str) (Z:aj) (v:List DV):aj:={Z with loc:=putAll Z.loc xs v}
structure Iter (U:Program) (w:World) (A:Around) (target:Expr) {V:Type} (It:Gh->Heap->V->Value->Prop) (vs:List V) (z:Nat) (G:Gh) (u:Value) (ax ay:Shared) (I:Addr) (fp wr:List Addr) (P Md:Nat->Value->Heap->Prop) (St:Nat->Heap->Prop):Prop where
 it:∀(Q:Value->Shared->Prop) (E:Value->Shared->Prop),Q (.ref I) ay->wpAny (model U w) A (pyIter u) Q E ax
 W:KTurns U w A target I fp wr vs.length P Md St
 st:St 0 ay.heap
 fp:∀a∈fp,¬G.O a/\a<ay.heap.objs.size
 wr:∀a∈wr,G.g a=none/\z<=a
 item:∀G':Gh,Sub G G'->∀(j:Nat) (v:Value) (h:Heap),P j v h->∃x,vs[j]?=some x/\It G' h x v
section
variable {U:Program} {w:World} {C:Nat} {K:Frag} {Y:Base} {sc:Scope} {d:Nat} {Z aa ah cC:aj} {A:Around} {G:Gh} {L:Addr} {s:Shared} {env:Env} {V:Type}
def Later.none {O:Addr->Prop} {G':Gh} {s':Shared} {a:Addr} (l:Later O G s G' s') (lt:a<s.heap.objs.size) (n:¬G.O a) (h:G.g a=none):G'.g a=none:=by
 cases q:G'.g a with
 |none=>rfl
 |some o=>exact sn ((l.qk a o lt n q).symm.trans h)
def Later.Lb {O:Addr->Prop} {G':Gh} {s':Shared} {a:Addr} (l:Later O G s G' s') (lt:a<s.heap.objs.size) (n:¬G.O a):¬G'.O a:=λq=>n (q.imp (l.anew a lt) (l.pe a lt))
def Later.acL {O:Addr->Prop} {eD:Gh} {eL s':Shared} {W:Addr->Prop} (l:Later O eD eL G s) (R:Rep w.params C Y G L Z s) (nA:∀I,W I->¬G.OA I) (hI:∀I,W I->eL.heap.objs.size<=I) (k:∀b o,¬W b->s.heap.get? b=some o->s'.heap.get? b=some o) (z:s.heap.objs.size<=s'.heap.objs.size) (g:s'.gens=s.gens) (os:s'.os=s.os):Later O eD eL G s':=
 ⟨l.sub,l.qk,l.anew,l.pe,λb o h n=>k b o (λe=>xm.mpr (hI b e) (u0 h)) (l.kept b o h n),λx hx v q=>gq (l.tN x hx v q) λp d es q=>ua q λn h1 h2 h3=>⟨p,d,es,n,h1,k d _ (λe=>nA d e (R.Ex h1)) h2,h3⟩,
   bw l.size z,g.trans l.gens,os.trans l.os⟩
def E1 {target it:Expr} {pos:Pos} {b:List Stmt} {vs:List V} {f:au} {iS:aj} {pt:aj->V->aj} (It:Gh->Heap->V->Value->Prop)
    (asg:∀(A:Around) (G:Gh) (L:Addr) (s:Shared) (env:Env) (Z:aj) (x:V) (v:Value) (Q:Unit->Shared->Prop),cN sc L env->A.handled=none->Rep w.params C Y G L Z s->x∈vs->It G s.heap x v->(∀s',Rep w.params C Y G L (pt Z x) s'->Later G.O G s G s'->Q () s')->WP U w A (assign target env v) s Q)
    (hs:∀env u,foldedSetIterable it env u=pure u) (h:∀(A:Around) (G:Gh) (L:Addr) (s:Shared) (env:Env),dI A d->cN sc L env->Rep w.params C Y G L Z s->∀Q:Value->Shared->Prop,
      (∀az u ax ay I fp wr P Md St,Rep w.params C Y az L aa ay->Later G.OA G s az ay->Iter U w A target It vs s.heap.objs.size az u ax ay I fp wr P Md St->Q u ax)->WP U w A (eval it env) s Q)
    (hb:mS U w C Y sc d pt b vs aa f iS):aU U w C Y sc d (.For target it b [] pos) Z f iS:=λA G L s env ro eo R Q k=>
 wpAny_For (h A G L s env ro eo R _ λaz u ax ay I fp wr P Md St aB aH J=>J.it _ _ (codeAny_forLoop_any
  (I:=λk s'=>∃(aD:Gh) (ba:aj) (i:Nat),Rep w.params C Y aD L ba s'/\Later G.O G s aD s'/\Sub az aD/\(∀a∈fp,¬aD.O a/\a<s'.heap.objs.size)/\(∀a∈wr,aD.g a=none)/\St i s'.heap/\i<=vs.length/\mS U w C Y sc d pt b (vs.drop i) ba f iS/\k=vs.length - i)
  (λn s' q=>gq q λaD ba i q=>a5 q λaE aJ sb Jm q=>a5 q λhwr st hi hb en=>by
    rw[en]
    have nO:∀a∈wr,¬aD.O a:=λa m=>(Jm a (J.W.sub a m)).1
    have off:∀h' tk,(∀b o,b ∉ wr->s'.heap.get? b=some o->h'.get? b=some o)->s'.heap.objs.size<=h'.objs.size->Rep w.params C Y aD L ba {s' with heap:=h',toks:=tk}/\Later G.O G s aD {s' with heap:=h',toks:=tk}:=λh' tk kk z=>
     ⟨aE.keep (λb o e=>kk b o λm=>sn (e.symm.trans (hwr b m))) (λb o q=>kk b o λm=>nO b m q) z,aJ.acL (W:=λb=>b∈wr) aE (λa m q=>nO a m (.inl q)) (λa m=>(J.wr a m).2) kk z rfl rfl⟩
    by_cases lt:i<vs.length
    ·rw[List.drop_eq_getElem_cons lt] at hb
     exact e8 (J.W.item i _ _ _ lt st λv cf tk hMd aa0 aaO=>e8 (J.W.go i v _ _ _ hMd λcP hP adB aa1 OI=>bx (J.item aD sb i v cP hP) λx hx hit=>by
      have ex:x=vs[i]:=eN (hx.symm.trans (zO lt))
      rw[ex] at hit
      have⟨cF,cL⟩:=off cP tk (λb o m e=>aa1 b o m (aa0 b o m e)) (bw aaO.size OI.size)
      have ajr:s'.heap.objs.size<=cP.objs.size:=bw aaO.size OI.size
      exact(asg A aD L _ env ba _ v _ eo ro.handled cF (List.getElem_mem lt) hit λpK S5 J3=>(mw hb λg σb hb go=>(hb A aD L pK env ro eo S5 _ λHP r adF ZR Gl q=>by
       have J2:∀a∈fp,a<pK.heap.objs.size:=λa m=>qu (Jm a m).2 (bw ajr J3.size)
       have l:=(cL.trans' J3).trans' Gl
       exact Goes.post (go:=mS U w C Y sc d pt b (vs.drop (i+1))) go q (λgo=>⟨vs.length - (i+1),Nat.sub_lt_sub_left lt (MV i),HP,σb,i+1,ZR,l,sb.trans Gl.sub,λa m=>⟨Gl.Lb (J2 a m) (Jm a m).1,qu (J2 a m) Gl.size⟩,λa m=>Gl.none (J2 a (J.W.sub a m)) (nO a m) (hwr a m),
        J.W.frame _ _ _ adB λb m o e=>Gl.kept b o (J3.kept b o e (Jm b m).1) (Jm b m).1,lt,go,rfl⟩) λe r q=>k HP r adF (e▸ZR) l q).to)).to))
    ·have e:i=vs.length:=Nat.le_antisymm hi (xm.mp lt)
     rw[e] at st
     rw[e,List.drop_length] at hb
     exact e8 (J.W.done _ _ _ st λh' tk hk g=>wpAny_execs_nil (by have⟨cF,cL⟩:=off h' tk hk g.size;exact k aD .next _ (hb.2▸cF) cL (by rw[hb.1];exact rfl))))
  vs.length ⟨az,aa,0,aB,aH.up,.refl _,J.fp,λa m=>(J.wr a m).1,J.st,ju _,hb,rfl⟩)) (hs env)
end
def dl {Ky:Type} (kd:Ky->DV) (l:List (Ky×DV)):List (DV×DV):=l.map λp=>(kd p.1,p.2)
structure KD {U:Program} {w:World} {Ky:Type} [DecidableEq Ky] (knd:KeyKind U w Ky) (kd:Ky->DV) (ok:Ky->Prop):Prop where
 rel:∀(k:Ky) (e:DictEntry),S2 w.params (kd k) e↔ok k/\knd.is k e.key=true/\e.hash=knd.hash k
 key:∀(G:Gh) (k:Ky) (v:Value),DR w.params G (kd k) v->ok k/\knd.is k v=true
 Ff:∀(G:Gh) (k:Ky) (v:Value),ok k->knd.is k v=true->DR w.params G (kd k) v
def u6 {Ky:Type} (P:Params) (G:Gh):List (Ky×DV)->List (Ky×Value)->Prop:=Zip λp q=>q.1=p.1/\DR P G p.2 q.2
def int_is {U:Program} {w:World} (k:Int) (t:Tok):(intKind U w).is k (.int k t)=true:=by show Value.isInt k (.int k t)=true;simp[Value.isInt]
def str_is {U:Program} {w:World} (k:Str) (t:Tok):(strKind U w).is k (.str k t)=true:=by show Value.isStrOf k (.str k t)=true;simp[Value.isStrOf]
def rU {U:Program} {w:World}:KD (intKind U w) DV.int λ_=>True where
 rel:=λk e=>⟨λh=>bx h λt a b=>⟨trivial,a▸int_is k t,b⟩,λh=>(Value.isInt_shape h.2.1).elim λt a=>⟨t,a,h.2.2⟩⟩
 key:=λ_ k v h=>h.fS λt=>⟨trivial,int_is k t⟩
 Ff:=λ_ k v _ h=>(Value.isInt_shape h).elim λt e=>⟨t,e⟩
def M1 (x:Str):DV:=.str x.cps.toList
def Ax {U:Program} {w:World}:KD (strKind U w) M1 λx=>x.cps.toList.length<=lim where
 rel:=λk e=>⟨λh=>a2 h λz h=>bx h λt a b=>⟨z,a▸str_is k t,b⟩,λh=>(Value.isStrOf_shape h.2.1).elim λt a=>⟨h.1,t,a,h.2.2⟩⟩
 key:=λ_ k v h=>h.gi λt z=>⟨z,str_is k t⟩
 Ff:=λ_ k v z h=>(Value.isStrOf_shape h).elim λt e=>⟨t,e,z⟩
section
variable {U:Program} {w:World} {Ky:Type} [DecidableEq Ky] {knd:KeyKind U w Ky} {kd:Ky->DV} {ok:Ky->Prop} {G:Gh} {h:Heap} {l:List (Ky×DV)} {kvs:List (Ky×Value)} {k:Ky} {v:DV} {u:Value}
def pY {e:DictEntry} {es:List DictEntry}:PySem.KeysOf knd ⟨e::es⟩↔(∃k,knd.is k e.key=true/\e.hash=knd.hash k)/\PySem.KeysOf knd ⟨es⟩:=
 ⟨λh=>⟨h e (Array.mem_def.mpr (.head _)),λx hx=>h x (Array.mem_def.mpr (.tail _ (Array.mem_def.mp hx)))⟩,λh x hx=>(List.mem_cons.mp (Array.mem_def.mp hx)).elim (λe=>e▸h.1) λm=>h.2 x (Array.mem_def.mpr m)⟩
def KD.split (D:KD knd kd ok) (l:List (Ky×DV)):∀es,qU w.params G (dl kd l) es->(∀p∈l,ok p.1)/\∃kvs:List (Ky×Value),Pairs knd es kvs/\PySem.KeysOf knd ⟨es⟩/\u6 w.params G l kvs:=by
 induction l with
 |nil=>exactλes h=>h.jr ⟨(λ_ h=>nomatch h),[],.nil,(λ_ h=>nomatch(Array.mem_def.mp h)),.nil⟩
 |cons p r ih=>
  exactλes h=>h.fz λe es he h=>a2 (ih es h) λh0 q=>ua q λkvs h1 h2 h3=>a3 ((D.rel p.1 e).mp he.1) λk0 k1 k2=>
   ⟨e9.mpr ⟨k0,h0⟩,(p.1,e.val)::kvs,.cons k1 rfl h1,pY.mpr ⟨⟨p.1,k1,k2⟩,h2⟩,.cons ⟨rfl,he.2⟩ h3⟩
def KD.join (D:KD knd kd ok) (hd:u6 w.params G l kvs):∀es,(∀p∈l,ok p.1)->Pairs knd es kvs->PySem.KeysOf knd ⟨es⟩->qU w.params G (dl kd l) es:=by
 induction hd with
 |nil=>intro es _ hp _;cases hp;exact .nil
 |@cons p q _ _ hq _ ih=>
  intro es h0 hp hk
  cases hp with
  |cons h1 h2 h3=>
   have⟨a,b⟩:=e9.mp h0
   exact a2 (pY.mp hk) λz hk=>bx z λk2 k1 k2'=>.cons ⟨(D.rel p.1 _).mpr ⟨a,hq.1▸h1,by rw[k2',knd.inj _ _ _ k1 (hq.1▸h1)]⟩,h2▸hq.2⟩ (ih _ b h3 hk)
def u6.keys (h:u6 w.params G l kvs):kvs.map (·.1)=l.map (·.1):=by induction h with|nil=>rfl|cons a _ ih=>rw[xb,xb,ih,a.1]
def u6.len (h:u6 w.params G l kvs):kvs.length=l.length:=(Zip.len h).symm
def KD.dictAt (D:KD knd kd ok) {a:Addr} {es:List DictEntry} {n:Nat} {Q:Prop} (hn:(l.map (·.1)).Nodup) (g:h.get? a=some (dictOf es n)) (hd:qU w.params G (dl kd l) es) (k:∀kvs:List (Ky×Value),(∀p∈l,ok p.1)->h.DictAt knd a kvs n->u6 w.params G l kvs->Q):Q:=
 a2 (D.split l es hd) λh0 q=>ua q λkvs h1 h2 h3=>k kvs h0 ⟨_,⟨es⟩,g,⟨rfl,rfl,rfl⟩,rfl,h2,h1,h3.keys▸hn⟩ h3
def KD.Lp (D:KD knd kd ok) {a:Addr} (hx:h.DictOf knd a kvs) (hok:∀p∈l,ok p.1) (hd:u6 w.params G l kvs):∃es n,h.get? a=some (dictOf es n)/\qU w.params G (dl kd l) es:=by
 obtain⟨o,es,ep,h1,⟨x1,x2,x3⟩,h2,h3,h4,_⟩:=hx
 refine⟨es.toList,ep,h1.trans ?_,D.join hd es.toList hok h4 h3⟩
 obtain⟨c,dd,dt,sl⟩:=o
 cases x1;cases x2;cases x3;cases h2;rfl
def f7 (l:List (Ky×DV)) (k:Ky):Option DV:=(l.find? λp=>p.1=k).map (·.2)
def j1 (l:List (Ky×DV)) (k:Ky) (v:DV):List (Ky×DV):=if l.any (λp=>p.1=k) then l.map (λp=>if p.1=k then(p.1,v) else p) else l++[(k,v)]
def FH (l:List (Ky×DV)) (k:Ky):List (Ky×DV):=l.filter λp=>decide (p.1≠k)
def u6.look (h:u6 w.params G l kvs):(f7 l k=none->valueAt kvs k=none)/\∀d,f7 l k=some d->∃v,valueAt kvs k=some v/\DR w.params G d v:=by
 induction h with
 |nil=>exact⟨λ_=>rfl,λd h=>nomatch h⟩
 |@cons p q _ _ a _ ih=>
  unfold f7 valueAt at*
  rw[List.find?_cons,List.find?_cons,a.1]
  by_cases z:p.1=k
  ·rw[HI z];exact⟨(λh=>nomatch h),λd e=>⟨q.2,rfl,eN e▸a.2⟩⟩
  ·rw[Hy z];exact ih
def u6.some (h:u6 w.params G l kvs):(valueAt kvs k).isSome=(f7 l k).isSome:=by
 cases q:f7 l k with
 |none=>rw[h.look.1 q];rfl
 |some d=>exact bx (h.look.2 d q) λv e _=>by rw[e];rfl
def u6.store (h:u6 w.params G l kvs) (hv:DR w.params G v u):u6 w.params G (j1 l k v) (stored kvs k u):=by
 have e:kvs.any (λp=>decide (p.1=k))=l.any (λp=>decide (p.1=k)):=by induction h with|nil=>rfl|cons a _ ih=>rw[List.any_cons,List.any_cons,ih,a.1]
 unfold stored j1
 rw[e]
 by_cases q:l.any (λp=>decide (p.1=k))=true
 ·rw[d8 q,d8 q]
  clear q e
  induction h with
  |nil=>exact .nil
  |@cons p q _ _ a _ ih=>
   rw[xb,xb,a.1]
   by_cases z:p.1=k
   ·rw[d8 z,d8 z];exact .cons ⟨rfl,hv⟩ ih
   ·rw[dZ z,dZ z];exact .cons a ih
 ·rw[dZ q,dZ q];exact Zip.app h (.cons ⟨rfl,hv⟩ .nil)
def u6.del (h:u6 w.params G l kvs):u6 w.params G (FH l k) (without kvs k):=by
 induction h with
 |nil=>exact .nil
 |@cons p q _ _ a _ ih=>
  unfold without FH at*
  rw[List.filter_cons,List.filter_cons,a.1]
  by_cases z:decide (p.1≠k)=true
  ·rw[d8 z,d8 z];exact .cons a ih
  ·rw[dZ z,dZ z];exact ih
def FK (h:∀p∈l,ok p.1) (hk:ok k):∀p∈j1 l k v,ok p.1:=by
 unfold j1
 by_cases q:l.any (λp=>decide (p.1=k))=true
 ·rw[d8 q]
  refineλp m=>bx (Hw.mp m) λy hy e=>?_
  rw[<-e]
  by_cases z:y.1=k
  ·rw[d8 z];exact h y hy
  ·rw[dZ z];exact h y hy
 ·rw[dZ q];exactλp m=>(List.mem_append.mp m).elim (h p) λm=>List.mem_singleton.mp m▸hk
end
section
variable {U:Program} {w:World} {Ky:Type} [DecidableEq Ky] {knd:KeyKind U w Ky} {kd:Ky->DV} {ok:Ky->Prop}
variable {C:Nat} {K:Frag} {Y:Base} {sc:Scope} {d:Nat} {Z aa ah cC:aj} {A:Around} {G:Gh} {L:Addr} {s:Shared} {env:Env} {V:Val} {l:List (Ky×DV)} {k:Ky} {z:DV} {a:Addr} {es:List DictEntry} {n:Nat} {u:Value} {dE cv o i e:Expr} {pos p':Pos} {p:Pl} {v:DV}
def YU {n:Nat} (h:n<=1000):n<=sizeLine:=bw h (by rw[sizeLine_eq];decide)
def in_dict {op:CmpOp} {f:Bool->Bool} {Q:Value->Shared->Prop} (D:KD knd kd ok) (ho:(op=.In/\f=id)\/(op=.NotIn/\f=not)) (hn:(l.map (·.1)).Nodup) (ha:(a==sysModules)=false) (g:s.heap.get? a=some (dictOf es n)) (hd:qU w.params G (dl kd l) es) (hu:DR w.params G (kd k) u) (kk:∀t,Q (.bool (f (f7 l k).isSome)) {s with toks:=t}):
    WP U w A (compareOp op u (.ref a)) s Q:=D.dictAt hn g hd λkvs _ hm hv=>by
 have hk:=(D.key G k u hu).2
 have kk:=kk (s.toks+1)
 rw[<-hv.some] at kk
 rcases ho with⟨rfl,rfl⟩ |⟨rfl,rfl⟩
 ·exact wpAny_in_of hk ha hm.dictOf.mapOf kk
 ·exact wpAny_notIn_of hk ha hm.dictOf.mapOf kk
def z8 (D:KD knd kd ok) (hn:(l.map (·.1)).Nodup):fi U w V .In (kd k) (.iK (dl kd l)) (f7 l k).isSome:=λA G s u v _ _ hp hu hv Q kk=>hv.vo λa es n q g h=>in_dict D (.inl ⟨rfl,rfl⟩) hn q (hp _ _ g) h hu kk
def tw (D:KD knd kd ok) (hn:(l.map (·.1)).Nodup):fi U w V .NotIn (kd k) (.iK (dl kd l)) (!(f7 l k).isSome):=λA G s u v _ _ hp hu hv Q kk=>hv.vo λa es n q g h=>in_dict D (.inr ⟨rfl,rfl⟩) hn q (hp _ _ g) h hu kk
def get_dict (D:KD knd kd ok) (hn:(l.map (·.1)).Nodup) (g:s.heap.get? a=some (dictOf es n)) (hd:qU w.params G (dl kd l) es) (hu:DR w.params G (kd k) u) (hz:f7 l k=some z):
    ∃T id,s.TypeIs (.ref a) T/\typeLookup (.type T) "__getitem__"=pure (some (.builtin id))/\∀Q:Value->Shared->Prop,(∀r t,DR w.params G z r->Q r {s with toks:=t})->WP U w A (getItem (.ref a) u) s Q:=D.dictAt hn g hd λkvs _ hm hv=>
 bx (hv.look.2 z hz) λv h dv=>⟨"dict",_,⟨_,g,rfl⟩,PySem.F.slot_dict_getitem.lookup,λQ kk=>wpAny_getItem_of (D.key G k u hu).2 hm.dictOf.mapOf h (kk v _ dv)⟩
def ac9 (D:KD knd kd ok) (hn:(l.map (·.1)).Nodup) (hz:f7 l k=some z):qg U w V (.iK (dl kd l)) (kd k) z:=λA G s u v _ _ hp hu hv=>hu.vo λa es n q g h=>get_dict D hn (hp _ _ g) h hv hz
def Rep.Dq {l:List (DV×DV)} (R:Rep w.params C Y G L Z s) (lS:At G L s p a) (hl:p.get Z=some (.md l)):(a==sysModules)=false/\∃es n,s.heap.get? a=some (dictOf es n)/\qU w.params G l es:=
 DO (R.gZ lS hl) λb es n e g hd o=>by
  cases e
  refine⟨R.v8 ?_,es,n,g,hd⟩
  cases p with
  |loc x=>exact(R.fG a o).1
  |aq x=>exact(R.fM a o).1
def rM {op:CmpOp} {f:Bool->Bool} (D:KD knd kd ok) (ho:(op=.In/\f=id)\/(op=.NotIn/\f=not)) (cf:aC U w C Y sc d dE Z (kd k) aa) (cP:gB U w C Y sc d cv aa p) (hl:p.get aa=some (.md (dl kd l))) (hn:(l.map (·.1)).Nodup) (hm:behindInMarks op cv=false):
    bu U w C Y sc d (.Compare dE [op] [cv] pos) Z (f (f7 l k).isSome) aa:=λA G L s env ro eo R Q kk=>
 wpAny_isTrue_Compare1 (cf A G L s env ro eo R _ λaz u ax aB aH aV=>cP A az L ax env ro eo aB _ λa t lS=>a2 (aB.toks.Dq lS.toks hl) λha q=>mw q λes n g hd=>
  in_dict (s:={ax with toks:=t}) D ho hn ha g hd aV λt=>Zh (kk az _ aB.toks aH.tk)) hm
def afe (D:KD knd kd ok) (cf:aC U w C Y sc d dE Z (kd k) aa) (cP:gB U w C Y sc d cv aa p) (hl:p.get aa=some (.md (dl kd l))) (hn:(l.map (·.1)).Nodup) (hm:behindInMarks .In cv=false):
    bu U w C Y sc d (.Compare dE [.In] [cv] pos) Z (f7 l k).isSome aa:=rM D (.inl ⟨rfl,rfl⟩) cf cP hl hn hm
def Yq (D:KD knd kd ok) (cf:aC U w C Y sc d dE Z (kd k) aa) (cP:gB U w C Y sc d cv aa p) (hl:p.get aa=some (.md (dl kd l))) (hn:(l.map (·.1)).Nodup) (hm:behindInMarks .NotIn cv=false):
    bu U w C Y sc d (.Compare dE [.NotIn] [cv] pos) Z (!(f7 l k).isSome) aa:=rM D (.inr ⟨rfl,rfl⟩) cf cP hl hn hm
def L9 (D:KD knd kd ok) (F1:eG cv=true) (cf:gB U w C Y sc d dE Z p) (cP:vb U w C Y sc d cv Z (.pv (kd k))) (hl:p.get Z=some (.md (dl kd l))) (hn:(l.map (·.1)).Nodup) (hz:f7 l k=some z):aC U w C Y sc d (.Subscript dE cv pos) Z z Z:=λA G L s env ro eo R _ kk=>
 hM F1 (cf A G L s env ro eo R _ λa t lS=>cP A G L _ env ro eo R.toks _ λv t' q=>mw (R.Dq lS hl).2 λes n g hd=>xf (get_dict (s:={s with toks:=t'}) (U:=U) (A:=A) D hn g hd q hz) λT id t1 t2 t3=>
  ⟨T,id,t1,t2,t3 _ λr _ q=>kk G r _ R.toks bb q⟩)
def QT (D:KD knd kd ok) (he:aC U w C Y sc d e Z v aa) (ho:gB U w C Y sc d o aa p) (hi:vb U w C Y sc d i aa (.pv (kd k))) (hl:p.get aa=some (.md (dl kd l))) (hn:(l.map (·.1)).Nodup) (hz:l.length<=1000)
    (hc:cZ e=true):aU U w C Y sc d (.Assign [.Subscript o i p'] e pos) Z .next (p.set aa (.md (dl kd (j1 l k v)))):=λA G L s env ro eo R _ kk=>
 wpAny_Assign_Subscript (he A G L s env ro eo R _ λaz u ax aB aH aV=>ho A az L ax env ro eo aB _ λa t lS=>hi A az L _ env ro eo aB.toks _ λiv t' q=>mw (aB.Dq lS hl).2 λes n g hd=>D.dictAt (h:=({ax with toks:=t'}:Shared).heap) hn g hd λkvs P4 hm hv=>
  wpAny_setItem_pairs (s:={ax with toks:=t'}) (D.key az k iv q).2 hm.dictOf (λh' zH sb=>mw (D.Lp zH (FK P4 (D.key az k iv q).1) (hv.store aV)) λtH n' g' Ar=>by
   have q:=(aB.toks (t:=t')).MH (k':=.md (dl kd (j1 l k v))) (t:=t'+1) sb lS.toks hl rfl λO o=>⟨a,tH,n',rfl,g',Ar,o⟩
   exact kk az _ _ q.1 (aH.tk.turn q.2) rfl) (YU (hv.len▸hz))) (dq hc)
def QQ (D:KD knd kd ok) (ho:gB U w C Y sc d o Z p) (hi:vb U w C Y sc d i Z (.pv (kd k))) (hl:p.get Z=some (.md (dl kd l))) (hn:(l.map (·.1)).Nodup) (hz:l.length<=1000) (hin:(f7 l k).isSome=true):
    aU U w C Y sc d (.Delete [.Subscript o i p'] pos) Z .next (p.set Z (.md (dl kd (FH l k)))):=λA G L s env ro eo R _ kk=>
 wpAny_Delete (wpAny_deleteEach_cons (wpAny_delete_Subscript (ho A G L s env ro eo R _ λa t lS=>hi A G L _ env ro eo R.toks _ λiv t' q=>mw (R.Dq lS hl).2 λes n g hd=>D.dictAt (h:=({s with toks:=t'}:Shared).heap) hn g hd λkvs P4 hm hv=>
  wpAny_delItem_slot (s:={s with toks:=t'}) ⟨_,g,rfl⟩ (by decide) PySem.F.slot_dict_delitem (call_meetsIn PySem.F.slot_dict_delitem ⟨_,g,rfl⟩ PySem.F.entry_dict_delitem (PySem.F.args_dict_delitem_2 _ _) (meets_dict_delitem_pairs knd a (D.key G k iv q).2)
   ⟨kvs,hm.dictOf,YU (hv.len▸hz),by rw[hv.some];exact hin,λh' zH sb=>mw (D.Lp zH (l:=FH l k) (λp hp=>P4 p (List.mem_filter.mp hp).1) hv.del) λtH n' g' Ar=>by
     have q:=(R.toks (t:=t')).MH (k':=.md (dl kd (FH l k))) (t:=t'+1) sb lS.toks hl rfl λO o=>⟨a,tH,n',rfl,g',Ar,o⟩
     exact wpAny_deleteEach_nil (kk G _ _ q.1 ((Later.refl G.OA G s).tk.turn q.2) rfl)⟩))))
def list_dict {Q:Value->Shared->Prop} (D:KD knd kd ok) (hh:A.handled=none) (hn:(l.map (·.1)).Nodup) (hz:l.length<=1000) (ha:(a==sysModules)=false) (g:s.heap.get? a=some (dictOf es n)) (hd:qU w.params G (dl kd l) es)
    (hQ:∀h' tk us c',(∀b o,s.heap.get? b=some o->h'.get? b=some o)->h'.get? s.heap.objs.size=some (bG us c')->eC w.params G (l.map λp=>kd p.1) us->Q (.ref s.heap.objs.size) {s with heap:=h',toks:=tk}):WP U w A (call (.type "list") [.ref a]) s Q:=
 D.dictAt hn g hd λkvs P4 hm hv=>kdl_call (kdl_dict (knd:=knd) (kvs:=kvs) (ep:=n) ha) hh hm (YU (hv.len▸hz)) λh' tk ZU c' hk hS agQ=>hQ h' tk ZU.toList c' hk (by simpa using hS) (by
  obtain⟨z1,z2⟩:=agQ
  have gen:∀{l:List (Ky×DV)} {kvs:List (Ky×Value)},u6 w.params G l kvs->∀us:List Value,(∀p∈l,ok p.1)->us.length=kvs.length->(∀(j:Nat) (v:Value),us[j]?=some v->∃(k:Ky) (x:Value),kvs[j]?=some (k,x)/\knd.is k v=true)->eC w.params G (l.map λp=>kd p.1) us:=by
   intro l kvs h
   induction h with
   |nil=>intro us _ el _;rw[List.length_eq_zero_iff.mp el];exact .nil
   |@cons p q _ _ hq _ ih=>
    intro us P4 el hj
    cases us with
    |nil=>exact nomatch el
    |cons u us=>
     have⟨a,b⟩:=e9.mp P4
     exact mw (hj 0 u rfl) λk x hk hi=>.cons (D.Ff G p.1 u a (by rw[<-hq.1,eN hk];exact hi)) (ih us b (Nat.succ.inj el) λj v h=>hj (j+1) v h)
  exact gen hv ZU.toList P4 (by rw[Array.length_toList];exact z1) λj v h=>z2 j v (by rw[<-Array.getElem?_toList];exact h))
end
def gk (U:Program) (w:World) (C:Nat) (Y:Base) (sc:Scope) (d:Nat) (x:Str):List Stmt->List DV->aj->au->aj->Prop:=mS U w C Y sc d (ptN x)
def fh (U:Program) (w:World) (C:Nat) (Y:Base) (sc:Scope) (d:Nat) (xs:List Str) (b:List Stmt) (vs:List (List DV)) (Z:aj) (f:au) (iS:aj):Prop:=(∀v∈vs,xs.length=v.length)/\mS U w C Y sc d (ptT xs) b vs Z f iS
section
variable {U:Program} {w:World} {C:Nat} {K:Frag} {Y:Base} {sc:Scope} {d:Nat} {Z aa ah cC:aj} {A:Around} {G:Gh} {L:Addr} {s:Shared} {env:Env} {x:Str} {p pos:Pos} {it:Expr} {b:List Stmt} {vs:List DV} {f f':au} {iS:aj} {v r:DV} {us:List Value} {a:Addr} {n z:Nat}
def um {V:Type} {pt:aj->V->aj} {vs:List V} (hf:f=.next\/f=.cont) (h:mS U w C Y sc d pt b vs aa f' ah):Goes (mS U w C Y sc d pt b vs) f aa f' ah:=hf.elim (λe=>e▸h) λe=>e▸h
def gk.done:gk U w C Y sc d x b [] Z .next Z:=⟨rfl,rfl⟩
def gk.turn (h:aF U w C Y sc d b {Z with loc:=put Z.loc x (.pv v)} f aa) (hf:f=.next\/f=.cont) (g:gk U w C Y sc d x b vs aa f' ah):gk U w C Y sc d x b (v::vs) Z f' ah:=⟨f,aa,h,um hf g⟩
def gk.brk (h:aF U w C Y sc d b {Z with loc:=put Z.loc x (.pv v)} .brk aa):gk U w C Y sc d x b (v::vs) Z .next aa:=⟨.brk,aa,h,rfl,rfl⟩
def gk.ret (h:aF U w C Y sc d b {Z with loc:=put Z.loc x (.pv v)} (.ret r) aa):gk U w C Y sc d x b (v::vs) Z (.ret r) aa:=⟨.ret r,aa,h,rfl,rfl⟩
def fh.done {xs:List Str}:fh U w C Y sc d xs b [] Z .next Z:=⟨λ_ h=>(nomatch h),rfl,rfl⟩
def fh.turn {xs:List Str} {v:List DV} {vs:List (List DV)} (e:xs.length=v.length) (h:aF U w C Y sc d b {Z with loc:=putAll Z.loc xs v} f aa) (hf:f=.next\/f=.cont) (g:fh U w C Y sc d xs b vs aa f' ah):fh U w C Y sc d xs b (v::vs) Z f' ah:=
 ⟨e9.mpr ⟨e,g.1⟩,f,aa,h,um hf g.2⟩
def vA {it v:Value} {Q:Unit->Shared->Prop} {E:Value->Shared->Prop} (h:Q () s):wpAny (model U w) A (letOwnedTupleGo (.Name x p) it v) Q E s:=k5 h
def wJ (hl:sc.names.lookup x=some .local) (hs:∀env u,foldedSetIterable it env u=pure u) (h:∀(A:Around) (G:Gh) (L:Addr) (s:Shared) (env:Env),dI A d->cN sc L env->Rep w.params C Y G L Z s->∀Q:Value->Shared->Prop,
 (∀az u ax ay I fp wr P Md St,Rep w.params C Y az L aa ay->Later G.OA G s az ay->Iter U w A (.Name x p) (λG _ x v=>DR w.params G x v) vs s.heap.objs.size az u ax ay I fp wr P Md St->Q u ax)->WP U w A (eval it env) s Q)
    (hb:gk U w C Y sc d x b vs aa f iS):aU U w C Y sc d (.For (.Name x p) it b [] pos) Z f iS:=
 E1 (λG _ x v=>DR w.params G x v) (λA G L s env Z y v Q eo _ R _ q k=>SV (gf eo R hl q k)) hs h hb
def QR {es:List Expr} {kt:Nat} {xs:List Str} {vs:List (List DV)} (hl:names sc es=some xs) (hs:∀env u,foldedSetIterable it env u=pure u) (h:∀(A:Around) (G:Gh) (L:Addr) (s:Shared) (env:Env),dI A d->cN sc L env->Rep w.params C Y G L Z s->∀Q:Value->Shared->Prop,
 (∀az u ax ay I fp wr P Md St,Rep w.params C Y az L aa ay->Later G.OA G s az ay->Iter U w A (.Tuple es kt p) (λG h x v=>∃T us,v=.ref T/\h.IsTuple T us/\eC w.params G x us.toList) vs s.heap.objs.size az u ax ay I fp wr P Md St->Q u ax)->WP U w A (eval it env) s Q)
    (hb:fh U w C Y sc d xs b vs aa f iS):aU U w C Y sc d (.For (.Tuple es kt p) it b [] pos) Z f iS:=
 E1 _ (λA G L s env Z y v Q eo hh R m q k=>xf q λT us e ht hd=>by rw[e];exact q9 eo hh hl (hb.1 y m) R ht hd k) hs h hb.2
def v9 {a:Addr} (h:a<s.heap.objs.size):a≠s.heap.objs.size:=Fo h
def Iter.list (R:Rep w.params C Y G L Z s) (hh:A.handled=none) (hz:z<=s.heap.objs.size) (g:s.heap.get? a=some (bG us n)) (hd:eC w.params G vs us) (no:¬G.O a):Iter U w A (.Name x p) (λG _ x v=>DR w.params G x v) vs z G (.ref a) s {s with heap:=s.heap.push {cls:=.type "list_iterator",data:=.fields #[.ref a,.int 0 0]}} s.heap.objs.size
    [s.heap.objs.size,a] [s.heap.objs.size] (λi v _=>(⟨us⟩:Array Value)[i]?=some v) (λi v h=>(⟨us⟩:Array Value)[i]?=some v/\h.IsListIter s.heap.objs.size a (i+1)/\h.IsList a ⟨us⟩) λi h=>h.IsListIter s.heap.objs.size a i/\h.IsList a ⟨us⟩:=
 have f:=R.fresh (fy _)
 have lt:=u0 g
 {it:=λQ E hQ=>wpAny_pyIter_list (items:=⟨us⟩) ⟨_,g,rfl,n,rfl⟩ hQ
  W:=by rw[hd.length];exact KTurns.ofWalks (Walks.list hh s.heap.objs.size a (v9 lt) ⟨us⟩) λ_ _ _ _ _ _ h=>vA h
  st:=⟨⟨_,Hu _ rfl,rfl,rfl⟩,_,MT _ g,rfl,n,rfl⟩
  fp:=e9.mpr ⟨⟨λq=>q.elim f.1 f.2.1,by rw[M7];exact MV _⟩,e9.mpr ⟨⟨no,qu lt (size_push ..)⟩,qT _⟩⟩
  wr:=e9.mpr ⟨⟨f.2.2,hz⟩,qT _⟩
  item:=λG' sb j v h hP=>by
   have hP:us[j]?=some v:=by simpa using hP
   have lt:j<vs.length:=by rw[hd.length];exact(M8.mp hP).1
   exact bx (hd.at j _ (zO lt)) λu e q=>⟨_,zO lt,eN (e.symm.trans hP)▸q.mono sb⟩}
def sm {o:Obj} (R:Rep w.params C Y G L Z s) (h:G.g a=some o):¬G.O a:=λq=>q.elim (λq=>sn (h.symm.trans (R.fM a q).1)) λq=>sn (h.symm.trans (R.fG a q).1)
def Mu {r:Res} (h:cO U w C Y sc d it Z r aa) (hr:r=.fl vs\/r=.pv (.lst vs)) (hl:sc.names.lookup x=some .local) (hs:∀env u,foldedSetIterable it env u=pure u) (hb:gk U w C Y sc d x b vs aa f iS):aU U w C Y sc d (.For (.Name x p) it b [] pos) Z f iS:=
 wJ hl hs (λA G L s env ro eo R Q k=>h A G L s env ro eo R _ λaz u ax aB aH aV=>by
  have go:∀a us n,u=.ref a->ax.heap.get? a=some (bG us n)->eC w.params az vs us->¬az.O a->Q u ax:=λa us n e g hd no=>k az u ax _ _ _ _ _ _ _ (aB.push (t:=ax.toks) _) (aH.aO (eU (t:=ax.toks) _)) (e▸Iter.list aB ro.handled aH.size g hd no)
  rcases hr with rfl|rfl
  ·exact gq aV λa us n q=>a5 q λe g hd _ lo=>go a us n e g hd λq=>q.elim lo.nA lo.nL
  ·exact DO ((Ae vs u).mp aV) λa us n e g _ hd=>go a us n e (aB.pins _ _ g) hd (sm aB g)) hb
def E0 {Ky:Type} [DecidableEq Ky] {knd:KeyKind U w Ky} {kd:Ky->DV} {ok:Ky->Prop} (D:KD knd kd ok) {l:List (Ky×DV)} (hn:(l.map (·.1)).Nodup) (h:aC U w C Y sc d it Z (.iK (dl kd l)) aa) (hl:sc.names.lookup x=some .local) (hs:∀env u,foldedSetIterable it env u=pure u)
    (hb:gk U w C Y sc d x b (l.map λp=>kd p.1) aa f iS):aU U w C Y sc d (.For (.Name x p) it b [] pos) Z f iS:=
 wJ hl hs (λA G L s env ro eo R Q k=>h A G L s env ro eo R _ λaz u ax aB aH aV=>(Ad _ u).mp aV |> λq=>DO q λa es n e ha hg hd=>D.dictAt hn (aB.pins _ _ hg) hd λkvs P4 hm hv=>by
  have g:=aB.pins _ _ hg
  have f:=aB.fresh (fy _)
  have W:=KTurns.ofWalks (target:=.Name x p) (Walks.dictKeys (A:=A) (knd:=knd) ro.handled ax.heap.objs.size a (v9 (u0 g)) kvs n) λ_ _ _ _ _ _ h=>vA h
  have W:=Eq.subst (motive:=λm=>KTurns U w A (.Name x p) ax.heap.objs.size [ax.heap.objs.size,a] [ax.heap.objs.size] m _ _ _) (hv.len.trans (mG λp:Ky×DV=>kd p.1).symm) W
  refine k az u ax _ _ _ _ _ _ _ (aB.push (t:=ax.toks) _) (aH.aO (eU (t:=ax.toks) _)) ⟨λQ E hQ=>by rw[e];exact wpAny_pyIter_dict ha hm hQ,W,⟨⟨_,Hu _ rfl,rfl,rfl⟩,hm.push _⟩,
   e9.mpr ⟨⟨λq=>q.elim f.1 f.2.1,by rw[M7];exact MV _⟩,e9.mpr ⟨⟨sm aB hg,qu (u0 g) (size_push ..)⟩,qT _⟩⟩,e9.mpr ⟨⟨f.2.2,aH.size⟩,qT _⟩,λG' sb j v _ q=>mw q λk x hj hk=>?_⟩
  have e2:(kvs.map (·.1))[j]?=some k:=by rw[Rn,hj];rfl
  rw[hv.keys,Rn] at e2
  have r:∃x,(l.map λp=>kd p.1)[j]?=some x/\DR w.params G' x v:=bx (xn.mp e2) λpq h1 h2=>⟨kd k,by rw[Rn,h1,<-h2];rfl,D.Ff G' k v (h2▸P4 pq (List.mem_of_getElem? h1)) hk⟩
  exact r) hb
end
def noRef (f:Value):Bool:=Value.ctorIdx f != Value.ctorIdx (.ref 0)
def bB (K:Frag) (sc:Scope) (x:Str) (f:Value):Bool:=decide (sc.names.lookup x=some .globalImplicit)&&(nsIn K mainGlobals x==some none&&(bootBuiltins x==some f&&(!(x==("__debug__":Str))&&(!(x==("__name__":Str))&&noRef f))))
def jQ (U:Program) (w:World) (C:Nat) (Y:Base) (f:Value) (args:List DV) (r:Res):Prop:=∀(A:Around) (G:Gh) (L:Addr) (Z:aj) (s:Shared) (us:List Value),dI A 0->Rep w.params C Y G L Z s->eC w.params G args us->
 ∀Q:Value->Shared->Prop,(∀v s',Rep w.params C Y G L Z s'->Later G.OA G s G s'->nz w.params G s'.heap s.heap.objs.size r v->Q v s')->WP U w A (call f us []) s Q
section
variable {U:Program} {w:World} {C:Nat} {K:Frag} {Y:Base} {sc:Scope} {d:Nat} {Z aa ah cC:aj} {A:Around} {G:Gh} {L:Addr} {s:Shared} {env:Env} {V:Val} {x:Str} {p pos:Pos} {f:Value} {Q:Value->Shared->Prop}
def lO (T:cQ K Y) (eo:cN sc L env) (R:Rep w.params C Y G L Z s) (hb:bB K sc x f=true) (h:Q f s):WP U w A (eval (.Name x p) env) s Q:=
 a2 (aw hb) λb1 h1=>a2 (aw h1) λb2 h2=>a2 (aw h2) λb3 h3=>a2 (aw h3) λb4 h4=>a2 (aw h4) λb5 _=>fk T.glob λ_ hg=>bx T.blt λ_ hm hmb=>
 have kp:∀b o,Y.hp.get? b=some o->s.heap.get? b=some o:=λb o q=>R.pins b o (R.dU b o q)
 Name_function_global (by rw[eo.scope];exact eo.kind) (by rw[Env.kindOf,eo.scope];exact mQ b1) (loadGlobal_builtin (v:=f) (by rw[eo.globals];exact hg.keeps kp) (mg_none_of T.Jz hg (iI.mp b2)) (by rw[eo.builtins];exact hm.keeps kp)
  ((hmb x λe=>ft ((Rl _▸b5:(x==("__name__":Str))=false).symm.trans (iI.mpr e))).trans (iI.mp b3)) h) (Rl _▸b4)
def zX (hb:bB K sc x f=true) (h:Heap):∃k,(k=Keeper.frame\/k=Keeper.machine\/k=Keeper.boundFrame)/\Looks (model U w) h (keeperOf f) k:=⟨.machine,.inr (.inl rfl),by
 have b:=(aw (aw (aw (aw (aw hb).2).2).2).2).2
 cases f<;>first|exact Looks.of_pure rfl|exact ft b⟩
def t5 {es:List Expr} {vs:List DV} (T:cQ K Y) (hb:bB K sc x f=true) (ha:dJ U w C Y sc d es Z vs aa) (ro:dI A d) (eo:cN sc L env) (R:Rep w.params C Y G L Z s)
    (h:∀(aD:Gh) (ay:Shared) (us:List Value),Rep w.params C Y aD L aa ay->Later G.OA G s aD ay->eC w.params aD vs us->WP U w A (call f us []) ay Q):WP U w A (eval (.Call (.Name x p) es [] pos) env) s Q:=
 wpAny_Call_Name_kw (lO (U:=U) (A:=A) T eo R hb (xN (λaD ay _ _=>zX hb _) ha .nil ro eo R λaD ay us _ aE aJ cA _=>h aD ay us aE aJ cA))
def pG {es:List Expr} {vs:List DV} {r:Res} (T:cQ K Y) (hb:bB K sc x f=true) (ha:dJ U w C Y sc d es Z vs aa) (h:jQ U w C Y f vs r):cO U w C Y sc d (.Call (.Name x p) es [] pos) Z r aa:=λA G L s env ro eo R Q k=>
 t5 T hb ha ro eo R λaD ay us aE aJ q=>h A aD L aa ay us ro.low aE q Q λv cB cF cL q=>k aD v cB cF (aJ.aO cL) (q.low aJ.size)
def xO {e:Expr} {v:DV} (T:cQ K Y) (hb:bB K sc x f=true) (ha:dJ U w C Y sc d [e] Z [v] aa) (ro:dI A d) (eo:cN sc L env) (R:Rep w.params C Y G L Z s)
    (h:∀(aD:Gh) (ay:Shared) (u:Value),Rep w.params C Y aD L aa ay->Later G.OA G s aD ay->DR w.params aD v u->WP U w A (call f [u] []) ay Q):WP U w A (eval (.Call (.Name x p) [e] [] pos) env) s Q:=
 t5 T hb ha ro eo R λaD ay us aE aJ q=>q.fz λu us a b=>b.jr (h aD ay u aE aJ a)
def jQ.grown {h':Heap} {tk:Nat} (R:Rep w.params C Y G L Z s) (hk:∀b o,s.heap.get? b=some o->h'.get? b=some o) (z:s.heap.objs.size<=h'.objs.size):Rep w.params C Y G L Z {s with heap:=h',toks:=tk}/\Later G.OA G s G {s with heap:=h',toks:=tk}:=⟨R.ext hk z,.keep hk z rfl rfl⟩
def XD {Ky:Type} [DecidableEq Ky] {knd:KeyKind U w Ky} {kd:Ky->DV} {ok:Ky->Prop} (D:KD knd kd ok) {l:List (Ky×DV)} (hn:(l.map (·.1)).Nodup) (hz:l.length<=1000):jQ U w C Y (.type "list") [.iK (dl kd l)] (.fl (l.map λp=>kd p.1)):=λA G L Z s us ro R hd Q k=>
 hd.fz λu _ a b=>b.jr (a.vo λa es n q g h=>WP.grow (list_dict D ro.handled hn hz q (R.pins _ _ g) h λh' tk us c' hk hS Ar g'=>a2 (jQ.grown (tk:=tk) R hk g'.size) λR' l'=>
  k _ _ R' l' ⟨_,us,c',rfl,hS,Ar,by rw[<-Ar.length,mG];exact bw hz (by decide),R.tocu.loose (fy _)⟩))
def UR {P:Params} (a b:Int) (t t':Tok):DR P G (.int (if b>a then b else a)) (if b>a then .int b t' else .int a t):=by
 by_cases q:b>a
 ·rw[d8 q,d8 q];exact⟨_,rfl⟩
 ·rw[dZ q,dZ q];exact⟨_,rfl⟩
def R5 {a b c:Int} (h:c=if b>a then b else a):jQ U w C Y (.builtin "max") [.int a,.int b] (.pv (.int c)):=λA G L Z s us ro R hd Q k=>
 hd.fz λu _ d1 d2=>d2.fz λv _ d2 d3=>d3.jr (d1.fS λt=>d2.fS λt'=>WP.grow (max_two_ints ro.handled λh' tk hk g'=>a2 (jQ.grown (tk:=tk) R hk g'.size) λR' l'=>k _ _ R' l' (h▸UR (P:=w.params) (G:=G) a b t t')))
def Cz {j t:Nat} {c:Int} (h:((Y.V.ς j).length:Int)=Y.V.β t+c):jQ U w C Y (.builtin "len") [.gP j] (.pv (.sint t c)):=λA G L Z s us ro R hd Q k=>
 hd.fz λu _ a b=>b.jr (a.sP λtk hz=>P.len_str (Int.not_le.mpr (Int.lt_of_le_of_lt (zM.mpr hz) (by decide))) (k _ _ R.toks bb ⟨_,aQ (Value.int · _) ((R.val▸h:((G.V.ς j).length:Int)=G.V.β t+c))⟩))
def ack {l:List Nat} {n:Int} (h:PySem.intText? ⟨⟨l⟩⟩=some n) (hz:l.length<=640):jQ U w C Y (.type "int") [.str l] (.pv (.int n)):=λA G L Z s us ro R hd Q k=>
 hd.fz λu _ a b=>b.jr (a.gi λt z=>KIN.call_text h hz (k _ _ R.toks bb ⟨_,rfl⟩))
def rn {e:Expr} {pl:Pl} (hs:noStar e=true) (he:gB U w C Y sc d e Z pl) (ro:dI A d) (eo:cN sc L env) (R:Rep w.params C Y G L Z s) {first:List Value} {b:String}
    (h:∀a t,At G L s pl a->WP U w A (call (.builtin b) (first++[.ref a])) {s with toks:=t} Q):WP U w A (callWith pos (.builtin b) first (backTo pos (starEach [e] env)) []) s Q:=
 callWith_builtin (lG [e] (SR.mpr ⟨hs,rfl⟩)).1 (by rw[gw hs];exact Calls.evalArgs_plain (Calls.spliced_cons (he A G L s env ro eo R _ λa t lS=>Calls.spliced_nil (h a t lS))))
def y0 {e:Expr} {pl:Pl} {l:List DV} (T:cQ K Y) (hb:bB K sc x (.builtin "len")=true) (he:gB U w C Y sc d e Z pl) (hs:noStar e=true) (hl:pl.get Z=some (.ml l)):aC U w C Y sc d (.Call (.Name x p) [e] [] pos) Z (.int l.length) Z:=λA G L s env ro eo R Q k=>
 wpAny_Call_Name_kw (lO (U:=U) (A:=A) T eo R hb (rn hs he ro eo R λa t lS=>gq (R.gZ lS hl) λb vs n q=>a5 q λe g hd hz _=>by
  cases e
  exact call_len_list (s:={s with toks:=t}) (items:=⟨vs⟩) ⟨_,g,rfl,n,rfl⟩ (Int.lt_of_le_of_lt (zM.mpr hz) (by decide)) (k G _ _ R.toks bb ⟨_,by rw[hd.length];rfl⟩)))
def uW {dE cv Ah:Expr} {oj om:CmpOp} {x y z:DV} {b c:Bool} (cf:aC U w C Y sc d dE Z x aa) (cP:aC U w C Y sc d cv aa y ah) (hc:fi U w Y.V oj x y b)
    (k:if b then aC U w C Y sc d Ah ah z cC/\fi U w Y.V om y z c else c=false/\cC=ah) (hm:lastMarks [oj,om] [cv,Ah]=false):bu U w C Y sc d (.Compare dE [oj,om] [cv,Ah] pos) Z c cC:=λA G L s env ro eo R Q kk=>
 isTrue_chain (cf A G L s env ro eo R _ λaz u ax aB aH aV=>test_link (cP A az L ax env ro eo aB _ λaD v ay aE aJ cA=>hc A aD ay u v ro.low aE.val aE.pins (aV.mono aJ.sub) cA _ λt=>Zh (by
  cases b with
  |false=>exact a2 k λe1 e2=>show Q false _ from e1▸kk aD _ (e2▸aE.toks) (aH.aO aJ).tk
  |true=>exact a2 k λvG hc'=>test_last (vG A aD L _ env ro eo aE.toks _ λiL r pK cF cL lB=>hc' A iL pK v r ro.low cF.val cF.pins (cA.mono cL.sub) lB _ λt=>Zh (kk iL _ cF.toks (((aH.aO aJ).tk.aO cL).tk)))))) hm
def uJ {dE cv Ah:Expr} {oj om:CmpOp} {x y z:DV} {b c:Bool} (cf:aC U w C Y sc d dE Z x aa) (cP:aC U w C Y sc d cv aa y ah) (hc:fi U w Y.V oj x y b)
    (k:if b then aC U w C Y sc d Ah ah z cC/\fi U w Y.V om y z c else c=false/\cC=ah) (hm:lastMarks [oj,om] [cv,Ah]=false):aC U w C Y sc d (.Compare dE [oj,om] [cv,Ah] pos) Z (.bool c) cC:=λA G L s env ro eo R Q kk=>
 Compare_chain (cf A G L s env ro eo R _ λaz u ax aB aH aV=>chain_link (cP A az L ax env ro eo aB _ λaD v ay aE aJ cA=>hc A aD ay u v ro.low aE.val aE.pins (aV.mono aJ.sub) cA _ λt=>Zh (by
  cases b with
  |false=>exact a2 k λe1 e2=>show Q (.bool false) _ from kk aD _ _ (e2▸aE.toks) (aH.aO aJ).tk (e1▸rfl)
  |true=>exact a2 k λvG hc'=>chain_last (vG A aD L _ env ro eo aE.toks _ λiL r pK cF cL lB=>hc' A iL pK v r ro.low cF.val cF.pins (cA.mono cL.sub) lB _ λt=>kk iL _ _ cF.toks (((aH.aO aJ).tk.aO cL).tk) rfl)))) hm
end
def pX (sep:List Nat) (l:List (List Nat)):List Nat:=List.rec (motive:=λ_=>List Nat) [] (λy _ ih=>sep++y++ih) l
def gV (sep:List Nat) (l:List (List Nat)):List Nat:=List.rec (motive:=λ_=>List Nat) [] (λx r _=>x++pX sep r) l
def join_eq (sep:List Nat) (ss:List (List Nat)):Txt.join ⟨⟨sep⟩⟩ (ss.map λl=>⟨⟨l⟩⟩)=(⟨⟨gV sep ss⟩⟩:Str):=by
 show Builtin.Str.glued _ _=_
 rw[StrLaws.glued_eq_join]
 cases ss with
 |nil=>rfl
 |cons x r=>
  induction r generalizing x with
  |nil=>exact Str.ext' (aQ Array.mk (ti x).symm)
  |cons y r ih=>
   show(⟨⟨x⟩⟩:Str)++⟨⟨sep⟩⟩++Str.join ⟨⟨sep⟩⟩ ((y::r).map λl=>⟨⟨l⟩⟩)=_
   rw[ih]
   exact Str.ext' (by show(⟨x⟩++⟨sep⟩++⟨y++pX sep r⟩:Array Nat)=⟨x++(sep++y++pX sep r)⟩;simp)
def c9 (l:List (List Nat)):Nat:=List.rec (motive:=λ_=>Nat) 0 (λx _ ih=>x.length+ih) l
def Ga (sep:List Nat) (ss:List (List Nat)):(pX sep ss).length=c9 ss+ss.length*sep.length:=by
 induction ss with
 |nil=>exact(zQ _).trans (Nat.zero_mul sep.length) |>.symm
 |cons x r ih=>
  show(sep++x++pX sep r).length=x.length+c9 r+(r.length+1)*sep.length
  rw[da,da,ih,Nat.succ_mul];omega
def ur (sep:List Nat) (ss:List (List Nat)):(gV sep ss).length<=c9 ss+ss.length*sep.length:=by
 cases ss with
 |nil=>exact ju _
 |cons x r=>
  show(x++pX sep r).length<=x.length+c9 r+(r.length+1)*sep.length
  rw[da,Ga,Nat.succ_mul];omega
def F8 (ss:List (List Nat)):gV [] ss=ss.flatten:=by
 have h:pX [] ss=ss.flatten:=by induction ss with|nil=>rfl|cons x r ih=>exact aQ (x++·) ih
 cases ss with
 |nil=>rfl
 |cons x r=>exact h
section
variable {U:Program} {w:World} {C:Nat} {K:Frag} {Y:Base} {sc:Scope} {d:Nat} {Z:aj} {A:Around} {G:Gh} {L:Addr} {s:Shared} {env:Env} {sep:List Nat} {ss:List (List Nat)} {vs:List Value} {n:Nat} {a:Addr} {t:Tok} {Q:Value->Shared->Prop}
def zl {P:Params} (ss:List (List Nat)):∀{vs:List Value},eC P G (ss.map .str) vs->∃l:List (Str×Tok),vs=strValues l/\l.map (·.1)=ss.map λl=>⟨⟨l⟩⟩:=by
 induction ss with
 |nil=>exactλh=>h.jr ⟨[],rfl,rfl⟩
 |cons x r ih=>exactλh=>h.fz λu us a b=>a.gi λt _=>bx (ih b) λl h1 h2=>⟨(⟨⟨x⟩⟩,t)::l,aQ (_::·) h1,aQ (_::·) h2⟩
def QO (ss:List (List Nat)):((ss.map λl=>(⟨⟨l⟩⟩:Str)).map (·.length)).sum=c9 ss:=by
 induction ss with
 |nil=>rfl
 |cons x r ih=>rw[xb,xb,List.sum_cons,ih];rfl
def Pf (hg:s.heap.get? a=some (bG vs n)) (hd:eC w.params G (ss.map .str) vs) (hz:c9 ss+ss.length*sep.length<=lim) (h:∀t' k,Q (.str ⟨⟨gV sep ss⟩⟩ t') {s with toks:=k}):WP U w A (call (.builtin "str.join") [.str ⟨⟨sep⟩⟩ t,.ref a]) s Q:=
 bx (zl ss hd) λl e h2=>SC.join (D:=a) (l:=l) ⟨_,e▸hg,rfl,n,rfl⟩ h2 (by
  unfold JoinOk
  rw[StrLaws.joinTotal,QO,mG]
  exact(Rl _).mpr (Hy (xm.mpr (cK hz)))) (λt' k=>by rw[join_eq];exact h t' k)
def QL {k:Nat} {p:Pos} {x:Str} {Q:Value->Shared->Prop} (h:∀t,Q (.str x t) {s with toks:=s.toks+1}):WP U w A (eval (.Constant (.str x) k p) env) s Q:=λ_ _ _=>h _
def uM {sep:Str} {k:Nat} {p apos pos:Pos} {e e0:Expr} {pl:Pl} (h0:e0=.Call (.Attribute (.Constant (.str sep) k p) "join" apos) [e] [] pos) (hf:dW [e] [] apos pos=true) (hs:noStar e=true) (he:gB U w C Y sc d e Z pl) (hl:pl.get Z=some (.ml (ss.map .str))) (hz:c9 ss+ss.length*sep.cps.toList.length<=lim):
    aC U w C Y sc d e0 Z (.str (gV sep.cps.toList ss)) Z:=λA G L s env ro eo R Q k=>fb h0▸gz (s:=s) rfl hf (QL (x:=sep) λt pl=>GM.join (rn (first:=[.str sep _]) hs he ro eo R.toks λa t lS=>gq (R.gZ lS.toks hl) λb vs n q=>a5 q λe g hd _ _=>by
    cases e
    exact Pf (sep:=sep.cps.toList) (s:={s with toks:=t}) g hd hz λt' _=>k G _ _ R.toks bb ⟨t',rfl,bw (ur _ _) hz⟩))
end
def iY (vs:List DV):List (List DV):=vs.zipIdx.map λp=>[.int p.2,p.1]
def FL {vs:List DV} {j:Nat} {v:DV} (h:vs[j]?=some v):(iY vs)[j]?=some [.int j,v]:=by
 unfold iY
 rw[Rn,List.getElem?_zipIdx,h]
 simp
def FN (vs:List DV):(iY vs).length=vs.length:=by unfold iY;simp
section
variable {U:Program} {w:World} {C:Nat} {K:Frag} {Y:Base} {sc:Scope} {d:Nat} {Z aa:aj} {A:Around} {G:Gh} {L:Addr} {s:Shared} {es:List Expr} {kt z:Nat} {xs:List Str} {p pn pos' pos:Pos} {x:Str} {e:Expr} {b:List Stmt} {f:au} {iS:aj} {vs:List DV}
def Iter.enum {h':Heap} {fp:List Addr} {P:Nat->Value->Prop} {St:Nat->Heap->Prop} (R:Rep w.params C Y G L Z s) (hz:z<=s.heap.objs.size) (D:Draws U w A.in1 s.heap.objs.size fp vs.length P St) (hif:s.heap.objs.size∈fp) (he:IsEnum h' (s.heap.objs.size+1) s.heap.objs.size 0 .none)
    (st:St 0 h') (yc:h'.objs.size=s.heap.objs.size+2) (Jm:∀a∈fp,¬G.O a/\a<s.heap.objs.size+1) (hP:∀G',Sub G G'->∀j v,P j v->∃x,vs[j]?=some x/\DR w.params G' x v) {Zk:Prop} (kk:∀fp wr Pt Md St,Iter U w A (.Tuple es kt p) (λG h x v=>∃T us,v=.ref T/\h.IsTuple T us/\eC w.params G x us.toList) (iY vs) z G
      (.ref (s.heap.objs.size+1)) {s with heap:=h'} {s with heap:=h'} (s.heap.objs.size+1) fp wr Pt Md St->Zk):Zk:=
 have f0:=R.fresh (fy _)
 have f1:=R.fresh (Nat.le_succ s.heap.objs.size)
 have W:=KTurns.ofWalksU (elts:=es) (k:=kt) (pos:=p) (WalksT.enumerateD D (s.heap.objs.size+1) (Nat.succ_ne_self _) (λq=>Nat.lt_irrefl _ (Jm _ q).2) hif).toU
 kk _ _ _ _ _ ⟨λQ E hQ=>wpAny_pyIter_enum he hQ,Eq.subst (motive:=λn=>KTurns U w A _ _ _ _ n _ _ _) (FN vs).symm W,⟨⟨_,he⟩,st⟩,
  e9.mpr ⟨⟨λq=>q.elim f1.1 f1.2.1,yc▸MV _⟩,λa m=>⟨(Jm a m).1,yc▸Nat.lt_succ_of_lt (Jm a m).2⟩⟩,e9.mpr ⟨⟨f1.2.2,Nat.le_succ_of_le hz⟩,e9.mpr ⟨⟨f0.2.2,hz⟩,qT _⟩⟩,
  λG' sb j v h q=>xf q λT us ev q ht=>mw q λt x hp eu=>bx (hP G' sb j x hp) λy hy dy=>⟨_,FL hy,T,us,ev,ht,eu▸.cons ⟨t,rfl⟩ (.cons dy .nil)⟩⟩
def sU {v:DV} (T:cQ K Y) (hl:names sc es=some xs) (hb:bB K sc x (.type "enumerate")=true) (ha:dJ U w C Y sc d [e] Z [v] aa) (hs:∀env u,foldedSetIterable (.Call (.Name x pn) [e] [] pos') env u=pure u)
    (h:∀(A:Around) (G:Gh) (L:Addr) (s:Shared) (u:Value),A.handled=none->Rep w.params C Y G L aa s->DR w.params G v u->∀Q:Value->Shared->Prop,(∀h' fp P St,(∀b o,s.heap.get? b=some o->h'.get? b=some o)->Draws U w A.in1 s.heap.objs.size fp vs.length P St->s.heap.objs.size∈fp->IsEnum h' (s.heap.objs.size+1) s.heap.objs.size 0 .none->
      St 0 h'->h'.objs.size=s.heap.objs.size+2->(∀a∈fp,¬G.O a/\a<s.heap.objs.size+1)->(∀G',Sub G G'->∀j v,P j v->∃x,vs[j]?=some x/\DR w.params G' x v)->Q (.ref (s.heap.objs.size+1)) {s with heap:=h'})->WP U w A (call (.type "enumerate") [u]) s Q)
    (hB:fh U w C Y sc d xs b (iY vs) aa f iS):aU U w C Y sc d (.For (.Tuple es kt p) (.Call (.Name x pn) [e] [] pos') b [] pos) Z f iS:=
 QR hl hs (λA G L s env ro eo R Q k=>xO T hb ha ro eo R λaD ay u aE aJ du=>h A aD L ay u ro.handled aE du Q λh' fp P St hk D hif he st yc Jm hP=>
  have z:ay.heap.objs.size<=h'.objs.size:=yc▸Hx _ 2
  Iter.enum (es:=es) (kt:=kt) (p:=p) aE aJ.size D hif he st yc Jm hP λ_ _ _ _ _ I=>k aD _ _ _ _ _ _ _ _ _ (aE.ext (s':={ay with heap:=h'}) hk z) (aJ.aO (.keep hk z rfl rfl)) I) hB
def p9 {l:List Nat} (T:cQ K Y) (hl:names sc es=some xs) (hb:bB K sc x (.type "enumerate")=true) (ha:dJ U w C Y sc d [e] Z [.str l] aa)
    (hs:∀env u,foldedSetIterable (.Call (.Name x pn) [e] [] pos') env u=pure u) (hB:fh U w C Y sc d xs b (iY (l.map λc=>.str [c])) aa f iS):aU U w C Y sc d (.For (.Tuple es kt p) (.Call (.Name x pn) [e] [] pos') b [] pos) Z f iS:=
 sU T hl hb ha hs (λA G L s u hh R du Q k=>du.gi λt _=>call_enumerate_str λh' he hit yc hk=>k h' _ _ _ hk (show Draws U w A.in1 s.heap.objs.size [s.heap.objs.size] _ (λi v=>∃c u,(⟨⟨l⟩⟩:Str).cps[i]?=some c/\v=.str ⟨#[c]⟩ u) (λi h=>h.IsStrIter s.heap.objs.size (strIterType ⟨⟨l⟩⟩) ⟨⟨l⟩⟩ t i) by
  rw[mG]
  unfold strIterType
  by_cases q:(⟨⟨l⟩⟩:Str).cps.all (· <128)=true
  ·rw[d8 q];exact Draws.strAscii (A:=A.in1) hh _ ⟨⟨l⟩⟩ t
  ·rw[dZ q];exact Draws.strWide (A:=A.in1) hh _ ⟨⟨l⟩⟩ t) (.head _) he hit yc
  (e9.mpr ⟨⟨λq=>q.elim (R.fresh (fy _)).1 (R.fresh (fy _)).2.1,MV _⟩,qT _⟩) λG' _ j v q=>mw q λc uc hc ex=>⟨.str [c],by rw[Rn,show l[j]?=some c by simpa using hc];rfl,uc,ex,Nat.succ_le_of_lt (by decide)⟩) hB
def zo {l:List DV} (T:cQ K Y) (hl:names sc es=some xs) (hb:bB K sc x (.type "enumerate")=true) (ha:dJ U w C Y sc d [e] Z [.lst l] aa)
    (hs:∀env u,foldedSetIterable (.Call (.Name x pn) [e] [] pos') env u=pure u) (hB:fh U w C Y sc d xs b (iY l) aa f iS):aU U w C Y sc d (.For (.Tuple es kt p) (.Call (.Name x pn) [e] [] pos') b [] pos) Z f iS:=
 sU T hl hb ha hs (λA G L s u hh R du Q k=>du.lu λa us n hg _ hd=>call_enumerate_list (items:=⟨us⟩) ⟨_,R.pins _ _ hg,rfl,n,rfl⟩ λh' he hit yc hk=>k h' _ _ _ hk (Eq.subst (motive:=λn=>Draws U w A.in1 _ _ n _ _) hd.length.symm (Draws.list (prog:=U) (w:=w) (A:=A.in1) hh s.heap.objs.size a (v9 (u0 (R.pins _ _ hg))) ⟨us⟩)) (.head _) he
  ⟨hit,_,hk _ _ (R.pins _ _ hg),rfl,n,rfl⟩ yc (e9.mpr ⟨⟨λq=>q.elim (R.fresh (fy _)).1 (R.fresh (fy _)).2.1,MV _⟩,e9.mpr ⟨⟨sm R hg,Nat.lt_succ_of_lt (u0 (R.pins _ _ hg))⟩,qT _⟩⟩)
  λG' sb j v hP=>by
   have hP:us[j]?=some v:=by simpa using hP
   have lt:j<l.length:=by rw[hd.length];exact(M8.mp hP).1
   exact bx (hd.at j _ (zO lt)) λu e q=>⟨_,zO lt,eN (e.symm.trans hP)▸q.mono sb⟩) hB
end
def qG (k:ae):DV:=ae.casesOn (motive:=λ_=>DV) k (λv=>bif v.free then v else .any) (λl=>bif gU l then .lst l else .any) λl=>bif D0 l then .iK l else .any
def vx (as:List (Str×ae)):List (Str×DV):=as.map λp=>(p.1,qG p.2)
def I1 (d:DV):Bool:=Nat.blt d.ctorIdx 8||d.ctorIdx==13||d.ctorIdx==14
def DR.flat {P:Params} {G G':Gh} (e:G'.V=G.V) {r:DV} {v:Value} (hf:I1 r=true) (h:DR P G r v):DR P G' r v:=by
 cases r with
 |sint t k=>exact h.uO λtk=>⟨tk,by rw[e]⟩
 |gP k=>exact h.sP λtk z=>⟨tk,by rw[e],by rw[e];exact z⟩
 |_=>first|exact ft hf|exact h
section
variable {U:Program} {w:World} {C:Nat} {Y:Base} {d:Nat} {G:Gh} {s:Shared} {aq:Option (List (Str×ae))}
def fH (G:Gh) (s:Shared):Gh:=⟨G.V,λb=>s.heap.get? b,none,λ_=>False,λ_=>False⟩
def T4 {c:Bool} {x:DV} {v:Value} (hv:handedIn v=true) (h:c=true->DR w.params G x v):DR w.params G (bif c then x else .any) v:=by
 cases c with
 |true=>exact h rfl
 |false=>exact hv
def FV {k:ae} {v:Value} {dd:Addr} (R:cu w.params C Y G aq s) (h:bD w.params G s.heap (λa=>G.OA a/\a≠dd) k v):DR w.params (fH G s) (qG k) v:=by
 cases k with
 |pv x=>exact T4 h.handed λq=>DR.free (G:=G) (G':=fH G s) rfl R.pins (show DR w.params G x v from h) q
 |ml l=>exact T4 h.handed λq=>gq h λa vs n h=>a5 h λe g hd hz _=>fb e▸.lst (G:=fH G s) g hz (eC.free (G:=G) (G':=fH G s) rfl R.pins hd q)
 |md l=>exact T4 h.handed λq=>DO h λa es n e g hd o=>fb e▸.iK (G:=fH G s) (R.v8 (R.fM a o.1).1) g (qU.free (G:=G) (G':=fH G s) rfl R.pins hd q)
def af.ai3 {f:Value} {args:List DV} {kw:List (Str×DV)} {as:List (Str×ae)} {r:DV} (h:af U w C Y d f (.inst C (vx as)::args) kw none r none) (hf:I1 r=true) (f1:gU args=true) (f2:gU (kw.map (·.2))=true):
    af U w C Y d f (.self::args) kw (some as) r (some as):=λA G s vs ks ro R ha hk Q k=>ha.fz λu us d1 d2=>cV R.attr λp dd q=>cV q λes n AO=>by
 have kg:∀b o,G.g b=some o->(fH G s).g b=some o:=R.pins
 have R':cu w.params C Y (fH G s) none s:=⟨λ_ _ h=>h,λb o h=>R.pins b o (R.dU b o h),R.val,λ_ q=>q.elim,λ_ q=>q.elim,λ_ q=>q.elim,rfl⟩
 have di:DR w.params (fH G s) (.inst C (vx as)) (.ref p):=.inst (R.pins _ _ AO.inst) AO.dict (λx e=>AO.none (Option.map_eq_none_iff.mp ((f9 qG as x).symm.trans e)))
  λx dv e=>bx (xn.mp ((f9 qG as x).symm.trans e)) λk h1 h2=>bx (AO.sl.hit x k h1) λv hv ok=>⟨v,gC hv,h2▸FV R ok⟩
 exact d1.yW (Q:=λu=>codeAny _ _ (.call f ⟨u::us,_⟩) _ s) λp' d' e=>by
  cases e.symm.trans AO.par
  exact h A (fH G s) s _ ks ro R' (.cons di (eC.free (G:=G) (G':=fH G s) rfl kg d2 f1)) (eC.free (G:=G) (G':=fH G s) rfl kg hk f2) Q λaD v ay aE l _ dv=>
   have kp:∀b o,s.heap.get? b=some o->ay.heap.get? b=some o:=λb o e=>l.kept b o e id
   k G v ay (R.keep (λb o _=>kp b o) (λb o _=>kp b o) l.size) (.keep kp l.size l.gens l.os) rfl (dv.flat (G':=G) l.sub.V.symm hf)
end
def gT (l:List Nat):Nat:=List.rec (motive:=λ_=>Nat) 1 (λc _ m=>bif Nat.blt c 2097152 then bif Nat.beq m 0 then 0 else Nat.add c (Nat.mul 2097152 m) else 0) l
def oa {a b:Nat} (h:Nat.beq a b=false):a≠b:=λe=>tf ((Nat.beq_refl a).symm.trans ((aQ (Nat.beq a) e).trans h))
def j0 {c:Nat} {r:List Nat} (h:gT (c::r)≠0):c<2097152/\gT r≠0/\gT (c::r)=c+2097152*gT r:=by
 have e:gT (c::r)=bif Nat.blt c 2097152 then bif Nat.beq (gT r) 0 then 0 else c+2097152*gT r else 0:=rfl
 rw[e] at h ⊢
 cases h1:Nat.blt c 2097152 with
 |false=>exact absurd (by rw[h1];rfl) h
 |true=>
  cases h2:Nat.beq (gT r) 0 with
  |true=>exact absurd (by rw[h1,h2];rfl) h
  |false=>exact⟨eP h1,oa h2,rfl⟩
def FE {c c' a b k:Nat} (h:c<k) (h':c'<k) (e:c+k*a=c'+k*b):c=c'/\a=b:=by
 have e1:=aQ (· % k) e
 have e2:=aQ (· / k) e
 simp only[Nat.add_mul_mod_self_left,Nat.mod_eq_of_lt h,Nat.mod_eq_of_lt h'] at e1
 simp only[Nat.add_mul_div_left _ _ (Rq (ju _) h),Nat.div_eq_of_lt h,Nat.div_eq_of_lt h',zQ] at e2
 exact⟨e1,e2⟩
def t6 {c a:Nat} (h:a≠0):c+2097152*a≠1:=OO
def FD (l:List Nat):∀l':List Nat,gT l≠0->gT l=gT l'->l=l':=by
 induction l with
 |nil=>intro l' _ e;cases l' with
  |nil=>rfl
  |cons c r=>exact a3 (j0 (show gT (c::r)≠0 from e▸Nat.one_ne_zero)) λ_ z q=>absurd (q.symm.trans e.symm) (t6 z)
 |cons c r ih=>intro l' n e;cases l' with
  |nil=>exact a3 (j0 n) λ_ z q=>absurd (q.symm.trans e) (t6 z)
  |cons c' r'=>exact a3 (j0 n) λl1 z1 q1=>a3 (j0 (e▸n)) λl2 _ q2=>a2 (FE l1 l2 (q1.symm.trans (e.trans q2))) λe1 e2=>by rw[e1,ih r' z1 e2]
def cU (x y:Str):Bool:=bif Nat.beq (gT x.cps.toList) 0 then decide (x=y) else Nat.beq (gT x.cps.toList) (gT y.cps.toList)
def bF (x y:Str):cU x y=true↔x=y:=by
 unfold cU
 cases h:Nat.beq (gT x.cps.toList) 0 with
 |true=>exact decide_eq_true_iff
 |false=>exact⟨λe=>Str.ext' (Array.ext' (FD _ _ (oa h) (iT e))),λe=>e▸Nat.beq_refl _⟩
def ja {x y:Str} (h:cU x y=false):x≠y:=λe=>tf (((bF x y).mpr e).symm.trans h)
def aT {α:Type} (l:List (Str×α)) (x:Str):Option α:=List.rec (motive:=λ_=>Option α) none (λp _ ih=>bif cU p.1 x then some p.2 else ih) l
def oW {α:Type} (x y:Str) (u v:α):(bif cU x y then u else v)=if x=y then u else v:=by
 cases h:cU x y with
 |true=>exact(d8 ((bF _ _).mp h)).symm
 |false=>exact(dZ (ja h)).symm
def aG {α:Type} (l:List (Str×α)) (x:Str):aT l x=look l x:=by
 induction l with
 |nil=>rfl
 |cons p r ih=>exact(oW ..).trans (by rw[dj];exact aQ _ ih)
def hA {α:Type} (l:List (Str×α)) (x:Str):aT l x=l.lookup x:=by
 induction l with
 |nil=>rfl
 |cons p r ih=>
  refine(oW ..).trans ?_
  by_cases h:p.1=x
  ·rw[d8 h,List.lookup_cons,iI.mpr h.symm]
  ·rw[dZ h,List.lookup_cons,HG.mpr λq=>h q.symm];exact ih
def bS {α:Type} (l:List (Str×α)) (x:Str) (v:α):List (Str×α):=List.rec (motive:=λ_=>List (Str×α)) [(x,v)] (λp r ih=>bif cU p.1 x then(x,v)::r else p::ih) l
def bk {α:Type} (l:List (Str×α)) (x:Str) (v:α):bS l x v=put l x v:=by
 induction l with
 |nil=>rfl
 |cons p r ih=>exact(oW ..).trans (by show _=(if p.1=x then(x,v)::r else p::put r x v);rw[<-ih];rfl)
def bc (c:Nat) (l:List Nat):Bool:=List.rec (motive:=λ_=>Bool) false (λh _ ih=>bif Nat.beq c h then true else ih) l
def nY (c:Nat) (l:List Nat):bc c l=decide (c∈l):=by
 induction l with
 |nil=>rfl
 |cons h r ih=>
  show(bif Nat.beq c h then true else bc c r)=_
  cases q:Nat.beq c h with
  |true=>exact(HI (iT q▸.head _)).symm
  |false=>exact ih.trans (decide_eq_decide.mpr ⟨.tail _,λm=>(List.mem_cons.mp m).resolve_left (oa q)⟩)
def fQ (l l':List Nat):Bool:=List.rec (motive:=λ_=>List Nat->Bool) (λl'=>l'.isEmpty) (λc _ ih l'=>List.casesOn (motive:=λ_=>Bool) l' false λc' r'=>bif Nat.beq c c' then ih r' else false) l l'
def jo (l:List Nat):∀l':List Nat,fQ l l'=(l==l'):=by
 induction l with
 |nil=>intro l';cases l'<;>rfl
 |cons c r ih=>intro l';cases l' with
  |nil=>rfl
  |cons c' r'=>
   show(bif Nat.beq c c' then fQ r r' else false)=((c==c')&&(r==r'))
   rw[ih]
   cases h:Nat.beq c c' with
   |true=>rw[iI.mpr (iT h)];rfl
   |false=>rw[HG.mpr (oa h)];rfl
def Hc {a b:Nat} (h:a<=b):(if(a:Int)<b then((b:Int) - a+1 - 1) / 1 else 0).toNat=b - a:=by
 by_cases q:(a:Int)<b
 ·rw[d8 q,Int.ediv_one,Int.add_sub_cancel,<-Int.ofNat_sub h];rfl
 ·rw[dZ q];exact(Nat.sub_eq_zero_of_le (zM.mp (Int.not_lt.mp q))).symm
def He {a b n:Nat} (h1:a<=b) (h2:b<=n):Builtin.Str.strSliceIndices (some (a:Int)) (some (b:Int)) 1 n=List.range' a (b - a):=by
 have m:∀c:Nat,c<=n->max (0:Int) (min (c:Int) (n:Int))=c:=λc h=>by rw[Int.min_eq_left (zM.mpr h),Int.max_eq_right (MU c)]
 unfold Builtin.Str.strSliceIndices sliceRange
 simp only[Int.not_lt.mpr (MU a),Int.not_lt.mpr (MU b),if_false,show(1:Int)>0 from by decide,if_true,m a (bw h1 h2),m b h2,Hc h1,List.range'_eq_map_range]
 exact List.map_congr_left λk _=>by rw[Int.one_mul];rfl
def CH {α:Type} (l:List α) (m:Nat):∀a,a+m<=l.length->(List.range' a m).filterMap (λi=>l[i]?)=(l.drop a).take m:=by
 induction m with
 |zero=>exactλa _=>List.take_zero.symm
 |succ m ih=>
  intro a h
  have lt:a<l.length:=qu (Nat.lt_add_of_pos_right (MW m)) h
  rw[List.range'_succ,List.filterMap_cons,zO lt,ih (a+1) (by rw[Nb];exact h),List.drop_eq_getElem_cons lt];rfl
def DJ {l:List Nat} {a n m:Nat} (h:l.length<=m):((l.drop a).take n).length<=m:=bw (by rw[ZH];exact Nat.min_le_right ..) (bw (by rw[ZF];exact Nat.sub_le ..) h)
def C1 {l:List Nat} {a b:Nat} {t ta tb:Tok} {Q:Value->Shared->Prop} {s:Shared} (n1:a<=b) (n2:b<=l.length) (hz:l.length<=lim) (k:∀t tk,Q (.str ⟨⟨(l.drop a).take (b - a)⟩⟩ t) {s with toks:=tk}):(sliceMade ⟨⟨l⟩⟩ t (some ((a:Int),ta)) (some ((b:Int),tb)) none).post Q s:=by
 have ix:slicePicked ⟨⟨l⟩⟩ (some ((a:Int),ta)) (some ((b:Int),tb)) none=List.range' a (b - a):=He n1 n2
 unfold sliceMade
 rw[ix,show(λi=>(⟨⟨l⟩⟩:Str).cps[i]?)=λi=>l[i]? from funext λi=>List.getElem?_toArray,CH l (b - a) a (bw (iU (Nat.add_sub_cancel' n1)) n2),List.length_range']
 split
 ·rename_i hw
  have e:b - a=l.length:=iI.mp (aw hw).2
  have:a=0:=Nat.eq_zero_of_le_zero (Nat.le_of_add_le_add_left (a:=l.length) (bw (iU ((aQ (· +a) e).symm.trans (Nat.sub_add_cancel n1))) n2))
  rw[e,this,List.drop_zero,List.take_of_length_le (fy _)] at k
  exact k t s.toks
 ·exact⟨cK (DJ hz),k _ _⟩
def textOf (V:Val) (x:DV):Option (List Nat):=aZ (iG x) ((sO x).bind λk=>some (V.ς k)) some
def Hp (V:Val) (x:DV):On (λl=>.str l=x\/∃k,.gP k=x/\V.ς k=l) (textOf V x):=(cT x).or (λl h=>.inl h) λ_=>(jL x).b λk h=>.inr ⟨k,h,rfl⟩
def Di (U:Program) (w:World) (V:Val) (x lo hi z:DV):Prop:=∃(l:List Nat) (a b:Nat),textOf V x=some l/\intOf V lo=some (a:Int)/\intOf V hi=some (b:Int)/\a<=b/\b<=l.length/\z=.str ((l.drop a).take (b - a))
section
variable {U:Program} {w:World} {C:Nat} {Y:Base} {sc:Scope} {d:Nat} {Z aa ah cC:aj} {A:Around} {G:Gh} {s:Shared} {env:Env}
def qd {value:Expr} {lo up:Option Expr} {p pos:Pos} {Q:Value->Shared->Prop} (h:WP U w A (eval value env) s λo ax=>WP U w A (eval (.Slice lo up none p) env) ax λi ay=>
    ∃T id,ay.TypeIs o T/\typeLookup (.type T) "__getitem__"=pure (some (.builtin id))/\WP U w A (getItem o i) ay Q):WP U w A (eval (.Subscript value (.Slice lo up none p) pos) env) s Q:=by
 refine Subscript_ (h.mono λo ax cf=>WP.mono cf λi ay q=>xf q λT id hT hl cP=>?_)
 unfold subscriptTail
 refine eO ?_
 rw[getitemInPython_of_ne hT.not_modules]
 refine eO (wpAny_specialOf hT hl ?_)
 have fin:wpAny (model U w) A (operate [i,o] (getItem o i)) (λr cB=>wpAny (model U w) A (letTemporaryGo value o r >>= λ_=>pure r) Q (λ_ _=>False) cB) (λ_ _=>False) ay:=
  wpAny_operating (WP.mono cP λr cB vG=>eO (wpAny_letTemporaryGo (k5 vG)))
 first
  |exact k5 (eO fin)
  |exact eO (k5 (eO fin))
  |exact eO fin
@[elab_as_elim] def DR.textOf {P:Params} {x:DV} {u:Value} {l:List Nat} {Q:Value->Prop} (hu:DR P G x u) (h:Mine.textOf G.V x=some l) (k:∀t,l.length<=lim->Q (.str ⟨⟨l⟩⟩ t)):Q u:=
  ((Hp G.V x).get h).elim (λe=>(fb e▸hu:DR P G (.str l) u).gi k) λq=>bx q λj e1 e2=>by
    rw[<-e2] at k
    exact(fb e1▸hu:DR P G (.gP j) u).sP k
def Ha {o dE cv:Expr} {p pos:Pos} {x lo hi z:DV} (h₀:aC U w C Y sc d o Z x aa) (cf:aC U w C Y sc d dE aa lo ah) (cP:aC U w C Y sc d cv ah hi cC) (h:Di U w Y.V x lo hi z):
    aC U w C Y sc d (.Subscript o (.Slice (some dE) (some cv) none p) pos) Z z cC:=λA G L s env ro eo R Q k=>e33 h λl a b e1 e2 q=>a4 q λe3 n1 n2 ez=>
 qd (h₀ A G L s env ro eo R _ λaz u ax aB aH aV=>wpAny_Slice (evalPart_some_step (cf A az L ax env ro eo aB _ λaD v ay aE aJ cA=>evalPart_some_step (cP A aD L ay env ro eo aE _ λiL v' cB cF cL lB=>evalPart_none_step
  ((aV.mono (aJ.aO cL).sub).textOf (l:=l) (cF.val▸e1) λt hz=>(cA.mono cL.sub).intOf (i:=a) (cF.val▸e2) λta=>lB.intOf (i:=b) (cF.val▸e3) λtb=>⟨"str",_,rfl,PySem.F.slot_str_getitem.lookup,wpAny_getItem_str_slice (l:=some ((a:Int),ta)) (u:=some ((b:Int),tb)) (st:=none) ⟨_,Hu _ rfl,rfl,rfl⟩ rfl
    (C1 n1 n2 hz λt tk=>k iL _ _ (cF.push (t:=tk) _) ((aH.aO (aJ.aO cL)).aO (eU (t:=tk) _)) (ez▸⟨t,rfl,DJ hz⟩))⟩)))))
def YN {b:List Stmt} {h₀:ExceptHandler} {hs:List ExceptHandler} {pos:Pos} {f:au} (h:aF U w C Y sc d b Z f aa):aU U w C Y sc d (.Try b (h₀::hs) [] [] pos) Z f aa:=λA G L s env ro eo R Q k=>
 wpAny_Try_except (wpAny_mono (h A G L s env ro eo R Q k) (λr ax q=>by
  cases r with
  |next=>exact wpAny_execs_nil q
  |_=>exact q) λ_ _ q=>q.elim)
end
def letGoOf (G:Gh) (a:Addr) (o:Obj):Gh:={pinned G a o with OL:=λb=>G.OL b/\b≠a}
section
variable {U:Program} {w:World} {C:Nat} {Y:Base} {sc:Scope} {d:Nat} {Z:aj} {G:Gh} {L:Addr} {s:Shared}
def Rep.freeze (R:Rep w.params C Y G L Z s) {x:Str} {l:List DV} {a:Addr} {vs:List Value} {n:Nat} {m:Str->Option Value} (hm:s.heap.Ns L m) (hs:ck w.params G s.heap (λa=>G.OL a/\a≠L) Z.loc m) (hx:look Z.loc x=some (.ml l)) (hv:m x=some (.ref a)) (g:s.heap.get? a=some (bG vs n)) (hd:eC w.params G l vs) (hz:vs.length<=lim) (hO:G.OL a) (hL:a≠L):
    Rep w.params C Y (letGoOf G a (bG vs n)) L {Z with loc:=put Z.loc x (.pv (.lst l))} s/\Later G.OA G s (letGoOf G a (bG vs n)) s/\DR w.params (letGoOf G a (bG vs n)) (.lst l) (.ref a):=by
 have p:=ki R.pins g
 have S:Sub G (letGoOf G a (bG vs n)):=⟨rfl,p.g,p.par⟩
 have D:DR w.params (letGoOf G a (bG vs n)) (.lst l) (.ref a):=.lst dw hz (hd.mono S)
 have own:∀b,b≠a->G.g b=none->(letGoOf G a (bG vs n)).g b=none:=λb q e=>(cD q).trans e
 refine⟨⟨R.tocu.gh S rfl (λb o=>oq R.pins g) (λb q=>⟨own b (λe=>R.apart b q (e▸hO)) (R.fM b q).1,(R.fM b q).2⟩) (λb q=>⟨own b q.2 (R.fG b q.1).1,(R.fG b q.1).2⟩) (λb q q'=>R.apart b q q'.1) λ_ q=>q,⟨R.fB,λq=>hL q.symm⟩,m,hm,
  hs.G0 x (.pv (.lst l)) _ hv (λ_ _=>rfl) D (λy ky u q e mu h=>h.keep (a:=a) S (λmy z=>q (hs.once y x ky _ e hx my rfl (mu.trans ((aQ some z).trans hv.symm)))) (λb o _ _ e=>e) λb o n=>⟨⟨o.1,n⟩,o.2⟩) λq=>ft q⟩,
  .gh S (λb o _ n e=>(cD (λz:b=a=>n (.inr (z▸hO)))).symm.trans e) (λ_ _ q=>q) λ_ _ q=>q.1,D⟩
def nj {x:Str} {pos:Pos} {l:List DV} (hl:sc.names.lookup x=some .local) (hx:look Z.loc x=some (.ml l)) (hd:(x==("__debug__":Str))=false):aC U w C Y sc d (.Name x pos) Z (.lst l) {Z with loc:=put Z.loc x (.pv (.lst l))}:=λA G L s env ro eo R Q k=>
 kb eo R hl hx hd λm u hm hu hs q=>gq q λa vs n q=>a5 q λe g hd hz o=>a3 (R.freeze hm hs hx (hu.trans (aQ some e)) g hd hz o.1 o.2) λh1 h2 h3=>k _ u _ h1 h2 (e▸h3)
end
abbrev bU:=Option (List (Str×ae))
inductive Src where
 |arg (i:Nat) |kw (i:Nat) |dv (v:DV) (u:Value)
def Src.val (vs ks:List Value) (r:Src):Value:=Src.casesOn (motive:=λ_=>Value) r (vs.getD · .none) (ks.getD · .none) λ_ u=>u
def Src.get (args:List DV) (kw:List (Str×DV)) (r:Src):Option DV:=Src.casesOn (motive:=λ_=>Option DV) r (args[·]?) (λi=>(kw[i]?).map (·.2)) λv _=>some v
structure k6 where
 f:Nat
 n:Nat
 dh:List Str
 out:List (Str×Src)
structure tq where
 K:Frag
 fns:Nat->Bool
 pure:Nat->Bool
 dim:Nat->Bool
 rows:List k6
 yQ:Nat->Option Nat
 glob:Str->Option DV
 kept:Nat->Bool
 nE:Str->Option Value
 yl:Str->Bool
 vh:Nat->Str->Bool
 bj:Nat->Str->Option Nat
 yg:Nat->Bool
 R6:Nat->Str->Bool
 uI:Nat->Str->Option DV
 CM:Nat->Str->Bool
 G2:Nat->Str->Option DV
 FC:Nat->Str->Option DV
 cmp:CmpOp->DV->DV->Option Bool
 bin:Operator->DV->DV->Option DV
 M0:Operator->DV->DV->Option DV
 sub:DV->DV->Option DV
 sl:DV->DV->DV->Option DV
 T1:Value->List DV->Option Res
 spec:Nat->Nat->Nat->List DV->List (Str×DV)->bU->Option (DV×bU)
structure Cx where
 B:tq
 C:Nat
 sc:Scope
 code:Nat->List DV->List (Str×DV)->bU->Option (DV×bU)
structure HO where
 E:Expr->aj->Option (Res×aj)
 T:Expr->aj->Option (Bool×aj)
 X:Stmt->aj->Option (au×aj)
def QJ (x:DV):Option Str:=(iG x).bind λx=>some ⟨⟨x⟩⟩
def mW (x:DV):Option Nat:=aZ (N1 x) (fnD x) some
def dM {α:Type} (l:List α):Option α:=List.casesOn (motive:=λ_=>Option α) l none λa r=>List.casesOn (motive:=λ_=>Option α) r (some a) λ_ _=>none
def two2 {α:Type} (l:List α):Option (α×α):=List.casesOn (motive:=λ_=>Option (α×α)) l none λa r=>(dM r).bind λb=>some (a,b)
def vg:Expr->Option (Expr×Str×Pos):=iQ Expr.ctorIdx 20 λe h=>@Expr.Attribute.elim (λ_=>Expr×Str×Pos) e h λo x p=>(o,x,p)
def gi (e:Expr):Option Str:=(iQ Expr.ctorIdx 19 (λe h=>@Expr.Constant.elim (λ_=>Const) e h λc _ _=>c) e).bind (iQ Const.ctorIdx 5 λc h=>@Const.str.elim (λ_=>Str) c h id)
def mF:Expr->Option (List Expr):=iQ Expr.ctorIdx 25 λe h=>@Expr.Tuple.elim (λ_=>List Expr) e h λes _ _=>es
def uR:Expr->Option (Expr×Expr):=iQ Expr.ctorIdx 21 λe h=>@Expr.Subscript.elim (λ_=>Expr×Expr) e h λo i _=>(o,i)
def mX (k:NameKind):Bool:=Nat.beq k.ctorIdx 0
def gY {α:Type} (o:Option α) (f:α->Bool):Bool:=Option.rec (motive:=λ_=>Bool) false f o
section
variable (X:Cx) (F:HO)
def fP (x:Str):Bool:=gY (aT X.sc.names x) mX
def lq (x:Str):Bool:=gY (aT X.sc.names x) λk=>Nat.beq k.ctorIdx 4
def g9 (Z:aj) (p:Pl):Option ae:=Pl.rec (motive:=λ_=>Option ae) (aT Z.loc) (λx=>Z.aq.bind λas=>aT as x) p
def wy (Z:aj) (k:ae) (p:Pl):aj:=Pl.rec (motive:=λ_=>aj) (λx=>⟨Z.aq,bS Z.loc x k⟩) (λx=>⟨Z.aq.map λas=>bS as x k,Z.loc⟩) p
def Rx (aq:bU) (v:DV) (x:Str):Option DV:=
 aZ (uq v) (bif o6 v then aq.bind λas=>aZ (aT as x) (aZ (X.B.bj X.C x) (X.B.uI X.C x) λf=>some (.bj f)) λk=>bif X.B.vh X.C x then uF k else none
  else(N1 v).bind λc=>X.B.FC c x) λp=>aZ (aT p.2 x) (X.B.G2 p.1 x) λz=>bif X.B.CM p.1 x then some z else none
def pF (Z:aj) (y x:Str):bU:=bif fP X y then bif X.B.vh X.C x then((aT Z.loc y).bind uF).bind λv=>bif o6 v then Z.aq else none else none else none
def Fs (e:Expr):Option (Str×Str):=(vg e).bind λq=>(dY q.1).bind λy=>some (y,q.2.1)
def evR (Z:aj) (e:Expr):Option DV:=
 aZ (dY e) ((Fs e).bind λq=>(pF X Z q.1 q.2).bind λas=>(aT as q.2).bind uF) λx=>bif fP X x then(aT Z.loc x).bind uF else none
def placeOf (Z:aj) (e:Expr):Option Pl:=
 aZ (dY e) ((Fs e).bind λq=>(pF X Z q.1 q.2).bind λas=>(aT as q.2).bind λk=>bif k.mut then some (.aq q.2) else none)
  λx=>bif fP X x then(aT Z.loc x).bind λk=>bif k.mut then some (.loc x) else none else none
def vr (es:List Expr):aj->Option (List DV×aj):=
 List.rec (motive:=λ_=>aj->Option (List DV×aj)) (λZ=>some ([],Z)) (λe _ ih Z=>bif noStar e then(F.E e Z).bind λp=>(ih p.2).bind λq=>some (p.1.rest::q.1,q.2) else none) es
def evK (ks:List Keyword):aj->Option (List (Str×DV)×aj):=
 List.rec (motive:=λ_=>aj->Option (List (Str×DV)×aj)) (λZ=>some ([],Z)) (λk _ ih Z=>k.arg.bind λx=>(F.E k.value Z).bind λp=>(ih p.2).bind λq=>some ((x,p.1.rest)::q.1,q.2)) ks
def Nq {κ:Type} (f:DV->Option κ) (l:List (DV×DV)):Option (List (κ×DV)):=
 List.rec (motive:=λ_=>Option (List (κ×DV))) (some []) (λp _ ih=>(f p.1).bind λi=>ih.bind λr=>some ((i,p.2)::r)) l
def q6:List (DV×DV)->Option (List (Int×DV)):=Nq intD
def Dp:List (DV×DV)->Option (List (Str×DV)):=Nq QJ
def dictGet (l:List (DV×DV)) (k:DV):Option (Option DV):=
 aZ (intD k) ((QJ k).bind λx=>(Dp l).bind λl'=>bif decide (l'.map (·.1)).Nodup then some (f7 l' x) else none)
  λi=>(q6 l).bind λl'=>bif decide (l'.map (·.1)).Nodup then some (f7 l' i) else none
def dictPut (l:List (DV×DV)) (k v:DV):Option (List (DV×DV)):=
 aZ (intD k) ((QJ k).bind λx=>(Dp l).bind λl'=>bif decide (l'.map (·.1)).Nodup then bif Nat.ble l'.length 1000 then some (dl M1 (j1 l' x v)) else none else none)
  λi=>(q6 l).bind λl'=>bif decide (l'.map (·.1)).Nodup then bif Nat.ble l'.length 1000 then some (dl .int (j1 l' i v)) else none else none
def dictDel (l:List (DV×DV)) (k:DV):Option (List (DV×DV)):=
 (intD k).bind λi=>(q6 l).bind λl'=>bif decide (l'.map (·.1)).Nodup then bif Nat.ble l'.length 1000 then bif (f7 l' i).isSome then some (dl .int (FH l' i)) else none else none else none
def R3:Str:="join"
def acj:Str:="pop"
def Ei:Str:="append"
def Ej:Str:="extend"
def PH:Str:="insert"
def xG (o:Expr) (x:Str) (args:List Expr) (dh:List Keyword) (Z:aj):Option (Res×aj):=
 (F.E o Z).bind λs0=>bif o6 s0.1.rest then s0.2.aq.bind λas=>aZ (aT as x)
   ((X.B.bj X.C x).bind λf=>(vr F args s0.2).bind λa=>(evK F dh a.2).bind λk=>(X.code f (.self::a.1) k.1 k.2.aq).bind λr=>some (.pv r.1,⟨r.2,k.2.loc⟩))
   λk=>(uF k).bind λv=>(J6 v).bind λf=>bif dh.isEmpty then bif X.B.R6 X.C x then bif X.B.yg f then(vr F args s0.2).bind λa=>(X.code f (.self::a.1) [] a.2.aq).bind λr=>some (.pv r.1,⟨r.2,a.2.loc⟩) else none else none else none else none
def Z3 (p:Pl):Option Str:=Pl.rec (motive:=λ_=>Option Str) (λ_=>none) some p
def acT (vs:List DV) (n:Nat):Option Nat:=bif vs.isEmpty then some (n - 1) else(dM vs).bind λv=>(intD v).bind λi=>bif decide (0<=i) then some i.toNat else none
def DF (p:Pl) (x:Str) (args:List Expr) (dh:List Keyword) (Z:aj):Option (Res×aj):=
 (Z3 p).bind λy=>bif cU x acj then bif fu.contains y then bif dh.isEmpty then((g9 Z (.aq y)).bind vV).bind λ_=>(vr F args Z).bind λa=>((g9 a.2 (.aq y)).bind vV).bind λl=>
   (acT a.1 l.length).bind λi=>(l[i]?).bind λz=>some (.pv z,wy a.2 (.ml (l.eraseIdx i)) (.aq y)) else none else none else none
def xE (sep x:Str) (args:List Expr) (dh:List Keyword) (Z:aj):Option (Res×aj):=
 bif cU x R3 then bif dh.isEmpty then(dM args).bind λe=>bif noStar e then(placeOf X Z e).bind λp=>((g9 Z p).bind vV).bind λl=>(strsOf l).bind λss=>
  bif Nat.ble (c9 ss+ss.length*sep.cps.toList.length) 4194304 then some (.pv (.str (gV sep.cps.toList ss)),Z) else none else none else none else none
def Ie (x:Str) (args:List Expr) (Z:aj):Option (Res×aj):=(X.B.nE x).bind λf=>(vr F args Z).bind λv=>(X.B.T1 f v.1).bind λr=>some (r,v.2)
def xI (x:Str) (p:Pos) (args:List Expr) (dh:List Keyword) (Z:aj):Option (Res×aj):=
 bif fP X x||(X.B.glob x).isSome then
  (F.E (.Name x p) Z).bind λf=>(mW f.1.rest).bind λa=>bif X.B.kept a then(vr F args f.2).bind λv=>(evK F dh v.2).bind λk=>(X.code a v.1 k.1 k.2.aq).bind λr=>some (.pv r.1,⟨r.2,k.2.loc⟩) else none
 else bif lq X x then bif dh.isEmpty then
  bif X.B.yl x then(dM args).bind λe=>bif noStar e then aZ (placeOf X Z e) (Ie X F x args Z) λp=>((g9 Z p).bind vV).bind λl=>some (.pv (.int l.length),Z) else none
  else Ie X F x args Z else none else none
def ze (f:Expr) (args:List Expr) (dh:List Keyword) (pos:Pos) (Z:aj):Option (Res×aj):=
 aZ (vg f) ((dY f).bind λx=>xI X F x f.pos args dh Z) λq=>bif cS q.1 then bif dW args dh q.2.2 pos then aZ (gi q.1) (aZ (placeOf X Z q.1) (xG X F q.1 q.2.1 args dh Z) λp=>DF F p q.2.1 args dh Z)
  λsep=>xE X sep q.2.1 args dh Z else none else none
def H9 (op:BoolOp) (es:List Expr):aj->Option (DV×aj):=
 List.rec (motive:=λ_=>aj->Option (DV×aj)) (λ_=>none) (λe r ih Z=>(F.E e Z).bind λp=>List.casesOn (motive:=λ_=>Option (DV×aj)) r (some (p.1.rest,p.2)) λ_ _=>(mE p.1.rest).bind λc=>BoolOp.casesOn (motive:=λ_=>Option (DV×aj)) op (bif c then ih p.2 else some (p.1.rest,p.2)) (bif c then some (p.1.rest,p.2) else ih p.2)) es
def EU (o i:Expr) (Z:aj):Option (Res×aj):=
 bif eG i then aZ (placeOf X Z o) ((F.E o Z).bind λp=>(F.E i p.2).bind λq=>(X.B.sub p.1.rest q.1.rest).bind λz=>some (.pv z,q.2))
  λp=>aZ ((g9 Z p).bind RY) (bif p.fix then(F.E i Z).bind λq=>(intD q.1.rest).bind λk=>((g9 q.2 p).bind vV).bind λl=>(idx k l.length).bind λn=>(l[n]?).bind λz=>some (.pv z,q.2) else none)
   λl=>(evR X Z i).bind λk=>(dictGet l k).bind λz=>z.bind λz=>some (.pv z,Z) else none
def uP (o a b:Expr) (Z:aj):Option (Res×aj):=
 (F.E o Z).bind λp=>(F.E a p.2).bind λq=>(F.E b q.2).bind λr=>(X.B.sl p.1.rest q.1.rest r.1.rest).bind λz=>some (.pv z,r.2)
def Mg:Expr->Option (Option Expr×Option Expr×Option Expr):=iQ Expr.ctorIdx 26 λe h=>@Expr.Slice.elim (λ_=>Option Expr×Option Expr×Option Expr) e h λa b c _=>(a,b,c)
def sliceOf (e:Expr):Option (Expr×Expr):=(Mg e).bind λq=>q.1.bind λa=>q.2.1.bind λb=>bif q.2.2.isNone then some (a,b) else none
def mh (c:Const) (Z:aj):Option (Res×aj):=
 @Const.casesOn (λ_=>Option (Res×aj)) c (some (.pv .none,Z)) (λb=>some (.pv (.bool b),Z)) (λi=>some (.pv (.int i),Z)) (λ_=>none) (λ_ _=>none) (λx=>bif Nat.ble x.cps.toList.length 4194304 then some (.pv (.str x.cps.toList),Z) else none) (λ_=>none) none
def zi (x:Str) (Z:aj):Option (Res×aj):=
 bif fP X x then aZ ((aT Z.loc x).bind uF) (((aT Z.loc x).bind vV).bind λl=>some (.pv (.lst l),⟨Z.aq,bS Z.loc x (.pv (.lst l))⟩)) λv=>some (.pv v,Z) else bif lq X x then(X.B.glob x).bind λv=>some (.pv v,Z) else none
def Mz (a:Expr) (oj om:CmpOp) (b c:Expr) (Z:aj):Option (Bool×aj):=
 bif lastMarks [oj,om] [b,c] then none else(F.E a Z).bind λp=>(F.E b p.2).bind λq=>(X.B.cmp oj p.1.rest q.1.rest).bind λz=>
  bif z then(F.E c q.2).bind λr=>(X.B.cmp om q.1.rest r.1.rest).bind λy=>some (y,r.2) else some (false,q.2)
def Sq (e:Expr) (Z:aj):Option (Res×aj):=
 @Expr.casesOn (λ_=>Option (Res×aj)) e (λop es _=>(H9 F op es Z).bind λp=>some (.pv p.1,p.2)) (λ_ _ _=>none)
  (λa op b _=>(F.E a Z).bind λp=>(F.E b p.2).bind λq=>(X.B.bin op p.1.rest q.1.rest).bind λz=>some (.pv z,q.2))
  (λop a _=>bif Nat.beq op.ctorIdx 1 then(F.E a Z).bind λp=>(mE p.1.rest).bind λb=>some (.pv (.bool (!b)),p.2) else bif Nat.beq op.ctorIdx 3 then(F.E a Z).bind λp=>(intD p.1.rest).bind λi=>some (.pv (.int (-i)),p.2) else none)
  (λ_ _ _ _=>none) (λt a b _=>(F.T t Z).bind λp=>bif p.1 then F.E a p.2 else F.E b p.2) (λks vs _=>bif ks.isEmpty then bif vs.isEmpty then some (.fd [],Z) else none else none)
  (λ_ _ _=>none) (λ_ _ _ _=>none) (λ_ _ _ _=>none) (λ_ _ _ _ _=>none) (λ_ _ _ _=>none) (λ_ _=>none) (λ_ _=>none) (λ_ _=>none)
  (λa ops bs _=>aZ (dM ops) ((two2 ops).bind λo=>(two2 bs).bind λb=>(Mz X F a o.1 o.2 b.1 b.2 Z).bind λp=>some (.pv (.bool p.1),p.2)) λop=>(dM bs).bind λb=>bif behindInMarks op b then none else(F.E a Z).bind λp=>(F.E b p.2).bind λq=>(X.B.cmp op p.1.rest q.1.rest).bind λz=>some (.pv (.bool z),q.2))
  (λf args dh pos=>ze X F f args dh pos Z) (λ_ _ _ _=>none) (λ_ _=>none) (λc _ _=>mh c Z) (λo x _=>bif ma o then(F.E o Z).bind λp=>(Rx X p.2.aq p.1.rest x).bind λz=>some (.pv z,p.2) else none)
  (λo i _=>aZ (sliceOf i) (EU X F o i Z) λq=>uP X F o q.1 q.2 Z) (λ_ _=>none) (λx _=>zi X x Z) (λes _=>(vr F es Z).bind λp=>bif Nat.ble p.1.length 1000 then some (.fl p.1,p.2) else none)
  (λes _ _=>(vr F es Z).bind λp=>bif Nat.ble p.1.length 1000 then some (.pv (.tup p.1),p.2) else none) λ_ _ _ _=>none
def Nm (es:List Expr):aj->Option (Bool×aj):=List.rec (motive:=λ_=>aj->Option (Bool×aj)) (λZ=>some (true,Z)) (λe _ ih Z=>(F.T e Z).bind λp=>bif p.1 then ih p.2 else some (false,p.2)) es
def orT (es:List Expr):aj->Option (Bool×aj):=List.rec (motive:=λ_=>aj->Option (Bool×aj)) (λZ=>some (false,Z)) (λe _ ih Z=>(F.T e Z).bind λp=>bif p.1 then some (true,p.2) else ih p.2) es
def Dc (e:Expr):Bool:=Nat.ble 19 e.ctorIdx&&(Nat.ble e.ctorIdx 21||Nat.beq e.ctorIdx 23)||Nat.beq e.ctorIdx 16
def SD (e:Expr) (Z:aj):Option (Bool×aj):=
 bif Dc e then aZ (placeOf X Z e) ((F.E e Z).bind λp=>(mE p.1.rest).bind λb=>some (b,p.2)) λp=>(g9 Z p).bind λk=>(ME k).bind λb=>some (b,Z) else none
def abf (op:CmpOp):Option (Bool->Bool):=bif Nat.beq op.ctorIdx 8 then some id else bif Nat.beq op.ctorIdx 9 then some not else none
def SA (a:Expr) (op:CmpOp) (b:Expr) (Z:aj):Option (Bool×aj):=
 bif behindInMarks op b then none else(F.E a Z).bind λp=>aZ (placeOf X p.2 b) ((F.E b p.2).bind λq=>(X.B.cmp op p.1.rest q.1.rest).bind λz=>some (z,q.2))
  λpl=>(abf op).bind λc=>((g9 p.2 pl).bind RY).bind λl=>(dictGet l p.1.rest).bind λz=>some (c z.isSome,p.2)
def XJ:Expr->Option (UnaryOp×Expr):=iQ Expr.ctorIdx 3 λe h=>@Expr.UnaryOp.elim (λ_=>UnaryOp×Expr) e h λop a _=>(op,a)
def k9:Expr->Option (BoolOp×List Expr):=iQ Expr.ctorIdx 0 λe h=>@Expr.BoolOp.elim (λ_=>BoolOp×List Expr) e h λop a _=>(op,a)
def N5:Expr->Option (Expr×List CmpOp×List Expr):=iQ Expr.ctorIdx 15 λe h=>@Expr.Compare.elim (λ_=>Expr×List CmpOp×List Expr) e h λa ops bs _=>(a,ops,bs)
def stepT (e:Expr) (Z:aj):Option (Bool×aj):=
 aZ (XJ e) (aZ (k9 e) (aZ (N5 e) (SD X F e Z) λq=>aZ (dM q.2.1) ((two2 q.2.1).bind λo=>(two2 q.2.2).bind λb=>Mz X F q.1 o.1 o.2 b.1 b.2 Z) λop=>(dM q.2.2).bind λb=>SA X F q.1 op b Z)
  λq=>BoolOp.casesOn (motive:=λ_=>Option (Bool×aj)) q.1 (Nm F q.2 Z) (orT F q.2 Z)) λq=>bif Nat.beq q.1.ctorIdx 1 then(F.T q.2 Z).bind λp=>some (!p.1,p.2) else none
def cj (l:List Stmt):aj->Option (au×aj):=
 List.rec (motive:=λ_=>aj->Option (au×aj)) (λZ=>some (.next,Z)) (λst _ ih Z=>(F.X st Z).bind λp=>bif p.1.p8 then some p else ih p.2) l
def goF (ih:aj->Option (au×aj)) (q:au×aj):Option (au×aj):=au.casesOn (motive:=λ_=>Option (au×aj)) q.1 (ih q.2) (some (.next,q.2)) (ih q.2) λv=>some (.ret v,q.2)
def J0 (t:Expr) (b:List Stmt) (n:Nat):aj->Option (au×aj):=
 Nat.rec (motive:=λ_=>aj->Option (au×aj)) (λ_=>none) (λ_ ih Z=>(F.T t Z).bind λp=>bif p.1 then(cj F b p.2).bind (goF ih) else some (.next,p.2)) n
def yo (x:Str) (b:List Stmt) (vs:List DV):aj->Option (au×aj):=
 List.rec (motive:=λ_=>aj->Option (au×aj)) (λZ=>some (.next,Z)) (λv _ ih Z=>(cj F b ⟨Z.aq,bS Z.loc x (.pv v)⟩).bind (goF ih)) vs
def ET (p:Pl) (x:Str) (args:List Expr) (Z:aj):Option (au×aj):=
 bif p.fix then((g9 Z p).bind vV).bind λ_=>
  aZ (dM args) (bif cU x PH then(two2 args).bind λe=>(vr F [e.1,e.2] Z).bind λa=>(two2 a.1).bind λv=>(intD v.1).bind λi=>((g9 a.2 p).bind vV).bind λl=>
   bif decide (0<=i) then bif Nat.ble i.toNat l.length then bif Nat.ble l.length 1000 then some (.next,wy a.2 (.ml (l.take i.toNat++v.2::l.drop i.toNat)) p) else none else none else none else none)
   λe=>(F.E e Z).bind λq=>bif cU x Ei then((g9 q.2 p).bind vV).bind λl=>bif Nat.ble l.length 1000 then some (.next,wy q.2 (.ml (l++[q.1.rest])) p) else none
    else bif cU x Ej then(yp q.1.rest).bind λl'=>((g9 q.2 p).bind vV).bind λl=>bif Nat.ble (l.length+l'.length) 1000 then some (.next,wy q.2 (.ml (l++l')) p) else none else none else none
def qO (v:Expr) (Z:aj):Option (au×aj):=bif cZ v then(F.E v Z).bind λp=>some (.next,p.2) else none
def wi (e:Expr):Bool:=Nat.beq e.ctorIdx 16||(Nat.beq e.ctorIdx 20||(Nat.beq e.ctorIdx 23||Nat.beq e.ctorIdx 24))
def si (e:Expr):Bool:=!Nat.beq e.ctorIdx 25
def p7 (t v:Expr) (Z:aj):Option (au×aj):=
 bif cZ v then(F.E v Z).bind λp=>aZ (dY t) (aZ (Fs t) (aZ (uR t)
     ((mF t).bind λes=>bif si v then(zv p.1.rest).bind λvs=>(names X.sc es).bind λxs=>bif Nat.beq xs.length vs.length then some (.next,⟨p.2.aq,putAll p.2.loc xs vs⟩) else none else none)
     λq=>(placeOf X p.2 q.1).bind λpl=>((g9 p.2 pl).bind RY).bind λl=>(evR X p.2 q.2).bind λk=>(dictPut l k p.1.rest).bind λl'=>some (.next,wy p.2 (.md l') pl))
     λq=>(pF X p.2 q.1 q.2).bind λas=>bif Nat.ble as.length 900 then bif !fu.contains q.2||(aT as q.2).isNone then some (.next,⟨some (bS as q.2 p.1.slot),p.2.loc⟩) else none else none)
  λx=>bif fP X x then some (.next,⟨p.2.aq,bS p.2.loc x p.1.slot⟩) else none else none
def nC (v:Expr):Option (Expr×Str×Pos×List Expr×Pos):=(gS v).bind λc=>(vg c.1).bind λa=>bif c.2.2.1.isEmpty then some (a.1,a.2.1,a.2.2,c.2.1,c.2.2.2) else none
def zg (v:Expr) (Z:aj):Option (au×aj):=
 aZ (nC v) (qO F v Z) λq=>aZ (placeOf X Z q.1) (qO F v Z) λp=>bif cU q.2.1 acj then qO F v Z else bif cS q.1 then bif dW q.2.2.2.1 [] q.2.2.1 q.2.2.2.2 then ET F p q.2.1 q.2.2.2.1 Z else none else none
def three (l:List Expr):Option (Expr×Expr×Expr):=List.casesOn (motive:=λ_=>Option (Expr×Expr×Expr)) l none λa r=>(two2 r).bind λb=>some (a,b)
def Gf (e:Expr):Option Str:=(dY e).bind λx=>bif fP X x then some x else none
def sQ (ts:List Expr) (v:Expr) (Z:aj):Option (au×aj):=
 aZ (dM ts) (aZ (two2 ts) ((three ts).bind λq=>(Gf X q.1).bind λx=>(Gf X q.2.1).bind λy=>(Gf X q.2.2).bind λz=>(F.E v Z).bind λp=>some (.next,⟨p.2.aq,bS (bS (bS p.2.loc x (.pv p.1.rest)) y (.pv p.1.rest)) z (.pv p.1.rest)⟩))
  λq=>(Gf X q.1).bind λx=>(Gf X q.2).bind λy=>(F.E v Z).bind λp=>some (.next,⟨p.2.aq,bS (bS p.2.loc x (.pv p.1.rest)) y (.pv p.1.rest)⟩)) λt=>p7 X F t v Z
def zc (x:Str) (op:Operator) (e:Expr) (Z:aj):Option (au×aj):=
 bif fP X x then((aT Z.loc x).bind uF).bind λv=>(F.E e Z).bind λp=>(X.B.M0 op v p.1.rest).bind λz=>some (.next,⟨p.2.aq,bS p.2.loc x (.pv z)⟩) else none
def y9 (y x:Str) (op:Operator) (e:Expr) (Z:aj):Option (au×aj):=
 (pF X Z y x).bind λas=>((aT as x).bind uF).bind λv=>(F.E e Z).bind λp=>(X.B.M0 op v p.1.rest).bind λz=>p.2.aq.bind λvd=>bif Nat.ble vd.length 900 then bif fu.contains x then none else some (.next,⟨some (bS vd x (.pv z)),p.2.loc⟩) else none
def flR (r:Res):Option (List DV):=Res.rec (motive:=λ_=>Option (List DV)) yp some (λ_=>none) r
def ES (x:Str) (it:Expr) (b:List Stmt) (Z:aj):Option (au×aj):=
 bif fP X x then bif wi it then(F.E it Z).bind λp=>aZ (flR p.1) ((ID p.1.rest).bind λl=>aZ (q6 l)
     ((Dp l).bind λl'=>bif decide (l'.map (·.1)).Nodup then yo F x b (l'.map λq=>M1 q.1) p.2 else none)
     λl'=>bif decide (l'.map (·.1)).Nodup then yo F x b (l'.map λq=>.int q.1) p.2 else none) λvs=>yo F x b vs p.2 else none else none
def ER (o i:Expr) (Z:aj):Option (au×aj):=
 (placeOf X Z o).bind λpl=>((g9 Z pl).bind RY).bind λl=>(evR X Z i).bind λk=>(dictDel l k).bind λl'=>some (.next,wy Z (.md l') pl)
def Sr (st:Stmt) (Z:aj):Option (au×aj):=
 @Stmt.casesOn (λ_=>Option (au×aj)) st (λ_ _ _ _ _ _ _ _ _ _=>none) (λ_ _ _ _ _ _ _ _ _ _=>none) (λ_ _ _ _ _ _ _ _ _ _ _=>none) (λo _=>aZ o (some (.ret .none,Z)) λe=>(F.E e Z).bind λp=>some (.ret p.1.rest,p.2))
  (λts _=>(dM ts).bind λt=>(uR t).bind λq=>ER X q.1 q.2 Z) (λts v _=>sQ X F ts v Z) (λ_ _ _ _ _ _ _=>none) (λt op e _=>aZ (dY t) ((Fs t).bind λq=>y9 X F q.1 q.2 op e Z) λx=>zc X F x op e Z) (λ_ _ _ _ _=>none)
  (λt it b o _=>bif o.isEmpty then(dY t).bind λx=>ES X F x it b Z else none) (λ_ _ _ _ _=>none) (λt b o _=>bif o.isEmpty then J0 F t b 400 Z else none) (λt b o _=>(F.T t Z).bind λp=>bif p.1 then cj F b p.2 else cj F o p.2)
  (λ_ _ _=>none) (λ_ _ _=>none) (λ_ _ _=>none) (λ_ _ _=>none) (λb hs os fs _=>bif !hs.isEmpty then bif os.isEmpty then bif fs.isEmpty then cj F b Z else none else none else none) (λ_ _ _ _ _=>none) (λt _ _=>(F.T t Z).bind λp=>bif p.1 then some (.next,p.2) else none)
  (λ_ _=>none) (λ_ _ _ _=>none) (λ_ _=>none) (λ_ _=>none) (λv _=>zg X F v Z) (λ_=>some (.next,Z)) (λ_=>some (.brk,Z)) λ_=>some (.cont,Z)
def Oq (n:Nat):HO:=Nat.rec ⟨λ_ _=>none,λ_ _=>none,λ_ _=>none⟩ (λ_ F=>⟨Sq X F,stepT X F,Sr X F⟩) n
end
def RD {α:Type} {c:Bool} {a:Option α} {b:α} (h:(bif c then a else none)=some b):c=true/\a=some b:=by cases c;exact ns h;exact⟨rfl,h⟩
def pR {α β:Type} {o:Option α} {f:α->Option β} {b:β} (h:o.bind f=some b):∃a,o=some a/\f a=some b:=Option.bind_eq_some_iff.mp h
structure Zi where
 body:List Stmt
 sc:Scope
def RI:Data->Option FuncData:=iQ Data.ctorIdx 7 λv h=>@Data.func.elim (λ_=>FuncData) v h id
def Jb:∀v:Data,On (λp=>.func p=v) (RI v):=cH .func λv h=>@Data.func.elim (λv=>∀h,Data.func (@Data.func.elim (λ_=>FuncData) v h id)=v) v h (λ_ _=>rfl) h
def fdOf (K:Frag) (f:Nat):Option FuncData:=(K.lookup f).bind λo=>RI o.data
def bodyOf:FuncBody->Option (List Stmt):=iQ FuncBody.ctorIdx 0 λv h=>@FuncBody.stmts.elim (λ_=>List Stmt) v h id
def Fx (b:FuncBody):On (λl=>b=.stmts l) (bodyOf b):=(cH FuncBody.stmts (λv h=>@FuncBody.stmts.elim (λv=>∀h,FuncBody.stmts (@FuncBody.stmts.elim (λ_=>List Stmt) v h id)=v) v h (λ_ _=>rfl) h) b).up λ_ h=>h.symm
def qi (K:Frag) (f:Nat):Option Zi:=(fdOf K f).bind λfd=>(bodyOf fd.body).bind λb=>some ⟨b,fd.scope⟩
def K3:Str:="__debug__"
def IX (K:Frag) (fd:FuncData):Bool:=codeIn K fd.code fd.qualname&&(Nat.beq fd.globals mainGlobals&&(Nat.beq fd.builtins builtinsNs&&(fd.scope.names.all (λx=>!Nat.beq x.2.ctorIdx 1&&!cU x.1 K3)&&(!fd.scope.isCoroutine&&(!fd.scope.isGenerator&&Nat.beq fd.scope.kind.ctorIdx 1)))))
def Ak (K:Frag) (f:Nat):Bool:=gY (fdOf K f) (IX K)
def Sn (r:k6) (fd:FuncData):Bool:=r.out.all (λx=>gY (aT fd.scope.names x.1) mX)&&decide (r.out.map (·.1)).Nodup
def wo (K:Frag) (r:k6):Bool:=gY (fdOf K r.f) (Sn r)
structure ZO (K:Frag) (fd:FuncData):Prop where
 cd:codeIn K fd.code fd.qualname=true
 gl:fd.globals=mainGlobals
 bt:fd.builtins=builtinsNs
 nm:∀x∈fd.scope.names,x.2≠.cell/\(x.1==("__debug__":Str))=false
 co:fd.scope.isCoroutine=false
 ge:fd.scope.isGenerator=false
 kd:fd.scope.kind=.function
def iA {b:Bool} (h:(!b)=true):b=false:=by cases b;rfl;exact ft h
def Dl {α:Type} {o:Option α} {f:α->Bool} {a:α} (h:gY o f=true) (e:o=some a):f a=true:=by subst e;exact h
def dN {α:Type} {o:Option α} {f:α->Bool} (h:gY o f=true):∃a,o=some a/\f a=true:=by cases o;exact ft h;exact⟨_,rfl,h⟩
def o5 {k:NameKind} (h:mX k=true):.local=k:=by cases k<;>first|rfl|exact ft h
def O6 {k:NameKind} (h:Nat.beq k.ctorIdx 4=true):.globalImplicit=k:=by cases k<;>first|rfl|exact ft h
def pW {k:ScopeKind} (h:Nat.beq k.ctorIdx 1=true):k=.function:=by cases k<;>first|rfl|exact ft h
def FP {K:Frag} {fd:FuncData} (h:IX K fd=true):ZO K fd:=
 a2 (aw h) λg1 h=>a2 (aw h) λg2 h=>a2 (aw h) λg3 h=>a2 (aw h) λg4 h=>a2 (aw h) λg5 h=>a2 (aw h) λg6 g7=>
 ⟨g1,iT g2,iT g3,λx hx=>a2 (aw (gj.mp g4 x hx)) λa b=>⟨λe=>ft ((aQ (λk:NameKind=>!Nat.beq k.ctorIdx 1) e).symm.trans a),HG.mpr (ja (iA b))⟩,iA g5,iA g6,pW g7⟩
def ug {K:Frag} {f:Nat} {fd:FuncData} (h:Ak K f=true) (e:fdOf K f=some fd):ZO K fd:=FP (Dl h e)
def CP {K:Frag} {r:k6} {fd:FuncData} (h:wo K r=true) (e:fdOf K r.f=some fd):(∀x∈r.out,fd.scope.names.lookup x.1=some .local)/\(r.out.map (·.1)).Nodup:=
 a2 (aw (Dl (f:=Sn r) h e)) λa b=>⟨λx hx=>bx (dN (gj.mp a x hx)) λk e h=>(hA ..).symm.trans (e.trans (aQ some (o5 h).symm)),mQ b⟩
def DQ (K:Frag) (f:Nat):On (λfd=>∃o,K.lookup f=some o/\o.data=.func fd) (fdOf K f):=(aY (K.lookup f)).b λo e=>(Jb o.data).up λfd h=>⟨o,e,h.symm⟩
def yR (K:Frag) (r:k6):Prop:=∀(S:Setting) (fd:FuncData) (vs ks:List Value),fdOf K r.f=some fd->vs.length=r.n->ks.length=r.dh.length->peek K S (bindArgs fd ⟨vs,r.dh.zip ks⟩)=some (r.out.map λp=>(p.1,p.2.val vs ks))
def Qk (P:Params) (Y:Heap) (r:k6):Prop:=∀x v u,(x,Src.dv v u)∈r.out->∀G:Gh,(∀b o,Y.get? b=some o->G.g b=some o)->DR P G v u
structure TabsOk (U:Program) (w:World) (Y:Base) (B:tq):Prop where
 T:cQ B.K Y
 fns:∀f,B.fns f=true->Ak B.K f=true
 rows:∀r∈B.rows,wo B.K r=true/\yR B.K r/\Qk w.params Y.hp r
 yQ:∀c fI,B.yQ c=some fI->lY B.K c fI=true
 glob:∀x v,B.glob x=some v->∃u,nsIn B.K mainGlobals x=some (some u)/\∀G:Gh,(∀b o,Y.hp.get? b=some o->G.g b=some o)->DR w.params G v u
 kept:∀a,B.kept a=true->keepIn B.K (.ref a)=true
 nE:∀x f,B.nE x=some f->nsIn B.K mainGlobals x=some none/\bootBuiltins x=some f/\(x==("__name__":Str))=false/\noRef f=true
 yl:∀x,B.yl x=true->B.nE x=some (.builtin "len")
 vh:∀C x,B.vh C x=true->bN B.K C=true/\d9 B.K C x=true/\hH B.K C x=true
 bj:∀C x f,B.bj C x=some f->CT B.K C x f=true/\oy B.K C x f=true
 yg:∀f,B.yg f=true->fnIn B.K f=true
 R6:∀C x,B.R6 C x=true->v7 B.K C x=true
 uI:∀C x v,B.uI C x=some v->∃u,bN B.K C=true/\jl B.K C x u=true/\∀G:Gh,(∀b o,Y.hp.get? b=some o->G.g b=some o)->DR w.params G v u
 CM:∀c x,B.CM c x=true->bN B.K c=true/\d9 B.K c x=true
 G2:∀c x v,B.G2 c x=some v->∃u,bN B.K c=true/\jl B.K c x u=true/\∀G:Gh,(∀b o,Y.hp.get? b=some o->G.g b=some o)->DR w.params G v u
 FC:∀c x v,B.FC c x=some v->∃u,vk B.K c x u=true/\∀G:Gh,(∀b o,Y.hp.get? b=some o->G.g b=some o)->DR w.params G v u
 cmp:∀op x y b,B.cmp op x y=some b->fi U w Y.V op x y b
 bin:∀op x y z,B.bin op x y=some z->qf U w op x y z
 M0:∀op x y z,B.M0 op x y=some z->Nh U w op x y z
 sub:∀x i z,B.sub x i=some z->qg U w Y.V x i z
 sl:∀x a b z,B.sl x a b=some z->Di U w Y.V x a b z
 T1:∀C f args r,B.T1 f args=some r->jQ U w C Y f args r
 spec:∀n C f args kw aq r aX,B.spec n C f args kw aq=some (r,aX)->af U w C Y (n+1) (.ref f) args kw aq r aX
structure mR (U:Program) (w:World) (Y:Base) (d:Nat) (X:Cx):Prop where
 t:TabsOk U w Y X.B
 DK:∀x k,X.sc.names.lookup x=some k->(x==("__debug__":Str))=false
 code:∀f args kw aq r aX,X.code f args kw aq=some (r,aX)->af U w X.C Y d (.ref f) args kw aq r aX
structure qV (U:Program) (w:World) (C:Nat) (Y:Base) (sc:Scope) (d:Nat) (F:HO):Prop where
 E:∀e Z r ba,F.E e Z=some (r,ba)->cO U w C Y sc d e Z r ba
 T:∀e Z b ba,F.T e Z=some (b,ba)->bu U w C Y sc d e Z b ba
 X:∀st Z f ba,F.X st Z=some (f,ba)->aU U w C Y sc d st Z f ba
def sq {o o':Option ae} (e:o=o'):On (λv=>o'=some (.pv v)) (o.bind uF):=e▸(aY o).b λk h=>(iC k).up λ_ e=>h.trans (aQ some e.symm)
def i7 {o o':Option ae} (e:o=o'):On (λv=>o'=some (.ml v)) (o.bind vV):=e▸(aY o).b λk h=>(AA k).up λ_ e=>h.trans (aQ some e.symm)
def Ee {o o':Option ae} (e:o=o'):On (λv=>o'=some (.md v)) (o.bind RY):=e▸(aY o).b λk h=>(J4 k).up λ_ e=>h.trans (aQ some e.symm)
def wF (v:DV):On (λp=>M1 p=v) (QJ v):=(cT v).b λ_ h=>h
def uo (v:DV):On (λa=>∀(P:Params) (G:Gh) (u:Value),DR P G v u->u=.ref a) (mW v):=(qB v).or (λ_ h=>h▸ru) λ_=>(I3 v).up λ_ h=>h▸DW
def bp {α:Type} (l:List α):On (λa=>[a]=l) (dM l):=by
 cases l with
 |nil=>exact trivial
 |cons a r=>cases r<;>first|exact trivial|exact rfl
def two_on {α:Type} (l:List α):On (λa=>[a.1,a.2]=l) (two2 l):=by
 cases l with
 |nil=>exact trivial
 |cons a r=>exact(bp r).b λb h=>aQ (a::·) h
def MD (l:List Expr):On (λa=>[a.1,a.2.1,a.2.2]=l) (three l):=by
 cases l with
 |nil=>exact trivial
 |cons a r=>exact(two_on r).b λb h=>aQ (a::·) h
def qw:∀e:Expr,On (λq=>.Attribute q.1 q.2.1 q.2.2=e) (vg e):=cH (λq:Expr×Str×Pos=>Expr.Attribute q.1 q.2.1 q.2.2) λe h=>@Expr.Attribute.elim (λe=>∀h,(λq:Expr×Str×Pos=>Expr.Attribute q.1 q.2.1 q.2.2) (@Expr.Attribute.elim (λ_=>Expr×Str×Pos) e h λo x p=>(o,x,p))=e) e h (λ_ _ _ _=>rfl) h
def wG (e:Expr):On (λx=>∃k p,.Constant (.str x) k p=e) (gi e):=
 (eK (P:=λe c=>∃k p,Expr.Constant c k p=e) (λe h=>@Expr.Constant.elim (λe=>∀h,∃k p,Expr.Constant (@Expr.Constant.elim (λ_=>Const) e h λc _ _=>c) k p=e) e h (λ_ k p _=>⟨k,p,rfl⟩) h) e).b λc h=>
   (cH Const.str (λv h=>@Const.str.elim (λv=>∀h,Const.str (@Const.str.elim (λ_=>Str) v h id)=v) v h (λ_ _=>rfl) h) c).up λx e=>cV h λk p h=>⟨k,p,e▸h⟩
def qQ (e:Expr):On (λq=>∃k p,.Tuple q k p=e) (mF e):=eK (P:=λe c=>∃k p,Expr.Tuple c k p=e) (λe h=>@Expr.Tuple.elim (λe=>∀h,∃k p,Expr.Tuple (@Expr.Tuple.elim (λ_=>List Expr) e h λc _ _=>c) k p=e) e h (λ_ k p _=>⟨k,p,rfl⟩) h) e
def lH:∀e:Expr,On (λq=>.Subscript q.1 q.2 e.pos=e) (uR e):=eK (P:=λe (q:Expr×Expr)=>.Subscript q.1 q.2 e.pos=e) λe h=>@Expr.Subscript.elim (λe=>∀h,(λq:Expr×Expr=>Expr.Subscript q.1 q.2 e.pos) (@Expr.Subscript.elim (λ_=>Expr×Expr) e h λo i _=>(o,i))=e) e h (λ_ _ _ _=>rfl) h
def Ek:∀e:Expr,On (λq=>.UnaryOp q.1 q.2 e.pos=e) (XJ e):=eK (P:=λe (q:UnaryOp×Expr)=>.UnaryOp q.1 q.2 e.pos=e) λe h=>@Expr.UnaryOp.elim (λe=>∀h,(λq:UnaryOp×Expr=>Expr.UnaryOp q.1 q.2 e.pos) (@Expr.UnaryOp.elim (λ_=>UnaryOp×Expr) e h λop a _=>(op,a))=e) e h (λ_ _ _ _=>rfl) h
def rm:∀e:Expr,On (λq=>.BoolOp q.1 q.2 e.pos=e) (k9 e):=eK (P:=λe (q:BoolOp×List Expr)=>.BoolOp q.1 q.2 e.pos=e) λe h=>@Expr.BoolOp.elim (λe=>∀h,(λq:BoolOp×List Expr=>Expr.BoolOp q.1 q.2 e.pos) (@Expr.BoolOp.elim (λ_=>BoolOp×List Expr) e h λop a _=>(op,a))=e) e h (λ_ _ _ _=>rfl) h
def vl:∀e:Expr,On (λq=>.Compare q.1 q.2.1 q.2.2 e.pos=e) (N5 e):=eK (P:=λe (q:Expr×List CmpOp×List Expr)=>.Compare q.1 q.2.1 q.2.2 e.pos=e) λe h=>
 @Expr.Compare.elim (λe=>∀h,(λq:Expr×List CmpOp×List Expr=>Expr.Compare q.1 q.2.1 q.2.2 e.pos) (@Expr.Compare.elim (λ_=>Expr×List CmpOp×List Expr) e h λa ops bs _=>(a,ops,bs))=e) e h (λ_ _ _ _ _=>rfl) h
def CV (e:Expr):On (λq=>.Slice (some q.1) (some q.2) none e.pos=e) (sliceOf e):=
 (eK (P:=λe (q:Option Expr×Option Expr×Option Expr)=>.Slice q.1 q.2.1 q.2.2 e.pos=e) (λe h=>@Expr.Slice.elim (λe=>∀h,(λq:Option Expr×Option Expr×Option Expr=>Expr.Slice q.1 q.2.1 q.2.2 e.pos) (@Expr.Slice.elim (λ_=>Option Expr×Option Expr×Option Expr) e h λa b c _=>(a,b,c))=e) e h (λ_ _ _ _ _=>rfl) h) e).b λq h=>
   (aY q.1).b λa ea=>(aY q.2.1).b λb eb=>ak λec=>show Expr.Slice (some a) (some b) none e.pos=e from ea▸eb▸SU.mp ec▸h
def Nx (p:Pl):On (λy=>.aq y=p) (Z3 p):=by cases p;exact trivial;exact rfl
def nD (e:Expr):On (λq=>∃p p',.Attribute (.Name q.1 p) q.2 p'=e) (Fs e):=(qw e).b λq h=>(dp q.1).b λy h'=>⟨_,_,h'▸h⟩
def bT {α:Type} {l:List α} (h:l.isEmpty=true):[]=l:=(List.isEmpty_iff.mp h).symm
def mU (v:Expr):On (λq=>.Call (.Attribute q.1 q.2.1 q.2.2.1) q.2.2.2.1 [] q.2.2.2.2=v) (nC v):=(ic v).b λc h=>(qw c.1).b λa h'=>ak λz=>show _=v from h'▸bT z▸h
def OW (op:CmpOp):On (λf=>(op=.In/\f=id)\/(op=.NotIn/\f=not)) (abf op):=by cases op<;>first|exact trivial|exact .inl ⟨rfl,rfl⟩ |exact .inr ⟨rfl,rfl⟩
section
variable {U:Program} {w:World} {Y:Base} {d:Nat} {X:Cx} {F:HO}
def cw (Z:aj) (p:Pl):g9 Z p=p.get Z:=by
 cases p with
 |loc x=>exact aG _ _
 |aq x=>exact aQ (Option.bind Z.aq) (funext λas=>aG as x)
def jc (Z:aj) (k:ae) (p:Pl):wy Z k p=p.set Z k:=by
 cases p with
 |loc x=>exact aQ (aj.mk Z.aq) (bk ..)
 |aq x=>exact aQ (λf=>aj.mk (Z.aq.map f) Z.loc) (funext λas=>bk as x k)
def aP {x:Str} (h:fP X x=true):X.sc.names.lookup x=some .local:=bx (dN h) λ_ e h=>(hA ..).symm.trans (e.trans (aQ some (o5 h).symm))
def gu {x:Str} (h:lq X x=true):X.sc.names.lookup x=some .globalImplicit:=bx (dN h) λ_ e h=>(hA ..).symm.trans (e.trans (aQ some (O6 h).symm))
def put2 {α:Type} (l:List (Str×α)) (x y:Str) (u v:α):bS (bS l x u) y v=put (put l x u) y v:=(bk ..).trans (aQ (put · y v) (bk ..))
def put3 {α:Type} (l:List (Str×α)) (x y z:Str) (u v w:α):bS (bS (bS l x u) y v) z w=put (put (put l x u) y v) z w:=(bk ..).trans (aQ (put · z w) (put2 ..))
def rP {op:UnaryOp} (h:Nat.beq op.ctorIdx 1=true):.Not=op:=by cases op<;>first|rfl|exact ft h
def yf {op:UnaryOp} (h:Nat.beq op.ctorIdx 3=true):.USub=op:=by cases op<;>first|rfl|exact ft h
def kj {f:au} (h:f.p8=false):f=.next:=by cases f<;>first|rfl|exact tf h
def acS {G:Gh} (p:Pl) (a:Addr) (h:p.own G a):G.O a:=by cases p;exact .inr h;exact .inl h
def Jg {go:aj->au->aj->Prop} {ih:aj->Option (au×aj)} (h:∀Z,On (λr=>go Z r.1 r.2) (ih Z)) (q:au×aj):On (λr=>Goes go q.1 q.2 r.1 r.2) (goF ih q):=by
 obtain⟨f,Z⟩:=q
 cases f with
 |next=>exact h Z
 |cont=>exact h Z
 |brk=>exact⟨rfl,rfl⟩
 |ret v=>exact⟨rfl,rfl⟩
def jv.of {C:Nat} {sc:Scope} {kw:Keyword} {ks:List Keyword} {Z aa ah:aj} {x:Str} {v:DV} {vs:List (Str×DV)} (h:kw.arg=some x) (q:aC U w C Y sc d kw.value Z v aa) (r:jv U w C Y sc d ks aa vs ah):jv U w C Y sc d (kw::ks) Z ((x,v)::vs) ah:=by
 obtain⟨a,e,p⟩:=kw
 cases h
 exact .cons q r
def MG {C:Nat} {sc:Scope} {b:List Stmt} {hs:List ExceptHandler} {pos:Pos} {Z aa:aj} {f:au} (h:(!hs.isEmpty)=true) (k:aF U w C Y sc d b Z f aa):aU U w C Y sc d (.Try b hs [] [] pos) Z f aa:=by
 cases hs with
 |nil=>exact ft h
 |cons=>exact YN k
def HT (O:mR U w Y d X) (aq:bU) (v:DV) (x:Str):On (xp U w X.C Y aq v x) (Rx X aq v x):=
 (nT v).or (λp h=>h▸(aY (aT p.2 x)).or (λz e=>ak λh1=>aaL O.t.T (O.t.CM _ _ h1).1 (O.t.CM _ _ h1).2 ((aG ..).symm.trans e))
   λe=>.mk λz q=>ua (O.t.G2 _ _ _ q) λ_ a b c=>Jd O.t.T a b ((aG ..).symm.trans e) c)
   λ_=>d7 (λh=>hW h▸(aY aq).b λas e=>e▸(aY (aT as x)).or (λk ek=>ak λh1=>(iC k).up λz ez=>T6 O.t.T (O.t.vh _ _ h1).1 (O.t.vh _ _ h1).2.1 ((aG ..).symm.trans (ez▸ek)))
    λek=>(aY (X.B.bj X.C x)).or (λf ef=>Ap O.t.T (O.t.bj _ _ _ ef).2 ((aG ..).symm.trans ek)) λ_=>.mk λz q=>ua (O.t.uI _ _ _ q) λ_ a b c=>FW O.t.T a b ((aG ..).symm.trans ek) c)
    λ_=>(qB v).b λc h=>h▸.mk λz q=>bx (O.t.FC _ _ _ q) λ_ a b=>aaK O.t.T a b
structure afs (K:Frag) (C:Nat) (sc:Scope) (Z:aj) (y x:Str) (as:List (Str×ae)):Prop where
 l:sc.names.lookup y=some .local
 s:look Z.loc y=some (.pv .self)
 db:(y==("__debug__":Str))=false
 ea:Z.aq=some as
 a:bN K C=true
 b:d9 K C x=true
 c:hH K C x=true
def jJ (O:mR U w Y d X) (Z:aj) (y x:Str):On (afs X.B.K X.C X.sc Z y x) (pF X Z y x):=
 ak λh1=>ak λh2=>(sq (aG ..)).b λv hv=>ak λh3=>.mk λas e=>a3 (O.t.vh _ _ h2) λa b c=>⟨aP h1,hv.trans (aQ _ (aQ _ (hW h3).symm)),O.DK _ _ (aP h1),e,a,b,c⟩
def Ag (O:mR U w Y d X) (Z:aj) (e:Expr):On (λv=>vb U w X.C Y X.sc d e Z (.pv v)) (evR X Z e):=
 (dp e).or (λx h=>h▸ak λh1=>(sq (aG ..)).up λv e=>G3 (aP h1) e (O.DK _ _ (aP h1)))
   λ_=>(nD e).b λq h=>cV h λ_ _ h=>h▸(jJ O Z _ _).b λas m=>(sq (aG ..)).up λv e=>LI O.t.T m.l m.db m.s m.ea m.a m.b e
def bZ (O:mR U w Y d X) (Z:aj) (e:Expr):On (λp=>gB U w X.C Y X.sc d e Z p/\∃k,p.get Z=some k/\k.mut=true) (placeOf X Z e):=
 (dp e).or (λx h=>h▸ak λh1=>(aY (aT Z.loc x)).b λk ek=>ak λkm=>have ek:=(aG ..).symm.trans ek;⟨uD (aP h1) ek km (O.DK _ _ (aP h1)),k,ek,km⟩)
   λ_=>(nD e).b λq h=>cV h λ_ _ h=>h▸(jJ O Z _ _).b λas m=>(aY (aT as q.2)).b λk ek=>ak λkm=>have ek:=(aG ..).symm.trans ek;⟨GY O.t.T m.l m.db m.s m.ea m.a m.b ek km,k,(aQ (Option.bind · λas=>look as q.2) m.ea).trans ek,km⟩
def CJ (O:mR U w Y d X) {Z:aj} {e:Expr} {p:Pl} (h:placeOf X Z e=some p):gB U w X.C Y X.sc d e Z p/\∃k,p.get Z=some k/\k.mut=true:=(bZ O Z e).get h
variable (FO:qV U w X.C Y X.sc d F)
include FO
theorem fE (e:Expr) (Z:aj):On (λp=>cO U w X.C Y X.sc d e Z p.1 p.2) (F.E e Z):=.mk λ_ h=>FO.E _ _ _ _ h
theorem fT (e:Expr) (Z:aj):On (λp=>bu U w X.C Y X.sc d e Z p.1 p.2) (F.T e Z):=.mk λ_ h=>FO.T _ _ _ _ h
theorem fX (e:Stmt) (Z:aj):On (λp=>aU U w X.C Y X.sc d e Z p.1 p.2) (F.X e Z):=.mk λ_ h=>FO.X _ _ _ _ h
theorem fA (es:List Expr):∀Z:aj,On (λp=>dJ U w X.C Y X.sc d es Z p.1 p.2) (vr F es Z):=
 List.rec (motive:=λes=>∀Z:aj,On (λp:List DV×aj=>dJ U w X.C Y X.sc d es Z p.1 p.2) (vr F es Z)) (λ_=>dJ.nil) (λe _ ih Z=>ak λh=>(fE FO e Z).b λp q=>(ih p.2).b λ_ r=>dJ.cons h q.rest r) es
theorem fK (ks:List Keyword):∀Z:aj,On (λp=>jv U w X.C Y X.sc d ks Z p.1 p.2) (evK F ks Z):=
 List.rec (motive:=λes=>∀Z:aj,On (λp:List (Str×DV)×aj=>jv U w X.C Y X.sc d es Z p.1 p.2) (evK F es Z)) (λ_=>jv.nil) (λkw _ ih Z=>(aY kw.arg).b λx h=>(fE FO kw.value Z).b λp q=>(ih p.2).b λ_ r=>jv.of h q.rest r) ks
theorem TR (es:List Expr) (Z ba:aj) (vs:List DV) (h:vr F es Z=some (vs,ba)):dJ U w X.C Y X.sc d es Z vs ba:=(fA FO es Z).get h
omit FO
theorem Dn {κ:Type} {f:DV->Option κ} {kd:κ->DV} (hf:∀v,On (λi=>kd i=v) (f v)) (l:List (DV×DV)):On (λl'=>dl kd l'=l) (Nq f l):=
 List.rec (motive:=λl=>On (λl'=>dl kd l'=l) (Nq f l)) rfl (λp _ ih=>(hf p.1).b λi h=>ih.b λr h'=>by rw[<-h'];exact aQ (λk=>(k,p.2)::dl kd r) h) l
theorem jx (l:List (DV×DV)):On (λl'=>dl .int l'=l) (q6 l):=Dn bQ l
theorem q7 (l:List (DV×DV)):On (λl'=>dl M1 l'=l) (Dp l):=Dn wF l
theorem Z1 {l:List (DV×DV)} {l':List (Int×DV)} (h:q6 l=some l'):l=dl .int l':=((jx l).get h).symm
def HM (U:Program) (w:World) (l:List (DV×DV)) (k:DV) (z:Option DV):Prop:=∀Q:Prop,(∀(Ky:Type) [DecidableEq Ky] (knd:PySem.KeyKind U w Ky) (kd:Ky->DV) (ok:Ky->Prop) (l':List (Ky×DV)) (k':Ky),KD knd kd ok->dl kd l'=l->kd k'=k->(l'.map (·.1)).Nodup->f7 l' k'=z->Q)->Q
theorem ig (l:List (DV×DV)) (k:DV):On (HM U w l k) (dictGet l k):=
 (bQ k).or (λi h=>(jx l).b λl' h'=>ak λn=>λ_ q=>q _ _ _ _ _ _ rU h' h (mQ n) rfl)
   λ_=>(wF k).b λi h=>(q7 l).b λl' h'=>ak λn=>λ_ q=>q _ _ _ _ _ _ Ax h' h (mQ n) rfl
theorem TL {l:List (DV×DV)} {k:DV} {z:Option DV} (h:dictGet l k=some z):HM U w l k z:=(ig l k).get h
def ZQ (U:Program) (w:World) (l:List (DV×DV)) (k v:DV) (l':List (DV×DV)):Prop:=∀Q:Prop,(∀(Ky:Type) [DecidableEq Ky] (knd:PySem.KeyKind U w Ky) (kd:Ky->DV) (ok:Ky->Prop) (m:List (Ky×DV)) (k':Ky),KD knd kd ok->dl kd m=l->kd k'=k->(m.map (·.1)).Nodup->m.length<=1000->dl kd (j1 m k' v)=l'->Q)->Q
theorem Ab (l:List (DV×DV)) (k v:DV):On (ZQ U w l k v) (dictPut l k v):=
 (bQ k).or (λi h=>(jx l).b λl' h'=>ak λn=>ak λz=>λ_ q=>q _ _ _ _ _ _ rU h' h (mQ n) (eP z) rfl)
   λ_=>(wF k).b λi h=>(q7 l).b λl' h'=>ak λn=>ak λz=>λ_ q=>q _ _ _ _ _ _ Ax h' h (mQ n) (eP z) rfl
theorem kn {e:Expr} (h:Dc e=true) (env:Env):isTrue e env (eval e env)=(do let v<-eval e env;standAt e.pos;holding [v] (truthy v)):=by
 cases e<;>first|exact ft h|rfl
theorem i9 {es:List Expr} {k:Nat} {p:Pos} {v:Expr} (h:si v=true) (env:Env):swappedStores [.Tuple es k p] v env=pure none:=by
 cases v<;>first|exact ft h|rfl
theorem hG {it:Expr} (h:wi it=true) (env:Env) (u:Value):foldedSetIterable it env u=pure u:=by
 cases it<;>first|exact ft h|rfl
theorem HV {n:Nat} (q:Nat.ble n 1000=true):n+1<=lim:=bw (Rr (eP q)) (by unfold lim;decide)
theorem oe {x:Str} {q:Bool} (h:(!fu.contains x||q)=true) (hm:x∈fu):q=true:=by
 rw[show fu.contains x=true from List.contains_iff_mem.mpr hm] at h;exact h
theorem jX (O:mR U w Y d X) {x:Str} {f:Value} (hg:lq X x=true) (hb:X.B.nE x=some f):bB X.B.K X.sc x f=true:=
 a4 (O.t.nE _ _ hb) λb1 b2 b3 b4=>have l:=gu hg
 have t:∀{a b:Bool},a=true->b=true->(a&&b)=true:=λh h'=>SR.mpr ⟨h,h'⟩
 t (HI l) (t (iI.mpr b1) (t (iI.mpr b2) (t ((Rl _).mpr (O.DK _ _ l)) (t ((Rl _).mpr b3) b4))))
variable (O:mR U w Y d X)
include O FO
theorem xH {o:Expr} {x:Str} {args:List Expr} {dh:List Keyword} {apos pos:Pos} {Z:aj} (ho:cS o=true) (hf:dW args dh apos pos=true):
 On (λp=>cO U w X.C Y X.sc d (.Call (.Attribute o x apos) args dh pos) Z p.1 p.2) (xG X F o x args dh Z):=
 (fE FO o Z).b λs0 h0=>ak λes=>have h0:=hW es▸h0.rest
   (aY s0.2.aq).b λas ea=>(aY (aT as x)).or (λk ek=>(iC k).b λv hv=>(yr v).b λf hm=>ak λhk=>ak λh2=>ak λh3=>(fA FO args s0.2).b λa ha=>(aY (X.code ..)).b λr hc=>by
     rw[<-bT hk] at hf ⊢
     exact(mN O.t.T ho hf (O.t.R6 _ _ h2) (O.t.yg _ h3) h0 ea ((aG ..).symm.trans (ek.trans (aQ some (hv.symm.trans (aQ ae.pv hm.symm))))) ha (O.code _ _ _ _ _ _ hc)).plain)
     λek=>(aY (X.B.bj X.C x)).b λf hm=>(fA FO args s0.2).b λa ha=>(fK FO dh a.2).b λk hk=>(aY (X.code ..)).b λr hc=>(sL O.t.T ho hf (O.t.bj _ _ _ hm).1 h0 ea ((aG ..).symm.trans ek) ha hk (O.code _ _ _ _ _ _ hc)).plain
omit O FO in
theorem Qb (vs:List DV) (n:Nat):On (λi:Nat=>∃I:Int,I=i/\(vs=[]/\i=n - 1\/vs=[.int I])) (acT vs n):=
 d7 (λh=>⟨_,rfl,.inl ⟨(bT h).symm,rfl⟩⟩) λ_=>(bp vs).b λv h=>(bQ v).b λi h'=>ak λz=>⟨i,(aei (mQ z)).symm,.inr (by rw[<-h,<-h'])⟩
omit O in
theorem zZ {o:Expr} {x:Str} {args:List Expr} {dh:List Keyword} {apos pos:Pos} {p:Pl} {Z:aj} (ho:cS o=true) (hf:dW args dh apos pos=true) (hP:gB U w X.C Y X.sc d o Z p):
 On (λq=>cO U w X.C Y X.sc d (.Call (.Attribute o x apos) args dh pos) Z q.1 q.2) (DF F p x args dh Z):=
 (Nx p).b λy hy=>ak λh1=>ak λh2=>ak λh3=>(i7 (cw ..)).b λl0 e0=>(fA FO args Z).b λa ha=>(i7 (cw ..)).b λl e1=>(Qb a.1 l.length).b λi q=>(aY l[i]?).b λz hz=>bx q λI hI hv=>by
   rw[jc,(bF _ _).mp h1,<-bT h3]
   rw[<-bT h3] at hf
   exact(Qy hI ho hf (hy▸hP) h2 ha ⟨_,e0⟩ e1 hz hv).plain
omit FO in
theorem xF {sep x:Str} {k:Nat} {p0:Pos} {args:List Expr} {dh:List Keyword} {apos pos:Pos} {Z:aj} (hf:dW args dh apos pos=true):
 On (λq=>cO U w X.C Y X.sc d (.Call (.Attribute (.Constant (.str sep) k p0) x apos) args dh pos) Z q.1 q.2) (xE X sep x args dh Z):=
 ak λh1=>ak λh2=>(bp args).b λe he=>ak λh3=>(bZ O Z e).b λp hP=>(i7 (cw ..)).b λl e1=>(aY (strsOf l)).b λss hs=>ak λhz=>by
  rw[(bF _ _).mp h1,<-bT h2,<-he]
  rw[<-bT h2,<-he] at hf
  exact(uM rfl hf h3 hP.1 (strs_map hs▸e1) (eP hz)).plain
theorem xD {x:Str} {p:Pos} {args:List Expr} {pos:Pos} {Z:aj} (h:lq X x=true):On (λq=>cO U w X.C Y X.sc d (.Call (.Name x p) args [] pos) Z q.1 q.2) (Ie X F x args Z):=
 (aY (X.B.nE x)).b λf hb=>(fA FO args Z).b λv ha=>(aY (X.B.T1 f v.1)).b λr hr=>pG O.t.T (jX O h hb) ha (O.t.T1 _ _ _ _ hr)
theorem xJ {x:Str} {p:Pos} {args:List Expr} {dh:List Keyword} {pos:Pos} {Z:aj}:On (λq=>cO U w X.C Y X.sc d (.Call (.Name x p) args dh pos) Z q.1 q.2) (xI X F x p args dh Z):=
 d7 (λ_=>(fE FO (.Name x p) Z).b λf h0=>(uo f.1.rest).b λa hg=>ak λhk=>(fA FO args f.2).b λv ha=>(fK FO dh v.2).b λk hk'=>(aY (X.code ..)).b λr hc=>
  (mf O.t.T (O.t.kept _ hk) hg h0.rest ha hk' (O.code _ _ _ _ _ _ hc)).plain)
  λ_=>ak λh1=>ak λh2=>bT h2▸d7 (λcl=>(bp args).b λe he=>he▸ak λh3=>(bZ O Z e).or (λpl hP=>(i7 (cw ..)).b λl e1=>(y0 O.t.T (jX O h1 (O.t.yl _ cl)) hP.1 h3 e1).plain)
   λ_=>xD FO O h1) λ_=>xD FO O h1
theorem zf {f:Expr} {args:List Expr} {dh:List Keyword} {pos:Pos} {Z:aj}:On (λq=>cO U w X.C Y X.sc d (.Call f args dh pos) Z q.1 q.2) (ze X F f args dh pos Z):=
 (qw f).or (λq h=>h▸ak λh1=>ak λh2=>(wG q.1).or (λsep h=>cV h λ_ _ h=>h▸xF O h2)
   λ_=>(bZ O Z q.1).or (λp hP=>zZ FO h1 h2 hP.1) λ_=>xH FO O h1 h2)
   λ_=>(dp f).b λx h=>h▸xJ FO O
omit O in
theorem Ia (op:BoolOp) (pos:Pos) (es:List Expr):∀Z:aj,On (λq=>aC U w X.C Y X.sc d (.BoolOp op es pos) Z q.1 q.2) (H9 F op es Z):=
 List.rec (motive:=λes=>∀Z:aj,On (λq:DV×aj=>aC U w X.C Y X.sc d (.BoolOp op es pos) Z q.1 q.2) (H9 F op es Z)) (λ_=>trivial)
  (λe r ih Z=>(fE FO e Z).b λp h=>by
    cases r with
    |nil=>exact G8 h.rest
    |cons e' r=>
     cases op with
     |And=>exact(aY (mE p.1.rest)).b λc hc=>by cases c;exact EJ h.rest hc ⟨rfl,rfl⟩;exact(ih p.2).up λ_ k=>EJ h.rest hc k
     |Or=>exact(aY (mE p.1.rest)).b λc hc=>by cases c;exact(ih p.2).up λ_ k=>L8 h.rest hc k;exact L8 h.rest hc ⟨rfl,rfl⟩) es
theorem CZ {o i:Expr} {pos:Pos} {Z:aj}:On (λq=>cO U w X.C Y X.sc d (.Subscript o i pos) Z q.1 q.2) (EU X F o i Z):=
 ak λhn=>(bZ O Z o).or (λp hP=>(Ee (cw ..)).or (λl el=>(Ag O Z i).b λk hk=>(ig l k).b λz hz=>(aY z).b λz' rK=>hz _ λ_ _ _ _ _ _ _ D e1 e2 MZ e=>(L9 D hn hP.1 (e2▸hk) (e1▸el) MZ (e.trans rK)).plain)
  λ_=>ak λhf=>(fE FO i Z).b λq h0=>(bQ q.1.rest).b λk ek=>(i7 (cw ..)).b λl el=>(aY (idx ..)).b λn h1=>(aY l[n]?).b λz h2=>(sM hn hP.1 hf (ek▸h0.rest) el h1 h2).plain)
  λ_=>(fE FO o Z).b λp h0=>(fE FO i p.2).b λq h1=>(aY (X.B.sub ..)).b λz hz=>(oz hn h0.rest h1.rest (O.t.sub _ _ _ hz)).plain
theorem wC {o a b:Expr} {p pos:Pos} {Z:aj}:On (λq=>cO U w X.C Y X.sc d (.Subscript o (.Slice (some a) (some b) none p) pos) Z q.1 q.2) (uP X F o a b Z):=
 (fE FO o Z).b λp h0=>(fE FO a p.2).b λq h1=>(fE FO b q.2).b λr h2=>(aY (X.B.sl ..)).b λz hz=>(Ha h0.rest h1.rest h2.rest (O.t.sl _ _ _ _ hz)).plain
omit O FO in
theorem wz {c:Const} {k:Nat} {pos:Pos} {Z:aj}:On (λq=>cO U w X.C Y X.sc d (.Constant c k pos) Z q.1 q.2) (mh c Z):=by
 cases c with
 |none=>exact y4.plain
 |bool b=>exact yZ.plain
 |int i=>exact EK.plain
 |str x=>exact ak λh1=>(EM (eP h1)).plain
 |_=>exact trivial
omit FO in
theorem zj {x:Str} {pos:Pos} {Z:aj}:On (λq=>cO U w X.C Y X.sc d (.Name x pos) Z q.1 q.2) (zi X x Z):=
 d7 (λc=>(sq (aG ..)).or (λv e=>(pH (aP c) e (O.DK _ _ (aP c))).plain) λ_=>(i7 (aG ..)).b λl e=>by
  rw[bk];exact(nj (aP c) e (O.DK _ _ (aP c))).plain)
  λ_=>ak λh1=>(aY (X.B.glob x)).b λv hv=>bx (O.t.glob _ _ hv) λ_ a b=>(nk O.t.T (gu h1) a (O.DK _ _ (gu h1)) b).plain
theorem zq {a b c:Expr} {oj om:CmpOp} {pos:Pos} {Z:aj}:On (λq=>bu U w X.C Y X.sc d (.Compare a [oj,om] [b,c] pos) Z q.1 q.2/\aC U w X.C Y X.sc d (.Compare a [oj,om] [b,c] pos) Z (.bool q.1) q.2) (Mz X F a oj om b c Z):=
 CE λhm=>(fE FO a Z).b λp h0=>(fE FO b p.2).b λq h1=>(aY (X.B.cmp ..)).b λz hz=>d7
  (λe=>(fE FO c q.2).b λr h2=>(aY (X.B.cmp ..)).b λy hy=>⟨uW (b:=true) h0.rest h1.rest (O.t.cmp _ _ _ _ (e▸hz)) ⟨h2.rest,O.t.cmp _ _ _ _ hy⟩ hm,uJ (b:=true) h0.rest h1.rest (O.t.cmp _ _ _ _ (e▸hz)) ⟨h2.rest,O.t.cmp _ _ _ _ hy⟩ hm⟩)
  λe=>⟨uW (b:=false) (z:=.none) h0.rest h1.rest (O.t.cmp _ _ _ _ (e▸hz)) ⟨rfl,rfl⟩ hm,uJ (b:=false) (z:=.none) h0.rest h1.rest (O.t.cmp _ _ _ _ (e▸hz)) ⟨rfl,rfl⟩ hm⟩
theorem Mn {e:Expr} {Z:aj}:On (λq=>cO U w X.C Y X.sc d e Z q.1 q.2) (Sq X F e Z):=by
 cases e with
 |Constant c k pos=>exact wz
 |Name x pos=>exact zj O
 |Attribute o x pos=>exact ak λh1=>(fE FO o Z).b λp h0=>(HT O _ _ _).b λz hz=>(Qt h1 h0.rest hz).plain
 |Subscript o i pos=>exact(CV i).or (λq h=>h▸wC FO O) λ_=>CZ FO O
 |Call f args dh pos=>exact zf FO O
 |BinOp a op b pos=>exact(fE FO a Z).b λp h0=>(fE FO b p.2).b λq h1=>(aY (X.B.bin ..)).b λz hz=>(me h0.rest h1.rest (O.t.bin _ _ _ _ hz)).plain
 |UnaryOp op a pos=>exact d7 (λc=>rP c▸(fE FO a Z).b λp h0=>(aY (mE p.1.rest)).b λb hb=>(Qx h0.rest hb).plain) λ_=>ak λc=>yf c▸(fE FO a Z).b λp h0=>(bQ p.1.rest).b λi hi=>(EL (hi▸h0.rest)).plain
 |BoolOp op es pos=>exact(Ia FO op pos es Z).b λp h=>h.plain
 |Compare a ops bs pos=>exact(bp ops).or (λop ho=>(bp bs).b λb hb=>CE λhm=>(fE FO a Z).b λp h0=>(fE FO b p.2).b λq h1=>(aY (X.B.cmp ..)).b λz hz=>ho▸hb▸(wu h0.rest h1.rest (O.t.cmp _ _ _ _ hz) hm).plain) λ_=>(two_on ops).b λo ho=>(two_on bs).b λb hb=>ho▸hb▸(zq FO O).b λp h=>h.2.plain
 |IfExp t a b pos=>exact(fT FO t Z).b λp h=>d7 (λc=>(fE FO a _).up λ_ k=>sJ (c:=true) (c▸h) k) λc=>(fE FO b _).up λ_ k=>sJ (c:=false) (c▸h) k
 |Tuple es k pos=>exact(fA FO es Z).b λp h=>ak λh1=>(uN h (Zf (HV h1))).plain
 |List es pos=>exact(fA FO es Z).b λp h=>ak λh1=>y3 h (Zf (HV h1))
 |Dict ks vs pos=>exact ak λh=>ak λh'=>bT h▸bT h'▸G9
 |_=>exact trivial
omit O in
theorem Nn (pos:Pos) (es:List Expr):∀Z:aj,On (λq=>bu U w X.C Y X.sc d (.BoolOp .And es pos) Z q.1 q.2) (Nm F es Z):=
 List.rec (motive:=λes=>∀Z:aj,On (λq:Bool×aj=>bu U w X.C Y X.sc d (.BoolOp .And es pos) Z q.1 q.2) (Nm F es Z)) (λ_=>ji)
  (λe r ih Z=>(fT FO e Z).b λp h=>d7 (λc=>(ih _).up λ_ k=>jh (c:=true) (c▸h) k) λc=>jh (c:=false) (c▸h) ⟨rfl,rfl⟩) es
omit O in
theorem X3 (pos:Pos) (es:List Expr):∀Z:aj,On (λq=>bu U w X.C Y X.sc d (.BoolOp .Or es pos) Z q.1 q.2) (orT F es Z):=
 List.rec (motive:=λes=>∀Z:aj,On (λq:Bool×aj=>bu U w X.C Y X.sc d (.BoolOp .Or es pos) Z q.1 q.2) (orT F es Z)) (λ_=>td)
  (λe r ih Z=>(fT FO e Z).b λp h=>d7 (λc=>w2 (c:=true) (c▸h) ⟨rfl,rfl⟩) λc=>(ih _).up λ_ k=>w2 (c:=false) (c▸h) k) es
omit O in
theorem H8 (op:BoolOp) (pos:Pos) (es:List Expr) (Z:aj):On (λq=>bu U w X.C Y X.sc d (.BoolOp op es pos) Z q.1 q.2) (BoolOp.casesOn (motive:=λ_=>Option (Bool×aj)) op (Nm F es Z) (orT F es Z)):=by
 cases op with
 |And=>exact Nn FO _ _ _
 |Or=>exact X3 FO _ _ _
theorem MA {e:Expr} {Z:aj}:On (λq=>bu U w X.C Y X.sc d e Z q.1 q.2) (SD X F e Z):=
 ak λhv=>(bZ O Z e).or (λp hP=>(aY (g9 Z p)).b λk hk=>(aY (ME k)).b λb hb=>Fc (k:=k) (λA G L s env ro eo R Q kk=>hP.1 A G L s env ro eo R _ λa t lS=>kk _ _ ((R.gZ lS ((cw ..).symm.trans hk)).mono (.refl G) (λ_ _ _ h=>h) (acS p))) hb (kn hv))
  λ_=>(fE FO e Z).b λp h=>(aY (mE p.1.rest)).b λb hb=>w5 h.rest hb (kn hv)
theorem My {a b:Expr} {op:CmpOp} {pos:Pos} {Z:aj}:On (λq=>bu U w X.C Y X.sc d (.Compare a [op] [b] pos) Z q.1 q.2) (SA X F a op b Z):=
 CE λhm=>(fE FO a Z).b λp h0=>(bZ O p.2 b).or (λpl hP=>(OW op).b λf hf=>(Ee (cw ..)).b λl el=>(ig l p.1.rest).b λz hz=>hz _ λ_ _ _ _ _ _ _ D e1 e2 MZ e=>
  e▸rM D hf (e2▸h0.rest) hP.1 (e1▸el) MZ hm)
  λ_=>(fE FO b p.2).b λq h1=>(aY (X.B.cmp ..)).b λz hz=>wZ h0.rest h1.rest (O.t.cmp _ _ _ _ hz) hm
theorem Mo {e:Expr} {Z:aj}:On (λq=>bu U w X.C Y X.sc d e Z q.1 q.2) (stepT X F e Z):=
 (Ek e).or (λq h=>ak λc=>(fT FO q.2 Z).b λp h'=>h▸rP c▸Fb h') λ_=>(rm e).or (λq h=>h▸H8 FO q.1 e.pos q.2 Z)
   λ_=>(vl e).or (λq h=>h▸(bp q.2.1).or (λop h=>(bp q.2.2).b λb h'=>h▸h'▸My FO O) λ_=>(two_on q.2.1).b λop h=>(two_on q.2.2).b λb h'=>h▸h'▸(zq FO O).up λ_ k=>k.1) λ_=>MA FO O
omit O in
theorem iE (l:List Stmt):∀Z:aj,On (λq=>aF U w X.C Y X.sc d l Z q.1 q.2) (cj F l Z):=
 List.rec (motive:=λl=>∀Z:aj,On (λq:au×aj=>aF U w X.C Y X.sc d l Z q.1 q.2) (cj F l Z)) (λ_=>bA) (λst r ih Z=>(fX FO st Z).b λp h=>d7 (λc=>jd h c) λc=>(ih p.2).up λ_ k=>ao (kj c▸h) k) l
omit O in
theorem sy (l:List Stmt) (Z ba:aj) (f:au) (h:cj F l Z=some (f,ba)):aF U w X.C Y X.sc d l Z f ba:=(iE FO l Z).get h
omit O in
theorem J1 (t:Expr) (b:List Stmt) (n:Nat):∀Z:aj,On (λq=>cI U w X.C Y X.sc d t b n Z q.1 q.2) (J0 F t b n Z):=
 Nat.rec (motive:=λn=>∀Z:aj,On (λq:au×aj=>cI U w X.C Y X.sc d t b n Z q.1 q.2) (J0 F t b n Z)) (λ_=>trivial)
  (λn ih Z=>(fT FO t Z).b λp e0=>d7 (λc=>(iE FO b p.2).b λq e1=>(Jg ih q).up λ_ g=>.inr ⟨p.2,q.1,q.2,c▸e0,e1,g⟩) λc=>.inl ⟨c▸e0,rfl⟩) n
omit O in
theorem r9 (x:Str) (b:List Stmt) (vs:List DV):∀Z:aj,On (λq=>gk U w X.C Y X.sc d x b vs Z q.1 q.2) (yo F x b vs Z):=
 List.rec (motive:=λvs=>∀Z:aj,On (λq:au×aj=>gk U w X.C Y X.sc d x b vs Z q.1 q.2) (yo F x b vs Z)) (λ_=>.done)
  (λv r ih Z=>(iE FO b _).b λq e1=>(Jg ih q).up λ_ g=>⟨q.1,q.2,show aF U w X.C Y X.sc d b ⟨Z.aq,put Z.loc x (.pv v)⟩ q.1 q.2 from bk Z.loc x (.pv v)▸e1,g⟩) vs
omit O in
theorem nq {v:Expr} {pos:Pos} {Z:aj}:On (λq=>aU U w X.C Y X.sc d (.Expr v pos) Z q.1 q.2) (qO F v Z):=ak λh1=>(fE FO v Z).b λp h=>EZ h.rest h1
omit O in
theorem CY {o:Expr} {x:Str} {args:List Expr} {apos pos qr:Pos} {p:Pl} {Z:aj} (ho:cS o=true) (hf:dW args [] apos pos=true) (hP:gB U w X.C Y X.sc d o Z p):
 On (λq=>aU U w X.C Y X.sc d (.Expr (.Call (.Attribute o x apos) args [] pos) qr) Z q.1 q.2) (ET F p x args Z):=
 ak λlp=>(i7 (cw ..)).b λl0 e0=>(bp args).or (λe he=>(fE FO e Z).b λq h0=>d7
  (λc=>(i7 (cw ..)).b λl e1=>ak λhz=>by rw[jc,(bF _ _).mp c,<-he];exact uS ho (he▸hf) hP lp h0.rest ⟨_,e0⟩ e1 (HV hz))
  λ_=>ak λc=>(kc q.1.rest).b λl' el=>(i7 (cw ..)).b λl e1=>ak λhz=>by
   rw[jc,(bF _ _).mp c,<-he];exact uT ho (he▸hf) hP lp (el▸h0.rest) ⟨_,e0⟩ e1 (Zf (HV hz)))
  λ_=>ak λc=>(two_on args).b λe he=>(fA FO _ Z).b λa ha=>(two_on a.1).b λv hv=>(bQ v.1).b λi hi=>(i7 (cw ..)).b λl e1=>ak λz1=>ak λz2=>ak λz3=>by
   rw[jc,(bF _ _).mp c,<-he]
   rw[<-hv,<-hi] at ha
   exact Hm (aei (mQ z1)).symm ho (he▸hf) hP lp ha ⟨_,e0⟩ e1 (HV z3) (eP z2)
theorem sR {t v:Expr} {pos:Pos} {Z:aj}:On (λq=>aU U w X.C Y X.sc d (.Assign [t] v pos) Z q.1 q.2) (p7 X F t v Z):=
 ak λhc=>(fE FO v Z).b λp h=>(dp t).or (λx e=>e▸ak λh1=>bk p.2.loc x p.1.slot▸gx h (aP h1) hc)
  λ_=>(nD t).or (λq e=>cV e λ_ _ e=>e▸(jJ O _ _ _).b λas m=>ak λh3=>ak λh4=>bk as q.2 p.1.slot▸Ms O.t.T h hc m.l m.s m.db m.ea m.c (Rq (eP h3) (by decide)) λhm=>(aG ..).symm.trans (SU.mp (oe h4 hm)))
   λ_=>(lH t).or (λq e=>e▸(bZ O _ _).b λpl hP=>(Ee (cw ..)).b λl el=>(Ag O _ _).b λk hk=>(Ab (U:=U) (w:=w) l k p.1.rest).b λl' h'=>h' _ λ_ _ _ _ _ _ _ D e1 e2 MZ hz e3=>jc ..▸e3▸QT D h.rest hP.1 (e2▸hk) (e1▸el) MZ hz hc)
    λ_=>(qQ t).b λes e=>cV e λ_ _ e=>e▸ak λh1=>(qP p.1.rest).b λvs hv=>(aY (names X.sc es)).b λxs hx=>ak λh2=>pJ (hv▸h.rest) hx (iT h2) hc (i9 h1)
theorem zh {v:Expr} {pos:Pos} {Z:aj}:On (λq=>aU U w X.C Y X.sc d (.Expr v pos) Z q.1 q.2) (zg X F v Z):=
 (mU v).or (λq e=>(bZ O Z q.1).or (λp hP=>d7 (λ_=>nq FO) λ_=>ak λh1=>ak λh2=>e▸CY FO h1 h2 hP.1) λ_=>nq FO) λ_=>nq FO
omit FO O in
theorem nW (e:Expr):On (λx=>.Name x e.pos=e/\X.sc.names.lookup x=some .local) (Gf X e):=(dp e).b λx h=>ak λh1=>⟨h,aP h1⟩
theorem tO {ts:List Expr} {v:Expr} {pos:Pos} {Z:aj}:On (λq=>aU U w X.C Y X.sc d (.Assign ts v pos) Z q.1 q.2) (sQ X F ts v Z):=
 (bp ts).or (λt h=>h▸sR FO O) λ_=>(two_on ts).or (λq h=>(nW q.1).b λx hx=>(nW q.2).b λy hy=>(fE FO v Z).b λp h0=>
   put2 ..▸h▸hx.1▸hy.1▸C3 h0.rest hx.2 hy.2 λ_=>rfl)
   λ_=>(MD ts).b λq h=>(nW q.1).b λx hx=>(nW q.2.1).b λy hy=>(nW q.2.2).b λz hz=>(fE FO v Z).b λp h0=>
    put3 ..▸h▸hx.1▸hy.1▸hz.1▸C4 h0.rest hx.2 hy.2 hz.2 λ_=>rfl
theorem zd {x:Str} {p:Pos} {op:Operator} {e:Expr} {pos:Pos} {Z:aj}:On (λq=>aU U w X.C Y X.sc d (.AugAssign (.Name x p) op e pos) Z q.1 q.2) (zc X F x op e Z):=
 ak λh1=>(sq (aG ..)).b λv ev=>(fE FO e Z).b λp h=>(aY (X.B.M0 ..)).b λz hz=>bk ..▸YL (aP h1) ev h.rest (O.t.M0 _ _ _ _ hz)
theorem za {y x:Str} {p p':Pos} {op:Operator} {e:Expr} {pos:Pos} {Z:aj}:On (λq=>aU U w X.C Y X.sc d (.AugAssign (.Attribute (.Name y p) x p') op e pos) Z q.1 q.2) (y9 X F y x op e Z):=
 (jJ O Z y x).b λas m=>(sq (aG ..)).b λv ev=>(fE FO e Z).b λq h=>(aY (X.B.M0 ..)).b λz hz=>(aY q.2.aq).b λvd ea'=>ak λh3=>CE λh4=>bk ..▸Hl O.t.T m.l m.s m.db m.ea m.a m.b ev h.rest (O.t.M0 _ _ _ _ hz) ea' m.c (Rq (eP h3) (by decide)) λhm=>ft (h4.symm.trans (List.contains_iff_mem.mpr hm))
omit FO O in
theorem TY (r:Res):On (λl=>r=.fl l\/r=.pv (.lst l)) (flR r):=by
 cases r with
 |fl l=>exact .inl rfl
 |pv v=>exact(kc v).up λ_ h=>.inr (aQ Res.pv h.symm)
 |fd l=>exact trivial
theorem CX {x:Str} {p:Pos} {it:Expr} {b:List Stmt} {pos:Pos} {Z:aj}:On (λq=>aU U w X.C Y X.sc d (.For (.Name x p) it b [] pos) Z q.1 q.2) (ES X F x it b Z):=
 ak λh1=>ak λh2=>(fE FO it Z).b λp h=>(TY p.1).or (λvs e=>(r9 FO x b vs p.2).up λ_ k=>Mu h e (aP h1) (hG h2) k)
  λ_=>(qE p.1.rest).b λl hl=>(jx l).or (λl' e=>ak λn=>(r9 FO x b _ p.2).up λ_ k=>E0 rU (mQ n) (e▸hl▸h.rest) (aP h1) (hG h2) k)
   λ_=>(q7 l).b λl' e=>ak λn=>(r9 FO x b _ p.2).up λ_ k=>E0 Ax (mQ n) (e▸hl▸h.rest) (aP h1) (hG h2) k
omit FO in
theorem CW {o i:Expr} {p pos:Pos} {Z:aj}:On (λq=>aU U w X.C Y X.sc d (.Delete [.Subscript o i p] pos) Z q.1 q.2) (ER X o i Z):=
 (bZ O Z o).b λpl hP=>(Ee (cw ..)).b λl el=>(Ag O Z i).b λk hk=>On.b (P:=λl'=>aU U w X.C Y X.sc d (.Delete [.Subscript o i p] pos) Z .next (pl.set Z (.md l')))
   ((bQ k).b λk' e=>(jx l).b λm e'=>ak λn=>ak λz=>ak λh=>QQ rU hP.1 (e▸hk) (e'▸el) (mQ n) (eP z) h) λ_ h=>jc ..▸h
theorem Mp {st:Stmt} {Z:aj}:On (λq=>aU U w X.C Y X.sc d st Z q.1 q.2) (Sr X F st Z):=by
 cases st with
 |Expr v pos=>exact zh FO O
 |Assign ts v pos=>exact tO FO O
 |AugAssign t op e pos=>exact(dp t).or (λx h=>h▸zd FO O) λ_=>(nD t).b λq h=>cV h λ_ _ h=>h▸za FO O
 |If t b o pos=>exact(fT FO t Z).b λp h=>d7 (λc=>(iE FO b _).up λ_ k=>qa (c:=true) (c▸h) k) λc=>(iE FO o _).up λ_ k=>qa (c:=false) (c▸h) k
 |While t b o pos=>exact ak λh=>bT h▸(J1 FO t b 400 Z).up λ_ k=>oG k
 |For t it b o pos=>exact ak λh=>bT h▸(dp t).b λx h=>h▸CX FO O
 |Return o pos=>exact(aY o).or (λe h=>h▸(fE FO e Z).b λp h=>sV h.rest) λh=>h▸QS
 |Assert t m pos=>exact(fT FO t Z).b λp h=>ak λc=>Hk (c▸h)
 |Delete ts pos=>exact(bp ts).b λt h=>(lH t).b λq e=>h▸e▸CW O
 |Try b hs os fs pos=>exact ak λh=>ak λho=>ak λhf=>bT ho▸bT hf▸(iE FO b Z).up λ_ k=>MG h k
 |Pass pos=>exact E2
 |Break pos=>exact Mt
 |Continue pos=>exact EY
 |_=>exact trivial
omit FO
theorem qF (n:Nat):qV U w X.C Y X.sc d (Oq X n):=
 Nat.rec ⟨(λ_ _ _ _ h=>nomatch h),(λ_ _ _ _ h=>nomatch h),(λ_ _ _ _ h=>nomatch h)⟩ (λ_ ih=>⟨λ_ _ _ _ h=>(Mn ih O).get h,λ_ _ _ _ h=>(Mo ih O).get h,λ_ _ _ _ h=>(Mp ih O).get h⟩) n
theorem aeu {n:Nat} {l:List Stmt} {Z ba:aj} {f:au} (h:cj (Oq X n) l Z=some (f,ba)):aF U w X.C Y X.sc d l Z f ba:=sy (qF O n) _ _ _ _ h
end
def getAll (args:List DV) (kw:List (Str×DV)) (out:List (Str×Src)):Option (List (Str×DV)):=
 List.rec (motive:=λ_=>Option (List (Str×DV))) (some []) (λp _ ih=>(p.2.get args kw).bind λv=>ih.bind λl=>some ((p.1,v)::l)) out
def EH (xs:List Str):List (Str×DV)->Bool:=List.rec (motive:=λ_=>List (Str×DV)->Bool) (λl=>l.isEmpty) (λx _ ih l=>List.casesOn (motive:=λ_=>Bool) l false λy r=>cU x y.1&&ih r) xs
def cR (rows:List k6) (f:Nat) (args:List DV) (kw:List (Str×DV)):Option k6:=
 List.rec (motive:=λ_=>Option k6) none (λb _ ih=>bif Nat.beq b.f f&&Nat.beq b.n args.length&&EH b.dh kw then some b else ih) rows
def CK (as:List (Str×ae)):Option (List (Str×DV)):=List.rec (motive:=λ_=>Option (List (Str×DV))) (some []) (λp _ ih=>(uF p.2).bind λv=>ih.bind λl=>some ((p.1,v)::l)) as
def tq.cx (B:tq) (C:Nat) (sc:Scope) (code:Nat->List DV->List (Str×DV)->bU->Option (DV×bU)):Cx:=⟨B,C,sc,code⟩
def uf (f:au):Option DV:=au.casesOn (motive:=λ_=>Option DV) f (some .none) none none some
abbrev ny:=Nat->Nat->List DV->List (Str×DV)->bU->Option (DV×bU)
def qA (B:tq) (ih:ny):ny:=λC f args kw aq=>
 bif B.fns f then(qi B.K f).bind λI=>(cR B.rows f args kw).bind λr=>(getAll args kw r.out).bind λbl=>
  (cj (Oq (B.cx C I.sc (ih C)) 60) I.body ⟨aq,bl.map λp=>(p.1,.pv p.2)⟩).bind λq=>(uf q.1).bind λv=>some (v,q.2.aq) else none
def DE (ih:ny) (f fI:Nat) (args:List DV) (kw:List (Str×DV)) (aq:bU):Option (DV×bU):=
 (ih f fI (.self::args) kw (some [])).bind λr=>bif qp r.1 then r.2.bind λas=>(CK as).bind λfs=>bif gU args then bif gU (kw.map (·.2)) then bif D1 fs then some (.inst f fs,aq) else none else none else none else none
def te (l:List DV):Option (List DV):=List.casesOn (motive:=λ_=>Option (List DV)) l none λv r=>bif o6 v then some r else none
def xK (B:tq) (ih:ny):ny:=λC f args kw aq=>
 (te args).bind λrest=>aq.bind λas=>(qA B ih C f (.inst C (vx as)::rest) kw none).bind λr=>bif r.2.isNone then bif I1 r.1 then bif gU rest then bif gU (kw.map (·.2)) then some (r.1,some as) else none else none else none else none
def Oa (r:DV×bU):DV×bU:=Option.rec (motive:=λ_=>DV×bU) r (λ_=>(.rf,r.2)) (uq r.1)
def fO (B:tq) (n:Nat):ny:=
 Nat.rec (motive:=λ_=>ny) (λ_ _ _ _ _=>none) (λn ih C f args kw aq=>
  aZ (B.spec n C f args kw aq) (aZ (B.yQ f) (bif B.pure f then xK B ih C f args kw aq else bif B.dim f then(qA B ih C f args kw aq).bind λr=>some (Oa r) else qA B ih C f args kw aq)
   λfI=>DE ih f fI args kw aq) some) n
section
variable {U:Program} {w:World} {Y:Base} {B:tq} (O:TabsOk U w Y B)
def x6 (f:au):On (λv=>f.val=v) (uf f):=by cases f<;>first|exact trivial|exact rfl
def RF {C d:Nat} {sc:Scope} {code:Nat->List DV->List (Str×DV)->bU->Option (DV×bU)} (O:TabsOk U w Y B) (hd:∀x k,sc.names.lookup x=some k->(x==("__debug__":Str))=false)
    (hc:∀f args kw aq r aX,code f args kw aq=some (r,aX)->af U w C Y d (.ref f) args kw aq r aX):mR U w Y d (B.cx C sc code):=⟨O,hd,hc⟩
def lookup_mem {α:Type} {x:Str} {k:α} {l:List (Str×α)}:l.lookup x=some k->(x,k)∈l:=by
 induction l with
 |nil=>exactλh=>ns h
 |cons p r ih=>
  intro h
  rw[gc] at h
  by_cases e:x=p.1
  ·rw[d8 e] at h;rw[<-eN h,e];exact .head _
  ·rw[dZ e] at h;exact .tail _ (ih h)
def Ru (args:List DV) (kw:List (Str×DV)) (out:List (Str×Src)) (bl:List (Str×DV)):Prop:=bl.map (·.1)=out.map (·.1)/\∀{P:Params} {G:Gh} {vs ks:List Value},eC P G args vs->eC P G (kw.map (·.2)) ks->(∀x v u,(x,Src.dv v u)∈out->DR P G v u)->Nd P G bl (out.map λp=>(p.1,p.2.val vs ks))
def YA {args:List DV} {kw:List (Str×DV)} {s:Src} {v:DV} {P:Params} {G:Gh} {vs ks:List Value} (h:s.get args kw=some v) (ha:eC P G args vs) (hk:eC P G (kw.map (·.2)) ks) (hv:∀v u,s=.dv v u->DR P G v u):DR P G v (s.val vs ks):=by
 have g:∀{l:List DV} {us:List Value} {i:Nat},eC P G l us->l[i]?=some v->DR P G v (us.getD i .none):=λh e=>bx (h.at _ _ e) λu e q=>by rw[Zd,e];exact q
 cases s with
 |arg i=>exact g ha h
 |kw i=>exact g hk (Rn.trans h)
 |dv v' u=>exact eN h▸hv v' u rfl
def FX {args:List DV} {kw:List (Str×DV)} (out:List (Str×Src)):On (Ru args kw out) (getAll args kw out):=
 List.rec (motive:=λout=>On (Ru args kw out) (getAll args kw out)) ⟨rfl,λ_ _ _=>.nil⟩
  (λp r ih=>(aY (p.2.get args kw)).b λv h1=>ih.b λl h2=>⟨aQ (p.1::·) h2.1,λha hk hv=>.cons (YA h1 ha hk λv u e=>hv p.1 v u (e▸.head _)) (h2.2 ha hk λx v u q=>hv x v u (.tail _ q))⟩) out
def CS {xs:List Str}:∀{kw:List (Str×DV)},EH xs kw=true->xs=kw.map (·.1):=by
 induction xs with
 |nil=>exactλh=>bT h▸rfl
 |cons x r ih=>
  intro kw h
  cases kw with
  |nil=>exact ft h
  |cons y r'=>exact a2 (aw h) λh1 h2=>by rw[xb,<-ih h2,(bF _ _).mp h1]
def Ai {f:Nat} {args:List DV} {kw:List (Str×DV)} (rows:List k6):On (λb=>b∈rows/\b.f=f/\b.n=args.length/\b.dh=kw.map (·.1)) (cR rows f args kw):=
 List.rec (motive:=λrows=>On (λb:k6=>b∈rows/\b.f=f/\b.n=args.length/\b.dh=kw.map (·.1)) (cR rows f args kw)) trivial
  (λr rs ih=>d7 (λc=>a2 (aw c) λc c3=>a2 (aw c) λc1 c2=>⟨.head _,iT c1,iT c2,CS c3⟩) λ_=>ih.up λ_ h=>⟨.tail _ h.1,h.2⟩) rows
def I4 (K:Frag) (f:Nat):On (λI=>∃fd,fdOf K f=some fd/\fd.body=.stmts I.body/\fd.scope=I.sc) (qi K f):=(aY (fdOf K f)).b λfd e=>(Fx fd.body).b λb h=>⟨fd,e,h,rfl⟩
include O
theorem IC {f:Nat} {I:Zi} (h1:B.fns f=true) (h2:qi B.K f=some I):∀x k,I.sc.names.lookup x=some k->(x==("__debug__":Str))=false:=λx k e=>
 ua ((I4 _ _).get h2) λ_ e1 _ e2=>((ug (O.fns f h1) e1).nm _ (lookup_mem (e2▸e))).2
theorem callee {f:Nat} {args:List DV} {kw:List (Str×DV)} {I:Zi} {row:k6} {bl:List (Str×DV)} (h1:B.fns f=true) (h2:qi B.K f=some I) (h3:cR B.rows f args kw=some row) (h4:getAll args kw row.out=some bl):
 ∃fd,fdOf B.K f=some fd/\fd.scope=I.sc/\Callee w B.K Y f args kw bl fd I.body:=by
 refine ua ((I4 _ _).get h2) λfd e1 e2 e3=>a4 ((Ai _).get h3) λr1 r2 r3 r4=>a3 (O.rows row r1) λrg rb rv=>bx ((DQ _ _).get e1) λo ho hd=>a2 ((FX _).get h4) λnm drb=>a2 (CP rg (r2.symm▸e1)) λrg1 rg2=>?_
 have g:=ug (O.fns f h1) e1
 exact⟨fd,e1,e3,⟨o,O.T.Jz _ _ ho,hd⟩,g.cd,e2,g.gl,g.bt,λx hx=>(g.nm x hx).1,λx hx=>bx (Hw.mp (nm▸List.mem_map_of_mem hx:x.1∈row.out.map (·.1))) λy y1 y2=>y2▸rg1 y y1,by rw[nm];exact rg2,
  λG s vs ks X hb ha hkw=>⟨row.out.map λp=>(p.1,p.2.val vs ks),by
   rw[<-r4]
   exact kp_binds X λS=>rb S fd vs ks (by rw[r2];exact e1) (by rw[r3,ha.length]) (by rw[r4,mG,<-hkw.length,mG]),drb ha hkw λx v u q=>rv x v u q G hb⟩,g.co,g.ge,g.kd⟩
theorem IE {n C f:Nat} {args:List DV} {kw:List (Str×DV)} {aq:bU} {I:Zi} {row:k6} {bl:List (Str×DV)} {fl:au} {ba:aj} {v:DV} (h1:B.fns f=true) (h2:qi B.K f=some I) (h3:cR B.rows f args kw=some row) (h4:getAll args kw row.out=some bl)
 (run:aF U w C Y I.sc n I.body ⟨aq,bl.map λp=>(p.1,.pv p.2)⟩ fl ba) (h6:uf fl=some v):af U w C Y (n+1) (.ref f) args kw aq v ba.aq:=
 ua (callee O h1 h2 h3 h4) λ_ _ e c=>(x6 fl).get h6▸Qv O.T c (e.symm▸run)
def HK (U:Program) (w:World) (Y:Base) (n:Nat) (ih:ny):Prop:=∀C f args kw aq r aX,ih C f args kw aq=some (r,aX)->af U w C Y n (.ref f) args kw aq r aX
omit O in
theorem TM {n C f:Nat} {args:List DV} {kw:List (Str×DV)} {aq:bU} {r:DV×bU} (h:af U w C Y n (.ref f) args kw aq r.1 r.2):af U w C Y n (.ref f) args kw aq (Oa r).1 (Oa r).2:=by
 have k:=nT r.1
 unfold Oa
 cases q:uq r.1 with
 |none=>exact h
 |some p=>exact(k.get q▸h:af U w C Y n (.ref f) args kw aq (.inst p.1 p.2) r.2).Ow
variable {n C f:Nat} {args:List DV} {kw:List (Str×DV)} {aq:bU} {ih:ny} (RK:HK U w Y n ih)
include RK
theorem mV:On (λq=>af U w C Y (n+1) (.ref f) args kw aq q.1 q.2) (qA B ih C f args kw aq):=
 ak λh1=>(aY (qi B.K f)).b λI h2=>(aY (cR ..)).b λrow h3=>(aY (getAll ..)).b λbl h4=>(iE (qF (RF O (C:=C) (d:=n) (sc:=I.sc) (code:=ih C) (IC O h1 h2) (RK C)) 60) _ _).b λq h5=>(aY (uf q.1)).b λv h6=>
  IE O h1 h2 h3 h4 h5 h6
omit O RK in
theorem GZ (as:List (Str×ae)):On (λfs=>(fs.map λp=>(p.1,.pv p.2))=as) (CK as):=
 List.rec (motive:=λas=>On (λfs:List (Str×DV)=>(fs.map λp=>(p.1,.pv p.2))=as) (CK as)) rfl (λp r ih=>(iC p.2).b λv h=>ih.b λl h'=>by rw[<-h'];exact aQ (λk=>(p.1,k)::_) h) as
theorem zY {fI:Nat} (hm:B.yQ f=some fI):On (λq=>af U w C Y (n+1) (.ref f) args kw aq q.1 q.2) (DE ih f fI args kw aq):=
 (aY (ih f fI (.self::args) kw (some []))).b λr h1=>ak λer=>(aY r.2).b λas ea=>(GZ as).b λfs h2=>ak λh3=>ak λh4=>ak λh5=>L6 O.T (O.yQ _ _ hm) h3 h4 h5 (RK _ _ _ _ _ _ _ (h1.trans (aQ some (show r=(.none,some (fs.map λp=>(p.1,.pv p.2))) from by rw[h2,<-ea,lW er]))))
omit O RK in
theorem mj (l:List DV):On (λr=>.self::r=l) (te l):=by
 cases l with
 |nil=>exact trivial
 |cons v r=>exact ak λh=>hW h▸rfl
theorem xM:On (λq=>af U w C Y (n+1) (.ref f) args kw aq q.1 q.2) (xK B ih C f args kw aq):=
 (mj args).b λrest h=>h▸(aY aq).b λas e=>e.symm▸(mV O RK).b λq h1=>ak λhn=>ak λh2=>ak λh3=>ak λh4=>(SU.mp hn▸h1:af U w C Y (n+1) (.ref f) _ kw none q.1 none).ai3 h2 h3 h4
omit RK in
theorem Im (n:Nat):∀(C f:Nat) (args:List DV) (kw:List (Str×DV)) (aq:bU),On (λq=>af U w C Y n (.ref f) args kw aq q.1 q.2) (fO B n C f args kw aq):=
 Nat.rec (motive:=λn=>∀(C f:Nat) (args:List DV) (kw:List (Str×DV)) (aq:bU),On (λq:DV×bU=>af U w C Y n (.ref f) args kw aq q.1 q.2) (fO B n C f args kw aq)) (λ_ _ _ _ _=>trivial) (λn ih C f args kw aq=>
  have ih:HK U w Y n (fO B n):=λC f args kw aq _ _ h=>(ih C f args kw aq).get h
  (aY (B.spec n C f args kw aq)).or (λr h=>O.spec _ _ _ _ _ _ _ _ h) λ_=>(aY (B.yQ f)).or (λfI h=>zY O ih h) λ_=>d7 (λ_=>xM O ih) λ_=>d7 (λ_=>(mV O ih).b λ_ h=>TM h) λ_=>mV O ih) n
omit RK in
theorem gF (n C f:Nat) (args:List DV) (kw:List (Str×DV)) (aq:bU) (r:DV) (aX:bU) (h:fO B n C f args kw aq=some (r,aX)):af U w C Y n (.ref f) args kw aq r aX:=(Im O n C f args kw aq).get h
end
structure Kn where
 ch:Nat->Int->Option Nat
 more:Nat->Int->Option Bool
 pos:Nat->Bool
 MR:Nat->Bool
structure gX (T:Kn) (V:Val):Prop where
 ch:∀t k c,T.ch t k=some c->∃n:Nat,V.β t+k=n/\(V.ς 0)[n]?=some c
 more:∀t k b,T.more t k=some b->b=decide (V.β 0<=V.β t+k)
 len:V.β 0=(V.ς 0).length
 pos:∀t,T.pos t=true->1<=V.β t
 MR:∀t,T.MR t=true->V.β t=0
def S7 (a:List Nat) (l:List (List Nat)):Bool:=List.rec (motive:=λ_=>Bool) false (λh _ ih=>bif fQ a h then true else ih) l
def Np (a:List Nat) (l:List (List Nat)):S7 a l=l.contains a:=by
 induction l with
 |nil=>rfl
 |cons h r ih=>
  show(bif fQ a h then true else S7 a r)=_
  rw[jo,List.contains_cons,ih]
  cases(a==h)<;>rfl
def Lb (o:Option Bool):Option Bool:=o.map not
def isD (x y:DV):Option Bool:=bif qp y then isNone x else(mI y).bind λk=>isBool k x
def inD (x y:DV):Option Bool:=
 aZ (ID y) ((iG x).bind λa=>aZ (iG y) ((zv y).bind λl=>(strsOf l).bind λls=>some (S7 a ls)) λb=>(dM a).bind λc=>some (bc c b)) λl=>(dictGet l x).bind λz=>some z.isSome
def adz (op:CmpOp) (a b:List Nat):Option Bool:=CmpOp.casesOn (motive:=λ_=>Option Bool) op (some (fQ a b)) (some (!fQ a b)) none ((dM a).bind λc=>(dM b).bind λe=>some (Nat.ble c e)) none none none none none none
def isEq (op:CmpOp):Bool:=Nat.beq op.ctorIdx 0
def acN (T:Kn) (op:CmpOp) (p q:Option Nat×Int):Option Bool:=
 bif decide (p.1=q.1) then z6 op p.2 q.2 else p.1.bind λt=>aZ q.1 (bif T.pos t&&(decide (0<=p.2)&&decide (q.2=0)) then bif isEq op then some false else bif Nat.beq op.ctorIdx 1 then some true else none else bif T.MR t then z6 op p.2 q.2 else none)
  λt'=>bif Nat.beq op.ctorIdx 5 then bif Nat.beq t' 0 then bif decide (q.2=0) then T.more t p.2 else none else none else none
def CF (T:Kn) (op:CmpOp) (x y:DV):Option Bool:=
 aZ (CC y) ((iG y).bind λb=>aZ (iG x) (bif qp x then bif isEq op then some false else none else none) λa=>adz op a b)
  λq=>aZ (CC x) (bif qp x then bif isEq op then some false else none else none) λp=>acN T op p q
def TF (T:Kn) (op:CmpOp) (x y:DV):Option Bool:=CmpOp.casesOn (motive:=λ_=>Option Bool) op (CF T .Eq x y) (CF T .NotEq x y) (CF T .Lt x y) (CF T .LtE x y) (CF T .Gt x y) (CF T .GtE x y) (isD x y) (Lb (isD x y)) (inD x y) (Lb (inD x y))
def Te (op:Operator) (x y:DV):Option DV:=aZ (iG x) (aZ (intD x) (Fq op x y) λa=>aZ (intD y) (Fq op x y) λb=>(binI op a b).bind λc=>some (.int c))
 λa=>(iG y).bind λb=>bif Nat.beq op.ctorIdx 0 then bif Nat.ble (a.length+b.length) 4194304 then some (.str (a++b)) else none else none
def adq (x:DV):Option (List DV):=aZ (zv x) (yp x) some
def YI (T:Kn) (x i:DV):Option DV:=
 aZ (sO x) (aZ (ID x) ((intD i).bind λi=>aZ (iG x) ((adq x).bind λl=>(idx i l.length).bind λn=>l[n]?) λl=>(idx i l.length).bind λn=>(l[n]?).bind λc=>some (.str [c]))
  λl=>(dictGet l i).bind λz=>z) λn=>(iF i).bind λp=>bif Nat.beq n 0 then(T.ch p.1 p.2).bind λc=>some (.str [c]) else none
def chars (T:Kn) (t:Nat) (n:Nat):Int->Option (List Nat):=
 Nat.rec (motive:=λ_=>Int->Option (List Nat)) (λ_=>some []) (λ_ ih k=>(T.ch t k).bind λc=>(ih (k+1)).bind λl=>some (c::l)) n
def slD (T:Kn) (x lo hi:DV):Option DV:=(sO x).bind λn=>(iF lo).bind λp=>(iF hi).bind λq=>
 bif Nat.beq n 0 then bif Nat.beq p.1 q.1 then bif decide (p.2<=q.2) then bif (T.ch p.1 p.2).isSome then(chars T p.1 (q.2 - p.2).toNat p.2).bind λl=>some (.str l) else none else none else none else none
def zW:Value->Option String:=iQ Value.ctorIdx 9 λv h=>@Value.builtin.elim (λ_=>String) v h id
def SI:Value->Option String:=iQ Value.ctorIdx 8 λv h=>@Value.type.elim (λ_=>String) v h id
def Oo (f:Value) (args:List DV):Option Res:=
 aZ (zW f) ((SI f).bind λn=>(dM args).bind λx=>aZ (ID x) ((iG x).bind λl=>(dM l).bind λc=>bif decide (n="int") then bif Nat.ble 48 c then bif Nat.ble c 57 then some (.pv (.int ((c - 48:Nat):Int))) else none else none else none)
  λl=>bif decide (n="list") then(q6 l).bind λl'=>bif decide (l'.map (·.1)).Nodup then bif Nat.ble l'.length 1000 then some (.fl (l'.map λp=>.int p.1)) else none else none else none)
  λn=>aZ (dM args) ((two2 args).bind λp=>(intD p.1).bind λa=>(intD p.2).bind λb=>bif decide (n="max") then some (.pv (.int (if b>a then b else a))) else none)
   λx=>(sO x).bind λk=>bif decide (n="len") then bif Nat.beq k 0 then some (.pv (.sint 0 0)) else none else none
section
variable {U:Program} {w:World} {V:Val} {T:Kn}
def Jy (x y:DV):On (λb=>fi U w V .In x y b/\fi U w V .NotIn x y (!b)) (inD x y):=
 (qE y).or (λl h=>h▸(ig (U:=U) (w:=w) l x).b λz hz=>hz _ λ_ _ _ _ _ _ _ D e1 e2 MZ e3=>e1▸e2▸e3▸⟨z8 D MZ,tw D MZ⟩)
   λ_=>(cT x).b λa ha=>ha▸(cT y).or (λb hb=>hb▸(bp a).b λc hc=>hc▸nY ..▸⟨jZ rfl,jZ rfl⟩)
    λ_=>(qP y).b λl hl=>hl▸(aY (strsOf l)).b λls h=>Np ..▸⟨z9 h,tA h⟩
def JH (x y:DV):On (λb=>fi U w V .Is x y b/\fi U w V .IsNot x y (!b)) (isD x y):=
 d7 (λc=>.mk λb h=>lW c▸⟨oU (.inl ⟨rfl,rfl⟩) λP G u v=>qI h P G u v,oU (.inr ⟨rfl,rfl⟩) λP G u v=>qI h P G u v⟩)
  λ_=>(k8 y).b λk hk=>hk▸.mk λb h=>⟨oU (.inl ⟨rfl,rfl⟩) λP G u v=>DC h P G u v,oU (.inr ⟨rfl,rfl⟩) λP G u v=>DC h P G u v⟩
def UN (a b:Nat):(!decide ([b]<[a]))=Nat.ble a b:=by
 cases h:Nat.ble a b with
 |true=>exact(Rl _).mpr (Hy λq=>by
  cases q with
  |cons q=>exact nomatch q
  |rel q=>exact xm.mpr (eP h) q)
 |false=>exact aQ not (HI (.rel (Nat.not_le.mp λq=>tf ((Nat.ble_eq.mpr q).symm.trans h))))
def QI (op:CmpOp) (a b:List Nat):On (fi U w V op (.str a) (.str b)) (adz op a b):=by
 cases op with
 |Eq=>exact jZ (aQ some (jo a b).symm)
 |NotEq=>exact jZ (aQ (λc=>some (!c)) (jo a b).symm)
 |LtE=>exact(bp a).b λc h=>(bp b).b λe h'=>h▸h'▸jZ (aQ some (UN c e))
 |_=>exact trivial
def vK {op:CmpOp} (h:isEq op=true):.Eq=op:=by cases op<;>first|rfl|exact ft h
def DG {op:CmpOp} {x y:DV} {a b a' b':Int} {c:Bool} (hx:intOf V x=some a') (hy:intOf V y=some b') (z:Int) (e:a'=z+a) (e':b'=z+b) (h:z6 op a b=some c):fi U w V op x y c:=lg hx hy (by rw[e,e',z7];exact h)
def O7 {op:CmpOp} (h:Nat.beq op.ctorIdx 1=true):.NotEq=op:=by cases op<;>first|rfl|exact ft h
def O5 {op:CmpOp} (h:Nat.beq op.ctorIdx 5=true):.GtE=op:=by cases op<;>first|rfl|exact ft h
def P7 (O:gX T V) {op:CmpOp} {x y:DV} {p q:Option Nat×Int} (hx:intOf V x=some (wM V p.1+p.2)) (hy:intOf V y=some (wM V q.1+q.2)):On (fi U w V op x y) (acN T op p q):=
 d7 (λc=>.mk λb h=>DG hx hy (wM V p.1) rfl (aQ (wM V · +q.2) (mQ c).symm) h) λ_=>(aY p.1).b λt et=>
  have hx:intOf V x=some (V.β t+p.2):=hx.trans (aQ (λo=>some (wM V o+p.2)) et)
  (aY q.1).or (λt' e'=>ak λc=>O5 c▸ak λc=>ak λc'=>.mk λb h=>lg hx (b:=V.β 0) (hy.trans (aQ some (by rw[e',mQ c',iT c];exact zE _))) (aQ some (O.more _ _ _ h).symm))
  λe'=>
   have hy:intOf V y=some q.2:=hy.trans (aQ some (by rw[e'];exact zN _))
   d7 (λc=>a2 (aw c) λc1 c=>a2 (aw c) λc2 c3=>
    have hy:intOf V y=some 0:=hy.trans (aQ some (mQ c3))
    have ne:V.β t+p.2≠0:=Int.ne_of_gt (Int.lt_of_lt_of_le (Int.lt_of_lt_of_le Int.zero_lt_one (O.pos _ c1)) (Int.le_add_of_nonneg_right (mQ c2)))
    d7 (λc=>vK c▸lg hx hy (aQ some (HG.mpr ne))) λ_=>ak λc=>O7 c▸lg hx hy (aQ some (bne_iff_ne.mpr ne)))
    λ_=>ak λc=>.mk λb h=>DG hx hy 0 (aQ (· +p.2) (O.MR _ c)) (zN _).symm h
def P6 (O:gX T V) (op:CmpOp) (x y:DV):On (fi U w V op x y) (CF T op x y):=
 (qK V y).or (λq hy=>(qK V x).or (λp hx=>P7 O hx hy) λ_=>ak λhx=>ak λho=>lW hx▸vK ho▸tv hy)
   λ_=>(cT y).b λb hb=>hb▸(cT x).or (λa ha=>ha▸QI op a b) λ_=>ak λhx=>ak λho=>lW hx▸vK ho▸vm
def El {P:Bool->Prop} {o:Option Bool} (h:On (λb=>P (!b)) o):On P (Lb o):=by cases o;exact trivial;exact h
def N4 (O:gX T V) (op:CmpOp) (x y:DV):On (fi U w V op x y) (TF T op x y):=by
 cases op with
 |Is=>exact(JH x y).up λ_ h=>h.1
 |IsNot=>exact El ((JH x y).up λ_ h=>h.2)
 |In=>exact(Jy x y).up λ_ h=>h.1
 |NotIn=>exact El ((Jy x y).up λ_ h=>h.2)
 |_=>exact P6 O _ x y
def N3 (O:gX T V) {op:CmpOp} {x y:DV} {b:Bool} (h:TF T op x y=some b):fi U w V op x y b:=(N4 O op x y).get h
def JF {op:Operator} (h:Nat.beq op.ctorIdx 0=true):.Add=op:=by cases op<;>first|rfl|exact ft h
def NB (op:Operator) (x y:DV):On (qf U w op x y) (Te op x y):=
 (cT x).or (λa ha=>(cT y).b λb hb=>ak λc=>ak λh=>JF c▸ha▸hb▸lN (eP h))
   λ_=>(bQ x).or (λa ha=>(bQ y).or (λb hb=>(aY (binI op a b)).b λc h=>ha▸hb▸jT h) λ_=>.mk λ_ h=>Dw h) λ_=>.mk λ_ h=>Dw h
def NA {op:Operator} {x y z:DV} (h:Te op x y=some z):qf U w op x y z:=(NB op x y).get h
def Qz (x:DV):On (λl=>.tup l=x\/.lst l=x) (adq x):=(qP x).or (λl h=>.inl h) λ_=>(kc x).up λl h=>.inr h
def QM (O:gX T V) (x i:DV):On (qg U w V x i) (YI T x i):=
 (jL x).or (λn h=>h▸(dx i).b λp h'=>h'▸ak λc=>(aY (T.ch p.1 p.2)).b λc' hc=>bx (O.ch _ _ _ hc) λ_ e1 e2=>iT c▸Yi e1 e2)
   λ_=>(qE x).or (λl h=>h▸(ig (U:=U) (w:=w) l i).b λz hz=>.mk λz' e=>hz _ λ_ _ _ _ _ _ _ D e1 e2 MZ e3=>e1▸e2▸ac9 D MZ (e3.trans e))
    λ_=>(bQ i).b λk hk=>hk▸(cT x).or (λl h=>h▸(aY (idx ..)).b λn h1=>(aY l[n]?).b λc h2=>LV h1 h2)
     λ_=>(Qz x).b λl h=>(aY (idx ..)).b λn h1=>.mk λz h2=>h.elim (λh=>h▸adg h1 h2) λh=>h▸EG h1 h2
def EX (O:gX T V) {x i z:DV} (h:YI T x i=some z):qg U w V x i z:=(QM O x i).get h
def Ig (O:gX T V) {t:Nat} (n:Nat):∀(k:Int) (l:List Nat) (a:Nat),chars T t n k=some l->V.β t+k=a->a<=(V.ς 0).length->a+n<=(V.ς 0).length/\l=((V.ς 0).drop a).take n:=by
 induction n with
 |zero=>exactλk l a h _ hl=>⟨hl,(eN h).symm.trans List.take_zero.symm⟩
 |succ n ih=>
  intro k l a h e _
  refine bx (pR (show(T.ch t k).bind (λc=>(chars T t n (k+1)).bind λl=>some (c::l))=some l from h)) λc h1 h=>bx (pR h) λl' h2 h=>bx (O.ch _ _ _ h1) λm e1 e2=>?_
  have em:m=a:=Int.ofNat.inj (e1.symm.trans e)
  have lt:a<(V.ς 0).length:=em▸(M8.mp e2).1
  have⟨i1,i2⟩:=ih (k+1) l' (a+1) h2 ((Hv ..).symm.trans (aQ (· +1) e)) (Nat.succ_le_of_lt lt)
  refine⟨Nb a 1 n▸i1,?_⟩
  rw[<-eN h,i2,List.drop_eq_getElem_cons lt,List.take_succ_cons,eN (e2.symm.trans ((aQ (λi=>(V.ς 0)[i]?) em).trans (zO lt)))]
def QN {z a b:Int} {m:Nat} (e:z+a=m) (h:a<=b):z+b=((m+(b - a).toNat:Nat):Int):=by rw[Int.natCast_add,aei (Int.sub_nonneg.mpr h),<-e];omega
def Yx (O:gX T V) (x lo hi:DV):On (Di U w V x lo hi) (slD T x lo hi):=
 (jL x).b λn hx=>(dx lo).b λp hl=>(dx hi).b λq hh=>ak λh1=>ak λh2=>ak λh3=>ak λh4=>(aY (chars ..)).b λl h=>fk (Zg.mp h4) λc hc=>bx (O.ch _ _ _ hc) λm e1 e2=>
   a2 (Ig O (q.2 - p.2).toNat p.2 l m h e1 (Rp (M8.mp e2).1)) λi1 i2=>
   hx▸hl▸hh▸⟨V.ς 0,m,m+(q.2 - p.2).toNat,aQ (λn=>some (V.ς n)) (iT h1),aQ some e1,aQ some (iT h2▸QN e1 (mQ h3)),Hx ..,i1,by rw[i2,Nat.add_sub_cancel_left]⟩
def Yw (O:gX T V) {x lo hi z:DV} (h:slD T x lo hi=some z):Di U w V x lo hi z:=(Yx O x lo hi).get h
def N9 (k:Fin 10):PySem.intText? ⟨⟨[48+k.val]⟩⟩=some (k.val:Int):=by revert k;decide+kernel
def Ac {c:Nat} (h1:48<=c) (h2:c<=57):PySem.intText? ⟨⟨[c]⟩⟩=some ((c - 48:Nat):Int):=
 (aQ (λc=>PySem.intText? ⟨⟨[c]⟩⟩) (Nat.add_sub_cancel' h1).symm).trans (N9 ⟨c - 48,(Nat.sub_lt_iff_lt_add h1).mpr (Nat.lt_succ_of_le h2)⟩)
def tY:∀f:Value,On (λn=>.builtin n=f) (zW f):=cH .builtin λv h=>@Value.builtin.elim (λv=>∀h,Value.builtin (@Value.builtin.elim (λ_=>String) v h id)=v) v h (λ_ _=>rfl) h
def MK:∀f:Value,On (λn=>.type n=f) (SI f):=cH .type λv h=>@Value.type.elim (λv=>∀h,Value.type (@Value.type.elim (λ_=>String) v h id)=v) v h (λ_ _=>rfl) h
def DX (O:gX T V) {Y:Base} (hV:Y.V=V) {C:Nat} (f:Value) (args:List DV):On (jQ U w C Y f args) (Oo f args):=
 (tY f).or (λn hf=>hf▸(bp args).or (λx hx=>hx▸(jL x).b λk hk=>hk▸ak λh1=>ak λh2=>mQ h1▸Cz (by rw[hV,iT h2];exact O.len.symm.trans (zE _).symm))
   λ_=>(two_on args).b λp hp=>(bQ p.1).b λa ha=>(bQ p.2).b λb hb=>ak λh1=>by rw[<-hp,<-ha,<-hb,mQ h1];exact R5 rfl)
   λ_=>(MK f).b λn hf=>(bp args).b λx hx=>hf▸hx▸(qE x).or (λl hl=>ak λh1=>(jx l).b λl' e=>ak λh2=>ak λh3=>by
    rw[<-hl,<-e,mQ h1];exact XD rU (mQ h2) (eP h3))
    λ_=>(cT x).b λl hl=>(bp l).b λc hc=>ak λh1=>ak λh2=>ak λh3=>by
     rw[<-hl,<-hc,mQ h1];exact ack (Ac (eP h2) (eP h3)) (by simp)
def aeE (O:gX T V) {Y:Base} (hV:Y.V=V) {C:Nat} {f:Value} {args:List DV} {r:Res} (h:Oo f args=some r):jQ U w C Y f args r:=(DX O hV f args).get h
end
section
variable (X:Cx) (F:HO)
def Z2 (as:List (Str×ae)) (x:Str):Option Nat:=aZ (aT as x) (X.B.bj X.C x) λk=>(uF k).bind λv=>(J6 v).bind λf=>bif X.B.R6 X.C x&&X.B.yg f then some f else none
def nB (e:Expr) (Z:aj):Option (Nat×List DV×aj):=
 (gS e).bind λc=>(vg c.1).bind λq=>bif c.2.2.1.isEmpty then bif cS q.1 then bif dW c.2.1 [] q.2.2 c.2.2.2 then(F.E q.1 Z).bind λs0=>bif o6 s0.1.rest then s0.2.aq.bind λas=>(Z2 X as q.2.1).bind λf=>(vr F c.2.1 s0.2).bind λa=>some (f,.self::a.1,a.2) else none else none else none else none
def tV (t v:Expr) (r:DV) (Z:aj):Option aj:=
 aZ (dY t) (aZ (Fs t) ((mF t).bind λes=>bif si v then(zv r).bind λvs=>(names X.sc es).bind λxs=>bif Nat.beq xs.length vs.length then some ⟨Z.aq,putAll Z.loc xs vs⟩ else none else none)
  λq=>(pF X Z q.1 q.2).bind λas=>bif Nat.ble as.length 900 then bif !fu.contains q.2||(aT as q.2).isNone then some ⟨some (bS as q.2 (.pv r)),Z.loc⟩ else none else none)
  λx=>bif fP X x then some ⟨Z.aq,bS Z.loc x (.pv r)⟩ else none
def ub:Stmt->Option Expr:=iQ Stmt.ctorIdx 24 λe h=>@Stmt.Expr.elim (λ_=>Expr) e h λv _=>v
def ve:Stmt->Option (List Expr×Expr):=iQ Stmt.ctorIdx 5 λe h=>@Stmt.Assign.elim (λ_=>List Expr×Expr) e h λts v _=>(ts,v)
def kr (st:Stmt):Expr:=Option.rec (motive:=λ_=>Expr) (Option.rec (motive:=λ_=>Expr) default (λq=>q.2) (ve st)) id (ub st)
def tM (st:Stmt) (r:DV) (Z:aj):Option aj:=
 aZ (ub st) ((ve st).bind λq=>(dM q.1).bind λt=>bif cZ q.2 then tV X t q.2 r Z else none) λv=>bif cZ v then some Z else none
def CI (x:Str) (st:Stmt) (Z:aj):Option (Pl×Expr):=
 (ub st).bind λv=>(nC v).bind λq=>(dM q.2.2.2.1).bind λe=>bif cS q.1 then bif dW [e] [] q.2.2.1 q.2.2.2.2 then bif cU q.2.1 x then(placeOf X Z q.1).bind λp=>((g9 Z p).bind vV).bind λ_=>bif p.fix then some (p,e) else none else none else none else none
def jw:Stmt->aj->Option (Pl×Expr):=CI X Ei
def xX:Stmt->aj->Option (Pl×Expr):=CI X Ej
end
section
def xW:∀st:Stmt,On (λv=>∃p,.Expr v p=st) (ub st):=eK (P:=λe c=>∃p,Stmt.Expr c p=e) λe h=>@Stmt.Expr.elim (λe=>∀h,∃p,Stmt.Expr (@Stmt.Expr.elim (λ_=>Expr) e h λv _=>v) p=e) e h (λ_ p _=>⟨p,rfl⟩) h
def jR:∀st:Stmt,On (λq=>∃p,.Assign q.1 q.2 p=st) (ve st):=eK (P:=λe (q:List Expr×Expr)=>∃p,Stmt.Assign q.1 q.2 p=e) λe h=>@Stmt.Assign.elim (λe=>∀h,(λq:List Expr×Expr=>∃p,Stmt.Assign q.1 q.2 p=e) (@Stmt.Assign.elim (λ_=>List Expr×Expr) e h λts v _=>(ts,v))) e h (λ_ _ p _=>⟨p,rfl⟩) h
variable {U:Program} {w:World} {Y:Base} {d:Nat} {X:Cx} {F:HO} (O:mR U w Y d X) (FO:qV U w X.C Y X.sc d F)
def Nu (O:mR U w Y d X) (as:List (Str×ae)) (x:Str):On (λf=>(X.B.bj X.C x=some f/\look as x=none)\/look as x=some (.pv (.bj f))/\v7 X.B.K X.C x=true/\fnIn X.B.K f=true) (Z2 X as x):=
 (aY (aT as x)).or (λk ek=>(iC k).b λv hv=>(yr v).b λf hm=>ak λh=>a2 (aw h) λh2 h3=>.inr ⟨(aG ..).symm.trans (ek.trans (aQ some (hv.symm.trans (aQ ae.pv hm.symm)))),O.t.R6 _ _ h2,O.t.yg _ h3⟩)
   λek=>(aY (X.B.bj X.C x)).up λf hm=>.inl ⟨hm,(aG ..).symm.trans ek⟩
include O FO
theorem Nt (e:Expr) (Z:aj):On (λq=>∀{r aX},af U w X.C Y d (.ref q.1) q.2.1 [] q.2.2.aq r aX->aC U w X.C Y X.sc d e Z r ⟨aX,q.2.2.loc⟩) (nB X F e Z):=
 (ic e).b λc h=>(qw c.1).b λq h'=>ak λz=>ak λh1=>ak λh2=>(fE FO q.1 Z).b λs0 h0=>ak λes=>(aY s0.2.aq).b λas ea=>(Nu O as q.2.1).b λf hf=>(fA FO _ _).b λa ha=>λhc=>h▸h'▸bT z▸hf.elim (λm=>sL O.t.T h1 h2 (O.t.bj _ _ _ m.1).1 (hW es▸h0.rest) ea m.2 ha .nil hc) λm=>mN O.t.T h1 h2 m.2.1 m.2.2 (hW es▸h0.rest) ea m.1 ha hc
theorem Nr {e:Expr} {Z aa:aj} {f:Nat} {vs:List DV} {r:DV} {aX:bU} (h:nB X F e Z=some (f,vs,aa)) (hc:af U w X.C Y d (.ref f) vs [] aa.aq r aX):aC U w X.C Y X.sc d e Z r ⟨aX,aa.loc⟩:=(Nt O FO e Z).get h hc
omit FO in
theorem vf {t v:Expr} {pos:Pos} {Z aa:aj} {r:DV} (hc:aC U w X.C Y X.sc d v Z r aa) (h1:cZ v=true):On (aU U w X.C Y X.sc d (.Assign [t] v pos) Z .next) (tV X t v r aa):=
 (dp t).or (λx h=>h▸ak λh2=>bk aa.loc x (.pv r)▸gx (r:=.pv r) hc.plain (aP h2) h1)
   λ_=>(nD t).or (λq h=>cV h λ_ _ h=>h▸(jJ O _ _ _).b λas m=>ak λh3=>ak λh4=>bk as q.2 (.pv r)▸Ms (r:=.pv r) O.t.T hc.plain h1 m.l m.s m.db m.ea m.c (Rq (eP h3) (by decide)) λhm=>(aG ..).symm.trans (SU.mp (oe h4 hm)))
   λ_=>(qQ t).b λes h=>cV h λ_ _ h=>h▸ak λh2=>(qP r).b λvs hv=>(aY (names X.sc es)).b λxs hx=>ak λh3=>pJ (hv▸hc) hx (iT h3) h1 (i9 h2)
omit FO in
theorem Qe {st:Stmt} {Z aa ba:aj} {r:DV} (hc:aC U w X.C Y X.sc d (kr st) Z r aa) (h:tM X st r aa=some ba):aU U w X.C Y X.sc d st Z .next ba:=
 On.get (P:=aU U w X.C Y X.sc d st Z .next) ((aY (ub st)).or (λv e=>ak λh1=>fk ((xW st).get e) λ_ e=>by subst e;exact EZ hc h1)
  λ_=>(jR st).b λq e=>(bp q.1).b λt e'=>ak λh1=>fk e λ_ e=>by rw[<-e'] at e;subst e;exact vf O hc h1) h
omit FO
theorem uC (x:Str) (st:Stmt) (Z:aj):On (λq=>∃o apos pos qr,.Expr (.Call (.Attribute o x apos) [q.2] [] pos) qr=st/\cS o=true/\dW [q.2] [] apos pos=true/\gB U w X.C Y X.sc d o Z q.1/\q.1.fix=true/\∃ly,q.1.get Z=some (.ml ly)) (CI X x st Z):=
 (xW st).b λv h=>(mU v).b λq h'=>(bp q.2.2.2.1).b λe FZ=>ak λg1=>ak λg2=>ak λg3=>(bZ O Z q.1).b λp hp=>(i7 (cw ..)).b λl0 e0=>ak λh4=>fk h λqr h=>⟨q.1,q.2.2.1,q.2.2.2.2,qr,by rw[<-h,<-h',<-FZ,(bF _ _).mp g3],g1,g2,hp.1,h4,l0,e0⟩
theorem xr {st:Stmt} {Z aa:aj} {p:Pl} {e:Expr} {v:DV} {l:List DV} (h:jw X st Z=some (p,e)) (hc:aC U w X.C Y X.sc d e Z v aa) (hl:p.get aa=some (.ml l)) (hz:l.length+1<=lim):aU U w X.C Y X.sc d st Z .next (p.set aa (.ml (l++[v]))):=
 cV ((uC O _ _ _).get h) λ_ _ q=>cV q λ_ _ q=>a6 q λe a b c f g=>e▸uS a b c f hc g hl hz
theorem IV {st:Stmt} {Z aa:aj} {p:Pl} {e:Expr} {l l':List DV} (h:xX X st Z=some (p,e)) (hc:aC U w X.C Y X.sc d e Z (.lst l') aa) (hl:p.get aa=some (.ml l)) (hz:l.length+l'.length<=lim):aU U w X.C Y X.sc d st Z .next (p.set aa (.ml (l++l'))):=
 cV ((uC O _ _ _).get h) λ_ _ q=>cV q λ_ _ q=>a6 q λe a b c f g=>e▸uT a b c f hc g hl hz
end
abbrev Tg:=Nat->Option (Nat×Int)
def Val.tag (V:Val) (θ:Tg):Val:=⟨λt=>Option.rec (motive:=λ_=>Int) (V.β t) (λp=>V.β p.1+p.2) (θ t),V.ς⟩
def Base.tag (b:Base) (θ:Tg):Base:=⟨b.hp,b.V.tag θ,b.sys⟩
def Q7 (θ:Tg) (t:Nat) (k:Int):DV:=Option.rec (motive:=λ_=>DV) (.sint t k) (λp=>.sint p.1 (p.2+k)) (θ t)
def DV.tg (θ:Tg) (d:DV):DV:=DV.rec (motive_1:=λ_=>DV) (motive_2:=λ_=>List DV) (motive_3:=λ_=>List (DV×DV)) (motive_4:=λ_=>List (Str×DV)) (motive_5:=λ_=>DV×DV) (motive_6:=λ_=>Str×DV)
 .any .rf .none .bool .int .str (Q7 θ) .gP (λ_=>.tup) (λ_=>.lst) (λ_=>.iK) (λc _=>.inst c) .self .cls .fn .bj [] (λ_ _ d l=>d::l) [] (λ_ _ p l=>p::l) [] (λ_ _ p l=>p::l) (λk _ _ d=>(k,d)) (λx _ d=>(x,d)) d
def oL (θ:Tg) (l:List DV):List DV:=l.map (DV.tg θ)
def ZA (θ:Tg) (l:List (DV×DV)):List (DV×DV):=l.map λp=>(p.1,p.2.tg θ)
def tgF (θ:Tg) (l:List (Str×DV)):List (Str×DV):=l.map λp=>(p.1,p.2.tg θ)
def MC (θ:Tg) (l:List DV):(DV.tup l).tg θ=.tup (oL θ l):=by
 refine aQ DV.tup ?_
 induction l with
 |nil=>rfl
 |cons d r ih=>exact aQ (d.tg θ::·) ih
def C8 (θ:Tg) (l:List DV):(DV.lst l).tg θ=.lst (oL θ l):=by
 refine aQ DV.lst ?_
 induction l with
 |nil=>rfl
 |cons d r ih=>exact aQ (d.tg θ::·) ih
def MB (θ:Tg) (l:List (DV×DV)):(DV.iK l).tg θ=.iK (ZA θ l):=by
 refine aQ DV.iK ?_
 induction l with
 |nil=>rfl
 |cons d r ih=>exact aQ ((d.1,d.2.tg θ)::·) ih
def E9 (θ:Tg) (c:Nat) (l:List (Str×DV)):(DV.inst c l).tg θ=.inst c (tgF θ l):=by
 refine aQ (DV.inst c) ?_
 induction l with
 |nil=>rfl
 |cons d r ih=>exact aQ ((d.1,d.2.tg θ)::·) ih
def nX (θ:Tg) (fs:List (Str×DV)) (x:Str):look (tgF θ fs) x=(look fs x).map (DV.tg θ):=f9 _ _ _
def ae.tg (θ:Tg) (k:ae):ae:=ae.casesOn (motive:=λ_=>ae) k (λv=>.pv (v.tg θ)) (λl=>.ml (oL θ l)) λl=>.md (ZA θ l)
def ae.wQ (θ:Tg) (k:ae):(k.tg θ).mut=k.mut:=by cases k<;>rfl
def kY (θ:Tg) (l:List (Str×ae)):List (Str×ae):=l.map λp=>(p.1,p.2.tg θ)
def jD (θ:Tg) (l:List (Str×ae)) (x:Str):look (kY θ l) x=(look l x).map (ae.tg θ):=f9 _ _ _
def xk (θ:Tg) (a:bU):bU:=a.map (kY θ)
def aj.tg (θ:Tg) (Z:aj):aj:=⟨xk θ Z.aq,kY θ Z.loc⟩
def au.tg (θ:Tg) (f:au):au:=au.casesOn (motive:=λ_=>au) f .next .brk .cont λv=>.ret (v.tg θ)
def SE (θ:Tg) (kw:List (Str×DV)):List (Str×DV):=kw.map λp=>(p.1,p.2.tg θ)
def Gh.jj (G:Gh) (V:Val):Gh:={G with V:=V}
abbrev Gh.tag (G:Gh) (θ:Tg):Gh:=G.jj (G.V.tag θ)
def zip_map {α β γ:Type} {R:γ->β->Prop} (f:α->γ) (l:List α) (m:List β):Zip R (l.map f) m↔Zip (λa=>R (f a)) l m:=by
 induction l generalizing m with
 |nil=>exact(oH m).trans (oH m).symm
 |cons a l ih=>exact(lL ih m).trans (lL (R:=λa=>R (f a)) (λ_=>Iff.rfl) m).symm
section
variable {P:Params} {G:Gh} {V:Val} {θ:Tg} {h:Heap} {O:Addr->Prop} {m:Str->Option Value}
def QB (t:Nat) (k:Int) (v:Value):DR P G (Q7 θ t k) v↔DR P (G.tag θ) (.sint t k) v:=by
 show DR P G (Option.rec (motive:=λ_=>DV) (.sint t k) (λp=>.sint p.1 (p.2+k)) (θ t)) v↔∃tk,v=.int (Option.rec (motive:=λ_=>Int) (G.V.β t) (λp=>G.V.β p.1+p.2) (θ t)+k) tk
 cases θ t with
 |none=>exact .rfl
 |some p=>exact(Hv (G.V.β p.1) p.2 k).symm▸Iff.rfl
def nI (d:DV):∀v,DR P G (d.tg θ) v↔DR P (G.tag θ) d v:=DV.ind (M:=λd=>∀v,DR P G (d.tg θ) v↔DR P (G.tag θ) d v) (λ_=>.rfl) (λ_=>.rfl) (λ_=>.rfl) (λ_ _=>.rfl) (λ_ _=>.rfl) (λ_ _=>.rfl) QB (λ_ _=>.rfl)
 (λl ih v=>MC θ l▸⟨λh=>h.mF λa vs n g z r=>.tup (G:=G.tag θ) g z (((zip_map ..).mp r).imp λd m b=>(ih d m b).mp),λh=>h.mF λa vs n g z r=>.tup (G:=G) g z ((zip_map ..).mpr (r.imp λd m b=>(ih d m b).mpr))⟩)
 (λl ih v=>C8 θ l▸⟨λh=>h.lu λa vs n g z r=>.lst (G:=G.tag θ) g z (((zip_map ..).mp r).imp λd m b=>(ih d m b).mp),λh=>h.lu λa vs n g z r=>.lst (G:=G) g z ((zip_map ..).mpr (r.imp λd m b=>(ih d m b).mpr))⟩)
 (λl ih v=>MB θ l▸⟨λh=>h.vo λa es n q g r=>.iK (G:=G.tag θ) q g (((zip_map ..).mp r).imp λd m b x=>⟨x.1,(ih d m _).mp x.2⟩),λh=>h.vo λa es n q g r=>.iK (G:=G) q g ((zip_map ..).mpr (r.imp λd m b x=>⟨x.1,(ih d m _).mpr x.2⟩))⟩)
 (λc fs ih v=>E9 θ c fs▸⟨λh=>h.nU λa d es n g g' k2 k1=>.inst (G:=G.tag θ) g g' (λx e=>k2 x ((nX ..).trans (aQ _ e))) λx dv e=>bx (k1 x _ ((nX ..).trans (aQ _ e))) λu e' q=>⟨u,e',(ih x dv e u).mp q⟩,
   λh=>h.nU λa d es n g g' k2 k1=>.inst (G:=G) g g' (λx e=>k2 x (Option.map_eq_none_iff.mp ((nX ..).symm.trans e))) λx dv e=>bx (xn.mp ((nX ..).symm.trans e)) λd' h1 h2=>bx (k1 x d' h1) λu e' q=>⟨u,e',h2▸(ih x d' h1 u).mpr q⟩⟩)
 (λ_=>.rfl) (λ_ _=>.rfl) (λ_ _=>.rfl) (λ_ _=>.rfl) d
def oY (l:List DV) (vs:List Value):eC P G (oL θ l) vs↔eC P (G.tag θ) l vs:=(zip_map ..).trans ⟨λr=>Zip.mono (λd v=>(nI d v).mp) r,λr=>Zip.mono (λd v=>(nI d v).mpr) r⟩
def IK (l:List (DV×DV)) (es:List DictEntry):qU P G (ZA θ l) es↔qU P (G.tag θ) l es:=(zip_map ..).trans ⟨λr=>Zip.mono (λd v x=>⟨x.1,(nI d.2 _).mp x.2⟩) r,λr=>Zip.mono (λd v x=>⟨x.1,(nI d.2 _).mpr x.2⟩) r⟩
def EP (k:ae) (v:Value):bD P G h O (k.tg θ) v↔bD P (G.tag θ) h O k v:=by
 cases k with
 |pv d=>exact nI d v
 |ml l=>exact⟨λx=>gq x λa vs n q=>a5 q λe g r z o=>⟨a,vs,n,e,g,(oY l vs).mp r,z,o⟩,λx=>gq x λa vs n q=>a5 q λe g r z o=>⟨a,vs,n,e,g,(oY l vs).mpr r,z,o⟩⟩
 |md l=>exact⟨λx=>DO x λa es n e g r o=>⟨a,es,n,e,g,(IK l es).mp r,o⟩,λx=>DO x λa es n e g r o=>⟨a,es,n,e,g,(IK l es).mpr r,o⟩⟩
def oB {sl:List (Str×ae)}:ck P G h O (kY θ sl) m↔ck P (G.tag θ) h O sl m:=
 have up:∀{y k},look sl y=some k->look (kY θ sl) y=some (k.tg θ):=λe=>(jD ..).trans (aQ _ e)
 ⟨λx=>⟨λy e=>x.miss y ((jD ..).trans (aQ _ e)),λy k e=>bx (x.hit y _ (up e)) λv h1 h2=>⟨v,h1,(EP k v).mp h2⟩,λy z ky kz ey ez my mz e=>x.once y z _ _ (up ey) (up ez) ((ae.wQ ..).trans my) ((ae.wQ ..).trans mz) e⟩,
   λx=>⟨λy e=>x.miss y (Option.map_eq_none_iff.mp ((jD ..).symm.trans e)),λy k e=>bx (xn.mp ((jD ..).symm.trans e)) λk' e1 e2=>bx (x.hit y k' e1) λv h1 h2=>⟨v,h1,e2▸(EP k' v).mpr h2⟩,
    λy z ky kz ey ez my mz e=>bx (xn.mp ((jD ..).symm.trans ey)) λa e1 e2=>bx (xn.mp ((jD ..).symm.trans ez)) λb e3 e4=>x.once y z a b e1 e3 ((ae.wQ ..).symm.trans ((aQ ae.mut e2).trans my)) ((ae.wQ ..).symm.trans ((aQ ae.mut e4).trans mz)) e⟩⟩
def Dt {C:Nat} {aq:bU}:Fp P C G h (xk θ aq)↔Fp P C (G.tag θ) h aq:=by
 cases aq with
 |none=>exact .rfl
 |some as=>
  have e:(kY θ as).length=as.length:=mG _
  exact⟨λx=>cV x λp d x=>cV x λes n A=>⟨p,d,es,n,A.par,A.inst,A.own,A.dict,e▸A.len,A.str,oB.mp A.sl⟩,λx=>cV x λp d x=>cV x λes n A=>⟨p,d,es,n,A.par,A.inst,A.own,A.dict,fb e▸A.len,A.str,oB.mpr A.sl⟩⟩
def DU (f:au) (r:Flow):dQ P G (f.tg θ) r↔dQ P (G.tag θ) f r:=by
 cases f with
 |ret d=>exact⟨λx=>bx x λv e q=>⟨v,e,(nI d v).mp q⟩,λx=>bx x λv e q=>⟨v,e,(nI d v).mpr q⟩⟩
 |_=>exact .rfl
def jM {G':Gh} (e:G'.V=V.tag θ):(G'.jj V).tag θ=G':=by
 obtain⟨V',g,p,a,l⟩:=G'
 cases e
 rfl
end
section
variable {U:Program} {w:World} {C:Nat} {Y:Base} {θ:Tg} {d:Nat} {sc:Scope} {G G':Gh} {L:Addr} {Z ba:aj} {s:Shared} {aq aX:bU} {P:Params}
def ow (e:G.V=Y.V):cu P C Y G (xk θ aq) s↔cu P C (Y.tag θ) (G.tag θ) aq s:=
 ⟨λR=>⟨R.pins,R.dU,aQ (·.tag θ) e,R.fM,R.fG,R.apart,Dt.mp R.attr⟩,λR=>⟨R.pins,R.dU,e,R.fM,R.fG,R.apart,Dt.mpr R.attr⟩⟩
def sv (e:G.V=Y.V):Rep P C Y G L (Z.tg θ) s↔Rep P C (Y.tag θ) (G.tag θ) L Z s:=
 ⟨λR=>⟨(ow e).mp R.tocu,R.fB,bx R.locs λm h q=>⟨m,h,oB.mp q⟩⟩,λR=>⟨(ow e).mpr R.tocu,R.fB,bx R.locs λm h q=>⟨m,h,oB.mpr q⟩⟩⟩
def Rep.tR (R:Rep P C (Y.tag θ) G' L Z s):Rep P C Y (G'.jj Y.V) L (Z.tg θ) s:=(sv rfl).mpr (fb (jM R.val)▸R)
def cu.tR (R:cu P C (Y.tag θ) G' aq s):cu P C Y (G'.jj Y.V) (xk θ aq) s:=(ow rfl).mpr (fb (jM R.val)▸R)
def DR.tR {x:DV} {v:Value} (e:G'.V=Y.V.tag θ) (q:DR P G' x v):DR P (G'.jj Y.V) (x.tg θ) v:=(nI x v).mpr (fb (jM e)▸q)
def Later.jj {O:Addr->Prop} {s':Shared} {V V':Val} (l:Later O (G.jj V) s G' s') (e:G.V=V'):Later O G s (G'.jj V') s':=⟨⟨e.symm,l.sub.g,l.sub.par⟩,l.qk,l.anew,l.pe,l.kept,l.tN,l.size,l.gens,l.os⟩
def aF.lC {l:List Stmt} {f:au} (h:aF U w C (Y.tag θ) sc d l Z f ba):aF U w C Y sc d l (Z.tg θ) (f.tg θ) (ba.tg θ):=λA G L s env ro eo R Q k=>
 h A (G.tag θ) L s env ro eo ((sv R.val).mp R) Q λG' r s' R' l q=>k _ r s' R'.tR (l.jj R.val) ((DU f r).mpr (fb (jM R'.val)▸q))
def aC.lC {e:Expr} {v:DV} (h:aC U w C (Y.tag θ) sc d e Z v ba):aC U w C Y sc d e (Z.tg θ) (v.tg θ) (ba.tg θ):=λA G L s env ro eo R Q k=>
 h A (G.tag θ) L s env ro eo ((sv R.val).mp R) Q λG' u s' R' l q=>k _ u s' R'.tR (l.jj R.val) (q.tR R'.val)
def bu.lC {e:Expr} {b:Bool} (h:bu U w C (Y.tag θ) sc d e Z b ba):bu U w C Y sc d e (Z.tg θ) b (ba.tg θ):=λA G L s env ro eo R Q k=>
 h A (G.tag θ) L s env ro eo ((sv R.val).mp R) Q λG' s' R' l=>k _ s' R'.tR (l.jj R.val)
def E7 (kw:List (Str×DV)):(SE θ kw).map (·.1)=kw.map (·.1):=List.map_map
def E8 (kw:List (Str×DV)):(SE θ kw).map (·.2)=oL θ (kw.map (·.2)):=by unfold SE oL;rw[List.map_map,List.map_map];rfl
def af.lC {f:Value} {args:List DV} {kw:List (Str×DV)} {r:DV} (h:af U w C (Y.tag θ) d f args kw aq r aX):af U w C Y d f (oL θ args) (SE θ kw) (xk θ aq) (r.tg θ) (xk θ aX):=λA G s vs ks ro R ha hk Q k=>
 fb (E7 kw)▸h A (G.tag θ) s vs ks ro ((ow R.val).mp R) ((oY ..).mp ha) ((oY ..).mp (E8 kw▸hk)) Q λG' v s' R' l e q=>k _ v s' R'.tR (l.jj R.val) e (q.tR R'.val)
def af.adN {f:Value} {args:List DV} {kw:List (Str×DV)} {r:DV} (h:af U w C Y d f (oL θ args) (SE θ kw) (xk θ aq) (r.tg θ) (xk θ aX)):af U w C (Y.tag θ) d f args kw aq r aX:=λA G s vs ks ro R ha hk Q k=>
 have b:=fb (jM R.val)
 E7 kw▸h A (G.jj Y.V) s vs ks ro R.tR ((oY ..).mpr (b▸ha)) (fb (E8 kw)▸(oY ..).mpr (b▸hk)) Q λG' v s' R' l e q=>k (G'.tag θ) v s' ((ow R'.val).mp R') ⟨⟨(aQ (·.tag θ) R'.val).trans R.val.symm,l.sub.g,l.sub.par⟩,l.qk,l.anew,l.pe,l.kept,l.tN,l.size,l.gens,l.os⟩ e ((nI r v).mp q)
end
def kfT:List Nat:=[690,706,713,813,806,792,799,698,820,1100,834,827,727,841,848,855,862,1278,1404,1382,1016,1023,1030,1177,1107,1114,1121,1128,1135,1142,1418,1411,1439,1432,1446,1361,1354,1347,1368,1375,1340,960,967,974,981,988,995,1002,1009,1037,1044,1051,1058,1065,1072,1079,1086,1093,1149,1156,1163,1170,1184,1191,1198,1205,1212,1521,1520,1281,1280,730,729,53,52,67,66,95,94,114,113,135,134,147,146,159,158,179,178,191,190,203,202,215,214,227,226,239,238,251,250,263,262,275,274,287,286,299,298,311,310,323,322,342,341,361,360,380,379,400,399,427,426,449,448,469,468,481,480,501,500,513,512,533,532,553,552,565,564,585,584,597,596,609,608,621,620,633,632,659,658,744,743,763,762,1293,1292,0,1,2,3,4,5,6,7,8,9,10,21,35,43,50,85,92,111,132,176,339,358,377,397,417,424,446,466,498,530,550,582,649,656,668,682,720,760,783,869,876,883,890,897,904,911,918,925,932,939,946,953,1222,1229,1236,1243,1250,1257,1264,1271,1312,1319,1326,1333,1389,1396,1425,1453,1461,1468,1475,1482,1489,1497,1504,1511,1518,1531,1538,1545,1550,1557,1564,1569,1296,1304,1519,768,1213,1215,1279,669,728,731,732,51,54,55,58,65,68,71,93,98,112,115,116,119,133,138,145,150,157,162,177,182,189,194,201,206,213,218,225,230,237,242,249,254,261,266,273,278,285,290,297,302,309,314,321,326,340,345,359,364,378,383,398,403,425,428,429,432,447,452,467,472,479,484,499,504,511,516,531,536,551,556,563,568,583,588,595,600,607,612,619,624,631,636,657,735,742,761,764,765,1284,1291,1524,20,34,36,42,49,78,84,91,110,131,169,175,338,357,376,390,396,410,416,423,439,445,459,465,491,497,523,529,543,549,575,581,648,655,667,681,683,689,691,697,699,705,712,719,726,759,782,776,785,791,798,805,812,819,826,833,840,847,854,861,868,875,882,889,896,903,910,917,924,931,938,945,952,959,966,973,980,987,994,1001,1008,1015,1022,1029,1036,1043,1050,1057,1064,1071,1078,1085,1092,1099,1106,1113,1120,1127,1134,1141,1148,1155,1162,1169,1176,1183,1190,1197,1204,1211,1221,1228,1235,1242,1249,1256,1263,1270,1277,1311,1305,1318,1325,1332,1339,1346,1353,1360,1367,1374,1381,1388,1395,1397,1403,1410,1417,1424,1431,1438,1445,1452,1454,1460,1467,1474,1481,1488,1490,1496,1503,1510,1517,1530,1537,1544,1549,1556,1563,1568]
def KF (H:Array Nat->Int):Frag:=kfT.map λa=>(a,((zL H).get a).getD o7)
def J7:List (Str×Nat):=[(aM,1312),(BZ,1319),(B1,1326),(B3,1333),(B5,1340),(B6,1347),(B7,1354),(B8,1361),(B9,1368),(Ca,1375),(Cb,1382),(Cc,1389),(Cd,1396),(Ce,1404),(Cf,1411),(Cg,1418),(Ci,1425),(Cj,1432),(Ck,1439),(Cm,1446),(Cn,1453),(Co,1461),(Cp,1468),(Cq,1475),(Cr,1482),(Cs,1489),(Ct,1497),(Cu,1504),(Cv,1511),(Cw,1518),(AL,792),(AM,799),(AN,806),(AP,813),(AQ,820),(AR,827),(AS,834),(AU,841),(AV,848),(AW,855),(AX,862),(AY,869),(AZ,876),(A0,883),(A1,890),(A2,897),(A3,904),(A4,911),(A5,918),(A6,925),(A7,932),(A8,939),(A9,946),(Ba,953),(Bb,960),(Bc,967),(Bd,974),(Be,981),(Bf,988),(Bg,995),(Bh,1002),(Bi,1009),(Bj,1016),(Bk,1023),(Bl,1030),(Bm,1037),(Bn,1044),(Bo,1051),(Bp,1058),(Bq,1065),(Br,1072),(Bs,1079),(Bu,1086),(Bv,1093),(Bw,1100),(Bx,1107),(By,1114),(Bz,1121),(BA,1128),(BB,1135),(BC,1142),(BD,1149),(BE,1156),(BF,1163),(BG,1170),(BH,1177),(BI,1184),(BJ,1191),(BK,1198),(BL,1205),(BM,1212),(BN,1222),(BO,1229),(BP,1236),(BQ,1243),(BR,1250),(BS,1257),(BU,1264),(BV,1271),(BW,1278),(AG,690),(sd,698),(AH,706),(AI,713),(AJ,720),(AK,727)]
def Yc:List Nat:=[53,114,135,147,159,179,191,203,215,227,239,251,263,275,287,299,311,323,342,361,380,400,427,449,469,481,501,513,533,553,565,585,597,609,621,633,763]
def RQ:List (Nat×Nat):=[(53,35),(114,111),(135,132),(147,111),(159,111),(179,176),(191,111),(203,111),(215,111),(227,111),(239,111),(251,111),(263,111),(275,111),(287,111),(299,111),(311,111),(323,111),(342,339),(361,358),(380,377),(400,397),(427,417),(449,446),(469,466),(481,417),(501,498),(513,417),(533,530),(553,550),(565,446),(585,582),(597,466),(609,417),(621,466),(633,417),(763,760)]
def vu:List Nat:=[21,35,111,132,176,339,358,377,397,417,446,466,498,530,550,582,668,682,690,698,706,713,720,727,760,783,792,799,806,813,820,827,834,841,848,855,862,869,876,883,890,897,904,911,918,925,932,939,946,953,960,967,974,981,988,995,1002,1009,1016,1023,1030,1037,1044,1051,1058,1065,1072,1079,1086,1093,1100,1107,1114,1121,1128,1135,1142,1149,1156,1163,1170,1177,1184,1191,1198,1205,1212,1222,1229,1236,1243,1250,1257,1264,1271,1278,1312,1326,1333,1340,1347,1354,1361,1368,1375,1382,1389,1396,1404,1411,1418,1425,1432,1439,1446,1453,1461,1468,1475,1482,1489,1497,1504,1511,1518,1531,1538,1545,1550,1557,1564,1569]
def gA:Str:=⟨#[115,99,114,105,112,116]⟩
def Z0 (xs:List Str):Nat->List (Str×Src):=List.rec (motive:=λ_=>Nat->List (Str×Src)) (λ_=>[]) (λx _ ih k=>(x,.arg k)::ih (k+1)) xs
def aI (f n:Nat) (xs:List Str):k6:=⟨f,n,[],Z0 xs 0⟩
def jt (f n:Nat) (k xs:List Str) (r:List (Str×Src)):k6:=⟨f,n,k,Z0 xs 0++r⟩
def lD:List k6:=[aI 1569 1 [gA],aI 682 2 [ag,nf],aI 783 2 [ag,nf],aI 1312 2 [ag,nf],aI 21 1 [PE],aI 35 7 [ag,iy,iN,pj,mB,n6,n7],aI 111 3 [ag,aK,bg],aI 132 5 [ag,iy,dX,aK,bg],jt 176 3 [kK] [ag,aK,bg] [(kK,.kw 0)],aI 339 4 [ag,dX,aK,bg],aI 358 4 [ag,dX,aK,bg],aI 377 4 [ag,dX,aK,bg],jt 397 5 [] [ag,dX,AD,aK,bg] [(fF,.dv .none .none)],aI 397 6 [ag,dX,AD,aK,bg,fF],aI 417 3 [ag,aK,bg],aI 446 4 [ag,ke,aK,bg],jt 466 6 [] [ag,ke,mC,pz,aK,bg] [(AE,.dv .none .none)],jt 466 6 [AE] [ag,ke,mC,pz,aK,bg] [(AE,.kw 0)],jt 498 3 [kK] [ag,aK,bg] [(kK,.kw 0)],jt 530 3 [n8] [ag,aK,bg] [(n8,.kw 0),(yx,.dv .none .none),(yy,.dv .none .none)],jt 530 3 [n8,yx,yy] [ag,aK,bg] [(n8,.kw 0),(yx,.kw 1),(yy,.kw 2)],jt 550 3 [n8] [ag,aK,bg] [(n8,.kw 0)],jt 582 7 [] [ag,ke,mC,pz,dX,aK,bg] [(fF,.dv .none .none)],jt 582 7 [fF] [ag,ke,mC,pz,dX,aK,bg] [(fF,.kw 0)],aI 668 1 [iO],jt 690 1 [] [ag] [(iN,.dv (.int (0)) (.int (0) 1211))],aI 690 2 [ag,iN],aI 698 2 [ag,gO],jt 706 1 [] [ag] [(gO,.dv (.int (1)) (.int (1) 1229))],aI 706 2 [ag,gO],aI 713 1 [ag],aI 720 2 [ag,Kx],aI 727 2 [ag,gO],aI 760 7 [ag,KH,KI,iN,pj,mB,pA],aI 792 2 [ag,abZ],aI 799 1 [ag],aI 806 1 [ag],aI 813 1 [ag],aI 820 1 [ag],aI 827 1 [ag],aI 834 1 [ag],aI 841 1 [ag],aI 848 1 [ag],aI 855 2 [ag,mB],aI 862 2 [ag,mB],aI 869 1 [ag],aI 876 1 [ag],aI 883 1 [ag],aI 890 1 [ag],aI 897 1 [ag],aI 904 2 [ag,yz],aI 911 1 [ag],aI 918 1 [ag],aI 925 2 [ag,yz],aI 932 1 [ag],aI 939 1 [ag],aI 946 2 [ag,yz],aI 953 1 [ag],aI 960 1 [ag],aI 967 1 [ag],aI 974 1 [ag],aI 981 1 [ag],aI 988 1 [ag],aI 995 1 [ag],aI 1002 1 [ag],aI 1009 1 [ag],jt 1016 1 [fF] [ag] [(fF,.kw 0)],aI 1023 1 [ag],aI 1030 1 [ag],jt 1037 1 [fF] [ag] [(fF,.kw 0)],aI 1044 1 [ag],aI 1051 1 [ag],aI 1058 1 [ag],aI 1065 1 [ag],aI 1072 1 [ag],aI 1079 1 [ag],aI 1086 1 [ag],aI 1093 1 [ag],aI 1100 1 [ag],aI 1107 1 [ag],aI 1114 2 [ag,aK],aI 1121 2 [ag,aK],aI 1128 2 [ag,aK],aI 1135 2 [ag,aK],aI 1142 2 [ag,aK],aI 1149 2 [ag,aK],aI 1156 2 [ag,aK],aI 1163 2 [ag,yz],aI 1170 1 [ag],aI 1177 2 [ag,fF],aI 1184 2 [ag,aK],aI 1191 2 [ag,aK],aI 1198 1 [ag],aI 1205 2 [ag,gH],aI 1212 2 [ag,fF],aI 1222 3 [ag,BY,aK],aI 1229 3 [ag,BY,aK],aI 1236 3 [ag,BY,aK],aI 1243 1 [ag],aI 1250 3 [ag,gH,aK],aI 1257 3 [ag,iy,aK],aI 1264 3 [ag,iy,aK],aI 1271 3 [ag,iy,aK],aI 1278 1 [ag],aI 1326 1 [ag],aI 1333 1 [ag],aI 1340 1 [ag],aI 1347 1 [ag],aI 1354 1 [ag],aI 1361 1 [ag],aI 1368 1 [ag],aI 1375 1 [ag],aI 1382 1 [ag],aI 1389 1 [ag],aI 1396 1 [ag],jt 1404 1 [] [ag] [(GK,.dv (.bool false) (.bool false)),(KV,.dv (.bool false) (.bool false))],jt 1404 1 [GK] [ag] [(GK,.kw 0),(KV,.dv (.bool false) (.bool false))],jt 1404 1 [GK,KV] [ag] [(GK,.kw 0),(KV,.kw 1)],aI 1411 1 [ag],aI 1418 1 [ag],aI 1425 1 [ag],aI 1432 1 [ag],aI 1439 1 [ag],aI 1446 1 [ag],aI 1453 1 [ag],jt 1461 1 [] [ag] [(yD,.dv (.bool false) (.bool false))],jt 1461 1 [yD] [ag] [(yD,.kw 0)],aI 1468 1 [ag],aI 1475 1 [ag],aI 1482 1 [ag],aI 1489 1 [ag],jt 1497 1 [] [ag] [(yD,.dv (.bool false) (.bool false))],jt 1497 1 [yD] [ag] [(yD,.kw 0)],aI 1504 1 [ag],aI 1511 1 [ag],aI 1518 2 [ag,pA],aI 1531 0 [],aI 1538 0 [],aI 1545 2 [fq,hE],aI 1550 6 [(⟨#[114,111,119,115]⟩:PySem.Str),(⟨#[99,108,111,115,101]⟩:PySem.Str),fF,(⟨#[108,101,97,115,116]⟩:PySem.Str),hE,(⟨#[110,108]⟩:PySem.Str)],aI 1557 1 [aci],aI 1564 1 [pB]]
def idT:List (Nat×Str×Nat):=[(135,U2,366),(147,U4,399),(159,U5,417),(179,U6,435),(191,U8,466),(203,U9,484),(215,Va,502),(227,Vb,520),(239,Vc,538),(251,Vd,556),(263,Ve,574),(275,Vf,592),(287,Vg,610),(299,Vh,628),(311,Vi,646),(323,Vj,664),(342,Vk,682),(361,Vm,713),(380,Vo,744),(400,Vq,775)]
def aW {α β:Type} {f g:α->β} {l:List α} (h:l.map f=l.map g):∀x∈l,f x=g x:=by
 induction l with
 |nil=>exactλ_ h=>nomatch h
 |cons a r ih=>exact a2 (List.cons.inj h) λh1 h2=>e9.mpr ⟨h1,ih h2⟩
def Qj {α:Type} (n:Nat) (V:Nat->α):List α:=(List.range n).map V
def EE {α:Type} (u:α) (l:List α):Qj l.length (l.getD · u)=l:=show(List.range l.length).map (l.getD · u)=l from List.ext_getElem (by rw[mG,List.length_range]) λi h1 h2=>by
 rw[List.getElem_map,List.getElem_range,Zd,zO h2];rfl
def rq (H:Array Nat->Int) (S:Setting) (V W:Nat->Value):lD.map (λr=>(fdOf (KF H) r.f).map λfd=>peek (KF H) S (bindArgs fd ⟨Qj r.n V,r.dh.zip (Qj r.dh.length W)⟩))=lD.map λr=>some (some (r.out.map λp=>(p.1,p.2.val (Qj r.n V) (Qj r.dh.length W)))):=KK
def G7 (H:Array Nat->Int):∀r∈lD,yR (KF H) r:=λr hr S fd vs ks hf h1 h2=>by
 have q:=aW (rq H S (vs.getD · .none) (ks.getD · .none)) r hr
 rw[<-h1,<-h2,EE,EE,hf] at q
 exact eN q
def Lx:List Str:=[iy,nf,KG,Kz,n6,n7,KA,KC,kK,iN,pj,mB,KO,KP,KS,GI,gH,KQ,KN,KR,KW,KZ,tL,KY,KX,GL]
def LH:List Str:=[iy,iN,pj,mB,n6,n7,aK,bg,dX,kK,AD,fF,ke,mC,pz,AE,n8,yx,yy,KH,KI,pA]
def globT:List (Str×DV):=[(Gm,.fn 21),(yu,.cls 53),(qq,.cls 67),(m9,.cls 95),(ph,.cls 114),(Gn,.cls 135),(Ka,.cls 147),(Kb,.cls 159),(Gr,.cls 179),(Kd,.cls 191),(Ke,.cls 203),(Kf,.cls 215),(Kg,.cls 227),(Kh,.cls 239),(Ki,.cls 251),(Kj,.cls 263),(Kk,.cls 275),(Kl,.cls 287),(Km,.cls 299),(Ko,.cls 311),(Kp,.cls 323),(Gs,.cls 342),(Gu,.cls 361),(Gv,.cls 380),(Gw,.cls 400),(tJ,.cls 427),(vZ,.cls 449),(v3,.cls 469),(yw,.cls 481),(Gx,.cls 501),(Kq,.cls 513),(Gy,.cls 533),(Gz,.cls 553),(Kr,.cls 565),(GA,.cls 585),(Ks,.cls 597),(Kt,.cls 609),(Ku,.cls 621),(Kv,.cls 633),(AF,.cls 659),(GD,.fn 668),(kf,.cls 730),(Kw,.cls 744),(GF,.cls 763),(bq,.cls 1281),(KU,.cls 1293),(eY,.cls 1521),(GN,.fn 1531),(GO,.fn 1538),(GP,.fn 1545),(K1,.fn 1550),(GQ,.fn 1557),(GR,.fn 1564),(K2,.fn 1569)]
def RT:List Nat:=[53,114,135,147,159,179,191,203,215,227,239,251,263,275,287,299,311,323,342,361,380,400,427,449,469,481,501,513,533,553,565,585,597,609,621,633,730,763,1281,1521,21,668,1531,1538,1545,1550,1557,1564,1569]
def K4:Str:=GL
def nId:Str:=Zt
def R4:Str:=W4
def zV:List (Str×Value):=[(n34,.builtin "len"),(n68,.type "list"),(n67,.type "int"),(n36,.builtin "max"),(n30,.builtin "isinstance"),(n71,.type "range"),(n62,.type "enumerate"),(n76,.type "str")]
def refOf (v:DV):Value:=Option.rec (motive:=λ_=>Value) .none .ref (mW v)
def X0 (H:Array Nat->Int):vu.all (Ak (KF H))=true:=KK
def P2 (H:Array Nat->Int):lD.all (wo (KF H))=true:=KK
def P1 (H:Array Nat->Int):RQ.all (λp=>lY (KF H) p.1 p.2)=true:=KK
def Es (H:Array Nat->Int):J7.all (λp=>CT (KF H) 1521 p.1 p.2&&(oy (KF H) 1521 p.1 p.2&&fnIn (KF H) p.2))=true:=KK
def Lq (H:Array Nat->Int):(bN (KF H) 1521&&Lx.all (λx=>d9 (KF H) 1521 x&&hH (KF H) 1521 x))=true:=KK
def Et (H:Array Nat->Int):Yc.all (λc=>bN (KF H) c&&LH.all (λx=>d9 (KF H) c x&&hH (KF H) c x))=true:=KK
def Ls (H:Array Nat->Int):(v7 (KF H) 1521 K4&&jl (KF H) 1521 R4 (.ref 1304))=true:=KK
def acM (H:Array Nat->Int):idT.all (λp=>jl (KF H) p.1 nId (.str p.2.1 p.2.2)&&vk (KF H) p.1 nId (.str p.2.1 p.2.2))=true:=KK
def PX (H:Array Nat->Int):globT.all (λp=>(mW p.2).isSome&&nsIn (KF H) mainGlobals p.1==some (some (refOf p.2)))=true:=KK
def PZ (H:Array Nat->Int):RT.all (λa=>keepIn (KF H) (.ref a))=true:=KK
def Lr (H:Array Nat->Int):zV.all (λp=>nsIn (KF H) mainGlobals p.1==some none&&(bootBuiltins p.1==some p.2&&(!(p.1==("__name__":Str))&&noRef p.2)))=true:=KK
def fJ {x:Nat} {l:List Nat} (h:bc x l=true):x∈l:=mQ ((nY x l).symm.trans h)
def TS:List Nat:=[501,513,533,553,585,597,609,621,633]
def ahq (K:Frag) (c:Nat):Bool:=plainGet K c "__class__"&&(hasDictIn K c&&(findIn K (.ref c) "__class__"==some (some (.builtin "object.__class__"))&&(specialIn K (.builtin "object.__class__") "__get__"==some (some (.builtin "getset_descriptor.__get__"))&&(takesIn K (.builtin "object.__class__")==some true&&mroIn K c (.type "object")==some true))))
def X1 (H:Array Nat->Int):TS.all (λc=>ahq (KF H) c)=true:=KK
def PY (H:Array Nat->Int):TS.all (λc=>TS.all λk=>kitOne (KF H) (.ref c) (.ref k)==some (Nat.beq c k))=true:=KK
def Uu (f:Value) (args:List DV):Option Res:=(zW f).bind λn=>(two2 args).bind λp=>(uq p.1).bind λq=>(N1 p.2).bind λk=>bif decide (n="isinstance") then bif bc q.1 TS then bif bc k TS then some (.pv (.bool (Nat.beq q.1 k))) else none else none else none
section
variable {U:Program} {w:World} {Y:Base} {C:Nat}
def Pa (T:cQ (KF w.params.strHash) Y) {c k:Nat} {fs:List (Str×DV)} (hc:c∈TS) (hk:k∈TS):jQ U w C Y (.builtin "isinstance") [.inst c fs,.cls k] (.pv (.bool (Nat.beq c k))):=λA G L Z s us ro R hd Q kk=>
 a2 (aw (gj.mp (X1 w.params.strHash) c hc)) λg1 e=>a2 (aw e) λg2 e=>a2 (aw e) λg3 e=>a2 (aw e) λg4 e=>a2 (aw e) λg5 g6=>
 hd.fz λu _ d1 d2=>d2.fz λv _ d3 d4=>d4.jr (d3.N2 (d1.nU λa dd es n h1 h2 _ _=>kia_one (kitx_own g1 g2 (iI.mp g3) (iI.mp g4) (iI.mp g5) (iI.mp g6)) (fm T R) ⟨R.pins _ _ h1,rfl,rfl,R.pins _ _ h2⟩ (iI.mp (gj.mp (gj.mp (PY w.params.strHash) c hc) k hk)) (λe=>nomatch e)
  λ_=>kk _ _ R.toks bb rfl))
def O9 (T:cQ (KF w.params.strHash) Y) (f:Value) (args:List DV):On (jQ U w C Y f args) (Uu f args):=
 (tY f).b λn hn=>(two_on args).b λp hp=>(nT p.1).b λq hq=>(qB p.2).b λk hk=>ak λh1=>ak λh2=>ak λh3=>hn▸hp▸hq▸hk▸mQ h1▸Pa T (fJ h2) (fJ h3)
end
def J5 (x:Str) (l:List Str):Bool:=List.rec (motive:=λ_=>Bool) false (λh _ ih=>bif cU h x then true else ih) l
def vU {x:Str} {l:List Str} (h:J5 x l=true):x∈l:=by
 induction l with
 |nil=>exact ft h
 |cons a r ih=>
  revert h
  show(bif cU a x then true else J5 x r)=true->_
  cases c:cU a x with
  |true=>exactλ_=>(bF _ _).mp c▸.head _
  |false=>exactλh=>.tail _ (ih h)
def mT {α:Type} (l:List (Nat×α)) (k:Nat):Option α:=List.rec (motive:=λ_=>Option α) none (λp _ ih=>bif Nat.beq p.1 k then some p.2 else ih) l
def tW {α:Type} (l:List (Nat×α)) (k:Nat):On (λv=>(k,v)∈l) (mT l k):=List.rec (motive:=λl=>On (λv=>(k,v)∈l) (mT l k)) trivial (λp r ih=>d7 (λc=>iT c▸.head _) λ_=>ih.up λ_=>.tail _) l
def rZ {α:Type} (l:List (Str×α)) (x:Str):On (λv=>(x,v)∈l) (aT l x):=List.rec (motive:=λl=>On (λv=>(x,v)∈l) (aT l x)) trivial (λp r ih=>d7 (λc=>(bF _ _).mp c▸.head _) λ_=>ih.up λ_=>.tail _) l
def acU:List Nat:=[827,834]
def Sz:List (Str×DV):=[(GJ,M1 GJ),(W5,M1 W6)]
def XC:Str:=n34
def rR:List Nat:=[690,698,706,713,720,727,792,799,806,813,820,827,834,841,848,855,862,869,876,883,890,897,904,911,918,925,932,939,946,953,960,967,974,981,988,995,1002,1009,1016,1023,1030,1037,1044,1051,1058,1065,1072,1079,1086,1093,1100,1107,1114,1121,1128,1135,1142,1149,1156,1163,1170,1177,1184,1191,1198,1205,1212,1222,1229,1236,1243,1250,1257,1264,1271,1278,1312,1319,1326,1333,1340,1347,1354,1361,1368,1375,1382,1389,1396,1404,1411,1418,1425,1432,1439,1446,1453,1461,1468,1475,1482,1489,1497,1504,1511,1518]
def Nv (C:Nat) (x:Str):Bool:=bif Nat.beq C 1521 then J5 x Lx else bc C Yc&&J5 x LH
def idB (c:Nat) (x:Str):Option DV:=bif cU nId x then(mT idT c).bind λp=>some (M1 p.1) else none
def tabs (H:Array Nat->Int) (T:Kn) (spec:Nat->Nat->Nat->List DV->List (Str×DV)->bU->Option (DV×bU)):tq where
 K:=KF H
 fns:=λf=>bc f vu
 pure:=λf=>bc f acU
 dim:=λf=>Nat.beq f 713
 rows:=lD
 yQ:=λc=>mT RQ c
 glob:=λx=>aT globT x
 kept:=λa=>bc a RT
 nE:=λx=>aT zV x
 yl:=λx=>cU XC x
 vh:=Nv
 bj:=λC x=>bif Nat.beq C 1521 then aT J7 x else none
 yg:=λf=>bc f rR
 R6:=λC x=>Nat.beq C 1521&&cU K4 x
 uI:=λC x=>bif Nat.beq C 1521&&cU R4 x then some (.iK (dl M1 Sz)) else none
 CM:=Nv
 G2:=idB
 FC:=idB
 cmp:=TF T
 bin:=Te
 M0:=Fq
 sub:=YI T
 sl:=slD T
 T1:=λf args=>aZ (Uu f args) (Oo f args) some
 spec:=spec
def abi:Value->Option (Int×Tok):=iQ Value.ctorIdx 4 λv h=>@Value.int.elim (λ_=>Int×Tok) v h Prod.mk
def O4:∀v:Value,On (λp=>.int p.1 p.2=v) (abi v):=cH (λp:Int×Tok=>Value.int p.1 p.2) λv h=>@Value.int.elim (λv=>∀h,(λp:Int×Tok=>Value.int p.1 p.2) (@Value.int.elim (λ_=>Int×Tok) v h Prod.mk)=v) v h (λ_ _ _=>rfl) h
def Yz (v:DV) (u:Value):Bool:=bif qp v then u==.none else Option.rec (motive:=λ_=>Bool) (gY (intD v) λi=>gY (abi u) λp=>i==p.1) (λb=>u==.bool b) (mI v)
def QD {P:Params} {G:Gh} {v:DV} {u:Value}:Yz v u=true->DR P G v u:=by
 unfold Yz
 cases c:qp v with
 |true=>exactλh=>lW c▸iI.mp h
 |false=>
  cases b:mI v with
  |some b'=>exactλh=>(k8 v).get b▸iI.mp h
  |none=>exactλh=>bx (dN h) λi e h=>bx (dN h) λp e' h=>(bQ v).get e▸⟨p.2,((O4 u).get e').symm.trans (aQ (Value.int · p.2) (iI.mp h).symm)⟩
def aiO (s:Src):Bool:=Src.casesOn (motive:=λ_=>Bool) s (λ_=>true) (λ_=>true) Yz
def QE:(lD.all λr=>r.out.all λp=>aiO p.2)=true:=KK
def Q3 {w:World} {Y:Heap} (hK:(KF w.params.strHash).In Y) (G:Gh) (hb:∀b o,Y.get? b=some o->G.g b=some o):DR w.params G (.iK (dl M1 Sz)) (.ref 1304):=
 .iK (es:=[eS w.params.strHash GJ 2128 (vS GJ 2129),eS w.params.strHash W5 2130 (vS W6 2131)]) (n:=2) (by decide) (hb _ _ (hK _ _ KK)) (.cons ⟨⟨by decide,_,rfl,rfl⟩,.str _ _ (by decide)⟩ (.cons ⟨⟨by decide,_,rfl,rfl⟩,.str _ _ (by decide)⟩ .nil))
def OR:idT.all (λp=>bc p.1 Yc&&Nat.ble p.2.1.cps.toList.length 4194304)=true:=KK
def O8:rR.all (λf=>gY (J7.find? λp=>Nat.beq p.2 f) λ_=>true)=true:=KK
def Ge:aT zV XC=some (.builtin "len"):=KK
def FY {P:Params} {G:Gh} {v:DV} (h:(mW v).isSome=true):DR P G v (refOf v):=by
 unfold refOf
 cases e:mW v with
 |none=>rw[e] at h;exact ft h
 |some a=>exact On.get (P:=λa=>DR P G v (.ref a)) ((qB v).or (λa h=>h▸DR.cls (P:=P) (G:=G) a) λ_=>(I3 v).up λa h=>h▸DR.fn (P:=P) (G:=G) a) e
section
variable {U:Program} {w:World} {Y:Base} {T:Kn} {spec:Nat->Nat->Nat->List DV->List (Str×DV)->bU->Option (DV×bU)}
def Ds {H:Array Nat->Int} {C:Nat} {x:Str}:Nv C x=true->bN (KF H) C=true/\d9 (KF H) C x=true/\hH (KF H) C x=true:=by
 unfold Nv
 cases c:Nat.beq C 1521 with
 |true=>exactλh=>a2 (aw (Lq H)) λb1 b2=>fb (iT c)▸⟨b1,aw (gj.mp b2 x (vU h))⟩
 |false=>exactλh=>a2 (aw h) λh1 h2=>a2 (aw (gj.mp (Et H) C (fJ h1))) λb1 b2=>⟨b1,aw (gj.mp b2 x (vU h2))⟩
def Jv (H:Array Nat->Int) (c:Nat) (x:Str):On (λv=>∃u,bN (KF H) c=true/\jl (KF H) c x u=true/\vk (KF H) c x u=true/\∀(P:Params) (G:Gh),DR P G v u) (idB c x):=
 ak λh=>(tW idT c).b λp m=>a2 (aw (gj.mp (acM H) _ m)) λb1 b2=>a2 (aw (gj.mp OR _ m)) λb3 b4=>(bF _ _).mp h▸⟨.str p.1 p.2,(aw (gj.mp (Et H) c (fJ b3))).1,b1,b2,λP G=>.str _ _ (eP b4)⟩
def tabs_ok (T0:cQ (KF w.params.strHash) Y) (O:gX T Y.V) (abc:∀n C f args kw aq r aX,spec n C f args kw aq=some (r,aX)->af U w C Y (n+1) (.ref f) args kw aq r aX):TabsOk U w Y (tabs w.params.strHash T spec) where
 T:=T0
 fns:=λf h=>gj.mp (X0 _) f (fJ h)
 rows:=λr hr=>⟨gj.mp (P2 _) r hr,G7 _ r hr,λx v u m G _=>QD (gj.mp (gj.mp QE r hr) _ m)⟩
 yQ:=λc fI h=>gj.mp (P1 _) _ ((tW ..).get h)
 glob:=λx v h=>a2 (aw (gj.mp (PX w.params.strHash) _ ((rZ ..).get h))) λg e=>⟨refOf v,iI.mp e,λG _=>FY g⟩
 kept:=λa h=>gj.mp (PZ _) a (fJ h)
 nE:=λx f h=>a2 (aw (gj.mp (Lr w.params.strHash) _ ((rZ ..).get h))) λe1 e=>a2 (aw e) λe2 e=>a2 (aw e) λe3 e4=>⟨iI.mp e1,iI.mp e2,Rl _▸e3,e4⟩
 yl:=λx h=>(bF XC x).mp h▸Ge
 vh:=λ_ _=>Ds
 bj:=λC x f h=>a2 (RD h) λh1 h=>a2 (aw (gj.mp (Es w.params.strHash) _ ((rZ ..).get h))) λb1 b2=>fb (iT h1)▸⟨b1,(aw b2).1⟩
 yg:=λf h=>bx (dN (gj.mp O8 f (fJ h))) λp e _=>iT (List.find?_some (p:=λp:Str×Nat=>Nat.beq p.2 f) e)▸(aw (aw (gj.mp (Es w.params.strHash) p (List.mem_of_find?_eq_some e))).2).2
 R6:=λC x h=>a2 (aw h) λh1 h2=>fb (iT h1)▸(bF _ _).mp h2▸(aw (Ls _)).1
 uI:=λC x v h=>a2 (RD h) λh1 h=>a2 (aw h1) λh1 h2=>fb (iT h1)▸(bF _ _).mp h2▸eN h▸⟨.ref 1304,(aw (Lq _)).1,(aw (Ls _)).2,λG hb=>Q3 T0.Jz G hb⟩
 CM:=λ_ _ h=>a3 (Ds h) λa b _=>⟨a,b⟩
 G2:=λc x v h=>fk ((Jv w.params.strHash c x).get h) λu q=>a4 q λb1 b2 _ b4=>⟨u,b1,b2,λG _=>b4 _ G⟩
 FC:=λc x v h=>fk ((Jv w.params.strHash c x).get h) λu q=>a4 q λ_ _ b3 b4=>⟨u,b3,λG _=>b4 _ G⟩
 cmp:=λ_ _ _ _ h=>N3 O h
 bin:=λ_ _ _ _ h=>NA h
 M0:=λ_ _ _ _ h=>O1 h
 sub:=λ_ _ _ h=>EX O h
 sl:=λ_ _ _ _ h=>Yw O h
 T1:=λ_ f args r h=>On.get (P:=jQ U w _ Y f args) (o:=aZ (Uu f args) (Oo f args) some) ((O9 T0 f args).or (f:=some) (λ_ h=>h) λ_=>DX O rfl f args) h
 spec:=abc
end
def XK (l:List Nat) (n:Nat):Option Nat:=List.rec (motive:=λ_=>Nat->Option Nat) (λ_=>none) (λc _ ih n=>Nat.rec (motive:=λ_=>Option Nat) (some c) (λm _=>ih m) n) l n
def Em (l:List Nat):∀n:Nat,XK l n=l[n]?:=by
 induction l with
 |nil=>exactλn=>rfl
 |cons c r ih=>exactλn=>by cases n;exact rfl;exact ih _
def GU (k:Int):Option Nat:=Int.casesOn (motive:=λ_=>Option Nat) k some λ_=>none
def n9 (k:Int):On (λn:Nat=>(n:Int)=k) (GU k):=by cases k<;>first|exact rfl|exact trivial
def Pz {p n l m:Nat} (a2:p+l<=m) (c:Nat.blt n l=true):false=decide ((m:Int)<=(p:Int)+n):=(Hy λh=>xm.mpr (zM.mp h) (qu (Nat.add_lt_add_left (eP c) p) a2)).symm
def eZ:Nat->Nat->Nat->List DV->List (Str×DV)->bU->Option (DV×bU):=λ_ _ _ _ _ _=>none
structure Rs where
 tokens:List DV
 keys:List (DV×DV)
 taken:DV
 indent:DV
 lV:List DV
 allow:DV
 done:DV
 state:DV
 pI:List DV
 marks:List DV
 ev:DV
 tags:ae
 yv:DV
def iB (p l c:DV) (r:Rs):List (Str×ae):=[(n7,.pv p),(n6,.pv (.gP 0)),(iN,.pv p),(pj,.pv l),(mB,.pv c),(KS,.ml r.tokens),(KP,.pv (.int 0)),(KR,.md r.keys),(GI,.pv r.taken),(gH,.pv r.indent),(KQ,.ml r.lV),(KN,.pv r.allow),(KO,.pv r.done),(nf,.pv .none),(KA,.pv .none),(iy,.pv .any),(GL,.pv r.state),(KY,.ml r.pI),(KX,.ml r.marks),(KW,.pv r.ev),(tL,r.tags),(KZ,.pv r.yv),(kK,.pv .none),(Kz,.pv (.bool true)),(KG,.pv (.int 0)),(KC,.pv .none)]
abbrev aN (b lt:Nat) (k j c:Int) (r:Rs):bU:=some (iB (.sint b k) (.sint lt j) (.int c) r)
def Rs.tg (θ:Tg) (r:Rs):Rs:=⟨oL θ r.tokens,ZA θ r.keys,r.taken.tg θ,r.indent.tg θ,oL θ r.lV,r.allow.tg θ,r.done.tg θ,r.state.tg θ,oL θ r.pI,oL θ r.marks,r.ev.tg θ,r.tags.tg θ,r.yv.tg θ⟩
def air (θ:Tg) (p l c:DV) (r:Rs):kY θ (iB p l c r)=iB (p.tg θ) (l.tg θ) (c.tg θ) (r.tg θ):=rfl
def DV.clean (d:DV):Bool:=DV.rec (motive_1:=λ_=>Bool) (motive_2:=λ_=>Bool) (motive_3:=λ_=>Bool) (motive_4:=λ_=>Bool) (motive_5:=λ_=>Bool) (motive_6:=λ_=>Bool)
 true true true (λ_=>true) (λ_=>true) (λ_=>true) (λt _=>Nat.ble 16 t) (λ_=>true) (λ_ b=>b) (λ_ b=>b) (λ_ b=>b) (λ_ _ b=>b) true (λ_=>true) (λ_=>true) (λ_=>true)
 true (λ_ _ a b=>a&&b) true (λ_ _ a b=>a&&b) true (λ_ _ a b=>a&&b) (λ_ _ _ b=>b) (λ_ _ b=>b) d
def ie (l:List DV):Bool:=(DV.tup l).clean
def oQ (l:List (DV×DV)):Bool:=(DV.iK l).clean
def Ih (l:List (Str×DV)):Bool:=(DV.inst 0 l).clean
def ae.clean (k:ae):Bool:=ae.casesOn (motive:=λ_=>Bool) k DV.clean ie oQ
def low (θ:Tg):Prop:=∀t,16<=t->θ t=none
def t8 {α:Type} {a b:α} {l m:List α} (h:a=b) (k:l=m):a::l=b::m:=by rw[h,k]
section
variable {θ:Tg} (h:low θ)
include h
theorem DV.bO {d:DV}:d.clean=true->d.tg θ=d:=
 DV.rec (motive_1:=λd=>d.clean=true->d.tg θ=d) (motive_2:=λl=>ie l=true->oL θ l=l) (motive_3:=λl=>oQ l=true->ZA θ l=l) (motive_4:=λl=>Ih l=true->tgF θ l=l) (motive_5:=λp=>p.2.clean=true->p.2.tg θ=p.2) (motive_6:=λp=>p.2.clean=true->p.2.tg θ=p.2)
  (λ_=>rfl) (λ_=>rfl) (λ_=>rfl) (λ_ _=>rfl) (λ_ _=>rfl) (λ_ _=>rfl) (λt k q=>by show Q7 θ t k=_;rw[Q7,h t (eP q)]) (λ_ _=>rfl)
  (λl ih q=>(MC θ l).trans (aQ DV.tup (ih q))) (λl ih q=>(C8 θ l).trans (aQ DV.lst (ih q))) (λl ih q=>(MB θ l).trans (aQ DV.iK (ih q))) (λc l ih q=>(E9 θ c l).trans (aQ (DV.inst c) (ih q)))
  (λ_=>rfl) (λ_ _=>rfl) (λ_ _=>rfl) (λ_ _=>rfl) (λ_=>rfl) (λd r a b q=>a2 (aw (b:=ie r) q) λx y=>t8 (a x) (b y)) (λ_=>rfl) (λp r a b q=>a2 (aw (b:=oQ r) q) λx y=>t8 (b:=p) (aQ (Prod.mk p.1) (a x)) (b y))
  (λ_=>rfl) (λp r a b q=>a2 (aw (b:=Ih r) q) λx y=>t8 (b:=p) (aQ (Prod.mk p.1) (a x)) (b y)) (λ_ _ _ b=>b) (λ_ _ b=>b) d
theorem gy {l:List DV} (q:ie l=true):oL θ l=l:=by
 induction l with
 |nil=>rfl
 |cons d r ih=>exact a2 (aw (b:=ie r) q) λx y=>t8 (DV.bO h x) (ih y)
theorem uV {l:List (DV×DV)} (q:oQ l=true):ZA θ l=l:=by
 induction l with
 |nil=>rfl
 |cons d r ih=>exact a2 (aw (b:=oQ r) q) λx y=>t8 (b:=d) (aQ (Prod.mk d.1) (DV.bO h x)) (ih y)
theorem ae.bO {k:ae} (q:k.clean=true):k.tg θ=k:=by
 cases k with
 |pv v=>exact aQ ae.pv (DV.bO h q)
 |ml l=>exact aQ ae.ml (gy h q)
 |md l=>exact aQ ae.md (uV h q)
end
def Rs.clean (r:Rs):Bool:=ie r.tokens&&(oQ r.keys&&(r.taken.clean&&(r.indent.clean&&(ie r.lV&&(r.allow.clean&&(r.done.clean&&(r.state.clean&&(ie r.pI&&(ie r.marks&&(r.ev.clean&&(r.tags.clean&&r.yv.clean)))))))))))
def Rs.bO {θ:Tg} (h:low θ) {r:Rs} (q:r.clean=true):r.tg θ=r:=
 a2 (aw q) λb1 q=>a2 (aw q) λb2 q=>a2 (aw q) λb3 q=>a2 (aw q) λb4 q=>a2 (aw q) λb5 q=>a2 (aw q) λb6 q=>a2 (aw q) λb7 q=>a2 (aw q) λb8 q=>a2 (aw q) λb9 q=>a2 (aw q) λb10 q=>a2 (aw q) λb11 q=>a2 (aw q) λb12 b13=>
 congr (congr (congr (congr (congr (congr (congr (congr (congr (congr (congr (congr (aQ Rs.mk (gy h b1)) (uV h b2)) (DV.bO h b3)) (DV.bO h b4)) (gy h b5)) (DV.bO h b6)) (DV.bO h b7)) (DV.bO h b8)) (gy h b9)) (gy h b10)) (DV.bO h b11)) (ae.bO h b12)) (DV.bO h b13)
def mL (cs:List Nat) (m:List (Option Bool)):Kn where
 ch:=λt k=>bif Nat.beq t 1 then(GU k).bind (XK cs) else none
 more:=λt k=>bif Nat.beq t 1 then(GU k).bind λn=>(m[n]?).bind id else none
 pos:=λ_=>false
 MR:=λ_=>false
def UM {m p n:Nat}:decide (m<=p+n)=decide ((m:Int)<=(p:Int)+n):=decide_eq_decide.mpr zM.symm
def Uz {V:Val} {cs:List Nat} {m:List (Option Bool)} {p:Nat} (h1:V.β 1=p) (h2:∀n c,cs[n]?=some c->(V.ς 0)[p+n]?=some c) (h3:∀n b,m[n]?=some (some b)->b=decide ((V.ς 0).length<=p+n)) (hl:V.β 0=(V.ς 0).length):gX (mL cs m) V where
 ch:=λt k c e=>On.get (P:=λc=>∃n:Nat,V.β t+k=n/\(V.ς 0)[n]?=some c) (ak λa=>(n9 k).b λn hn=>.mk λc e=>⟨p+n,by rw[iT a,h1,<-hn];rfl,h2 n c ((Em ..).symm.trans e)⟩) e
 more:=λt k b e=>On.get (P:=λb=>b=decide (V.β 0<=V.β t+k)) (ak λa=>(n9 k).b λn hn=>(aY m[n]?).b λo q=>.mk λb e=>by rw[iT a,h1,hl,<-hn,<-UM];exact h3 n b (q.trans (aQ some e))) e
 len:=hl
 pos:=λ_ e=>ft e
 MR:=λ_ e=>ft e
def mn (b:Nat) (k:Int) (lt:Nat) (j:Int):Tg:=λt=>bif Nat.beq t 1 then some (b,k) else bif Nat.beq t 2 then some (lt,j) else none
def qx {t n:Nat} (h:n<t):Nat.beq t n=false:=Bool.eq_false_iff.mpr λq=>Nat.lt_irrefl _ (iT q▸h)
def Gk (b:Nat) (k:Int) (lt:Nat) (j:Int):low (mn b k lt j):=λt h=>by
 unfold mn
 rw[qx (qu (by decide:1<16) h),qx (qu (by decide:2<16) h)];rfl
def Txt (S:List Nat) (p:Nat) (cs:List Nat):Prop:=∀n c,cs[n]?=some c->S[p+n]?=some c
section
variable {S:List Nat} {p:Nat} {c:Nat} {cs a b:List Nat}
def Txt.lt (h:Txt S p cs) (hn:cs≠[]):p+cs.length<=S.length:=by
 cases hl:cs.length with
 |zero=>exact absurd (List.length_eq_zero_iff.mp hl) hn
 |succ m=>exact(M8.mp (h m _ (zO (hl▸MV m)))).1
def Txt.tail (h:Txt S p (c::cs)):Txt S (p+1) cs:=λn c' e=>Nb p n 1▸h (n+1) c' e
def Txt.head (h:Txt S p (c::cs)):S[p]?=some c:=h 0 c rfl
def Txt.of1 (h:S[p]?=some c):Txt S p [c]:=λn c' e=>by
 cases n with
 |zero=>exact h.trans e
 |succ n=>exact ns e
def Txt.app (h:Txt S p (a++b)):Txt S p a/\Txt S (p+a.length) b:=
 ⟨λn c e=>h n c ((List.getElem?_append_left (M8.mp e).1).trans e),λn c e=>(xc p a.length n).symm▸h (a.length+n) c (by rw[List.getElem?_append_right (Hx ..),Nat.add_sub_cancel_left];exact e)⟩
end
section
variable {U:Program} {w:World} {Y:Base}
def cQ.tag {K:Frag} (T:cQ K Y) (θ:Tg):cQ K (Y.tag θ):=⟨T.Jz,T.nolimit,T.glob,T.blt⟩
abbrev HH (w:World):Array Nat->Int:=w.params.strHash
def bz (Y:Base):Prop:=Y.V.β 0=(Y.V.ς 0).length
def dR (S:List Nat) (p:Nat) (m:List (Option Bool)):Prop:=∀n c,m[n]?=some (some c)->c=decide (S.length<=p+n)
def dR.nil {S:List Nat} {p:Nat}:dR S p []:=λ_ _ h=>ns h
def dR.snoc {S:List Nat} {p:Nat} {m:List (Option Bool)} (h:dR S p m) {o:Option Bool} (k:∀c,o=some c->c=decide (S.length<=p+m.length)):dR S p (m++[o]):=λn c e=>by
 rw[List.getElem?_append] at e
 by_cases q:n<m.length
 ·rw[d8 q] at e;exact h n c e
 ·rw[dZ q] at e
  cases z:n - m.length with
  |zero=>rw[z] at e;rw[Nat.le_antisymm (Nat.le_of_sub_eq_zero z) (xm.mp q)];exact k c (eN e)
  |succ=>rw[z] at e;exact ns e
def R0 {S:List Nat} {p:Nat} {o:Option Bool} (k:∀c,o=some c->c=decide (S.length<=p+2)):dR S p [none,none,o]:=(dR.nil.snoc (o:=none) λ_=>ns).snoc (o:=none) (λ_=>ns) |>.snoc k
def mZ {b lt:Nat} {k j:Int} {p:Nat} {cs:List Nat} {m:List (Option Bool)} (hl:bz Y) (hp:Y.V.β b+k=p) (h2:Txt (Y.V.ς 0) p cs) (h3:dR (Y.V.ς 0) p m):
    gX (mL cs m) (Y.tag (mn b k lt j)).V:=Uz (V:=(Y.tag (mn b k lt j)).V) hp h2 h3 hl
def closed {b lt:Nat} {k j:Int} {p:Nat} {cs:List Nat} {m:List (Option Bool)} {n f:Nat} {args:List DV} {kw:List (Str×DV)} {aq aX:bU} {r:DV} (T0:cQ (KF (HH w)) Y) (hl:bz Y) (hp:Y.V.β b+k=p) (h2:Txt (Y.V.ς 0) p cs)
    (h3:dR (Y.V.ς 0) p m) (run:fO (tabs (HH w) (mL cs m) eZ) n 1521 f args kw aq=some (r,aX)):
    af U w 1521 Y n (.ref f) (oL (mn b k lt j) args) (SE (mn b k lt j) kw) (xk (mn b k lt j) aq) (r.tg (mn b k lt j)) (xk (mn b k lt j) aX):=
 af.lC (gF (tabs_ok (T0.tag _) (mZ hl hp h2 h3) λ_ _ _ _ _ _ _ _ h=>ns h) n 1521 f args kw aq r aX run)
end
def after:List Nat:=[32,13,45,35,46,0]
def fwL:List Nat:=[32,33,35,38,45,46,58,63,107,110,114,115,116]
def iJ:List (List Nat):=[[10],[13,10],[13],[133]]
section
variable (H:Array Nat->Int) (c:Nat) (col:Int) (r:Rs)
def LR:fO (tabs H (mL [c] []) eZ) 4 1521 690 [.self] [] (aN 1 2 0 0 col r)=some (.str [c],aN 1 2 0 0 col r):=KK
def Qn:fwL.map (λc=>[true,false].map λb=>fO (tabs H (mL [c] [none,none,some b]) eZ) 4 1521 706 [.self] [] (aN 1 2 0 0 col r))=fwL.map λ_=>[true,false].map λ_=>some (.none,aN 1 2 1 0 (col+1) r):=KK
def ux (nl:List Nat) (c:Nat) (b b':Bool):Option (DV×bU):=fO (tabs H (mL (nl++[c]) [none,none,some b,some b']) eZ) 6 1521 1278 [.self] [] (aN 1 2 0 0 col r)
def Qo:[[10],[133]].map (λnl=>[true,false].map λb=>[true,false].map λb'=>ux H col r nl c b b')=[[10],[133]].map λnl=>[true,false].map λ_=>[true,false].map λ_=>some (.str [10],aN 1 2 nl.length 1 0 r):=KK
def LQ:[true,false].map (λb'=>ux H col r [13,10] c false b')=[true,false].map λ_=>some (.str [10],aN 1 2 2 1 0 r):=KK
def Ye:after.map (λc=>[true,false].map λb=>[true,false].map λb'=>ux H col r [13] c b b')=after.map λ_=>[true,false].map λ_=>[true,false].map λ_=>some (.str [10],aN 1 2 1 1 0 r):=KK
def bools {b:Bool}:b∈[true,false]:=by cases b;exact .tail _ (.head _);exact .head _
def Yg {nl:List Nat} (hn:nl∈iJ) {b b':Bool} (hc:nl=[13]->c∈after) (hb:nl=[13,10]->b=false):ux H col r nl c b b'=some (.str [10],aN 1 2 nl.length 1 0 r):=
 have lf:∀nl∈[[10],[133]],ux H col r nl c b b'=some (.str [10],aN 1 2 nl.length 1 0 r):=λnl m=>aW (aW (aW (Qo H c col r) nl m) b bools) b' bools
 have all:∀nl∈iJ,(nl=[13]->c∈after)->(nl=[13,10]->b=false)->ux H col r nl c b b'=some (.str [10],aN 1 2 nl.length 1 0 r):=e9.mpr ⟨λ_ _=>lf _ (.head _),e9.mpr ⟨λ_ h=>h rfl▸aW (LQ H c col r) b' bools,e9.mpr ⟨λh _=>aW (aW (aW (Ye H col r) c (h rfl)) b bools) b' bools,
  e9.mpr ⟨λ_ _=>lf _ (.tail _ (.head _)),qT _⟩⟩⟩⟩
 all nl hn hc hb
end
section
variable {U:Program} {w:World} {Y:Base} {b lt:Nat} {k j:Int} {p:Nat} {col:Int} {r:Rs} (T0:cQ (KF (HH w)) Y) (hl:bz Y) (hp:Y.V.β b+k=p) (hr:r.clean=true)
include hr
theorem oZ {q n:Int}:xk (mn b k lt j) (aN 1 2 q n col r)=aN b lt (k+q) (j+n) col r:=aQ (λr=>aN b lt (k+q) (j+n) col r) (Rs.bO (Gk b k lt j) hr)
theorem FQ:xk (mn b k lt j) (aN 1 2 0 0 col r)=aN b lt k j col r:=(oZ hr).trans (by rw[zE,zE])
theorem x5 {l l':List (Str×ae)} (e:kY (mn b k lt j) l=l'):aj.tg (mn b k lt j) ⟨aN 1 2 0 0 col r,l⟩=⟨aN b lt k j col r,l'⟩:=congr (aQ aj.mk (FQ hr)) e
theorem Aj {q n:Int} {l l':List (Str×ae)} (e:kY (mn b k lt j) l=l'):aj.tg (mn b k lt j) ⟨aN 1 2 q n col r,l⟩=⟨aN b lt (k+q) (j+n) col r,l'⟩:=congr (aQ aj.mk (oZ hr)) e
include T0 hl hp
theorem afb {c:Nat} (h:Txt (Y.V.ς 0) p [c]):af U w 1521 Y 4 (.ref 690) [.self] [] (aN b lt k j col r) (.str [c]) (aN b lt k j col r):=
 FQ (b:=b) (lt:=lt) (k:=k) (j:=j) (col:=col) hr▸closed T0 hl hp h .nil (LR (HH w) c col r)
theorem Sl {c:Nat} (hc:c∈fwL) (h:Txt (Y.V.ς 0) p [c]):af U w 1521 Y 4 (.ref 706) [.self] [] (aN b lt k j col r) .none (aN b lt (k+1) j (col+1) r):=by
 have:=closed (U:=U) (b:=b) (lt:=lt) (k:=k) (j:=j) T0 hl hp h (R0 λc e=>(eN e).symm) (aW (aW (Qn (HH w) col r) c hc) _ bools)
 rw[FQ hr,oZ hr,zE] at this
 exact this
theorem Sm (h:Txt (Y.V.ς 0) p [32]):af U w 1521 Y 4 (.ref 706) [.self] [] (aN b lt k j col r) .none (aN b lt (k+1) j (col+1) r):=Sl T0 hl hp hr (.head _) h
theorem EC {nl:List Nat} (hn:nl∈iJ) {c:Nat} (h:Txt (Y.V.ς 0) p (nl++[c])) (hc:nl=[13]->c∈after):
 af U w 1521 Y 6 (.ref 1278) [.self] [] (aN b lt k j col r) (.str [10]) (aN b lt (k+nl.length) (j+1) 0 r):=by
 have lt0:=h.lt (List.append_ne_nil_of_right_ne_nil _ λq=>cn q)
 have:=closed (U:=U) (b:=b) (lt:=lt) (k:=k) (j:=j) (m:=[none,none,some _,some _]) T0 hl hp h ((R0 λc e=>(eN e).symm).snoc λc e=>(eN e).symm) (Yg (HH w) c col r hn hc λe=>Hy (Nat.not_le.mpr (by rw[e] at lt0;exact lt0)))
 rw[FQ hr,oZ hr] at this
 exact this
end
def FI (H:Array Nat->Int) (f:Nat):Zi:=(qi (KF H) f).getD ⟨[],default⟩
def bY:Kn:=⟨λ_ _=>none,λ_ _=>none,λ_=>false,λ_=>false⟩
def mY {V:Val} (hl:V.β 0=(V.ς 0).length):gX bY V:=⟨(λ_ _ _ h=>nomatch h),(λ_ _ _ h=>nomatch h),hl,(λ_ h=>nomatch h),(λ_ h=>nomatch h)⟩
def eT (H:Array Nat->Int) (T:Kn) (n f:Nat):Cx:=(tabs H T eZ).cx 1521 (FI H f).sc (fO (tabs H T eZ) n 1521)
@[irreducible] def fR (H:Array Nat->Int) (T:Kn) (n f:Nat):HO:=Oq (eT H T n f) 60
@[irreducible] def ai (l:List Stmt) (n:Nat):Stmt:=(l[n]?).getD (.Pass default)
def whS:Stmt->Option (Expr×List Stmt):=iQ Stmt.ctorIdx 11 λe h=>@Stmt.While.elim (λ_=>Expr×List Stmt) e h λt b _ _=>(t,b)
def rL:Stmt->Option (Expr×List Stmt×List Stmt):=iQ Stmt.ctorIdx 12 λe h=>@Stmt.If.elim (λ_=>Expr×List Stmt×List Stmt) e h λt b o _=>(t,b,o)
@[irreducible] def wT (s:Stmt):Expr:=Option.rec (motive:=λ_=>Expr) (Option.rec (motive:=λ_=>Expr) default (·.1) (rL s)) (·.1) (whS s)
@[irreducible] def wB (s:Stmt):List Stmt:=Option.rec (motive:=λ_=>List Stmt) (Option.rec (motive:=λ_=>List Stmt) [] (·.2.1) (rL s)) (·.2) (whS s)
@[irreducible] def wO (s:Stmt):List Stmt:=Option.rec (motive:=λ_=>List Stmt) [] (·.2.2) (rL s)
def wP (s:Stmt):Pos:=s.pos
@[irreducible] def bE (e:Expr) (i:Nat):Expr:=((k9 e).bind λq=>q.2[i]?).getD default
def bP (e:Expr):Pos:=e.pos
section
variable {U:Program} {w:World} {Y:Base} {f:Nat} (hf:bc f vu=true) (hI:qi (KF (HH w)) f=some (FI (HH w) f)) {n:Nat}
include hf hI
theorem IB {T:Kn} (T0:cQ (KF (HH w)) Y) (O:gX T Y.V):mR U w Y n (eT (HH w) T n f):=by
 have O':TabsOk U w Y (tabs (HH w) T eZ):=tabs_ok T0 O λ_ _ _ _ _ _ _ _ h=>ns h
 exact RF O' (IC O' (f:=f) (I:=FI (HH w) f) hf hI) λ_ _ _ _ _ _ h=>gF O' _ _ _ _ _ _ _ _ h
theorem zG (T0:cQ (KF (HH w)) Y) (hl:bz Y):mR U w Y n (eT (HH w) bY n f):=IB hf hI T0 (mY hl)
theorem ud {θ:Tg} {T:Kn} (T0:cQ (KF (HH w)) Y) (O:gX T (Y.tag θ).V):qV U w 1521 (Y.tag θ) (FI (HH w) f).sc n (fR (HH w) T n f):=by
 unfold fR
 exact qF (IB hf hI (T0.tag θ) O) 60
theorem zS (T0:cQ (KF (HH w)) Y) (hl:bz Y):qV U w 1521 Y (FI (HH w) f).sc n (fR (HH w) bY n f):=by
 unfold fR
 exact qF (zG hf hI T0 hl) 60
theorem aiL {b lt:Nat} {k j:Int} {p:Nat} {cs:List Nat} {m:List (Option Bool)} (T0:cQ (KF (HH w)) Y) (hl:bz Y) (hp:Y.V.β b+k=p) (h2:Txt (Y.V.ς 0) p cs) (h3:dR (Y.V.ς 0) p m)
 {l:List Stmt} {Z ba:aj} {fl:au} (run:cj (fR (HH w) (mL cs m) n f) l Z=some (fl,ba)):aF U w 1521 Y (FI (HH w) f).sc n l (Z.tg (mn b k lt j)) (fl.tg (mn b k lt j)) (ba.tg (mn b k lt j)):=
 aF.lC (sy (X:=eT (HH w) (mL cs m) n f) (ud hf hI T0 (mZ hl hp h2 h3)) _ _ _ _ run)
theorem adp {b lt:Nat} {k j:Int} {p:Nat} {cs:List Nat} {m:List (Option Bool)} (T0:cQ (KF (HH w)) Y) (hl:bz Y) (hp:Y.V.β b+k=p) (h2:Txt (Y.V.ς 0) p cs) (h3:dR (Y.V.ς 0) p m)
 {e:Expr} {Z ba:aj} {r:Res} (run:(fR (HH w) (mL cs m) n f).E e Z=some (r,ba)):aC U w 1521 Y (FI (HH w) f).sc n e (Z.tg (mn b k lt j)) (r.rest.tg (mn b k lt j)) (ba.tg (mn b k lt j)):=
 aC.lC ((ud hf hI T0 (mZ hl hp h2 h3)).E _ _ _ _ run).rest
theorem yV {b lt:Nat} {k j:Int} {p:Nat} {cs:List Nat} {m:List (Option Bool)} (T0:cQ (KF (HH w)) Y) (hl:bz Y) (hp:Y.V.β b+k=p) (h2:Txt (Y.V.ς 0) p cs) (h3:dR (Y.V.ς 0) p m)
 {e:Expr} {Z ba:aj} {r:Bool} (run:(fR (HH w) (mL cs m) n f).T e Z=some (r,ba)):bu U w 1521 Y (FI (HH w) f).sc n e (Z.tg (mn b k lt j)) r (ba.tg (mn b k lt j)):=
 bu.lC ((ud hf hI T0 (mZ hl hp h2 h3)).T _ _ _ _ run)
theorem nh (T0:cQ (KF (HH w)) Y) (hl:bz Y) {l:List Stmt} {Z ba:aj} {fl:au} (run:cj (fR (HH w) bY n f) l Z=some (fl,ba)):aF U w 1521 Y (FI (HH w) f).sc n l Z fl ba:=sy (X:=eT (HH w) bY n f) (zS hf hI T0 hl) _ _ _ _ run
theorem gW (T0:cQ (KF (HH w)) Y) (hl:bz Y) {e:Expr} {Z ba:aj} {r:Res} (run:(fR (HH w) bY n f).E e Z=some (r,ba)):aC U w 1521 Y (FI (HH w) f).sc n e Z r.rest ba:=((zS hf hI T0 hl).E _ _ _ _ run).rest
theorem kG (T0:cQ (KF (HH w)) Y) (hl:bz Y) {e:Expr} {Z ba:aj} {r:Bool} (run:(fR (HH w) bY n f).T e Z=some (r,ba)):bu U w 1521 Y (FI (HH w) f).sc n e Z r ba:=(zS hf hI T0 hl).T _ _ _ _ run
theorem e6 (T0:cQ (KF (HH w)) Y) (hl:bz Y) {e:Expr} {Z aa:aj} {g:Nat} {vs:List DV} {r:DV} {aX:bU} (h:nB (eT (HH w) bY n f) (fR (HH w) bY n f) e Z=some (g,vs,aa)) (hc:af U w 1521 Y n (.ref g) vs [] aa.aq r aX):
 aC U w 1521 Y (FI (HH w) f).sc n e Z r ⟨aX,aa.loc⟩:=Nr (zG hf hI T0 hl) (zS hf hI T0 hl) h hc
theorem gd (T0:cQ (KF (HH w)) Y) (hl:bz Y) {args:List DV} {kw bl:List (Str×DV)} {aq:bU} {fl:au} {ba:aj} {v:DV} (h:((cR lD f args kw).bind λrow=>getAll args kw row.out)=some bl)
 (run:aF U w 1521 Y (FI (HH w) f).sc n (FI (HH w) f).body ⟨aq,bl.map λp=>(p.1,.pv p.2)⟩ fl ba) (hv:uf fl=some v):af U w 1521 Y (n+1) (.ref f) args kw aq v ba.aq:=
 bx (pR h) λ_ h3 h4=>IE (tabs_ok T0 (mY hl) λ_ _ _ _ _ _ _ _ h=>ns h:TabsOk U w Y (tabs (HH w) bY eZ)) hf hI h3 h4 run hv
theorem kh (T0:cQ (KF (HH w)) Y) (hl:bz Y) {st:Stmt} {Z aa ba:aj} {r:DV} (hc:aC U w 1521 Y (FI (HH w) f).sc n (kr st) Z r aa) (h:tM (eT (HH w) bY n f) st r aa=some ba):aU U w 1521 Y (FI (HH w) f).sc n st Z .next ba:=by
 have:=zG (U:=U) (n:=n) hf hI T0 hl
 exact Qe (X:=eT (HH w) bY n f) this hc h
theorem qJ (T0:cQ (KF (HH w)) Y) (hl:bz Y) {st:Stmt} {Z aa:aj} {p:Pl} {e:Expr} {v:DV} {l:List DV} (h:jw (eT (HH w) bY n f) st Z=some (p,e)) (hc:aC U w 1521 Y (FI (HH w) f).sc n e Z v aa) (hg:p.get aa=some (.ml l)) (hz:l.length+1<=lim):
 aU U w 1521 Y (FI (HH w) f).sc n st Z .next (p.set aa (.ml (l++[v]))):=xr (zG hf hI T0 hl) h hc hg hz
theorem PK (T0:cQ (KF (HH w)) Y) (hl:bz Y) {st:Stmt} {Z aa:aj} {p:Pl} {e:Expr} {l l':List DV} (h:xX (eT (HH w) bY n f) st Z=some (p,e)) (hc:aC U w 1521 Y (FI (HH w) f).sc n e Z (.lst l') aa) (hg:p.get aa=some (.ml l)) (hz:l.length+l'.length<=lim):
 aU U w 1521 Y (FI (HH w) f).sc n st Z .next (p.set aa (.ml (l++l'))):=IV (zG hf hI T0 hl) h hc hg hz
end
section
variable {U:Program} {w:World} {Y:Base} {C:Nat}
def aU.lC {sc:Scope} {d:Nat} {θ:Tg} {st:Stmt} {Z ba:aj} {f:au} (h:aU U w C (Y.tag θ) sc d st Z f ba):aU U w C Y sc d st (Z.tg θ) (f.tg θ) (ba.tg θ):=λA G L s env ro eo R Q k=>
 h A (G.tag θ) L s env ro eo ((sv R.val).mp R) Q λG' r s' R' l q=>k _ r s' R'.tR (l.jj R.val) ((DU f r).mpr (fb (jM R'.val)▸q))
def LX {sc:Scope} {d:Nat} {F:HO} {l':List Stmt} {aa ah:aj} {f:au} (g:aj->aj) (FO:∀st Z ba,F.X st Z=some (.next,ba)->aU U w C Y sc d st (g Z) .next (g ba)) (k:aF U w C Y sc d l' (g aa) f ah) (l:List Stmt):∀Z:aj,cj F l Z=some (.next,aa)->aF U w C Y sc d (l++l') (g Z) f ah:=by
 induction l with
 |nil=>exactλZ h=>by rw[show Z=aa from aQ Prod.snd (eN h)];exact k
 |cons st r ih=>
  exactλZ h=>bx (pR (show(F.X st Z).bind (λp=>bif p.1.p8 then some p else cj F r p.2)=some (.next,aa) from h)) λp h0 h=>by
   cases c:p.1.p8 with
   |true=>rw[c] at h;rw[show p.1=.next from aQ Prod.fst (eN h)] at c;exact ft c
   |false=>rw[c] at h;exact ao (FO st Z p.2 (h0.trans (aQ (λf=>some (f,p.2)) (kj c)))) (ih _ h)
def eH {sc:Scope} {d:Nat} {F:HO} (FO:qV U w C Y sc d F) {l':List Stmt} {aa ah:aj} {f:au} (k:aF U w C Y sc d l' aa f ah) (l:List Stmt) (Z:aj) (h:cj F l Z=some (.next,aa)):aF U w C Y sc d (l++l') Z f ah:=LX id (λ_ _ _ h=>FO.X _ _ _ _ h) k l Z h
def sG {sc:Scope} {d:Nat} {F:HO} {θ:Tg} (FO:qV U w C (Y.tag θ) sc d F) {l':List Stmt} {aa ah:aj} {f:au} (k:aF U w C Y sc d l' (aa.tg θ) f ah) (l:List Stmt) (Z:aj) (h:cj F l Z=some (.next,aa)):aF U w C Y sc d (l++l') (Z.tg θ) f ah:=LX (aj.tg θ) (λ_ _ _ h=>aU.lC (FO.X _ _ _ _ h)) k l Z h
def dI.dn {A:Around} {d d':Nat} (h:dI A d') (le:d<=d'):dI A d:=
 have r:∀{x k c L:Nat},x+k*d'+c<=L->x+k*d+c<=L:=λh=>bw (ZI (xl (Nat.mul_le_mul_left _ le) _) _) h
 ⟨r h.depth,r h.units,h.handled⟩
def aU.up {sc:Scope} {d d':Nat} {st:Stmt} {Z ba:aj} {f:au} (h:aU U w C Y sc d st Z f ba) (le:d<=d'):aU U w C Y sc d' st Z f ba:=λA G L s env ro=>h A G L s env (ro.dn le)
def af.up {d d':Nat} {f:Value} {args:List DV} {kw:List (Str×DV)} {aq aX:bU} {r:DV} (h:af U w C Y d f args kw aq r aX) (le:d<=d'):af U w C Y d' f args kw aq r aX:=λA G s vs ks ro=>h A G s vs ks (ro.dn le)
end
section
variable {z k:Int} {p:Nat}
def zI (k:Int):k+((0:Nat):Int)=k:=zE k
def RP (k:Int) (n:Nat):k+((n+1:Nat):Int)=k+1+n:=(aQ (k+·) (Int.add_comm (n:Int) 1)).trans (Hv k 1 n).symm
def qn (hp:z+k=(p:Int)) (n:Nat):z+(k+n)=((p+n:Nat):Int):=(Hv z k n).symm.trans (aQ (· +(n:Int)) hp)
def hpS (hp:z+k=(p:Int)):z+(k+1)=((p+1:Nat):Int):=qn hp 1
def ahn {c i:Int} {n:Nat} (h:c+((n+1:Nat):Int)<=i):c<i:=Int.lt_of_lt_of_le (Int.lt_add_of_pos_right c (Int.ofNat_lt.mpr (MW n))) h
end
def Txt.one {S:List Nat} {p c:Nat} {cs:List Nat} (h:Txt S p (c::cs)):Txt S p [c]:=(Txt.app (a:=[c]) h).1
section
variable {U:Program} {w:World} {C:Nat} {Y:Base} {sc:Scope} {d:Nat} {Z ba:aj} {dE cv:Expr} {pos:Pos} {c:Bool}
def sZ {b:Bool} (cf:bu U w C Y sc d dE Z c Z) (cP:bu U w C Y sc d cv Z b Z):bu U w C Y sc d (.BoolOp .And [dE,cv] pos) Z (c&&b) Z:=jh cf (by
 cases c with
 |false=>exact⟨rfl,rfl⟩
 |true=>exact jh cP (by cases b;exact⟨rfl,rfl⟩;exact ji))
end
def aF.at {U:Program} {w:World} {C:Nat} {Y:Base} {sc:Scope} {d:Nat} {l l':List Stmt} {f:au} {Z ba:aj} (e:l=l') (h:aF U w C Y sc d l' Z f ba):aF U w C Y sc d l Z f ba:=fb e▸h
section
variable {U:Program} {w:World} {C:Nat} {Y:Base} {sc:Scope} {d:Nat} {t:Expr} {b o:List Stmt} {pos:Pos} {f:au} {Z aa ah:aj}
def iH (h:bu U w C Y sc d t Z true aa) (k:aF U w C Y sc d b aa f ah):aU U w C Y sc d (.If t b o pos) Z f ah:=qa h k
def lI (h:bu U w C Y sc d t Z false aa) (k:aF U w C Y sc d o aa f ah):aU U w C Y sc d (.If t b o pos) Z f ah:=qa h k
end
def IS (a b:Nat):fQ [a] [b]=Nat.beq a b:=by show(bif Nat.beq a b then true else false)=_;cases Nat.beq a b<;>rfl
section
variable (H:Array Nat->Int)
def j6:qi (KF H) 1205=some (FI H 1205):=KK
def j7:bc 1205 vu=true:=KK
abbrev jy:List Stmt:=(FI H 1205).body
def fU (ind:Int) (cs:List DV):List (Str×ae):=[(ag,.pv .self),(gH,.pv (.int ind)),(eB,.ml cs),(bg,.pv .rf)]
def vM (θ:Tg) (ind:Int) (cs:List DV):kY θ (fU ind cs)=fU ind (oL θ cs):=rfl
def Fy:jy H=[ai (jy H) 0,ai (jy H) 1,ai (jy H) 2,ai (jy H) 3,ai (jy H) 4]:=KK
abbrev iX:List Stmt:=wB (ai (jy H) 3)
def Tz:ai (jy H) 3=.While (wT (ai (jy H) 3)) (iX H) [] (wP (ai (jy H) 3)):=KK
def Tw:iX H=[ai (iX H) 0,ai (iX H) 1,ai (iX H) 2]:=KK
structure xq (f:Nat) (L:Int->List DV->List (Str×ae)) (s:Stmt):Prop where
 shape:s=.While (.BoolOp .And [bE (wT s) 0,bE (wT s) 1] (bP (wT s))) (wB s) [] (wP s)
 one:wB s=[ai (wB s) 0]
 t0:∀(b:Nat) (k:Int) (lt:Nat) (j c ind:Int) (r:Rs) (cs:List DV),(fR H bY 5 f).T (bE (wT s) 0) ⟨aN b lt k j c r,L ind cs⟩=some (decide (c<ind),⟨aN b lt k j c r,L ind cs⟩)
 t1:∀(c0:Nat) (c ind:Int) (r:Rs) (cs:List DV),(fR H (mL [c0] []) 5 f).T (bE (wT s) 1) ⟨aN 1 2 0 0 c r,L ind cs⟩=some (fQ [c0] [32],⟨aN 1 2 0 0 c r,L ind cs⟩)
 b0:∀(b:Nat) (k:Int) (lt:Nat) (j c ind:Int) (r:Rs) (cs:List DV),nB (eT H bY 5 f) (fR H bY 5 f) (kr (ai (wB s) 0)) ⟨aN b lt k j c r,L ind cs⟩=some (706,[.self],⟨aN b lt k j c r,L ind cs⟩)
 b1:∀(b:Nat) (k:Int) (lt:Nat) (j c ind:Int) (r:Rs) (cs:List DV),tM (eT H bY 5 f) (ai (wB s) 0) .none ⟨aN b lt k j c r,L ind cs⟩=some ⟨aN b lt k j c r,L ind cs⟩
 tg:∀(θ:Tg) (ind:Int) (cs:List DV),oL θ cs=cs->kY θ (L ind cs)=L ind cs
def Yu:xq H 1205 fU (ai (jy H) 2):=⟨KK,KK,λ_ _ _ _ _ _ _ _=>KK,λ_ _ _ _ _=>KK,λ_ _ _ _ _ _ _ _=>KK,λ_ _ _ _ _ _ _ _=>KK,λθ ind cs h=>(vM θ ind cs).trans (aQ (fU ind) h)⟩
def Yv:xq H 1205 fU (ai (iX H) 2):=⟨KK,KK,λ_ _ _ _ _ _ _ _=>KK,λ_ _ _ _ _=>KK,λ_ _ _ _ _ _ _ _=>KK,λ_ _ _ _ _ _ _ _=>KK,λθ ind cs h=>(vM θ ind cs).trans (aQ (fU ind) h)⟩
end
section
variable {U:Program} {w:World} {Y:Base} {f:Nat} (hf:bc f vu=true) (hI:qi (KF (HH w)) f=some (FI (HH w) f)) {L:Int->List DV->List (Str×ae)} {b lt:Nat} {j:Int} {r:Rs} (T0:cQ (KF (HH w)) Y) (hl:bz Y) (hr:r.clean=true)
def Ij (n:Nat) (x:List Nat):ie (List.replicate n (.str x))=true:=by
 induction n with
 |zero=>rfl
 |succ n ih=>exact ih
include hf hI T0 hl hr
theorem y7 {s:Stmt} (W:xq (HH w) f L s) {ind:Int} {cs:List DV} (Zo:∀θ,low θ->oL θ cs=cs) {c1:Nat} {k c:Int} {p:Nat} (hp:Y.V.β b+k=p) (ht:Txt (Y.V.ς 0) p [c1]) {v:Bool} (hv:(decide (c<ind)&&Nat.beq c1 32)=v):
 bu U w 1521 Y (FI (HH w) f).sc 5 (.BoolOp .And [bE (wT s) 0,bE (wT s) 1] (bP (wT s))) ⟨aN b lt k j c r,L ind cs⟩ v ⟨aN b lt k j c r,L ind cs⟩:=
 hv▸IS c1 32▸sZ (kG hf hI T0 hl (W.t0 b k lt j c ind r cs)) (x5 (b:=b) (lt:=lt) (k:=k) (j:=j) (col:=c) hr (W.tg _ ind cs (Zo _ (Gk b k lt j)))▸yV (b:=b) (lt:=lt) (k:=k) (j:=j) hf hI T0 hl hp ht .nil (W.t1 c1 c ind r cs))
theorem CU {s:Stmt} (W:xq (HH w) f L s) {ind:Int} {cs:List DV} (Zo:∀θ,low θ->oL θ cs=cs) {c0:Nat} (n:Nat):∀(k c:Int) (p:Nat),Y.V.β b+k=p->c+n<=ind->(c+n=ind\/c0≠32)->Txt (Y.V.ς 0) p (List.replicate n 32++[c0])->
 cI U w 1521 Y (FI (HH w) f).sc 5 (.BoolOp .And [bE (wT s) 0,bE (wT s) 1] (bP (wT s))) (wB s) n ⟨aN b lt k j c r,L ind cs⟩ .next ⟨aN b lt (k+n) j (c+n) r,L ind cs⟩:=by
 induction n with
 |zero=>
  intro k c p hp _ h2 ht
  rw[zI] at h2
  rw[zI,zI]
  exact .stop (y7 hf hI T0 hl hr W Zo hp ht (h2.elim (λe=>by rw[e,Hy (Int.lt_irrefl ind)];rfl) λn=>by rw[Bool.eq_false_iff.mpr λq=>n (iT q),Bool.and_false]))
 |succ n ih=>
  intro k c p hp h1 h2 ht
  have lt0:=ahn h1
  rw[RP] at h1 h2
  rw[RP,RP]
  exact .next (y7 hf hI T0 hl hr W Zo hp ht.one (by rw[HI lt0];rfl)) (W.one▸ao (kh hf hI T0 hl (e6 hf hI T0 hl (W.b0 b k lt j c ind r cs) ((Sm T0 hl hp hr ht.one).up (by decide))) (W.b1 b (k+1) lt j (c+1) ind r cs)) bA) (ih _ _ _ (hpS hp) h1 h2 ht.tail)
theorem EO {s:Stmt} (W:xq (HH w) f L s) {ind:Int} {cs:List DV} (Zo:∀θ,low θ->oL θ cs=cs) {c0 n:Nat} {k c:Int} {p:Nat} (hp:Y.V.β b+k=p) (h1:c+n<=ind) (h2:c+n=ind\/c0≠32) (ht:Txt (Y.V.ς 0) p (List.replicate n 32++[c0])):
 aU U w 1521 Y (FI (HH w) f).sc 5 s ⟨aN b lt k j c r,L ind cs⟩ .next ⟨aN b lt (k+n) j (c+n) r,L ind cs⟩:=fb W.shape▸oG (CU hf hI T0 hl hr W Zo n k c p hp h1 h2 ht)
end
def aS (n:Nat):List Nat:=List.replicate n 32
def gI (nl ss:List Nat) (e c0:Nat):List Nat:=List.rec (motive:=λ_=>List Nat) (aS e++[c0]) (λs _ ih=>aS s++(nl++ih)) ss
def dk (nl ss:List Nat):Nat:=List.rec (motive:=λ_=>Nat) 0 (λs _ ih=>s+nl.length+ih) ss
def cJ:List Nat:=[13,10,133,8232,8233]
def XG:iJ.all (λnl=>List.casesOn (motive:=λ_=>Bool) nl false λa _=>bc a cJ&&(!Nat.beq a 32&&(!fQ nl [13]||bc a after)))=true:=KK
def ob {nl:List Nat} (hn:nl∈iJ):∃a r,nl=a::r/\bc a cJ=true/\a≠32/\(nl=[13]->a∈after):=by
 have h:=gj.mp XG nl hn
 cases nl with
 |nil=>exact ft h
 |cons a r=>exact a2 (aw h) λh1 h=>a2 (aw h) λh2 h3=>⟨a,r,rfl,h1,oa (iA h2),λe=>fJ ((show(!fQ (a::r) [13]||bc a after)=bc a after by rw[jo,iI.mpr e];rfl)▸h3)⟩
@[irreducible] def k7 (s:Stmt):Expr:=((ub s).bind λe=>(gS e).bind λq=>dM q.2.1).getD default
section
variable (H:Array Nat->Int)
def Tu (b:Nat) (k:Int) (lt:Nat) (j c ind:Int) (r:Rs):cj (fR H bY 6 1205) [ai (jy H) 0,ai (jy H) 1] ⟨aN b lt k j c r,[(ag,.pv .self),(gH,.pv (.int ind))]⟩=some (.next,⟨aN b lt k j c r,fU ind []⟩):=KK
def Tx (c0:Nat) (c ind:Int) (r:Rs) (cs:List DV):(fR H (mL [c0] []) 6 1205).T (wT (ai (jy H) 3)) ⟨aN 1 2 0 0 c r,fU ind cs⟩=some (bc c0 cJ,⟨aN 1 2 0 0 c r,fU ind cs⟩):=KK
def NR (b:Nat) (k:Int) (lt:Nat) (j c ind:Int) (r:Rs) (cs:List DV):jw (eT H bY 6 1205) (ai (iX H) 0) ⟨aN b lt k j c r,fU ind cs⟩=some (.loc eB,k7 (ai (iX H) 0)):=KK
def NS (b:Nat) (k:Int) (lt:Nat) (j c ind:Int) (r:Rs) (cs:List DV):nB (eT H bY 6 1205) (fR H bY 6 1205) (k7 (ai (iX H) 0)) ⟨aN b lt k j c r,fU ind cs⟩=some (1278,[.self],⟨aN b lt k j c r,fU ind cs⟩):=KK
def Tv (b:Nat) (k:Int) (lt:Nat) (j c ind:Int) (r:Rs) (cs:List DV):cj (fR H bY 6 1205) [ai (iX H) 1] ⟨aN b lt k j c r,fU ind cs⟩=some (.next,⟨aN b lt k j c r,fU ind cs⟩):=KK
def NT (b:Nat) (k:Int) (lt:Nat) (j c ind:Int) (r:Rs) (cs:List DV):cj (fR H bY 6 1205) [ai (jy H) 4] ⟨aN b lt k j c r,fU ind cs⟩=some (.ret (.tup [.lst cs,.rf]),⟨aN b lt k j c r,[(ag,.pv .self),(gH,.pv (.int ind)),(eB,.pv (.lst cs)),(bg,.pv .rf)]⟩):=KK
end
def JR (ind:Int) (cs l:List DV) (aq:bU):(Pl.loc eB).set ⟨aq,fU ind cs⟩ (.ml l)=⟨aq,fU ind l⟩:=aQ (aj.mk aq) ((bk ..).symm.trans (show bS (fU ind cs) eB (ae.ml l)=fU ind l by kernel_rfl))
def JQ (ind:Int) (cs:List DV) (aq:bU):(Pl.loc eB).get ⟨aq,fU ind cs⟩=some (.ml cs):=(aG ..).symm.trans (show aT (fU ind cs) eB=some (.ml cs) by kernel_rfl)
abbrev bW (n:Nat) (x:List Nat):List DV:=List.replicate n (.str x)
def qL (n:Nat) (x:List Nat) (θ:Tg) (h:low θ):oL θ (bW n x)=bW n x:=gy h (Ij n x)
def DS {n:Nat} (h:n<=1000):n<=lim:=bw h (by decide)
def fN {S:List Nat} {p s c:Nat} {t:List Nat} (h:Txt S p (aS s++c::t)):Txt S p (List.replicate s 32++[c])/\Txt S (p+s) (c::t):=
 ⟨(Txt.app (a:=List.replicate s 32++[c]) (b:=t) (by rw[fc];exact h)).1,tj (n:=s) (a:=32)▸h.app.2⟩
section
variable {U:Program} {w:World} {Y:Base} {b lt:Nat} {r:Rs} (T0:cQ (KF (HH w)) Y) (hl:bz Y) (hr:r.clean=true)
include T0 hl hr
theorem qz {c1:Nat} {k j c ind:Int} {p n:Nat} (hp:Y.V.β b+k=p) (ht:Txt (Y.V.ς 0) p [c1]) {v:Bool} (hv:bc c1 cJ=v):bu U w 1521 Y (FI (HH w) 1205).sc 6 (wT (ai (jy (HH w)) 3)) ⟨aN b lt k j c r,fU ind (bW n [10])⟩ v ⟨aN b lt k j c r,fU ind (bW n [10])⟩:=
 hv▸x5 (b:=b) (lt:=lt) (k:=k) (j:=j) (col:=c) hr ((vM ..).trans (aQ (fU ind) (qL n [10] _ (Gk b k lt j))))▸yV (b:=b) (lt:=lt) (k:=k) (j:=j) j7 (j6 (HH w)) T0 hl hp ht .nil (Tx (HH w) c1 c ind r (bW n [10]))
theorem xC {nl:List Nat} (hn:nl∈iJ) {ind:Int} {sp c1:Nat} {t:List Nat} {k j c:Int} {p n:Nat} (hp:Y.V.β b+k=p) (h1:(sp:Int)<=ind) (h2:(sp:Int)=ind\/c1≠32) (hh:nl=[13]->sp=0->c1∈after) (hx:Txt (Y.V.ς 0) p (nl++(aS sp++c1::t))) (hz:n+1<=1000):
 aF U w 1521 Y (FI (HH w) 1205).sc 6 (iX (HH w)) ⟨aN b lt k j c r,fU ind (bW n [10])⟩ .next ⟨aN b lt (k+nl.length+sp) (j+1) sp r,fU ind (bW (n+1) [10])⟩:=by
 have first:∃a t',aS sp++c1::t=a::t'/\(nl=[13]->a∈after):=by
  cases sp with
  |zero=>exact⟨c1,t,rfl,λe=>hh e rfl⟩
  |succ sp=>exact⟨32,aS sp++c1::t,rfl,λ_=>.head _⟩
 refine mw first λa t' ea ha=>?_
 have s0:=qJ (U:=U) j7 (j6 (HH w)) T0 hl (NR (HH w) b k lt j c ind r (bW n [10])) (e6 j7 (j6 (HH w)) T0 hl (NS (HH w) b k lt j c ind r (bW n [10])) (EC T0 hl hp hr hn (Txt.app (a:=nl++[a]) (b:=t') (by rw[fc];exact(ea▸hx:Txt (Y.V.ς 0) p (nl++a::t')))).1 ha)) (JQ _ _ _) (DS (by rw[tj];exact hz))
 rw[JR,show bW n [10]++[DV.str [10]]=bW (n+1) [10] from(List.replicate_succ' ..).symm] at s0
 have s2:=EO (U:=U) j7 (j6 (HH w)) (b:=b) (lt:=lt) (j:=j+1) T0 hl hr (Yv (HH w)) (ind:=ind) (qL (n+1) [10]) (c:=0) (qn hp nl.length) (by rw[zN];exact h1) (by rw[zN];exact h2) (fN hx.app.2).1
 rw[zN] at s2
 exact aF.at (Tw (HH w)) <| ao s0 (eH (zS j7 (j6 (HH w)) T0 hl) (ao (s2.up (by decide)) bA) [ai (iX (HH w)) 1] _ (Tv (HH w) b (k+nl.length) lt (j+1) 0 ind r (bW (n+1) [10])))
theorem Fz {nl:List Nat} (hn:nl∈iJ) {ind:Int} {e c0:Nat} (he:(e:Int)<=ind) (h0:(e:Int)=ind\/c0≠32) (xh:bc c0 cJ=false) (xi:nl=[13]->e=0->c0∈after) (ss:List Nat):
 ∀(k j c:Int) (p n:Nat),Y.V.β b+k=p->(∀s∈ss,(s:Int)<=ind)->Txt (Y.V.ς 0) p (nl++gI nl ss e c0)->n+1+ss.length<=1000->
 cI U w 1521 Y (FI (HH w) 1205).sc 6 (wT (ai (jy (HH w)) 3)) (iX (HH w)) (ss.length+1) ⟨aN b lt k j c r,fU ind (bW n [10])⟩ .next ⟨aN b lt (k+nl.length+dk nl ss+e) (j+1+ss.length) e r,fU ind (bW (n+1+ss.length) [10])⟩:=
 Zl (ob hn) λa nr ea hm D6 haf=>by
  have one:∀{p t},Txt (Y.V.ς 0) p (nl++t)->Txt (Y.V.ς 0) p [a]:=λh=>by rw[ea] at h;exact Txt.one h
  induction ss with
  |nil=>
   intro k j c p n hp _ hx hz
   have x2:=(fN hx.app.2).2
   have st:=qz (U:=U) (lt:=lt) (c:=e) (ind:=ind) (j:=j+1) (n:=n+1) T0 hl hr (qn (qn hp nl.length) e) x2 xh
   show cI U w 1521 Y _ 6 _ _ _ _ _ ⟨aN b lt (k+nl.length+((0:Nat):Int)+e) (j+1+((0:Nat):Int)) e r,_⟩
   rw[zI,zI]
   exact .next (qz T0 hl hr hp (one hx) hm) (xC T0 hl hr hn hp he h0 xi hx hz) (.stop st)
  |cons s ss ih=>
   intro k j c p n hp hs hx hz
   have⟨hs1,hs2⟩:=e9.mp hs
   have hx:Txt (Y.V.ς 0) p (nl++(aS s++a::(nr++gI nl ss e c0))):=by rw[<-Dh,<-ea];exact hx
   have x2:=(fN hx.app.2).2
   rw[<-Dh,<-ea] at x2
   have hz:n+1+1+ss.length<=1000:=Nb (n+1) 1 ss.length▸hz
   have:=ih (k+nl.length+s) (j+1) s (p+nl.length+s) (n+1) (qn (qn hp nl.length) s) hs2 x2 hz
   rw[<-RP (j+1),Nb (n+1) 1 ss.length,Hv (k+nl.length+s),Hv (k+nl.length),<-Hv (s:Int)] at this
   exact .next (qz T0 hl hr hp (one hx) hm) (xC T0 hl hr hn hp hs1 (.inr D6) (λe _=>haf e) hx (bw (Hx (n+1) 1) (bw (Hx _ _) hz))) this
end
def lJ {U:Program} {w:World} {C:Nat} {Y:Base} {sc:Scope} {d:Nat} {s:Stmt} {t:Expr} {b:List Stmt} {pos:Pos} {n:Nat} {f:au} {Z aa:aj} (e:s=.While t b [] pos) (h:cI U w C Y sc d t b n Z f aa):aU U w C Y sc d s Z f aa:=fb e▸oG h
def NU (ind:Int):((cR lD 1205 [.self,.int ind] []).bind λrow=>getAll [.self,.int ind] [] row.out)=some [(ag,.self),(gH,.int ind)]:=KK
section
variable {U:Program} {w:World} {Y:Base} {b lt:Nat} {r:Rs} (T0:cQ (KF (HH w)) Y) (hl:bz Y) (hr:r.clean=true)
include T0 hl hr
theorem DD {ind:Int} {sp c1 m n:Nat} {t:List Nat} {k j k' j' c':Int} {p:Nat} (hp:Y.V.β b+k=p) (h1:(sp:Int)<=ind) (h2:(sp:Int)=ind\/c1≠32) (hx:Txt (Y.V.ς 0) p (aS sp++c1::t))
 (ht:cI U w 1521 Y (FI (HH w) 1205).sc 6 (wT (ai (jy (HH w)) 3)) (iX (HH w)) m ⟨aN b lt (k+sp) j sp r,fU ind []⟩ .next ⟨aN b lt k' j' c' r,fU ind (bW n [10])⟩):
 af U w 1521 Y 7 (.ref 1205) [.self,.int ind] [] (aN b lt k j 0 r) (.tup [.lst (bW n [10]),.rf]) (aN b lt k' j' c' r):=by
 have s2:=EO (U:=U) j7 (j6 (HH w)) (b:=b) (lt:=lt) (j:=j) T0 hl hr (Yu (HH w)) (ind:=ind) (cs:=[]) (λ_ _=>rfl) (c:=0) hp (by rw[zN];exact h1) (by rw[zN];exact h2) (fN hx).1
 rw[zN] at s2
 exact gd j7 (j6 (HH w)) T0 hl (NU ind) (aF.at (Fy (HH w)) <| eH (zS j7 (j6 (HH w)) T0 hl) (ao (s2.up (by decide)) (ao (lJ (Tz (HH w)) ht) (nh j7 (j6 (HH w)) T0 hl (NT (HH w) b k' lt j' c' ind r (bW n [10]))))) [ai (jy (HH w)) 0,ai (jy (HH w)) 1] _ (Tu (HH w) b k lt j 0 ind r)) rfl
theorem xB {nl:List Nat} (hn:nl∈iJ) {ind:Int} {e c0:Nat} (he:(e:Int)<=ind) (h0:(e:Int)=ind\/c0≠32) (xh:bc c0 cJ=false) (xi:nl=[13]->e=0->c0∈after)
 (ss:List Nat) {k j:Int} {p:Nat} (hp:Y.V.β b+k=p) (hs:∀s∈ss,(s:Int)<=ind) (hx:Txt (Y.V.ς 0) p (gI nl ss e c0)) (hz:ss.length<=1000):
 af U w 1521 Y 7 (.ref 1205) [.self,.int ind] [] (aN b lt k j 0 r) (.tup [.lst (bW ss.length [10]),.rf]) (aN b lt (k+dk nl ss+e) (j+ss.length) e r):=by
 cases ss with
 |nil=>
  have t:=DD (U:=U) (lt:=lt) (j:=j) (n:=0) (m:=0) T0 hl hr hp he h0 hx (.stop (qz (n:=0) T0 hl hr (qn hp e) (fN hx).2 xh))
  show af U w 1521 Y 7 _ _ _ _ _ (aN b lt (k+((0:Nat):Int)+e) (j+((0:Nat):Int)) e r)
  rw[zI,zI]
  exact t
 |cons s ss=>
  refine Zl (ob hn) λa nr ea hm D6 haf=>?_
  have⟨hs1,hs2⟩:=e9.mp hs
  have hx:Txt (Y.V.ς 0) p (aS s++a::(nr++gI nl ss e c0)):=by rw[<-Dh,<-ea];exact hx
  have x2:=(fN hx).2
  rw[<-Dh,<-ea] at x2
  have t:=DD (U:=U) (lt:=lt) (j:=j) T0 hl hr hp hs1 (.inr D6) hx (Fz T0 hl hr hn he h0 xh xi ss (k+s) j s (p+s) 0 (qn hp s) hs2 x2 (by rw[zQ,Nat.add_comm];exact hz))
  rw[<-RP j,zQ,Nat.add_comm 1,Hv k,Hv k] at t
  exact t
end
section
variable (H:Array Nat->Int)
def gL:qi (KF H) 1198=some (FI H 1198):=KK
def gM:bc 1198 vu=true:=KK
abbrev iM:List Stmt:=(FI H 1198).body
def dG (mx:Int) (cs:List DV):List (Str×ae):=[(ag,.pv .self),(eB,.ml cs),(yA,.pv (.int mx)),(bg,.pv .rf)]
def Pp (θ:Tg) (mx:Int) (cs:List DV):kY θ (dG mx cs)=dG mx (oL θ cs):=rfl
def F6:iM H=[ai (iM H) 0,ai (iM H) 1,ai (iM H) 2,ai (iM H) 3,ai (iM H) 4]:=KK
abbrev pV:List Stmt:=wB (ai (iM H) 3)
def abh:ai (iM H) 3=.While (wT (ai (iM H) 3)) (pV H) [] (wP (ai (iM H) 3)):=KK
abbrev gm:Stmt:=ai (pV H) 0
def JD:pV H=[.If (wT (gm H)) [ai (wB (gm H)) 0,ai (wB (gm H)) 1] [ai (wO (gm H)) 0,.If (wT (ai (wO (gm H)) 1)) (wB (ai (wO (gm H)) 1)) [] (wP (ai (wO (gm H)) 1))] (wP (gm H))]:=KK
variable (b:Nat) (k:Int) (lt:Nat) (j c mx:Int) (r:Rs) (cs:List DV)
def Uk:cj (fR H bY 6 1198) [ai (iM H) 0,ai (iM H) 1,ai (iM H) 2] ⟨aN b lt k j c r,[(ag,.pv .self)]⟩=some (.next,⟨aN b lt k j c r,dG 0 []⟩):=KK
def cz:List Nat:=[32,13,10,133,8232,8233]
def abg (c0:Nat):(fR H (mL [c0] []) 6 1198).T (wT (ai (iM H) 3)) ⟨aN 1 2 0 0 c r,dG mx cs⟩=some (bc c0 cz,⟨aN 1 2 0 0 c r,dG mx cs⟩):=KK
def Up (c0:Nat):(fR H (mL [c0] []) 6 1198).T (wT (gm H)) ⟨aN 1 2 0 0 c r,dG mx cs⟩=some (!fQ [c0] [32],⟨aN 1 2 0 0 c r,dG mx cs⟩):=KK
def OX:jw (eT H bY 6 1198) (ai (wB (gm H)) 0) ⟨aN b lt k j c r,dG mx cs⟩=some (.loc eB,k7 (ai (wB (gm H)) 0)):=KK
def OY:nB (eT H bY 6 1198) (fR H bY 6 1198) (k7 (ai (wB (gm H)) 0)) ⟨aN b lt k j c r,dG mx cs⟩=some (1278,[.self],⟨aN b lt k j c r,dG mx cs⟩):=KK
def Ul:(fR H bY 6 1198).X (ai (wB (gm H)) 1) ⟨aN b lt k j c r,dG mx cs⟩=some (.next,⟨aN b lt k j c r,dG mx cs⟩):=KK
def Uo:nB (eT H bY 6 1198) (fR H bY 6 1198) (kr (ai (wO (gm H)) 0)) ⟨aN b lt k j c r,dG mx cs⟩=some (706,[.self],⟨aN b lt k j c r,dG mx cs⟩):=KK
def Um:tM (eT H bY 6 1198) (ai (wO (gm H)) 0) .none ⟨aN b lt k j c r,dG mx cs⟩=some ⟨aN b lt k j c r,dG mx cs⟩:=KK
def Ut:(fR H bY 6 1198).T (wT (ai (wO (gm H)) 1)) ⟨aN b lt k j c r,dG mx cs⟩=some (decide (mx<c),⟨aN b lt k j c r,dG mx cs⟩):=KK
def Uq:cj (fR H bY 6 1198) (wB (ai (wO (gm H)) 1)) ⟨aN b lt k j c r,dG mx cs⟩=some (.next,⟨aN b lt k j c r,dG c cs⟩):=KK
def OZ:cj (fR H bY 6 1198) [ai (iM H) 4] ⟨aN b lt k j c r,dG mx cs⟩=some (.ret (.tup [.lst cs,.int mx,.rf]),⟨aN b lt k j c r,[(ag,.pv .self),(eB,.pv (.lst cs)),(yA,.pv (.int mx)),(bg,.pv .rf)]⟩):=KK
end
def O0:((cR lD 1198 [.self] []).bind λrow=>getAll [.self] [] row.out)=some [(ag,.self)]:=KK
def JU (mx:Int) (cs l:List DV) (aq:bU):(Pl.loc eB).set ⟨aq,dG mx cs⟩ (.ml l)=⟨aq,dG mx l⟩:=aQ (aj.mk aq) ((bk ..).symm.trans (show bS (dG mx cs) eB (ae.ml l)=dG mx l by kernel_rfl))
def JT (mx:Int) (cs:List DV) (aq:bU):(Pl.loc eB).get ⟨aq,dG mx cs⟩=some (.ml cs):=(aG ..).symm.trans (show aT (dG mx cs) eB=some (.ml cs) by kernel_rfl)
def wide (mx:Int) (ss:List Nat) (e:Nat):Int:=List.rec (motive:=λ_=>Int->Int) (λmx=>max mx e) (λ(s:Nat) _ ih mx=>ih (max mx (s:Int))) ss mx
def PD (a b:Int) (e:Nat):max (max a b) (b+e)=max a (b+e):=by rw[Int.max_assoc,Int.max_eq_right (Int.le_add_of_nonneg_right (MU e))]
section
variable {U:Program} {w:World} {Y:Base} {b lt:Nat} {r:Rs} (T0:cQ (KF (HH w)) Y) (hl:bz Y) (hr:r.clean=true)
include T0 hl hr
theorem JE {k j c mx:Int} {n:Nat}:aj.tg (mn b k lt j) ⟨aN 1 2 0 0 c r,dG mx (bW n [10])⟩=⟨aN b lt k j c r,dG mx (bW n [10])⟩:=x5 hr ((Pp ..).trans (aQ (dG mx) (qL n [10] _ (Gk b k lt j))))
theorem vJ {c1:Nat} {k j c mx:Int} {p n:Nat} (hp:Y.V.β b+k=p) (ht:Txt (Y.V.ς 0) p [c1]) {v:Bool} (hv:bc c1 cz=v):bu U w 1521 Y (FI (HH w) 1198).sc 6 (wT (ai (iM (HH w)) 3)) ⟨aN b lt k j c r,dG mx (bW n [10])⟩ v ⟨aN b lt k j c r,dG mx (bW n [10])⟩:=
 hv▸JE (k:=k) (j:=j) (c:=c) (mx:=mx) (n:=n) T0 hl hr▸yV (b:=b) (lt:=lt) (k:=k) (j:=j) gM (gL (HH w)) T0 hl hp ht .nil (abg (HH w) c mx r (bW n [10]) c1)
theorem D8 {c1:Nat} {k j c mx:Int} {p n:Nat} (hp:Y.V.β b+k=p) (ht:Txt (Y.V.ς 0) p [c1]) {v:Bool} (hv:(!Nat.beq c1 32)=v):bu U w 1521 Y (FI (HH w) 1198).sc 6 (wT (gm (HH w))) ⟨aN b lt k j c r,dG mx (bW n [10])⟩ v ⟨aN b lt k j c r,dG mx (bW n [10])⟩:=
 hv▸IS c1 32▸JE (k:=k) (j:=j) (c:=c) (mx:=mx) (n:=n) T0 hl hr▸yV (b:=b) (lt:=lt) (k:=k) (j:=j) gM (gL (HH w)) T0 hl hp ht .nil (Up (HH w) c mx r (bW n [10]) c1)
theorem Us {k j c mx:Int} {p n:Nat} (hp:Y.V.β b+k=p) (ht:Txt (Y.V.ς 0) p [32]):aF U w 1521 Y (FI (HH w) 1198).sc 6 (pV (HH w)) ⟨aN b lt k j c r,dG mx (bW n [10])⟩ .next ⟨aN b lt (k+1) j (c+1) r,dG (max mx (c+1)) (bW n [10])⟩:=by
 have t:=D8 (U:=U) (lt:=lt) (j:=j) (c:=c) (mx:=mx) (n:=n) (c1:=32) T0 hl hr hp ht (v:=false) rfl
 have s0:=kh gM (gL (HH w)) T0 hl (e6 gM (gL (HH w)) T0 hl (Uo (HH w) b k lt j c mx r (bW n [10])) ((Sm (U:=U) T0 hl hp hr ht).up (by decide))) (Um (HH w) b (k+1) lt j (c+1) mx r _)
 have s1:=kG (U:=U) gM (gL (HH w)) T0 hl (Ut (HH w) b (k+1) lt j (c+1) mx r (bW n [10]))
 refine aF.at (JD (HH w)) ?_
 refine ao (lI t ?_) bA
 refine ao s0 (ao (qa s1 ?_) bA)
 by_cases q:mx<c+1
 ·rw[HI q,Int.max_eq_right (Int.le_of_lt q)];exact nh gM (gL (HH w)) T0 hl (Uq (HH w) b (k+1) lt j (c+1) mx r _)
 ·rw[Hy q,Int.max_eq_left (Int.not_lt.mp q)];exact bA
theorem Ur {nl:List Nat} (hn:nl∈iJ) {k j c mx:Int} {p n c1:Nat} (hp:Y.V.β b+k=p) (ht:Txt (Y.V.ς 0) p (nl++[c1])) (hc:nl=[13]->c1∈after) (hz:n+1<=1000):aF U w 1521 Y (FI (HH w) 1198).sc 6 (pV (HH w)) ⟨aN b lt k j c r,dG mx (bW n [10])⟩ .next
 ⟨aN b lt (k+nl.length) (j+1) 0 r,dG mx (bW (n+1) [10])⟩:=Zl (ob hn) λa nr ea _ D6 _=>by
 have s0:=qJ (U:=U) gM (gL (HH w)) T0 hl (OX (HH w) b k lt j c mx r (bW n [10])) (e6 gM (gL (HH w)) T0 hl (OY (HH w) b k lt j c mx r (bW n [10])) (EC T0 hl hp hr hn ht hc)) (JT _ _ _) (DS (by rw[tj];exact hz))
 rw[JU,show bW n [10]++[DV.str [10]]=bW (n+1) [10] from(List.replicate_succ' ..).symm] at s0
 exact aF.at (JD (HH w)) <| ao (iH (D8 T0 hl hr hp (c1:=a) (Txt.one (cs:=nr++[c1]) (by rw[<-Dh,<-ea];exact ht)) (aQ not (Bool.eq_false_iff.mpr λq=>D6 (iT q))))
  (ao s0 (ao ((zS gM (gL (HH w)) T0 hl).X _ _ _ _ (Ul (HH w) b (k+nl.length) lt (j+1) 0 mx r _)) bA))) bA
theorem rN {fl:au} {iS:aj} {j:Int} {n m:Nat} (e:Nat):∀(k c mx:Int) (p:Nat),Y.V.β b+k=p->c<=mx->Txt (Y.V.ς 0) p (List.replicate e 32)->
 cI U w 1521 Y (FI (HH w) 1198).sc 6 (wT (ai (iM (HH w)) 3)) (pV (HH w)) m ⟨aN b lt (k+e) j (c+e) r,dG (max mx (c+e)) (bW n [10])⟩ fl iS->
 cI U w 1521 Y (FI (HH w) 1198).sc 6 (wT (ai (iM (HH w)) 3)) (pV (HH w)) (m+e) ⟨aN b lt k j c r,dG mx (bW n [10])⟩ fl iS:=by
 induction e with
 |zero=>
  intro k c mx p _ hc _ hm
  rw[zI,zI,Int.max_eq_left hc] at hm
  exact hm
 |succ e ih=>
  intro k c mx p hp _ ht hm
  rw[RP,RP,<-PD] at hm
  exact .next (vJ T0 hl hr hp ht.one rfl) (Us T0 hl hr hp ht.one) (ih _ _ _ _ (hpS hp) (Int.le_max_right ..) ht.tail hm)
end
def XE:iJ.all (λnl=>List.casesOn (motive:=λ_=>Bool) nl false λa _=>bc a cz)=true:=KK
def ni {nl:List Nat} (hn:nl∈iJ) {e c0:Nat} (xi:nl=[13]->e=0->c0∈after) (ss:List Nat):∃a t,gI nl ss e c0=a::t/\(nl=[13]->a∈after):=by
 cases ss with
 |nil=>
  cases e with
  |zero=>exact⟨c0,[],rfl,λq=>xi q rfl⟩
  |succ e=>exact⟨32,aS e++[c0],rfl,λ_=>.head _⟩
 |cons s ss=>
  cases s with
  |zero=>exact Zl (ob hn) λa r ea _ _ haf=>⟨a,r++gI nl ss e c0,by show nl++gI nl ss e c0=_;rw[<-Dh,<-ea],haf⟩
  |succ s=>exact⟨32,aS s++(nl++gI nl ss e c0),rfl,λ_=>.head _⟩
def Ft (k:Int) (s L B e:Nat):k+s+L+B+e=k+((s+L+B:Nat):Int)+e:=aQ (· +(e:Int)) (by rw[Hv k,Hv k];rfl)
section
variable {U:Program} {w:World} {Y:Base} {b lt:Nat} {r:Rs} (T0:cQ (KF (HH w)) Y) (hl:bz Y) (hr:r.clean=true)
include T0 hl hr
theorem F7 {nl:List Nat} (hn:nl∈iJ) {e c0:Nat} (xh:bc c0 cz=false) (xi:nl=[13]->e=0->c0∈after) (ss:List Nat):∀(k j mx:Int) (p n:Nat),Y.V.β b+k=p->0<=mx->Txt (Y.V.ς 0) p (gI nl ss e c0)->n+ss.length<=1000->
 ∃m,cI U w 1521 Y (FI (HH w) 1198).sc 6 (wT (ai (iM (HH w)) 3)) (pV (HH w)) m ⟨aN b lt k j 0 r,dG mx (bW n [10])⟩ .next ⟨aN b lt (k+dk nl ss+e) (j+ss.length) e r,dG (wide mx ss e) (bW (n+ss.length) [10])⟩:=by
 induction ss with
 |nil=>
  intro k j mx p n hp hm hx _
  have t:=vJ (U:=U) (lt:=lt) (j:=j) (c:=0+e) (mx:=max mx (0+e)) (n:=n) T0 hl hr (qn hp e) (fN hx).2 xh
  have tu:=rN (U:=U) (m:=0) T0 hl hr e k 0 mx p hp hm (Txt.app hx).1 (.stop t)
  rw[zN] at tu
  show ∃m,cI U w 1521 Y _ 6 _ _ m _ _ ⟨aN b lt (k+((0:Nat):Int)+e) (j+((0:Nat):Int)) e r,dG (max mx e) (bW n [10])⟩
  rw[zI,zI]
  exact⟨_,tu⟩
 |cons s ss ih=>
  intro k j mx p n hp hm hx hz
  have x2:Txt (Y.V.ς 0) (p+s) (nl++gI nl ss e c0):=tj (n:=s) (a:=32)▸(Txt.app (a:=aS s) hx).2
  have hz:n+1+ss.length<=1000:=Nb n 1 ss.length▸hz
  have Zp:=qn hp s
  refine mw (ni hn xi ss) λa t q=>λha=>Zl (ob hn) λa' r' ea _ _ _=>fk (ih (k+s+nl.length) (j+1) (max mx s) (p+s+nl.length) (n+1) (qn Zp nl.length) (Int.le_trans hm (Int.le_max_left ..)) x2.app.2 hz) λm zH=>?_
  have hi:bc a' cz=true:=(show(List.casesOn (motive:=λ_=>Bool) (a'::r') false λa _=>bc a cz)=true from ea▸gj.mp XE nl hn)
  have bd:=Ur (U:=U) (lt:=lt) (j:=j) (c:=s) (mx:=max mx s) T0 hl hr hn Zp (Txt.app (a:=nl++[a]) (b:=t) (by rw[fc];exact(q▸x2:Txt (Y.V.ς 0) (p+s) (nl++a::t)))).1 ha (bw (Hx ..) hz)
  have ts:=vJ (U:=U) (lt:=lt) (j:=j) (c:=s) (mx:=max mx s) (n:=n) T0 hl hr Zp (Txt.one (c:=a') (cs:=r'++gI nl ss e c0) (by rw[<-Dh,<-ea];exact x2)) hi
  have tu:=cI.next ts bd zH
  rw[Ft,<-RP,Nb n 1] at tu
  have tu:=rN (U:=U) T0 hl hr s k 0 mx p hp hm (Txt.app (a:=aS s) hx).1 (by rw[zN];exact tu)
  exact⟨_,tu⟩
theorem JC {nl:List Nat} (hn:nl∈iJ) {e c0:Nat} (xh:bc c0 cz=false) (xi:nl=[13]->e=0->c0∈after) (ss:List Nat) {k j:Int} {p:Nat} (hp:Y.V.β b+k=p) (hx:Txt (Y.V.ς 0) p (gI nl ss e c0)) (hz:ss.length<=1000):
 af U w 1521 Y 7 (.ref 1198) [.self] [] (aN b lt k j 0 r) (.tup [.lst (bW ss.length [10]),.int (wide 0 ss e),.rf]) (aN b lt (k+dk nl ss+e) (j+ss.length) e r):=
 fk (F7 (U:=U) (lt:=lt) T0 hl hr hn xh xi ss k j 0 p 0 hp (Int.le_refl _) hx (by rw[zQ];exact hz)) λm hm=>by
  rw[zQ] at hm
  exact gd gM (gL (HH w)) T0 hl O0 (aF.at (F6 (HH w)) <| eH (zS gM (gL (HH w)) T0 hl) (ao (lJ (abh (HH w)) hm) (nh gM (gL (HH w)) T0 hl (OZ (HH w) b (k+dk nl ss+e) lt (j+ss.length) e (wide 0 ss e) r (bW ss.length [10]))))
   [ai (iM (HH w)) 0,ai (iM (HH w)) 1,ai (iM (HH w)) 2] _ (Uk (HH w) b k lt j 0 r)) rfl
end
section
variable {U:Program} {w:World} {Y:Base} {C:Nat}
def Rep.sr {P:Params} {G:Gh} {L:Addr} {aq:bU} {l l':List (Str×ae)} {s:Shared} (h:∀x,look l x=look l' x) (R:Rep P C Y G L ⟨aq,l⟩ s):Rep P C Y G L ⟨aq,l'⟩ s:=
 ⟨R.tocu,R.fB,bx R.locs λm hm hs=>⟨m,hm,λx e=>hs.miss x ((h x).trans e),λx k e=>hs.hit x k ((h x).trans e),λx y kx ky ex ey=>hs.once x y kx ky ((h x).trans ex) ((h y).trans ey)⟩⟩
def aF.sr {sc:Scope} {d:Nat} {b:List Stmt} {aq:bU} {l l':List (Str×ae)} {f:au} {ba:aj} (h:∀x,look l x=look l' x) (k:aF U w C Y sc d b ⟨aq,l'⟩ f ba):aF U w C Y sc d b ⟨aq,l⟩ f ba:=λA G L s env ro eo R=>k A G L s env ro eo (R.sr h)
end
section
variable (H:Array Nat->Int)
def bI:qi (KF H) 1177=some (FI H 1177):=KK
def bJ:bc 1177 vu=true:=KK
abbrev cM:List Stmt:=(FI H 1177).body
def Fv:cM H=[ai (cM H) 0,ai (cM H) 1,ai (cM H) 2,ai (cM H) 3,ai (cM H) 4,ai (cM H) 5,ai (cM H) 6,ai (cM H) 7,ai (cM H) 8,ai (cM H) 9,ai (cM H) 10,ai (cM H) 11,ai (cM H) 12,ai (cM H) 13]:=KK
abbrev rh:Stmt:=ai (cM H) 10
abbrev bV:List Stmt:=wB (rh H)
def RB:rh H=.While (.BoolOp .And [bE (wT (rh H)) 0,bE (wT (rh H)) 1] (bP (wT (rh H)))) (bV H) [] (wP (rh H)):=KK
def Tq:bV H=[ai (bV H) 0,ai (bV H) 1,ai (bV H) 2,ai (bV H) 3,ai (bV H) 4,ai (bV H) 5,ai (bV H) 6,ai (bV H) 7,ai (bV H) 8]:=KK
abbrev iW:Stmt:=ai (bV H) 8
abbrev jm:Stmt:=ai (wB (iW H)) 0
abbrev jU:Stmt:=ai (wB (jm H)) 0
def H2:iW H=.If (.BoolOp .And [bE (wT (iW H)) 0,bE (wT (iW H)) 1] (bP (wT (iW H)))) [jm H] [ai (wO (iW H)) 0] (wP (iW H)):=KK
def NK:jm H=.If (wT (jm H)) [jU H] [ai (wO (jm H)) 0] (wP (jm H)):=KK
def NL:jU H=.If (wT (jU H)) [ai (wB (jU H)) 0] [] (wP (jU H)):=KK
end
structure Lc where
 zm:DV
 fold:Bool
 xP:DV
 JB:DV
 J8:DV
 ind:Int
def Ea (q:Lc) (lb:List Nat) (cs:List DV) (bl:DV) (tl:List (Str×ae)):List (Str×ae):=
 (ag,.pv .self)::(fF,.pv q.zm)::(WI,.pv (.bool q.fold))::(eB,.ml cs)::(aK,.pv .rf)::(KJ,.pv q.xP)::(KL,.pv q.JB)::(WJ,.pv q.J8)::(GH,.pv bl)::(bg,.pv .rf)::(gH,.pv (.int q.ind))::(yB,.pv (.str lb))::tl
abbrev bK (q:Lc) (lb:List Nat) (cs:List DV) (bs:List DV) (tl:List (Str×ae)):List (Str×ae):=Ea q lb cs (.lst bs) tl
def tB (ln:Bool) (n:Int) (mi:List (Str×ae)):List (Str×ae):=(yC,.pv (.bool ln))::(gO,.pv (.int n))::mi
def Lc.tg (θ:Tg) (q:Lc):Lc:=⟨q.zm.tg θ,q.fold,q.xP.tg θ,q.JB.tg θ,q.J8.tg θ,q.ind⟩
def JP (θ:Tg) (q:Lc) (lb:List Nat) (cs:List DV) (bl:DV) (tl:List (Str×ae)):kY θ (Ea q lb cs bl tl)=Ea (q.tg θ) lb (oL θ cs) (bl.tg θ) (kY θ tl):=rfl
def Po (θ:Tg) (q:Lc) (lb:List Nat) (cs bs:List DV) (tl:List (Str×ae)):kY θ (bK q lb cs bs tl)=bK (q.tg θ) lb (oL θ cs) (oL θ bs) (kY θ tl):=(JP ..).trans (aQ (Ea _ _ _ · _) (C8 θ bs))
def Mv (θ:Tg) (ln:Bool) (n:Int) (mi:List (Str×ae)):kY θ (tB ln n mi)=tB ln n (kY θ mi):=rfl
section
variable (H:Array Nat->Int) (b:Nat) (k:Int) (lt:Nat) (j c:Int) (r:Rs) (q:Lc) (lb:List Nat) (cs bs:List DV) (mi:List (Str×ae))
def Ts (tl:List (Str×ae)):(fR H bY 8 1177).T (bE (wT (rh H)) 0) ⟨aN b lt k j c r,bK q lb cs bs tl⟩=some (c==q.ind,⟨aN b lt k j c r,bK q lb cs bs tl⟩):=KK
def Tt (c0:Nat) (tl:List (Str×ae)):(fR H (mL [c0] []) 8 1177).T (bE (wT (rh H)) 1) ⟨aN 1 2 0 0 c r,bK q lb cs bs tl⟩=some (!fQ [c0] [0],⟨aN 1 2 0 0 c r,bK q lb cs bs tl⟩):=KK
def H0 (tl:List (Str×ae)):(fR H bY 8 1177).T (bE (wT (iW H)) 0) ⟨aN b lt k j c r,bK q lb cs bs tl⟩=some (c==q.ind,⟨aN b lt k j c r,bK q lb cs bs tl⟩):=KK
def Tj (c0:Nat) (tl:List (Str×ae)):(fR H (mL [c0] []) 8 1177).T (bE (wT (iW H)) 1) ⟨aN 1 2 0 0 c r,bK q lb cs bs tl⟩=some (!fQ [c0] [0],⟨aN 1 2 0 0 c r,bK q lb cs bs tl⟩):=KK
def NJ (tl:List (Str×ae)):xX (eT H bY 8 1177) (ai (bV H) 0) ⟨aN b lt k j c r,bK q lb cs bs tl⟩=some (.loc eB,k7 (ai (bV H) 0)):=KK
def NI (tl:List (Str×ae)):(fR H bY 8 1177).E (k7 (ai (bV H) 0)) ⟨aN b lt k j c r,bK q lb cs bs tl⟩=some (.pv (.lst bs),⟨aN b lt k j c r,bK q lb cs bs tl⟩):=KK
def M5:List Nat:=[32,9]
def HX (c0:Nat):cj (fR H (mL [c0] []) 8 1177) [ai (bV H) 1,ai (bV H) 2] ⟨aN 1 2 0 0 c r,bK q lb cs bs mi⟩=some (.next,⟨aN 1 2 0 0 c r,bK q lb cs bs (bS (bS mi yC (.pv (.bool (!bc c0 M5)))) gO (.pv (.int 0)))⟩):=KK
def HY (c0:Nat) (ln:Bool) (n:Int):cj (fR H (mL [c0] []) 8 1177) [ai (bV H) 1,ai (bV H) 2] ⟨aN 1 2 0 0 c r,bK q lb cs bs (tB ln n mi)⟩=some (.next,⟨aN 1 2 0 0 c r,bK q lb cs bs (tB (!bc c0 M5) 0 mi)⟩):=KK
def ND (tl:List (Str×ae)):jw (eT H bY 8 1177) (ai (bV H) 4) ⟨aN b lt k j c r,bK q lb cs bs tl⟩=some (.loc eB,k7 (ai (bV H) 4)):=KK
def Tr (tl:List (Str×ae)):nB (eT H bY 8 1177) (fR H bY 8 1177) (kr (ai (bV H) 6)) ⟨aN b lt k j c r,bK q lb cs bs tl⟩=some (1278,[.self],⟨aN b lt k j c r,bK q lb cs bs tl⟩):=KK
def NN (tl:List (Str×ae)) (x:List Nat):tM (eT H bY 8 1177) (ai (bV H) 6) (.str x) ⟨aN b lt k j c r,bK q lb cs bs tl⟩=some ⟨aN b lt k j c r,bK q x cs bs tl⟩:=KK
def Ti (tl:List (Str×ae)):nB (eT H bY 8 1177) (fR H bY 8 1177) (kr (ai (bV H) 7)) ⟨aN b lt k j c r,bK q lb cs bs tl⟩=some (1205,[.self,.int q.ind],⟨aN b lt k j c r,bK q lb cs bs tl⟩):=KK
def NG (tl:List (Str×ae)) (x:List DV):tM (eT H bY 8 1177) (ai (bV H) 7) (.tup [.lst x,.rf]) ⟨aN b lt k j c r,bK q lb cs bs tl⟩=some ⟨aN b lt k j c r,bK q lb cs x tl⟩:=KK
def To (c0:Nat) (ln fo:Bool) (n:Int):(fR H (mL [c0] []) 8 1177).T (wT (jm H)) ⟨aN 1 2 0 0 c r,bK ⟨q.zm,fo,q.xP,q.JB,q.J8,q.ind⟩ [10] cs bs (tB ln n mi)⟩=some (fo&&ln&&!bc c0 M5,⟨aN 1 2 0 0 c r,bK ⟨q.zm,fo,q.xP,q.JB,q.J8,q.ind⟩ [10] cs bs (tB ln n mi)⟩):=by
 have g:∀x:Bool,∀Z:aj,(bif x then some (true,Z) else some (false,Z))=some (x,Z):=λx Z=>by cases x<;>rfl
 cases fo
 ·kernel_rfl
 ·cases ln
  ·kernel_rfl
  ·refine Eq.trans ?_ (g (!bc c0 M5) _)
   kernel_rfl
def Tp (x:List DV) (tl:List (Str×ae)):(fR H bY 8 1177).T (wT (jU H)) ⟨aN b lt k j c r,bK q lb cs x tl⟩=some (!(!x.isEmpty),⟨aN b lt k j c r,bK q lb cs x tl⟩):=KK
def Th (tl:List (Str×ae)):jw (eT H bY 8 1177) (ai (wB (jU H)) 0) ⟨aN b lt k j c r,bK q lb cs bs tl⟩=some (.loc eB,k7 (ai (wB (jU H)) 0)):=KK
def NF (tl:List (Str×ae)):(fR H bY 8 1177).E (k7 (ai (wB (jU H)) 0)) ⟨aN b lt k j c r,bK q lb cs bs tl⟩=some (.pv (.str [32]),⟨aN b lt k j c r,bK q lb cs bs tl⟩):=KK
def Tf (tl:List (Str×ae)):jw (eT H bY 8 1177) (ai (wO (jm H)) 0) ⟨aN b lt k j c r,bK q lb cs bs tl⟩=some (.loc eB,k7 (ai (wO (jm H)) 0)):=KK
def NC (tl:List (Str×ae)):(fR H bY 8 1177).E (k7 (ai (wO (jm H)) 0)) ⟨aN b lt k j c r,bK q lb cs bs tl⟩=some (.pv (.str lb),⟨aN b lt k j c r,bK q lb cs bs tl⟩):=KK
def NH (tl:List (Str×ae)):(fR H bY 8 1177).X (ai (wO (iW H)) 0) ⟨aN b lt k j c r,bK q lb cs bs tl⟩=some (.brk,⟨aN b lt k j c r,bK q lb cs bs tl⟩):=KK
end
def yj (q:Lc) (lb:List Nat) (cs bs:List DV) (tl:List (Str×ae)) (l:List DV) (aq:bU):(Pl.loc eB).set ⟨aq,bK q lb cs bs tl⟩ (.ml l)=⟨aq,bK q lb l bs tl⟩:=aQ (aj.mk aq) ((bk ..).symm.trans (show bS (bK q lb cs bs tl) eB (ae.ml l)=bK q lb l bs tl by kernel_rfl))
def rV (q:Lc) (lb:List Nat) (cs bs:List DV) (tl:List (Str×ae)) (aq:bU):(Pl.loc eB).get ⟨aq,bK q lb cs bs tl⟩=some (.ml cs):=(aG ..).symm.trans (show aT (bK q lb cs bs tl) eB=some (.ml cs) by kernel_rfl)
def vc (n:Nat) (c:Int):Int:=Nat.rec (motive:=λ_=>Int) c (λ_ x=>x+1) n
def aeo (n:Nat) (c:Int):vc n c=c+n:=by
 induction n with
 |zero=>exact(zI c).symm
 |succ n ih=>exact(aQ (· +1) ih).trans (Hv c n 1)
def dm:List (List Nat):=[[97],[98,32,99],[98],[99],[32,32,100,32,101],[9,117,32,118],[102,32,32,103],[102,32],[103],[35,32,104,58,32,105],[35,32,104,58],[105],[35],[104,58,32,105],[32],[45,32,106,32,107,32,108],[45],[106],[107],[108],[109,32,110,32,111,32,112],[109],[110],[111],[112]]
section
variable (H:Array Nat->Int) (c:Int) (r:Rs) (q:Lc) (lb:List Nat) (cs bs:List DV) (ln:Bool) (mi:List (Str×ae))
def Zm (c:Int) (k:Nat) (n:Int):aj:=⟨aN 1 2 k 0 c r,bK q lb cs bs (tB ln n mi)⟩
def Am:dm.map (λf=>[10,13,133].map λn0=>cj (fR H (mL (f++[n0]) []) 8 1177) [ai (bV H) 3] (Zm r q lb cs bs ln mi c 0 0))=dm.map λf=>[10,13,133].map λ_=>some (.next,Zm r q lb cs bs ln mi c 0 f.length):=KK
def FU:dm.map (λf=>(fR H (mL f (List.replicate f.length none++[some false])) 8 1177).E (k7 (ai (bV H) 4)) (Zm r q lb cs bs ln mi c 0 f.length))=dm.map λf=>some (.pv (.str f),Zm r q lb cs bs ln mi c 0 f.length):=KK
def FT:dm.map (λf=>cj (fR H (mL f (List.replicate (f.length+1) none++[some false])) 8 1177) [ai (bV H) 5] (Zm r q lb cs bs ln mi c 0 f.length))=dm.map λf=>some (.next,Zm r q lb cs bs ln mi (vc f.length c) f.length f.length):=KK
end
structure S1 (H:Array Nat->Int) (f:List Nat):Prop where
 scan:∀(n0:Nat),n0∈[10,13,133]->∀(c:Int) (r:Rs) (q:Lc) (lb:List Nat) (cs bs:List DV) (ln:Bool) (mi:List (Str×ae)),cj (fR H (mL (f++[n0]) []) 8 1177) [ai (bV H) 3] ⟨aN 1 2 0 0 c r,bK q lb cs bs (tB ln 0 mi)⟩=some (.next,⟨aN 1 2 0 0 c r,bK q lb cs bs (tB ln f.length mi)⟩)
 pre:∀(c:Int) (r:Rs) (q:Lc) (lb:List Nat) (cs bs:List DV) (ln:Bool) (mi:List (Str×ae)),(fR H (mL f (List.replicate f.length none++[some false])) 8 1177).E (k7 (ai (bV H) 4)) ⟨aN 1 2 0 0 c r,bK q lb cs bs (tB ln f.length mi)⟩=some (.pv (.str f),⟨aN 1 2 0 0 c r,bK q lb cs bs (tB ln f.length mi)⟩)
 fwd:∀(c:Int) (r:Rs) (q:Lc) (lb:List Nat) (cs bs:List DV) (ln:Bool) (mi:List (Str×ae)),cj (fR H (mL f (List.replicate (f.length+1) none++[some false])) 8 1177) [ai (bV H) 5] ⟨aN 1 2 0 0 c r,bK q lb cs bs (tB ln f.length mi)⟩=some (.next,⟨aN 1 2 f.length 0 (vc f.length c) r,bK q lb cs bs (tB ln f.length mi)⟩)
def Oy (H:Array Nat->Int) (f:List Nat) (m:f∈dm):S1 H f:=⟨λn0 h c r q lb cs bs ln mi=>aW (aW (Am H c r q lb cs bs ln mi) f m) n0 h,λc r q lb cs bs ln mi=>aW (FU H c r q lb cs bs ln mi) f m,λc r q lb cs bs ln mi=>aW (FT H c r q lb cs bs ln mi) f m⟩
abbrev Item:=List Nat×List Nat
def jY (nl ss:List Nat):List Nat:=List.rec (motive:=λ_=>List Nat) [] (λs _ ih=>aS s++(nl++ih)) ss
def LK (nl:List Nat) (e c0:Nat) (ss:List Nat):gI nl ss e c0=jY nl ss++(aS e++[c0]):=by
 induction ss with
 |nil=>rfl
 |cons s ss ih=>show aS s++(nl++gI nl ss e c0)=(aS s++(nl++jY nl ss))++_;rw[ih,fc,fc]
def nF (nl ss:List Nat):(jY nl ss).length=dk nl ss:=by
 induction ss with
 |nil=>rfl
 |cons s ss ih=>show(aS s++(nl++jY nl ss)).length=s+nl.length+dk nl ss;rw[da,da,aS,tj,ih,xc]
def lead (ind e:Nat) (aR:List Item):Nat:=List.casesOn (motive:=λ_=>Nat) aR e λ_ _=>ind
def pU (c0:Nat) (aR:List Item):Nat:=List.casesOn (motive:=λ_=>Nat) aR c0 λit _=>it.1.headD 0
def gv (nl:List Nat) (ind e c0:Nat) (aR:List Item):List Nat:=List.rec (motive:=λ_=>List Nat) [c0] (λit aR ih=>it.1++(nl++(jY nl it.2++(aS (lead ind e aR)++ih)))) aR
def j9 (nl:List Nat) (ind e:Nat) (aR:List Item):Nat:=List.rec (motive:=λ_=>Nat) 0 (λit aR ih=>it.1.length+nl.length+dk nl it.2+lead ind e aR+ih) aR
def m8 (aR:List Item):Nat:=List.rec (motive:=λ_=>Nat) 0 (λit _ ih=>1+it.2.length+ih) aR
def yn (f:List Nat):Bool:=!bc (f.headD 0) M5
def gap (fold:Bool) (it:Item) (aR:List Item):List (List Nat):=List.casesOn (motive:=λ_=>List (List Nat)) aR [] λit' _=>if fold&&yn it.1&&yn it'.1 then(if it.2.isEmpty then[[32]] else[]) else[[10]]
def tm (fold:Bool) (n:Nat) (aR:List Item):List (List Nat):=List.rec (motive:=λ_=>Nat->List (List Nat)) (λ_=>[]) (λit aR ih n=>List.replicate n [10]++(it.1::(gap fold it aR++ih it.2.length))) aR n
def ir (n:Nat) (aR:List Item):Nat:=List.rec (motive:=λ_=>Nat->Nat) id (λit _ ih _=>ih it.2.length) aR n
def zA (aR:List Item):Nat:=List.rec (motive:=λ_=>Nat) 0 (λit _ ih=>2+it.2.length+ih) aR
def FR:dm.all (λf=>List.casesOn (motive:=λ_=>Bool) f false λa _=>!bc a cJ&&!fQ [a] [0])=true:=KK
def lQ {f:List Nat} (m:f∈dm):∃a l,f=a::l/\bc a cJ=false/\fQ [a] [0]=false:=by
 have h:=gj.mp FR f m
 cases f with
 |nil=>exact ft h
 |cons a l=>exact a2 (aw h) λh1 h2=>⟨a,l,rfl,iA h1,iA h2⟩
def lr (nl:List Nat) (ind e c0:Nat) (aR:List Item) (h:∀it∈aR,it.1∈dm):∃t,gv nl ind e c0 aR=pU c0 aR::t:=by
 cases aR with
 |nil=>exact⟨[],rfl⟩
 |cons it aR=>exact mw (lQ (h it (.head _))) λa l e1 _=>⟨l++(nl++(jY nl it.2++(aS (lead ind e aR)++gv nl ind e c0 aR))),by show it.1++_=it.1.headD 0::_;rw[e1];rfl⟩
def nv (o:Option Int):List (Str×ae):=Option.casesOn (motive:=λ_=>List (Str×ae)) o [] λv=>[(yA,.pv (.int v))]
def pg (θ:Tg) (o:Option Int):kY θ (nv o)=nv o:=by cases o<;>rfl
def Lc.clean (q:Lc):Bool:=q.zm.clean&&(q.xP.clean&&(q.JB.clean&&q.J8.clean))
def Lc.bO {θ:Tg} (h:low θ) {q:Lc} (c:q.clean=true):q.tg θ=q:=
 a2 (aw c) λh1 c=>a2 (aw c) λh2 c=>a2 (aw c) λh3 h4=>congr (congr (congr (aQ (λs c i m=>Lc.mk s q.fold c i m q.ind) (DV.bO h h1)) (DV.bO h h2)) (DV.bO h h3)) (DV.bO h h4)
def Ii (l:List (List Nat)):ie (l.map .str)=true:=by
 induction l with
 |nil=>rfl
 |cons a l ih=>exact ih
def tF (ln:Bool) (o:Option Int):List (Str×ae):=bS (bS (nv o) yC (.pv (.bool ln))) gO (.pv (.int 0))
def E3 (ln:Bool):tF ln none=[(yC,.pv (.bool ln)),(gO,.pv (.int 0))]:=KK
def E4 (ln:Bool) (v:Int):tF ln (some v)=[(yA,.pv (.int v)),(yC,.pv (.bool ln)),(gO,.pv (.int 0))]:=KK
def adG (θ:Tg) (ln:Bool) (o:Option Int):kY θ (tF ln o)=tF ln o:=by
 cases o
 ·rw[E3];rfl
 ·rw[E4];rfl
def uw {α:Type} {p:Str×α} {l l':List (Str×α)} {x:Str} (h:look l x=look l' x):look (p::l) x=look (p::l') x:=aQ (λo=>if p.1=x then some p.2 else o) h
def r6 {α:Type} {a a':List (Str×α)} {x:Str} (h:look a x=look a' x) (l:List (Str×α)):look (l++a) x=look (l++a') x:=by
 induction l with
 |nil=>exact h
 |cons p l ih=>exact uw ih
def Gj {α:Type} {l:List (Str×α)} {a b:Str×α} {x:Str} (ne:b.1≠a.1):look (a::b::l) x=look (b::a::l) x:=by
 show(if a.1=x then some a.2 else if b.1=x then some b.2 else look l x)=if b.1=x then some b.2 else if a.1=x then some a.2 else look l x
 by_cases h:a.1=x
 ·rw[d8 h,dZ λq=>ne (q.trans h.symm),d8 h]
 ·rw[dZ h,dZ h]
theorem qH {α:Type} {p:Str×α} {x:Str} (t:List (Str×α)):∀l:List (Str×α),l.all (λy=>!cU y.1 p.1)=true->look (p::(l++t)) x=look (l++p::t) x
 |[],_=>rfl
 |_::l,h=>(Gj (ja (iA (aw h).1))).trans (uw (qH t l (aw h).2))
def aiq (q:Lc) (lb:List Nat) (cs bs:List DV):List (Str×ae):=bK q lb cs bs []
def Ey (q:Lc) (lb:List Nat) (cs bs:List DV) (tl:List (Str×ae)):bK q lb cs bs tl=aiq q lb cs bs++tl:=KK
def Gg {q:Lc} {lb:List Nat} {cs bs:List DV} {a a':List (Str×ae)} {x:Str} (h:look a x=look a' x):look (bK q lb cs bs a) x=look (bK q lb cs bs a') x:=by
 rw[Ey q lb cs bs a,Ey q lb cs bs a']
 exact r6 h _
def QW (ln:Bool):tB ln 0 (nv none)=[(yC,.pv (.bool ln)),(gO,.pv (.int 0))]:=KK
def QX (ln:Bool) (v:Int):tB ln 0 (nv (some v))=[(yC,.pv (.bool ln)),(gO,.pv (.int 0)),(yA,.pv (.int v))]:=KK
def Pu (ln:Bool) (o:Option Int) (q:Lc) (lb:List Nat) (cs bs:List DV) (x:Str):look (bK q lb cs bs (tF ln o)) x=look (bK q lb cs bs (tB ln 0 (nv o))) x:=Gg (by
 cases o
 ·rw[E3,QW]
 ·rw[E4,QX];exact qH [] [_,_] KK)
section
variable {U:Program} {w:World} {Y:Base} {b lt:Nat} {r:Rs} (T0:cQ (KF (HH w)) Y) (hl:bz Y) (hr:r.clean=true) {q:Lc} (hq:q.clean=true)
abbrev SB (b:Nat) (k:Int) (lt:Nat) (j c:Int) (r:Rs) (q:Lc) (lb:List Nat) (bX:List (List Nat)) (n:Nat) (tl:List (Str×ae)):aj:=⟨aN b lt k j c r,bK q lb (bX.map .str) (bW n [10]) tl⟩
include hr hq
theorem HQ {k j x y c:Int} {lb:List Nat} {bX:List (List Nat)} {n:Nat} {tl:List (Str×ae)} (ht:∀θ,kY θ tl=tl):(SB 1 x 2 y c r q lb bX n tl).tg (mn b k lt j)=SB b (k+x) lt (j+y) c r q lb bX n tl:=
 have z:=Gk b k lt j
 Aj hr (by rw[Po,Lc.bO z hq,ht,qL n [10] _ z,gy z (Ii bX)])
theorem va {k j c:Int} {lb:List Nat} {bX:List (List Nat)} {n:Nat} {tl:List (Str×ae)} (ht:∀θ,kY θ tl=tl):(SB 1 0 2 0 c r q lb bX n tl).tg (mn b k lt j)=SB b k lt j c r q lb bX n tl:=(HQ hr hq ht).trans (by rw[zE,zE])
include T0 hl
theorem DA {k j:Int} {p:Nat} {cs:List Nat} {m:List (Option Bool)} (hp:Y.V.β b+k=p) (h2:Txt (Y.V.ς 0) p cs) (h3:dR (Y.V.ς 0) p m)
 {l l':List Stmt} {x y c c':Int} {lb lb':List Nat} {bX Iv:List (List Nat)} {n n':Nat} {tl Q8:List (Str×ae)} {fl:au} {ah:aj} (ht:∀θ,kY θ tl=tl) (ht':∀θ,kY θ Q8=Q8)
 (run:cj (fR (HH w) (mL cs m) 8 1177) l (SB 1 0 2 0 c r q lb bX n tl)=some (.next,SB 1 x 2 y c' r q lb' Iv n' Q8))
 (kk:aF U w 1521 Y (FI (HH w) 1177).sc 8 l' (SB b (k+x) lt (j+y) c' r q lb' Iv n' Q8) fl ah):aF U w 1521 Y (FI (HH w) 1177).sc 8 (l++l') (SB b k lt j c r q lb bX n tl) fl ah:=
 va hr hq ht▸sG (θ:=mn b k lt j) (ud bJ (bI (HH w)) T0 (mZ hl hp h2 h3)) (fb (HQ hr hq ht')▸kk) l _ run
theorem rj {k j:Int} {p:Nat} {cs:List Nat} (hp:Y.V.β b+k=p) (h2:Txt (Y.V.ς 0) p cs) {e:Expr} {c:Int} {lb:List Nat} {bX:List (List Nat)} {n:Nat} {tl:List (Str×ae)} {v v':Bool} (ht:∀θ,kY θ tl=tl)
 (run:(fR (HH w) (mL cs []) 8 1177).T e (SB 1 0 2 0 c r q lb bX n tl)=some (v,SB 1 0 2 0 c r q lb bX n tl)) (hv:v=v'):bu U w 1521 Y (FI (HH w) 1177).sc 8 e (SB b k lt j c r q lb bX n tl) v' (SB b k lt j c r q lb bX n tl):=
 hv▸va (b:=b) (lt:=lt) (k:=k) (j:=j) (c:=c) (lb:=lb) (bX:=bX) (n:=n) hr hq ht▸yV (b:=b) (lt:=lt) (k:=k) (j:=j) bJ (bI (HH w)) T0 hl hp h2 .nil run
omit hr hq
theorem qy {st:Stmt} {e:Expr} {x lb:List Nat} {bX:List (List Nat)} {n:Nat} {tl:List (Str×ae)} {k j c:Int} (a:jw (eT (HH w) bY 8 1177) st (SB b k lt j c r q lb bX n tl)=some (.loc eB,e)) (s:aC U w 1521 Y (FI (HH w) 1177).sc 8 e (SB b k lt j c r q lb bX n tl) (.str x) (SB b k lt j c r q lb bX n tl))
 (hz:bX.length+1<=1000000):aU U w 1521 Y (FI (HH w) 1177).sc 8 st (SB b k lt j c r q lb bX n tl) .next (SB b k lt j c r q lb (bX++[x]) n tl):=by
 have s:=qJ bJ (bI (HH w)) T0 hl a s (rV ..) (by rw[mG];exact bw hz (by decide))
 rw[yj,show bX.map DV.str++[.str x]=(bX++[x]).map .str from(@Na _ _ _ bX [x]).symm] at s
 exact s
theorem Dx {st:Stmt} {e:Expr} {lb:List Nat} {bX:List (List Nat)} {n:Nat} {tl:List (Str×ae)} {k j c:Int} (a:xX (eT (HH w) bY 8 1177) st (SB b k lt j c r q lb bX n tl)=some (.loc eB,e)) (s:aC U w 1521 Y (FI (HH w) 1177).sc 8 e (SB b k lt j c r q lb bX n tl) (.lst (bW n [10])) (SB b k lt j c r q lb bX n tl))
 (hz:bX.length+n<=1000000):aU U w 1521 Y (FI (HH w) 1177).sc 8 st (SB b k lt j c r q lb bX n tl) .next (SB b k lt j c r q lb (bX++List.replicate n [10]) n tl):=by
 have s:=PK bJ (bI (HH w)) T0 hl a s (rV ..) (by rw[mG,tj];exact bw hz (by decide))
 rw[yj,show bX.map DV.str++bW n [10]=(bX++List.replicate n [10]).map .str by rw[Na,List.map_replicate]] at s
 exact s
theorem xx {k j c:Int} {lb:List Nat} {bX:List (List Nat)} {n:Nat} {tl:List (Str×ae)} (h:c≠q.ind):aF U w 1521 Y (FI (HH w) 1177).sc 8 [iW (HH w)] (SB b k lt j c r q lb bX n tl) .brk (SB b k lt j c r q lb bX n tl):=by
 have t:=kG (U:=U) bJ (bI (HH w)) T0 hl (H0 (HH w) b k lt j c r q lb (bX.map .str) (bW n [10]) tl)
 rw[HG.mpr h] at t
 refine jd ?_ rfl
 rw[H2]
 exact lI (jh t ⟨rfl,rfl⟩) (jd ((zS bJ (bI (HH w)) T0 hl).X _ _ _ _ (NH (HH w) b k lt j c r q lb (bX.map .str) (bW n [10]) tl)) rfl)
include hr hq
theorem xy {k j c:Int} {p:Nat} (hp:Y.V.β b+k=p) {c1:Nat} {bX:List (List Nat)} {n:Nat} {ln:Bool} {le:Int} {o:Option Int} (h:c=q.ind) (h2:Txt (Y.V.ς 0) p [c1]) (h1:fQ [c1] [0]=false) (hz:bX.length+1<=1000000):
 aF U w 1521 Y (FI (HH w) 1177).sc 8 [iW (HH w)] (SB b k lt j c r q [10] bX n (tB ln le (nv o))) .next (SB b k lt j c r q [10] (bX++(bif q.fold&&ln&&!bc c1 M5 then(if n=0 then[[32]] else[]) else[[10]])) n (tB ln le (nv o))):=by
 have RO:∀θ,kY θ (tB ln le (nv o))=tB ln le (nv o):=λθ=>(Mv ..).trans (aQ (tB ln le) (pg θ o))
 have t:=kG (U:=U) bJ (bI (HH w)) T0 hl (H0 (HH w) b k lt j c r q [10] (bX.map .str) (bW n [10]) (tB ln le (nv o)))
 rw[iI.mpr h] at t
 have t1:=rj (U:=U) (lt:=lt) (j:=j) T0 hl hr hq hp h2 RO (Tj (HH w) c r q [10] (bX.map .str) (bW n [10]) c1 (tB ln le (nv o))) (aQ (!·) h1)
 have t2:=rj (U:=U) (lt:=lt) (j:=j) T0 hl hr hq hp h2 RO (To (HH w) c r q (bX.map .str) (bW n [10]) (nv o) c1 ln q.fold le) rfl
 rw[H2]
 refine ao (iH (sZ t t1) (ao ?_ bA)) bA
 rw[NK]
 revert t2
 cases q.fold&&ln&&!bc c1 M5 with
 |false=>exactλt2=>lI t2 (ao (qy T0 hl (Tf ..) (gW bJ (bI (HH w)) T0 hl (NC ..)) hz) bA)
 |true=>
  refineλt2=>iH t2 (ao ?_ bA)
  rw[NL]
  have t3:=kG (U:=U) bJ (bI (HH w)) T0 hl (Tp (HH w) b k lt j c r q [10] (bX.map .str) (bW n [10]) (tB ln le (nv o)))
  cases n with
  |zero=>exact iH t3 (ao (qy T0 hl (Th ..) (gW bJ (bI (HH w)) T0 hl (NF ..)) hz) bA)
  |succ n=>exact lI t3 (by rw[show(bif true then(if n+1=0 then[[32]] else[]) else[[10]]:List (List Nat))=[] from(dZ (Nat.succ_ne_zero n):(if n+1=0 then([[32]]:List (List Nat)) else[])=[]),ti];exact bA)
end
def uy:∀nl∈iJ,∃n0 nr,nl=n0::nr/\n0∈[10,13,133]:=
 e9.mpr ⟨⟨_,_,rfl,.head _⟩,e9.mpr ⟨⟨_,_,rfl,.tail _ (.head _)⟩,e9.mpr ⟨⟨_,_,rfl,.tail _ (.head _)⟩,e9.mpr ⟨⟨_,_,rfl,.tail _ (.tail _ (.head _))⟩,qT _⟩⟩⟩⟩
def Ec {ind e:Nat} (he:e<ind) (aR:List Item):lead ind e aR<=ind:=by
 cases aR with
 |nil=>exact Rp he
 |cons _ _=>exact fy _
section
variable {S:List Nat} {p:Nat}
def dR.rep (l:Nat):dR S p (List.replicate l none):=λn c h=>by
 rw[List.getElem?_replicate] at h
 by_cases q:n<l
 ·rw[d8 q] at h;cases h
 ·rw[dZ q] at h;cases h
def Eh {l:Nat} (h:p+l<S.length):dR S p (List.replicate l none++[some false]):=(dR.rep l).snoc λc e=>(eN e).symm.trans (Hy (by rw[tj];exact Nat.not_le.mpr h)).symm
def Txt.C9 {a t:List Nat} {c:Nat} (h:Txt S p (a++c::t)):Txt S p (a++[c]):=(Txt.app (List.append_cons a c t▸h)).1
def Txt.SK {a b t:List Nat} {c:Nat} (h:Txt S p (a++(b++c::t))):Txt S p (a++(b++[c])):=fc a b [c]▸Txt.C9 (a:=a++b) ((fc a b (c::t)).symm▸h)
def Txt.nl2 {nl:List Nat} (hn:nl∈iJ) {t:List Nat} {c:Nat} (h:Txt S p (t++(nl++[c]))):p+(t.length+2)<=S.length:=mw (uy nl hn) λ_ nr en _=>by
 have:=h.lt (List.append_ne_nil_of_right_ne_nil _ (List.append_ne_nil_of_right_ne_nil _ λq=>cn q))
 rw[en,da,da] at this
 exact bw (xl (xl (oJ 2 nr.length) _) p) this
end
def sx (nl:List Nat) (e c0:Nat) (ss t:List Nat):jY nl ss++(aS e++c0::t)=gI nl ss e c0++t:=by rw[LK,fc,fc];rfl
section
variable {U:Program} {w:World} {Y:Base} {b lt:Nat} {r:Rs} (T0:cQ (KF (HH w)) Y) (hl:bz Y) (hr:r.clean=true) {q:Lc} (hq:q.clean=true)
abbrev BX (U:Program) (w:World) (Y:Base):List Stmt->aj->au->aj->Prop:=aF U w 1521 Y (FI (HH w) 1177).sc 8
include T0 hl hr hq
theorem H5 {k j:Int} {p:Nat} {cs:List Nat} {m:List (Option Bool)} (hp:Y.V.β b+k=p) (h2:Txt (Y.V.ς 0) p cs) (h3:dR (Y.V.ς 0) p m) {e:Expr} {c:Int} {lb f:List Nat} {bX:List (List Nat)} {n:Nat} {tl:List (Str×ae)} (ht:∀θ,kY θ tl=tl)
 (run:(fR (HH w) (mL cs m) 8 1177).E e (SB 1 0 2 0 c r q lb bX n tl)=some (.pv (.str f),SB 1 0 2 0 c r q lb bX n tl)):aC U w 1521 Y (FI (HH w) 1177).sc 8 e (SB b k lt j c r q lb bX n tl) (.str f) (SB b k lt j c r q lb bX n tl):=
 va (b:=b) (lt:=lt) (k:=k) (j:=j) (c:=c) (lb:=lb) (bX:=bX) (n:=n) hr hq ht▸adp (b:=b) (lt:=lt) (k:=k) (j:=j) bJ (bI (HH w)) T0 hl hp h2 h3 run
theorem ri {k j:Int} {p:Nat} {cs:List Nat} (hp:Y.V.β b+k=p) (h2:Txt (Y.V.ς 0) p cs)
 {l l':List Stmt} {c c':Int} {lb lb':List Nat} {bX Iv:List (List Nat)} {n n':Nat} {tl Q8:List (Str×ae)} {fl:au} {ah:aj} (ht:∀θ,kY θ tl=tl) (ht':∀θ,kY θ Q8=Q8)
 (run:cj (fR (HH w) (mL cs []) 8 1177) l (SB 1 0 2 0 c r q lb bX n tl)=some (.next,SB 1 0 2 0 c' r q lb' Iv n' Q8))
 (kk:BX U w Y l' (SB b k lt j c' r q lb' Iv n' Q8) fl ah):BX U w Y (l++l') (SB b k lt j c r q lb bX n tl) fl ah:=
 DA T0 hl hr hq hp h2 .nil ht ht' run (by rw[zE,zE];exact kk)
variable {nl:List Nat} (hn:nl∈iJ) {ind e c0:Nat} (he:e<ind) (Jq:q.ind=ind) (xh:bc c0 cJ=false) (D6:c0≠32) (xi:nl=[13]->e=0->c0∈after)
include hn he Jq xh D6 xi
theorem H6 {f:List Nat} {ss:List Nat} {aR:List Item} (hf:f∈dm) (hits:∀it∈aR,it.1∈dm) (hss:∀s∈ss,s<=ind) (yc:ss.length<=1000) {k j:Int} {p:Nat} (hp:Y.V.β b+k=p)
 (hx:Txt (Y.V.ς 0) p (gv nl ind e c0 ((f,ss)::aR))) {bX:List (List Nat)} {lb:List Nat} {n:Nat} {ln:Bool} {o:Option Int} (hz:bX.length+1<=1000000) {fl:au} {ah:aj}
 (c8:BX U w Y [iW (HH w)] (SB b (k+f.length+nl.length+dk nl ss+lead ind e aR) lt (j+1+ss.length) (lead ind e aR) r q [10] (bX++[f]) ss.length (tB ln f.length (nv o))) fl ah):
 BX U w Y [ai (bV (HH w)) 3,ai (bV (HH w)) 4,ai (bV (HH w)) 5,ai (bV (HH w)) 6,ai (bV (HH w)) 7,ai (bV (HH w)) 8] (SB b k lt j ind r q lb bX n (tB ln 0 (nv o))) fl ah:=by
 have RO:∀(x:Int) θ,kY θ (tB ln x (nv o))=tB ln x (nv o):=λx θ=>(Mv ..).trans (aQ (tB ln x) (pg θ o))
 have F:=Oy (HH w) f hf
 have hle:=zM.mpr (Ec he aR)
 have hh:bc (pU c0 aR) cJ=false:=by
  cases aR with
  |nil=>exact xh
  |cons it aR=>exact xf (lQ (hits _ (.head _))) λa l e1 h _=>(show bc (it.1.headD 0) cJ=false by rw[e1];exact h)
 have h0:(lead ind e aR:Int)=q.ind\/pU c0 aR≠32:=by
  cases aR with
  |nil=>exact .inr D6
  |cons it aR=>exact .inl Jq.symm
 have aaU:nl=[13]->lead ind e aR=0->pU c0 aR∈after:=by
  cases aR with
  |nil=>exact xi
  |cons it aR=>exactλ_ h=>absurd (Eq.trans h.symm rfl:0=ind) (Fo (Nat.zero_lt_of_lt he))
 refine mw (uy nl hn) λn0 nr en hn0=>fk (lr nl ind e c0 aR hits) λt ht=>mw (ni hn aaU ss) λa t' ea ha=>?_
 have hx:Txt (Y.V.ς 0) p (f++(nl++(gI nl ss (lead ind e aR) (pU c0 aR)++t))):=sx ..▸ht▸hx
 have x2:=hx.app.2
 have x3:Txt (Y.V.ς 0) (p+f.length) (nl++[a]):=Txt.C9 (t:=t'++t) (by rw[ea] at x2;exact x2)
 have len:p+(f.length+1)<(Y.V.ς 0).length:=Txt.nl2 hn (t:=f) (c:=a) (Txt.SK (t:=t'++t) (by rw[ea] at hx;exact hx))
 have hp3:=qn (qn hp f.length) nl.length
 have s7:=xB (U:=U) (b:=b) (lt:=lt) (r:=r) (j:=j+1) T0 hl hr hn (Jq▸hle) h0 hh aaU ss hp3 (λs hs=>Jq▸zM.mpr (hss s hs)) x2.app.2.app.1 yc
 have s6:=EC (U:=U) (b:=b) (lt:=lt) (j:=j) (col:=vc f.length ind) T0 hl (qn hp f.length) hr hn x3 ha
 have c7:=ao (kh bJ (bI (HH w)) T0 hl (e6 bJ (bI (HH w)) T0 hl (Ti (bs:=bW n [10]) ..) (s7.up (by decide))) (NG (bs:=bW n [10]) ..)) c8
 have c6:=ao (kh bJ (bI (HH w)) T0 hl (e6 bJ (bI (HH w)) T0 hl (Tr (lb:=lb) ..) (s6.up (by decide))) (NN (lb:=lb) ..)) c7
 have c5:=DA (lt:=lt) (j:=j) (x:=f.length) (y:=0) T0 hl hr hq hp hx.app.1 (Eh len) (RO f.length) (RO f.length) (F.fwd ..) (by rw[zE];exact c6)
 exact ri T0 hl hr hq hp (Txt.C9 (a:=f) (c:=n0) (t:=nr++(gI nl ss (lead ind e aR) (pU c0 aR)++t)) (by rw[<-Dh,<-en];exact hx)) (RO 0) (RO f.length) (F.scan n0 hn0 ..) (ao (qy T0 hl (ND ..) (H5 (j:=j) T0 hl hr hq hp hx.app.1 (Eh (Nat.lt_of_succ_lt len)) (RO f.length) (F.pre ..)) hz) c5)
end
def in3 (j:Int) (a b c:Nat):j+((a+b+c:Nat):Int)=j+a+b+c:=OO
def in5 (j:Int) (a b c d e:Nat):j+((a+b+c+d+e:Nat):Int)=j+a+b+c+d+e:=OO
def Je (fold:Bool) (it g:Item) (aR:List Item):gap fold it (g::aR)=bif fold&&yn it.1&&!bc (g.1.headD 0) M5 then(if it.2.length=0 then[[32]] else[]) else[[10]]:=by
 show(if fold&&yn it.1&&yn g.1 then(if it.2.isEmpty then[[32]] else[]) else[[10]])=bif fold&&yn it.1&&yn g.1 then _ else _
 cases fold&&yn it.1&&yn g.1 with
 |false=>rfl
 |true=>cases it.2<;>rfl
def D3 (fold:Bool) (it g:Item) (aR:List Item):(gap fold it (g::aR)).length<=1:=by
 rw[Je]
 cases fold&&yn it.1&&!bc (g.1.headD 0) M5 with
 |false=>exact fy 1
 |true=>
  cases it.2 with
  |nil=>exact fy 1
  |cons=>exact ju 1
def OG (bX:List (List Nat)) (fold:Bool) (n:Nat) (it g:Item) (aR:List Item):bX++tm fold n (it::g::aR)=bX++List.replicate n [10]++[it.1]++gap fold it (g::aR)++tm fold it.2.length (g::aR):=by
 show bX++(List.replicate n [10]++(it.1::(gap fold it (g::aR)++tm fold it.2.length (g::aR))))=_
 simp
def D4 {c n s w g M:Nat} (h:c+n+(2+s+w)<=M) (hg:g<=1):c+n+1+1<=M/\c+n+1+g+s+w<=M:=OO
def OH (bX G:List (List Nat)) (n:Nat) (f:List Nat):(bX++List.replicate n [10]++[f]).length=bX.length+n+1/\(bX++List.replicate n [10]++[f]++G).length=bX.length+n+1+G.length:=by
 have h:(bX++List.replicate n [10]++[f]).length=bX.length+n+1:=by rw[da,da,tj];rfl
 exact⟨h,by rw[da,h]⟩
def Txt.items {S:List Nat} {p:Nat} {nl:List Nat} {ind e c0:Nat} {aR:List Item} (h:∀it∈aR,it.1∈dm) (hx:Txt S p (gv nl ind e c0 aR)):Txt S p [pU c0 aR]:=fk (lr nl ind e c0 aR h) λ_ q=>by rw[q] at hx;exact hx.one
def DZ {f:List Nat} (h:f∈dm):fQ [f.headD 0] [0]=false:=xf (lQ h) λ_ _ e _ g=>by rw[e];exact g
section
variable {U:Program} {w:World} {Y:Base} {b lt:Nat} {r:Rs} (T0:cQ (KF (HH w)) Y) (hl:bz Y) (hr:r.clean=true) {q:Lc} (hq:q.clean=true)
structure C12 (U:Program) (w:World) (Y:Base) (b lt:Nat) (r:Rs) (q:Lc) (o:Option Int) (tl:List (Str×ae)):Prop where
 fix:∀θ,kY θ tl=tl
 go:∀{k j c:Int} {p c1:Nat} {bX:List (List Nat)} {n:Nat} {lb:List Nat} {l':List Stmt} {fl:au} {ah:aj},Y.V.β b+k=p->Txt (Y.V.ς 0) p [c1]->
  BX U w Y l' (SB b k lt j c r q lb bX n (tB (!bc c1 M5) 0 (nv o))) fl ah->BX U w Y ([ai (bV (HH w)) 1,ai (bV (HH w)) 2]++l') (SB b k lt j c r q lb bX n tl) fl ah
def C7 (ln:Bool) (n:Int) (o:Option Int) (θ:Tg):kY θ (tB ln n (nv o))=tB ln n (nv o):=(Mv ..).trans (aQ (tB ln n) (pg θ o))
include T0 hl hr hq
theorem aal (o:Option Int):C12 U w Y b lt r q o (nv o):=
 ⟨λθ=>pg θ o,λhp h2 kk=>ri T0 hl hr hq hp h2 (λθ=>pg θ o) (λθ=>adG θ _ o) (HX ..) (aF.sr (Pu _ _ _ _ _ _) kk)⟩
theorem aam (o:Option Int) (ln:Bool) (le:Int):C12 U w Y b lt r q o (tB ln le (nv o)):=
 ⟨C7 ln le o,λhp h2 kk=>ri T0 hl hr hq hp h2 (C7 ln le o) (C7 _ 0 o) (HY ..) kk⟩
abbrev aah (H:Array Nat->Int):Expr:=.BoolOp .And [bE (wT (rh H)) 0,bE (wT (rh H)) 1] (bP (wT (rh H)))
theorem DB {k j c:Int} {p c1:Nat} (hp:Y.V.β b+k=p) (h2:Txt (Y.V.ς 0) p [c1]) {bX:List (List Nat)} {n:Nat} {lb:List Nat} {tl:List (Str×ae)} (ht:∀θ,kY θ tl=tl) {v:Bool} (hv:((c==q.ind)&&!fQ [c1] [0])=v):
 bu U w 1521 Y (FI (HH w) 1177).sc 8 (aah (HH w)) (SB b k lt j c r q lb bX n tl) v (SB b k lt j c r q lb bX n tl):=
 hv▸sZ (kG bJ (bI (HH w)) T0 hl (Ts ..)) (rj T0 hl hr hq hp h2 ht (Tt ..) rfl)
variable {nl:List Nat} (hn:nl∈iJ) {ind e c0:Nat} (he:e<ind) (Jq:q.ind=ind) (xh:bc c0 cJ=false) (D6:c0≠32) (xi:nl=[13]->e=0->c0∈after)
include hn he Jq xh D6 xi
theorem H3 {it:Item} {aR:List Item} (hf:it.1∈dm) (hits:∀it∈aR,it.1∈dm) (hss:∀s∈it.2,s<=ind) (yc:it.2.length<=1000) {k j:Int} {p:Nat} (hp:Y.V.β b+k=p)
 (hx:Txt (Y.V.ς 0) p (gv nl ind e c0 (it::aR))) {bX:List (List Nat)} {lb:List Nat} {n:Nat} {o:Option Int} {tl:List (Str×ae)} (ht:C12 U w Y b lt r q o tl) (hz:bX.length+n+1<=1000000) {fl:au} {ah:aj}
 (c8:BX U w Y [iW (HH w)] (SB b (k+it.1.length+nl.length+dk nl it.2+lead ind e aR) lt (j+1+it.2.length) (lead ind e aR) r q [10] (bX++List.replicate n [10]++[it.1]) it.2.length (tB (yn it.1) it.1.length (nv o))) fl ah):
 BX U w Y (bV (HH w)) (SB b k lt j ind r q lb bX n tl) fl ah:=by
 exact aF.at (Tq (HH w)) (ao (Dx T0 hl (NJ ..) (gW bJ (bI (HH w)) T0 hl (NI ..)) (Zf hz)) (ht.go hp (hx.items (e9.mpr ⟨hf,hits⟩)) (H6 T0 hl hr hq hn he Jq xh D6 xi hf hits hss yc hp hx (by rw[da,tj];exact hz) c8)))
theorem H4 (aR:List Item):aR≠[]->(∀it∈aR,it.1∈dm/\(∀s∈it.2,s<=ind)/\it.2.length<=1000)->∀(k j:Int) (p:Nat),Y.V.β b+k=p->Txt (Y.V.ς 0) p (gv nl ind e c0 aR)->
 ∀(bX:List (List Nat)) (lb:List Nat) (n:Nat) (o:Option Int) (tl:List (Str×ae)),C12 U w Y b lt r q o tl->bX.length+n+zA aR<=1000000->
 ∃m ln le,cI U w 1521 Y (FI (HH w) 1177).sc 8 (aah (HH w)) (bV (HH w)) m (SB b k lt j ind r q lb bX n tl) .next
  (SB b (k+j9 nl ind e aR) lt (j+m8 aR) e r q [10] (bX++tm q.fold n aR) (ir n aR) (tB ln le (nv o))):=by
 induction aR with
 |nil=>exactλh=>absurd rfl h
 |cons it aR ih=>
  intro _ hits k j p hp hx bX lb n o tl ht hz
  have⟨h1,hs⟩:=e9.mp hits
  have Js:∀it∈aR,it.1∈dm:=λi h=>(hs i h).1
  have t:=DB (U:=U) (lt:=lt) (j:=j) (c:=ind) (bX:=bX) (n:=n) (lb:=lb) (v:=true) T0 hl hr hq hp (hx.items (e9.mpr ⟨h1.1,Js⟩)) ht.fix
   (by rw[Jq,beq_self_eq_true];exact aQ (!·) (DZ h1.1))
  have line:=λ{fl ah}=>H3 (U:=U) (j:=j) (lb:=lb) (n:=n) (fl:=fl) (ah:=ah) T0 hl hr hq hn he Jq xh D6 xi h1.1 Js h1.2.1 h1.2.2 hp hx ht (Zf (D4 hz (ju 1)).1)
  cases aR with
  |nil=>
   refine⟨1,yn it.1,it.1.length,?_⟩
   rw[show bX++tm q.fold n [it]=bX++List.replicate n [10]++[it.1] from(fc ..).symm,show j9 nl ind e [it]=it.1.length+nl.length+dk nl it.2+e+0 from rfl,in5,zI,show m8 [it]=1+it.2.length+0 from rfl,in3,zI]
   exact .brk t (line (xx T0 hl λh=>Fo he (Int.ofNat.inj (h.trans Jq))))
  |cons g aR=>
   have hx2:Txt (Y.V.ς 0) (p+it.1.length+nl.length+dk nl it.2+ind) (gv nl ind e c0 (g::aR)):=by
    have hx:Txt (Y.V.ς 0) p (it.1++(nl++(jY nl it.2++(aS ind++gv nl ind e c0 (g::aR))))):=hx
    have:=hx.app.2.app.2.app.2.app.2
    rw[nF,show(aS ind).length=ind from tj] at this
    exact this
   have Zp:=qn (qn (qn (qn hp it.1.length) nl.length) (dk nl it.2)) ind
   have L:=D4 hz (D3 q.fold it g aR)
   have e2:=OH bX (gap q.fold it (g::aR)) n it.1
   refine gq (ih (λq=>cn q) hs _ (j+1+it.2.length) _ Zp hx2 (bX++List.replicate n [10]++[it.1]++gap q.fold it (g::aR)) [10] it.2.length o _ (aam T0 hl hr hq o (yn it.1) it.1.length) (by rw[e2.2];exact L.2)) λm ln le hm=>⟨m+1,ln,le,?_⟩
   rw[OG,show j9 nl ind e (it::g::aR)=it.1.length+nl.length+dk nl it.2+ind+j9 nl ind e (g::aR) from rfl,in5,show m8 (it::g::aR)=1+it.2.length+m8 (g::aR) from rfl,in3]
   exact .next t (line (xy T0 hl hr hq Zp Jq.symm (hx2.items Js) (DZ (Js g (.head _))) (by rw[e2.1];exact L.1))) (Je ..▸hm)
end
structure Hd where
 txt:List Nat
 ch:DV
 inc:DV
def vC:List Hd:=⟨[],.none,.none⟩::⟨[45],.bool false,.none⟩::⟨[43],.bool true,.none⟩::
 [1,2,3].flatMap λi=>[⟨[48+i],.none,.int i⟩,⟨[48+i,45],.bool false,.int i⟩,⟨[45,48+i],.bool false,.int i⟩,⟨[48+i,43],.bool true,.int i⟩,⟨[43,48+i],.bool true,.int i⟩]
def DP:List Nat:=[32,10,13,133]
def qb:List (List Nat):=[[],[32],[32,32,35,32,99],[32,35,32,45,32,120,58,32,124]]
def vw:bc 1191 vu=true:=KK
section
variable (H:Array Nat->Int)
def Jl (c:Int) (r:Rs):vC.map (λh=>DP.map λc0=>fO (tabs H (mL (h.txt++[c0]) (List.replicate (h.txt.length+2) (some false))) eZ) 5 1521 1184 [.self,.rf] [] (aN 1 2 0 0 c r))=
 vC.map λh=>DP.map λ_=>some (.tup [h.ch,h.inc],aN 1 2 h.txt.length 0 (vc h.txt.length c) r):=KK
def vt:qi (KF H) 1191=some (FI H 1191):=KK
abbrev mv:List Stmt:=(FI H 1191).body
def F5:mv H=[ai (mv H) 0,ai (mv H) 1,ai (mv H) 2,ai (mv H) 3,ai (mv H) 4]:=KK
abbrev JS:List (Str×ae):=[(ag,.pv .self),(aK,.pv .rf)]
abbrev Gb (n0:Nat):List (Str×ae):=[(ag,.pv .self),(aK,.pv .rf),(iO,.pv (.str [n0]))]
def Ho (c:Int) (r:Rs):qb.map (λt=>[10,13,133].map λn0=>cj (fR H (mL (t++[n0]) (List.replicate (t.length+2) (some false))) 6 1191) [ai (mv H) 0,ai (mv H) 1,ai (mv H) 2,ai (mv H) 3] ⟨aN 1 2 0 0 c r,JS⟩)=
 qb.map λt=>[10,13,133].map λn0=>some (.next,⟨aN 1 2 t.length 0 (vc t.length c) r,Gb n0⟩):=KK
variable (b:Nat) (k:Int) (lt:Nat) (j c:Int) (r:Rs) (n0:Nat)
def OS:nB (eT H bY 6 1191) (fR H bY 6 1191) (kr (ai (mv H) 4)) ⟨aN b lt k j c r,Gb n0⟩=some (1278,[.self],⟨aN b lt k j c r,Gb n0⟩):=KK
def OT:tM (eT H bY 6 1191) (ai (mv H) 4) (.str [10]) ⟨aN b lt k j c r,Gb n0⟩=some ⟨aN b lt k j c r,Gb n0⟩:=KK
end
def OU:((cR lD 1191 [.self,.rf] []).bind λrow=>getAll [.self,.rf] [] row.out)=some [(ag,.self),(aK,.rf)]:=KK
def ya:vC.all (λh=>(DV.tup [h.ch,h.inc]).clean)=true:=KK
def dR.all {S:List Nat} {p l:Nat} (h:p+l<=S.length):dR S p (List.replicate l (some false)):=λn c e=>by
 rw[List.getElem?_replicate] at e
 by_cases q:n<l
 ·rw[d8 q] at e;cases e;exact(Hy (Nat.not_le.mpr (qu (Nat.add_lt_add_left q p) h))).symm
 ·rw[dZ q] at e;cases e
section
variable {U:Program} {w:World} {Y:Base} {b lt:Nat} {k j c:Int} {p:Nat} {r:Rs} (T0:cQ (KF (HH w)) Y) (hl:bz Y) (hp:Y.V.β b+k=p) (hr:r.clean=true)
include T0 hl hp hr
theorem OJ {h:Hd} (hh:h∈vC) {c0:Nat} (hc:c0∈DP) (hx:Txt (Y.V.ς 0) p (h.txt++[c0])) (hm:p+(h.txt.length+2)<=(Y.V.ς 0).length):
 af U w 1521 Y 5 (.ref 1184) [.self,.rf] [] (aN b lt k j c r) (.tup [h.ch,h.inc]) (aN b lt (k+h.txt.length) j (vc h.txt.length c) r):=by
 have:=closed (U:=U) (b:=b) (lt:=lt) (k:=k) (j:=j) T0 hl hp hx (.all hm) (aW (aW (Jl (HH w) c r) h hh) c0 hc)
 rw[FQ hr,oZ hr,zE,DV.bO (Gk b k lt j) (gj.mp ya h hh)] at this
 exact this
theorem Jx {t:List Nat} (ht:t∈qb) {nl:List Nat} (hn:nl∈iJ) {c1:Nat} (hx:Txt (Y.V.ς 0) p (t++(nl++[c1]))) (hc:nl=[13]->c1∈after):
 af U w 1521 Y 7 (.ref 1191) [.self,.rf] [] (aN b lt k j c r) .none (aN b lt (k+t.length+nl.length) (j+1) 0 r):=
 mw (uy nl hn) λn0 nr en hn0=>by
  have x2:=hx.app.2
  have x1:Txt (Y.V.ς 0) p (t++[n0]):=Txt.C9 (t:=nr++[c1]) (by rw[en] at hx;exact hx)
  have s4:=kh (U:=U) vw (vt (HH w)) T0 hl (e6 vw (vt (HH w)) T0 hl (OS (HH w) b (k+t.length) lt j (vc t.length c) r n0) (EC T0 hl (qn hp t.length) hr hn x2 hc)) (OT ..)
  have fx:=Aj (b:=b) (lt:=lt) (k:=k) (j:=j) (q:=t.length) (n:=0) (col:=vc t.length c) (l:=Gb n0) hr rfl
  rw[zE] at fx
  exact gd vw (vt (HH w)) T0 hl OU (aF.at (F5 (HH w)) (x5 (b:=b) (lt:=lt) (k:=k) (j:=j) (col:=c) hr (show kY (mn b k lt j) JS=JS from rfl)▸sG (θ:=mn b k lt j) (ud vw (vt (HH w)) T0 (mZ hl hp x1 (.all (hx.nl2 hn))))
   (fb fx▸ao s4 bA) [ai (mv (HH w)) 0,ai (mv (HH w)) 1,ai (mv (HH w)) 2,ai (mv (HH w)) 3] _ (aW (aW (Ho (HH w) c r) t ht) n0 hn0))) rfl
end
abbrev rX (H:Array Nat->Int) (n f:Nat) (l:List Stmt) (Z:aj) (fl:au) (ba:aj):Prop:=cj (fR H bY n f) l Z=some (fl,ba)
abbrev tX (H:Array Nat->Int) (n f:Nat) (e:Expr) (Z:aj) (c:Bool):Prop:=(fR H bY n f).T e Z=some (c,Z)
abbrev eX (H:Array Nat->Int) (n f:Nat) (e:Expr) (Z:aj) (v:DV):Prop:=(fR H bY n f).E e Z=some (.pv v,Z)
abbrev cX (H:Array Nat->Int) (n f:Nat) (st:Stmt) (Z:aj) (g:Nat) (vs:List DV) (v:DV) (aq:bU) (ba:aj):Prop:=(nB (eT H bY n f) (fR H bY n f) (kr st) Z,tM (eT H bY n f) st v ⟨aq,Z.loc⟩)=(some (g,vs,Z),some ba)
def wm (st:Stmt):Option Expr:=(iQ Stmt.ctorIdx 3 (λe h=>@Stmt.Return.elim (λ_=>Option Expr) e h λv _=>v) st).bind id
def CN (st:Stmt):On (λe=>∃p,.Return (some e) p=st) (wm st):=(eK (P:=λe (c:Option Expr)=>∃p,Stmt.Return c p=e) (λe h=>@Stmt.Return.elim (λe=>∀h,∃p,Stmt.Return (@Stmt.Return.elim (λ_=>Option Expr) e h λv _=>v) p=e) e h (λ_ p _=>⟨p,rfl⟩) h) st).b λc h=>.mk λa e=>fb (show c=some a from e)▸h
def newOf (st:Stmt):Option (Expr×Expr×List Expr):=(wm st).bind λe=>(gS e).bind λc=>(dY c.1).bind λ_=>bif c.2.2.1.isEmpty then List.casesOn (motive:=λ_=>Option (Expr×Expr×List Expr)) c.2.1 none λj es=>bif noStar j then some (c.1,j,es) else none else none
def vL (X:Cx) (e:Expr) (Z:aj):Option (Str×Pl):=(nC e).bind λq=>bif cU q.2.1 R3 then bif dW q.2.2.2.1 [] q.2.2.1 q.2.2.2.2 then(gi q.1).bind λsep=>(dM q.2.2.2.1).bind λa=>bif noStar a then(placeOf X Z a).bind λp=>some (sep,p) else none else none else none
def F9 {U:Program} {w:World} {Y:Base} {d:Nat} {X:Cx} (O:mR U w Y d X) (e:Expr) (Z:aj):On (λq=>∃k p apos a pos,e=.Call (.Attribute (.Constant (.str q.1) k p) "join" apos) [a] [] pos/\dW [a] [] apos pos=true/\noStar a=true/\gB U w X.C Y X.sc d a Z q.2) (vL X e Z):=
 (mU e).b λq h=>ak λh1=>ak λh2=>(wG q.1).b λsep h3=>(bp q.2.2.2.1).b λa h4=>ak λh5=>(bZ O Z a).b λp hp=>cV h3 λk p0 h3=>⟨k,p0,q.2.2.1,a,q.2.2.2.2,by rw[<-h,<-h3,<-h4,(bF _ _).mp h1];rfl,h4▸h2,h5,hp.1⟩
def K6 (st:Stmt):On (λq=>∃x p rp pos,st=.Return (some (.Call (.Name x p) (q.2.1::q.2.2) [] pos)) rp/\.Name x p=q.1/\noStar q.2.1=true) (newOf st):=
 (CN st).b λe h=>fk h λp h=>(ic e).b λc h1=>(dp c.1).b λx h2=>ak λh3=>by
   rw[<-h,<-h1,bT h3]
   cases c.2.1 with
   |nil=>exact trivial
   |cons j es=>exact ak λh5=>⟨x,_,p,_,by rw[h2],h2,h5⟩
section
variable {U:Program} {w:World} {Y:Base} {f:Nat} (hf:bc f vu=true) (hI:qi (KF (HH w)) f=some (FI (HH w) f)) {n:Nat} (T0:cQ (KF (HH w)) Y) (hl:bz Y)
include hf hI T0 hl
theorem pD {st:Stmt} {Z ba:aj} {g:Nat} {vs:List DV} {v:DV} {aq:bU} {m:Nat} (h:cX (HH w) n f st Z g vs v aq ba) (hc:af U w 1521 Y m (.ref g) vs [] Z.aq v aq) (le:m<=n:=by decide):aU U w 1521 Y (FI (HH w) f).sc n st Z .next ba:=
 kh hf hI T0 hl (e6 hf hI T0 hl (kS h).1 (hc.up le)) (kS h).2
theorem yH {e:Expr} {Z:aj} {sep:Str} {p:Pl} {ss:List (List Nat)} (h:vL (eT (HH w) bY n f) e Z=some (sep,p)) (hg:p.get Z=some (.ml (ss.map .str))) (hz:c9 ss+ss.length*sep.cps.toList.length<=lim):aC U w 1521 Y (FI (HH w) f).sc n e Z (.str (gV sep.cps.toList ss)) Z:=
 gq ((F9 (zG (U:=U) hf hI T0 hl) e Z).get h) λ_ _ _ q=>cV q λ_ _ q=>a4 q λe a b c=>uM e a b c hg hz
theorem lZ {es:List Expr} {Z ba:aj} {vs:List DV} (h:vr (fR (HH w) bY n f) es Z=some (vs,ba)):dJ U w 1521 Y (FI (HH w) f).sc n es Z vs ba:=TR (X:=eT (HH w) bY n f) (zS hf hI T0 hl) _ _ _ _ h
theorem YM {st:Stmt} {g:Nat} {fj:Expr×Expr×List Expr} {Z aa ah:aj} {v r:DV} {vs:List DV} {aX:bU} (h:newOf st=some fj) (hk:(eT (HH w) bY n f).B.kept g=true) (h0:aC U w 1521 Y (FI (HH w) f).sc n fj.1 Z (.cls g) Z) (hj:aC U w 1521 Y (FI (HH w) f).sc n fj.2.1 Z v aa) (ha:dJ U w 1521 Y (FI (HH w) f).sc n fj.2.2 aa vs ah)
 (hc:af U w 1521 Y n (.ref g) (v::vs) [] ah.aq r aX):aU U w 1521 Y (FI (HH w) f).sc n st Z (.ret r) ⟨aX,ah.loc⟩:=
 gq ((K6 st).get h) λx p rp q=>fk q λpos q=>a3 q λe e0 hs=>by rw[e];exact sV (mf T0 ((zG (U:=U) (n:=n) hf hI T0 hl).t.kept _ hk) ru (e0▸h0) (.cons hs hj ha) .nil hc)
end
def Rs.ind (r:Rs) (i:Int):Rs:=⟨r.tokens,r.keys,r.taken,.int i,r.lV,r.allow,r.done,r.state,r.pI,r.marks,r.ev,r.tags,r.yv⟩
def Rs.Aw {r:Rs} {i:Int} (h:r.indent=.int i):r.ind i=r:=by cases r;cases h;rfl
inductive dO where
 |clip|strip|keep
def dO.dv (ch:dO):DV:=dO.rec (motive:=λ_=>DV) .none (.bool false) (.bool true) ch
def wV (v:List Nat) (st:Nat):DV:=.inst 400 [(dX,.str v),(AD,.bool false),(aK,.rf),(bg,.rf),(fF,.str [st])]
section
variable (H:Array Nat->Int) (b:Nat) (k:Int) (lt:Nat) (j c:Int) (r:Rs)
def lz0 (st:Nat):List (Str×ae):=[(ag,.pv .self),(fF,.pv (.str [st]))]
def lzC (st:Nat) (tl:List (Str×ae)):List (Str×ae):=(ag,.pv .self)::(fF,.pv (.str [st]))::(WI,.pv (.bool (fQ [st] [62])))::(eB,.ml [])::(aK,.pv .rf)::tl
def lz3 (st:Nat):List (Str×ae):=lzC st []
def lz4 (st:Nat) (ch inc:DV):List (Str×ae):=lzC st [(KJ,.pv ch),(KL,.pv inc)]
def xj (st:Nat) (ch inc:DV) (M:Int) (tl:List (Str×ae)):List (Str×ae):=lzC st ((KJ,.pv ch)::(KL,.pv inc)::(WJ,.pv (.int M))::tl)
def f03:[124,62].map (λst=>cj (fR H (mL [st] (List.replicate 3 (some false))) 8 1177) [ai (cM H) 0,ai (cM H) 1,ai (cM H) 2,ai (cM H) 3] ⟨aN 1 2 0 0 c r,lz0 st⟩)=[124,62].map λst=>some (.next,⟨aN 1 2 1 0 (c+1) r,lz3 st⟩):=KK
variable (st:Nat) (ch inc:DV)
def f4 (b':Nat) (k':Int) (l':Nat) (j' c':Int):cX H 8 1177 (ai (cM H) 4) ⟨aN b lt k j c r,lz3 st⟩ 1184 [.self,.rf] (.tup [ch,inc]) (aN b' l' k' j' c' r) ⟨aN b' l' k' j' c' r,lz4 st ch inc⟩:=KK
def f5 (b':Nat) (k':Int) (l':Nat) (j' c':Int):cX H 8 1177 (ai (cM H) 5) ⟨aN b lt k j c r,lz4 st ch inc⟩ 1191 [.self,.rf] .none (aN b' l' k' j' c' r) ⟨aN b' l' k' j' c' r,lz4 st ch inc⟩:=KK
def MX:List (Int×Nat):=[(-1,1),(0,1),(2,3)]
def f67:MX.map (λq=>cj (fR H bY 8 1177) [ai (cM H) 6,ai (cM H) 7] ⟨aN b lt k j c (r.ind q.1),lz4 st ch inc⟩)=MX.map λq=>some (.next,⟨aN b lt k j c (r.ind q.1),xj st ch inc q.2 []⟩):=KK
abbrev gR:Stmt:=ai (cM H) 8
def f8:gR H=.If (wT (gR H)) [ai (wB (gR H)) 0,ai (wB (gR H)) 1] [ai (wO (gR H)) 0,ai (wO (gR H)) 1] (wP (gR H)):=KK
variable (M:Int)
def agu:tX H 8 1177 (wT (gR H)) ⟨aN b lt k j c r,xj st ch .none M []⟩ true:=KK
def agv (d:Int):tX H 8 1177 (wT (gR H)) ⟨aN b lt k j c r,xj st ch (.int d) M []⟩ false:=KK
def Zs (bs:List DV) (m:Int) (tl:List (Str×ae)):List (Str×ae):=(GH,.pv (.lst bs))::(yA,.pv (.int m))::(bg,.pv .rf)::tl
def lb1 (i:Int) (bs:List DV) (tl:List (Str×ae)):List (Str×ae):=(gH,.pv (.int i))::(GH,.pv (.lst bs))::(bg,.pv .rf)::tl
def agq (bs:List DV) (m:Int) (b':Nat) (k':Int) (l':Nat) (j' c':Int):cX H 8 1177 (ai (wB (gR H)) 0) ⟨aN b lt k j c r,xj st ch inc M []⟩ 1198 [.self] (.tup [.lst bs,.int m,.rf]) (aN b' l' k' j' c' r) ⟨aN b' l' k' j' c' r,xj st ch inc M (Zs bs m [])⟩:=KK
def agr (bs:List DV) (m:Int):rX H 8 1177 [ai (wB (gR H)) 1] ⟨aN b lt k j c r,xj st ch inc M (Zs bs m [])⟩ .next ⟨aN b lt k j c r,xj st ch inc M (Zs bs m [(gH,.pv (.int (if m>M then m else M)))])⟩:=KK
def ags (d:Int):rX H 8 1177 [ai (wO (gR H)) 0] ⟨aN b lt k j c r,xj st ch (.int d) M []⟩ .next ⟨aN b lt k j c r,xj st ch (.int d) M [(gH,.pv (.int (M+d - 1)))]⟩:=KK
def agt (i:Int) (bs:List DV) (b':Nat) (k':Int) (l':Nat) (j' c':Int):cX H 8 1177 (ai (wO (gR H)) 1) ⟨aN b lt k j c r,xj st ch inc M [(gH,.pv (.int i))]⟩ 1205 [.self,.int i] (.tup [.lst bs,.rf]) (aN b' l' k' j' c' r) ⟨aN b' l' k' j' c' r,xj st ch inc M (lb1 i bs [])⟩:=KK
def f9a (i m:Int) (bs:List DV):rX H 8 1177 [ai (cM H) 9] ⟨aN b lt k j c r,xj st ch inc M (Zs bs m [(gH,.pv (.int i))])⟩ .next ⟨aN b lt k j c r,xj st ch inc M (Zs bs m [(gH,.pv (.int i)),(yB,.pv (.str []))])⟩:=KK
def f9b (i:Int) (bs:List DV):rX H 8 1177 [ai (cM H) 9] ⟨aN b lt k j c r,xj st ch inc M (lb1 i bs [])⟩ .next ⟨aN b lt k j c r,xj st ch inc M (lb1 i bs [(yB,.pv (.str []))])⟩:=KK
abbrev qS (st:Nat) (ch inc:DV) (M i:Int):Lc:=⟨.str [st],fQ [st] [62],ch,inc,.int M,i⟩
variable (i:Int) (lb:List Nat) (cs bs:List DV) (tl:List (Str×ae))
abbrev jV:Stmt:=ai (cM H) 11
abbrev jW:Stmt:=ai (cM H) 12
abbrev vi:Stmt:=ai (cM H) 13
def f11:jV H=.If (wT (jV H)) [ai (wB (jV H)) 0] [] (wP (jV H)):=KK
def f12:jW H=.If (wT (jW H)) [ai (wB (jW H)) 0] [] (wP (jW H)):=KK
def agg (x:dO):tX H 8 1177 (wT (jV H)) ⟨aN b lt k j c r,bK (qS st x.dv inc M i) lb cs bs tl⟩ (dO.rec (motive:=λ_=>Bool) true false true x):=by cases x<;>kernel_rfl
def agk (x:dO):tX H 8 1177 (wT (jW H)) ⟨aN b lt k j c r,bK (qS st x.dv inc M i) lb cs bs tl⟩ (dO.rec (motive:=λ_=>Bool) false false true x):=by cases x<;>kernel_rfl
variable (q:Lc)
def age:jw (eT H bY 8 1177) (ai (wB (jV H)) 0) ⟨aN b lt k j c r,bK q lb cs bs tl⟩=some (.loc eB,k7 (ai (wB (jV H)) 0)):=KK
def agf:eX H 8 1177 (k7 (ai (wB (jV H)) 0)) ⟨aN b lt k j c r,bK q lb cs bs tl⟩ (.str lb):=KK
def agi:xX (eT H bY 8 1177) (ai (wB (jW H)) 0) ⟨aN b lt k j c r,bK q lb cs bs tl⟩=some (.loc eB,k7 (ai (wB (jW H)) 0)):=KK
def agj:eX H 8 1177 (k7 (ai (wB (jW H)) 0)) ⟨aN b lt k j c r,bK q lb cs bs tl⟩ (.lst bs):=KK
def jB:Expr×Expr×List Expr:=(newOf (vi H)).getD default
def f13:newOf (vi H)=some (jB H):=KK
def ago:eX H 8 1177 (jB H).1 ⟨aN b lt k j c r,bK q lb cs bs tl⟩ (.cls 400):=KK
def agn:(eT H bY 8 1177).B.kept 400=true:=KK
def agm:vL (eT H bY 8 1177) (jB H).2.1 ⟨aN b lt k j c r,bK q lb cs bs tl⟩=some (Cy,.loc eB):=KK
def agp:vr (fR H bY 8 1177) (jB H).2.2 ⟨aN b lt k j c r,bK (qS st ch inc M i) lb cs bs tl⟩=some ([.bool false,.rf,.rf,.str [st]],⟨aN b lt k j c r,bK (qS st ch inc M i) lb cs bs tl⟩):=KK
def agl (v:List Nat) (as:List (Str×ae)):fO (tabs H bY eZ) 8 1521 400 [.str v,.bool false,.rf,.rf,.str [st]] [] (some as)=some (wV v st,some as):=KK
end
def yF:Cy.cps.toList=[]:=KK
structure fY where
 st:Nat
 h:Hd
 t:List Nat
 nl:List Nat
 ss:List Nat
 aR:List Item
 ind:Nat
 e:Nat
 c0:Nat
abbrev fY.ld (B:fY):Nat:=lead B.ind B.e B.aR
def fY.txt (B:fY):List Nat:=B.st::(B.h.txt++(B.t++(B.nl++(jY B.nl B.ss++(aS B.ld++gv B.nl B.ind B.e B.c0 B.aR)))))
def fY.len (B:fY):Nat:=1+B.h.txt.length+B.t.length+B.nl.length+dk B.nl B.ss+B.ld+j9 B.nl B.ind B.e B.aR
def fY.lines (B:fY):Nat:=1+B.ss.length+m8 B.aR
def tG (ch:dO) (lb:List Nat) (n:Nat):List (List Nat):=dO.rec (motive:=λ_=>List (List Nat)) [lb] [] (lb::List.replicate n [10]) ch
def fY.cm (B:fY) (ch:dO):List (List Nat):=tm (fQ [B.st] [62]) B.ss.length B.aR++tG ch (if B.aR.isEmpty then[] else[10]) (ir B.ss.length B.aR)
structure fY.Ok (B:fY) (ch:dO) (M:Nat):Prop where
 st:B.st∈[124,62]
 h:B.h∈vC
 hch:B.h.ch=ch.dv
 t:B.t∈qb
 nl:B.nl∈iJ
 ss:(∀s∈B.ss,s<=B.ind)/\B.ss.length<=1000
 aR:∀it∈B.aR,it.1∈dm/\(∀s∈it.2,s<=B.ind)/\it.2.length<=1000
 e:B.e<M
 mi:M<=B.ind
 c0:bc B.c0 cz=false
 ca:B.nl=[13]->B.e=0->B.c0∈after
 inc:B.h.inc=.int ((B.ind:Int) - M+1)\/(B.h.inc=.none/\bc (pU B.c0 B.aR) cz=false)
 size:B.ss.length+zA B.aR<=100000
 sum:c9 (B.cm ch)<=lim
def nS {c:Nat} (h:bc c cz=false):bc c cJ=false/\c≠32:=by
 rw[nY,ZJ] at h
 rw[nY,ZJ]
 simp[cz,cJ] at*
 omega
def Jf (fo:Bool) (aR:List Item):∀n:Nat,(tm fo n aR).length+ir n aR<=n+zA aR:=by
 induction aR with
 |nil=>exactλn=>iU (zQ n)
 |cons x l ih=>
  intro n
  have h:=ih x.2.length
  have g:(gap fo x l).length<=1:=by
   cases l with
   |nil=>exact ju 1
   |cons y l=>exact D3 ..
  show(List.replicate n [10]++(x.1::(gap fo x l++tm fo x.2.length l))).length+ir x.2.length l<=n+(2+x.2.length+zA l)
  rw[da,M9,da,tj]
  omega
def aU.at {U:Program} {w:World} {C:Nat} {Y:Base} {sc:Scope} {d:Nat} {s s':Stmt} {f:au} {Z aa:aj} (e:s=s') (h:aU U w C Y sc d s' Z f aa):aU U w C Y sc d s Z f aa:=fb e▸h
def ahQ {a b Nk:Nat} (h:a+b<=Nk) (hN:Nk<=999999):a+1<=1000000/\a+1+b<=1000000:=OO
section
variable {U:Program} {w:World} {Y:Base} {b lt:Nat} {r:Rs} (T0:cQ (KF (HH w)) Y) (hl:bz Y) (hr:r.clean=true)
include T0 hl
theorem vj {st:Nat} {ch inc:DV} {M i k j c:Int} {lb:List Nat} {bX:List (List Nat)} {n:Nat} {tl:List (Str×ae)} (hs:c9 bX<=lim):BX U w Y [vi (HH w)] (SB b k lt j c r (qS st ch inc M i) lb bX n tl) (.ret (wV bX.flatten st)) (SB b k lt j c r (qS st ch inc M i) lb bX n tl):=by
 have hj:=yH (U:=U) bJ (bI (HH w)) T0 hl (agm (HH w) b k lt j c r lb (bX.map .str) (bW n [10]) tl (qS st ch inc M i)) (ss:=bX) (rV ..) (by rw[yF];exact hs)
 rw[yF,F8] at hj
 have hc:af U w 1521 Y 8 (.ref 400) [.str bX.flatten,.bool false,.rf,.rf,.str [st]] [] (aN b lt k j c r) (wV bX.flatten st) (aN b lt k j c r):=gF (tabs_ok T0 (mY hl) λ_ _ _ _ _ _ _ _ h=>ns h) 8 1521 400 _ _ _ _ _ (agl ..)
 have s:=YM (ah:=SB b k lt j c r (qS st ch inc M i) lb bX n tl) bJ (bI (HH w)) T0 hl (f13 (HH w)) (agn (HH w)) (gW bJ (bI (HH w)) T0 hl (ago ..)) hj (lZ bJ (bI (HH w)) T0 hl (agp ..)) hc
 exact jd s rfl
theorem Dy {st:Nat} {inc:DV} {M i k j c:Int} {ch:dO} {lb:List Nat} {bX:List (List Nat)} {n:Nat} {tl:List (Str×ae)} (hz:bX.length+n<=200000) (hs:c9 (bX++tG ch lb n)<=lim):
 BX U w Y [jV (HH w),jW (HH w),vi (HH w)] (SB b k lt j c r (qS st ch.dv inc M i) lb bX n tl) (.ret (wV (bX++tG ch lb n).flatten st)) (SB b k lt j c r (qS st ch.dv inc M i) lb (bX++tG ch lb n) n tl):=by
 have L:=ahQ hz (by decide)
 have t1:=kG (U:=U) bJ (bI (HH w)) T0 hl (agg (HH w) b k lt j c r st inc M i lb (bX.map .str) (bW n [10]) tl ch)
 have t2:=λbX:List (List Nat)=>kG (U:=U) bJ (bI (HH w)) T0 hl (agk (HH w) b k lt j c r st inc M i lb (bX.map .str) (bW n [10]) tl ch)
 have a1:=ao (qy (U:=U) (r:=r) (b:=b) (lt:=lt) (q:=qS st ch.dv inc M i) (n:=n) T0 hl (age (HH w) b k lt j c r lb (bX.map .str) (bW n [10]) tl _) (gW bJ (bI (HH w)) T0 hl (agf ..)) L.1) bA
 cases ch with
 |clip=>exact ao (.at (f11 _) (iH t1 a1)) (ao (.at (f12 _) (lI (t2 _) bA)) (vj T0 hl hs))
 |strip=>
  rw[show bX++tG .strip lb n=bX from ti bX] at hs ⊢
  exact ao (.at (f11 _) (lI t1 bA)) (ao (.at (f12 _) (lI (t2 _) bA)) (vj T0 hl hs))
 |keep=>
  rw[show bX++tG .keep lb n=bX++[lb]++List.replicate n [10] from List.append_cons ..] at hs ⊢
  exact ao (.at (f11 _) (iH t1 a1)) (ao (.at (f12 _) (iH (t2 _) (ao (Dx T0 hl (agi ..) (gW bJ (bI (HH w)) T0 hl (agj ..)) (by rw[da];exact L.2)) bA))) (vj T0 hl hs))
include hr
theorem Dz {B:fY} {ch:dO} {M:Nat} (O:B.Ok ch M) {i:Int} (h1:B.aR≠[]->i=B.ind) (h2:(B.e:Int)≠i) {o:Option Int} {k j:Int} {p:Nat} (hp:Y.V.β b+k=p) (hx:Txt (Y.V.ς 0) p (gv B.nl B.ind B.e B.c0 B.aR)):
 ∃cs lb n tl,BX U w Y [ai (cM (HH w)) 10,ai (cM (HH w)) 11,ai (cM (HH w)) 12,ai (cM (HH w)) 13] (SB b k lt j B.ld r (qS B.st B.h.ch B.h.inc M i) [] [] B.ss.length (nv o)) (.ret (wV (B.cm ch).flatten B.st))
  (SB b (k+j9 B.nl B.ind B.e B.aR) lt (j+m8 B.aR) B.e r (qS B.st B.h.ch B.h.inc M i) lb cs n tl):=by
 have hq:(qS B.st B.h.ch B.h.inc M i).clean=true:=show(B.h.ch.clean&&(B.h.inc.clean&&true))=true from gj.mp ya _ O.h
 have hs:=O.sum
 have sz:=bw (Jf (fQ [B.st] [62]) B.aR B.ss.length) (bw O.size (by decide:100000<=200000))
 have cb:=nS O.c0
 unfold fY.cm at hs ⊢
 rw[O.hch] at hq ⊢
 have loop:=H4 (U:=U) (b:=b) (lt:=lt) T0 hl hr hq O.nl (ind:=B.ind) (e:=B.e) (c0:=B.c0) (qu O.e O.mi)
 unfold fY.ld
 cases hi:B.aR with
 |nil=>
  rw[hi] at hx hs sz
  have t:=DB (U:=U) (lt:=lt) (j:=j) (c:=B.e) (bX:=[]) (n:=B.ss.length) (lb:=[]) (tl:=nv o) (v:=false) T0 hl hr hq hp hx (λθ=>pg θ o) (by rw[HG.mpr h2];rfl)
  exact⟨_,_,_,_,by rw[show j9 B.nl B.ind B.e []=0 from rfl,show m8 []=0 from rfl,zI,zI];exact ao (lJ (RB (HH w)) (.stop (n:=0) t)) (Dy (bX:=[]) T0 hl sz hs)⟩
 |cons it aR=>
  rw[hi] at hx hs sz
  exact gq (loop (h1 (by rw[hi];exactλq=>cn q)) cb.1 cb.2 O.ca (it::aR) (λq=>cn q) (hi▸O.aR) k j p hp hx [] [] B.ss.length o (nv o) (aal T0 hl hr hq o) (by rw[<-hi];exact bw (bw (iU (aQ (· +_) (zQ _))) O.size) (by decide))) λm ln le hm=>⟨_,_,_,_,ao (lJ (RB (HH w)) hm) (Dy T0 hl sz hs)⟩
end
def NO (st:Nat):((cR lD 1177 [.self,.str [st]] []).bind λrow=>getAll [.self,.str [st]] [] row.out)=some [(ag,.self),(fF,.str [st])]:=KK
theorem Fi {ind:Int}:∀(ss:List Nat) (m:Int),(∀s∈ss,(s:Int)<=ind)->m<=ind->∀n:Nat,(n:Int)=ind->wide m ss n=ind
 |[],_,_,hm,_,hn=>hn▸Int.max_eq_right (hn▸hm)
 |_::ss,_,h,hm,n,hn=>Fi ss _ (λx hx=>h x (.tail _ hx)) (Int.max_le.mpr ⟨hm,h _ (.head _)⟩) n hn
def PA {st:Nat} {ch inc:DV} {M i m:Int} {n:Nat} (x:Str):look (xj st ch inc M (Zs (bW n [10]) m [(gH,.pv (.int i)),(yB,.pv (.str []))])) x=look (bK (qS st ch inc M i) [] [] (bW n [10]) (nv (some m))) x:=
 r6 (qH [] [_,_,_] KK) [_,_,_,_,_,_,_,_,_]
def PB {st:Nat} {ch inc:DV} {M i:Int} {n:Nat} (x:Str):look (xj st ch inc M (lb1 i (bW n [10]) [(yB,.pv (.str []))])) x=look (bK (qS st ch inc M i) [] [] (bW n [10]) (nv none)) x:=
 r6 (qH [_] [_,_] KK) [_,_,_,_,_,_,_,_]
def Hn:∀t∈qb,t=[]\/∃l,t=32::l:=e9.mpr ⟨.inl rfl,e9.mpr ⟨.inr ⟨_,rfl⟩,e9.mpr ⟨.inr ⟨_,rfl⟩,e9.mpr ⟨.inr ⟨_,rfl⟩,qT _⟩⟩⟩⟩
def zU {S:List Nat} {p:Nat} {h t nl x:List Nat} (ht:t∈qb) (hn:nl∈iJ) (hx:Txt S p (h++(t++(nl++x)))):∃c1,c1∈DP/\Txt S p (h++[c1]):=
 mw (uy nl hn) λn0 nr en hn0=>(Hn t ht).elim (λe=>⟨n0,.tail _ hn0,.C9 (t:=nr++x) (by rw[e,en] at hx;exact hx)⟩) λq=>fk q λl e=>⟨32,.head _,.C9 (t:=l++(nl++x)) (by rw[e] at hx;exact hx)⟩
def in7 (k:Int) (a b c d e f:Nat):k+1+a+b+c+d+e+f=k+((1+a+b+c+d+e+f:Nat):Int):=OO
def abN (a M:Int):M<=if a>M then a else M:=by split<;>omega
def abM {a M:Int} (h:M<=a):(if a>M then a else M)=a:=by split<;>omega
def Aw (M i:Int):M+(i - M+1) - 1=i:=OO
section
variable {U:Program} {w:World} {Y:Base} {b lt:Nat} {r:Rs} (T0:cQ (KF (HH w)) Y) (hl:bz Y) (hr:r.clean=true) {B:fY} {ch:dO} {M:Nat} (O:B.Ok ch M)
include O
theorem fY.Ok.dm:∀it∈B.aR,it.1∈dm:=λit h=>(O.aR it h).1
theorem fY.Ok.pos:B.e<B.ind:=qu O.e O.mi
theorem fY.Ok.ca':B.nl=[13]->B.ld=0->pU B.c0 B.aR∈after:=by
 have h:=O.ca
 have p:=O.pos
 unfold fY.ld
 cases B.aR with
 |nil=>exact h
 |cons it aR=>exactλ_ h=>absurd (Eq.trans h.symm rfl:0=B.ind) (Fo (Nat.zero_lt_of_lt p))
theorem fY.Ok.hd:bc (pU B.c0 B.aR) cJ=false/\((B.ld:Int)=B.ind\/pU B.c0 B.aR≠32):=by
 have f:=O.dm
 have cb:=nS O.c0
 unfold fY.ld
 cases h:B.aR with
 |nil=>exact⟨cb.1,.inr cb.2⟩
 |cons it aR=>exact xf (lQ (f it (h▸.head _))) λa l e1 g _=>⟨(show bc (it.1.headD 0) cJ=false by rw[e1];exact g),.inl rfl⟩
include T0 hl hr
theorem Fu {I:Int} (hI:(I,M)∈MX) (hri:r.indent=.int I) {k j c:Int} {p:Nat} (hp:Y.V.β b+k=p) {x:List Nat} {a:Nat} (hx:Txt (Y.V.ς 0) p (B.st::(B.h.txt++(B.t++(B.nl++a::x))))) (ha:B.nl=[13]->a∈after) {fl:au} {ah:aj}
 (kk:BX U w Y [gR (HH w),ai (cM (HH w)) 9,ai (cM (HH w)) 10,ai (cM (HH w)) 11,ai (cM (HH w)) 12,ai (cM (HH w)) 13] ⟨aN b lt (k+1+B.h.txt.length+B.t.length+B.nl.length) (j+1) 0 r,xj B.st B.h.ch B.h.inc M []⟩ fl ah):
 BX U w Y (cM (HH w)) ⟨aN b lt k j c r,lz0 B.st⟩ fl ah:=by
 have hx1:=hx.tail
 have hp1:=hpS hp
 have x4:=Txt.SK hx1.app.2
 have len:=x4.nl2 O.nl
 have abK:p+1+(B.h.txt.length+2)<=(Y.V.ς 0).length:=bw (iU (xc ..).symm) (bw (xl (oJ 2 B.t.length) _) len)
 have len0:p+3<=(Y.V.ς 0).length:=bw (xl (oJ 2 B.h.txt.length) (p+1)) abK
 have r67:=aW (f67 (HH w) b (k+1+B.h.txt.length+B.t.length+B.nl.length) lt (j+1) 0 r B.st B.h.ch B.h.inc) _ hI
 rw[show r.ind (I,M).1=r from Rs.Aw hri] at r67
 refine bx (zU O.t O.nl hx1) λc1 hc1 hx2=>?_
 have fx:=Aj (b:=b) (lt:=lt) (k:=k) (j:=j) (q:=1) (n:=0) (col:=c+1) (r:=r) hr (show kY (mn b k lt j) (lz3 B.st)=lz3 B.st from rfl)
 rw[zE] at fx
 exact aF.at (Fv (HH w)) (x5 (b:=b) (lt:=lt) (k:=k) (j:=j) (col:=c) (r:=r) hr (show kY (mn b k lt j) (lz0 B.st)=lz0 B.st from rfl)▸sG (θ:=mn b k lt j) (ud bJ (bI (HH w)) T0 (mZ hl hp hx.one (.all len0)))
  (fb fx▸ao (pD bJ (bI (HH w)) T0 hl (f4 ..) (OJ T0 hl hp1 hr O.h hc1 hx2 abK)) (ao (pD bJ (bI (HH w)) T0 hl (f5 ..) (Jx T0 hl (qn hp1 B.h.txt.length) hr O.t O.nl x4 ha))
    (eH (zS bJ (bI (HH w)) T0 hl) kk [ai (cM (HH w)) 6,ai (cM (HH w)) 7] _ r67))) [ai (cM (HH w)) 0,ai (cM (HH w)) 1,ai (cM (HH w)) 2,ai (cM (HH w)) 3] _ (aW (f03 (HH w) c r) _ O.st))
theorem HZ {I:Int} (hI:(I,M)∈MX) (hri:r.indent=.int I) {k j c:Int} {p:Nat} (hp:Y.V.β b+k=p) (hx:Txt (Y.V.ς 0) p B.txt):
 af U w 1521 Y 9 (.ref 1177) [.self,.str [B.st]] [] (aN b lt k j c r) (wV (B.cm ch).flatten B.st) (aN b lt (k+B.len) (j+B.lines) B.e r):=by
 refine fk (lr B.nl B.ind B.e B.c0 B.aR O.dm) λt0 ht0=>mw (ni O.nl O.ca' B.ss) λa t' ea ha=>?_
 have hx0:Txt (Y.V.ς 0) p (B.st::(B.h.txt++(B.t++(B.nl++(jY B.nl B.ss++(aS B.ld++gv B.nl B.ind B.e B.c0 B.aR)))))):=hx
 have hx5:=hx0.tail.app.2.app.2.app.2.app.2.app.2
 rw[nF,show(aS B.ld).length=B.ld from tj] at hx5
 rw[ht0,sx] at hx0
 have RN:=hx0.tail.app.2.app.2.app.2.app.1
 have hx1:=hx0
 rw[ea] at hx1
 have hp3:=qn (qn (qn (hpS hp) B.h.txt.length) B.t.length) B.nl.length
 have hp4:=qn (qn hp3 (dk B.nl B.ss)) B.ld
 have F:=zS (U:=U) (n:=8) bJ (bI (HH w)) T0 hl
 have done:=λ{ah:aj} (h:BX U w Y _ _ (.ret (wV (B.cm ch).flatten B.st)) ah)=>gd (args:=[.self,.str [B.st]]) (aq:=aN b lt k j c r) bJ (bI (HH w)) T0 hl (NO B.st) (Fu T0 hl hr O hI hri hp hx1 ha h) rfl
 rw[show k+(B.len:Int)=_ from(in7 ..).symm,show j+(B.lines:Int)=_ from in3 ..]
 refine O.inc.elim (λJn=>?_) λJn=>?_
 ·have s8:=xB (U:=U) (b:=b) (lt:=lt) (j:=j+1) T0 hl hr O.nl (zM.mpr (Ec O.pos B.aR)) O.hd.2 O.hd.1 O.ca' B.ss hp3 (λs hs=>zM.mpr (O.ss.1 s hs)) RN O.ss.2
  refine cV (Dz (U:=U) (lt:=lt) (j:=j+1+B.ss.length) T0 hl hr O (i:=B.ind) (λ_=>rfl) (λh=>Fo O.pos (Int.ofNat.inj h)) (o:=none) hp4 hx5) λcs lb h=>cV h λn tl h=>?_
  have b8:=ags (HH w) b (k+1+B.h.txt.length+B.t.length+B.nl.length) lt (j+1) 0 r B.st B.h.ch M (B.ind - M+1)
  rw[Aw,<-Jn] at b8
  exact done (ah:=⟨_,_⟩) <| ao (.at (f8 _) (lI (kG bJ (bI (HH w)) T0 hl (fb Jn▸agv ..)) (eH F (ao (pD bJ (bI (HH w)) T0 hl (agt ..) s8) bA) [ai (wO (gR (HH w))) 0] _ b8))) (eH F (aF.sr PB h) [ai (cM (HH w)) 9] _ (f9b ..))
 ·have s8:=JC (U:=U) (b:=b) (lt:=lt) (j:=j+1) T0 hl hr O.nl Jn.2 O.ca' B.ss hp3 RN O.ss.2
  refine cV (Dz (U:=U) (lt:=lt) (j:=j+1+B.ss.length) T0 hl hr O (i:=if wide 0 B.ss B.ld>M then wide 0 B.ss B.ld else M) (λh=>by
   rw[Fi (ind:=B.ind) B.ss 0 (λs hs=>zM.mpr (O.ss.1 s hs)) (zM.mpr (ju _)) B.ld (by unfold fY.ld;cases q:B.aR;exact absurd q h;rfl)]
   exact abM (zM.mpr O.mi)) (λh=>Int.not_le.mpr (Int.ofNat_lt.mpr O.e) (Int.le_trans (abN ..) (Int.le_of_eq h.symm))) (o:=some (wide 0 B.ss B.ld)) hp4 hx5) λcs lb h=>cV h λn tl h=>?_
  exact done (ah:=⟨_,_⟩) <| ao (.at (f8 _) (iH (kG bJ (bI (HH w)) T0 hl (fb Jn.1▸agu ..)) (ao (pD bJ (bI (HH w)) T0 hl (agq ..) s8) (eH F bA [ai (wB (gR (HH w))) 1] _ (agr ..))))) (eH F (aF.sr PA h) [ai (cM (HH w)) 9] _ (f9a ..))
end
def adJ (st:Stmt):Option (List Stmt):=(iQ Stmt.ctorIdx 17 (λe h=>@Stmt.Try.elim (λ_=>List Stmt×List ExceptHandler×List Stmt×List Stmt) e h λb hs os fs _=>(b,hs,os,fs)) st).bind λq=>bif !q.2.1.isEmpty then bif q.2.2.1.isEmpty then bif q.2.2.2.isEmpty then some q.1 else none else none else none
def Q9 (st:Stmt):On (λb=>∃hs p,.Try b hs [] [] p=st/\(!hs.isEmpty)=true) (adJ st):=
 (eK (P:=λe (q:List Stmt×List ExceptHandler×List Stmt×List Stmt)=>∃p,Stmt.Try q.1 q.2.1 q.2.2.1 q.2.2.2 p=e) (λe h=>@Stmt.Try.elim (λe=>∀h,(λq:List Stmt×List ExceptHandler×List Stmt×List Stmt=>∃p,Stmt.Try q.1 q.2.1 q.2.2.1 q.2.2.2 p=e) (@Stmt.Try.elim (λ_=>List Stmt×List ExceptHandler×List Stmt×List Stmt) e h λb hs os fs _=>(b,hs,os,fs))) e h (λ_ _ _ _ p _=>⟨p,rfl⟩) h) st).b
   λq h=>ak λh1=>ak λh2=>ak λh3=>fk h λp h=>⟨q.2.1,p,(congr (aQ (λo f=>Stmt.Try q.1 q.2.1 o f p) (bT h2)) (bT h3)).trans h,h1⟩
def wY (l:List Stmt):Option (Expr×Expr):=(dM l).bind λst=>(adJ st).bind λb=>(dM b).bind λst=>(wm st).bind λe=>(uR e).bind λq=>bif eG q.2 then some q else none
def Hq {U:Program} {w:World} {C:Nat} {Y:Base} {sc:Scope} {d:Nat} {Z aa ah:aj} {x y z:DV} {q:Expr×Expr} {l:List Stmt} (h:wY l=some q) (cf:aC U w C Y sc d q.1 Z x aa) (cP:aC U w C Y sc d q.2 aa y ah) (hs:qg U w Y.V x y z):aF U w C Y sc d l Z (.ret z) ah:=
 (((bp l).b λst e=>(Q9 st).b λb e1=>(bp b).b λzJ e2=>(CN zJ).b λv e3=>(lH v).b λq e4=>ak λhn=>show aC U w C Y sc d q.1 Z x aa->aC U w C Y sc d q.2 aa y ah->aF U w C Y sc d l Z (.ret z) ah from
   λcf cP=>mw e1 λJs p e1 ht=>fk e3 λp' e3=>by rw[<-e,<-e1,<-e2,<-e3,<-e4];exact jd (MG ht (jd (sV (oz hn cf cP hs)) rfl)) rfl:On _ (wY l))).get h cf cP
section
variable (H:Array Nat->Int)
def pkS:Expr×Expr:=(wY (FI H 690).body).getD default
def aip:wY (FI H 690).body=some (pkS H):=KK
def IZ:qi (KF H) 690=some (FI H 690):=KK
def I6:bc 690 vu=true:=KK
variable (t:Nat) (q k:Int) (rest:List (Str×ae))
abbrev pkA:bU:=some ((n7,.pv (.sint t q))::(n6,.pv (.gP 0))::rest)
abbrev pkL:List (Str×ae):=[(ag,.pv .self),(iN,.pv (.int k))]
def ain:eX H 2 690 (pkS H).1 ⟨pkA t q rest,pkL k⟩ (.gP 0):=KK
def aim:eX H 2 690 (pkS H).2 ⟨pkA t q rest,pkL k⟩ (.sint t (q+k)):=KK
def pkR (args:List DV):Option (List (Str×DV)):=(cR lD 690 args []).bind λrow=>getAll args [] row.out
def P9:pkR [.self]=some [(ag,.self),(iN,.int 0)]:=KK
def Qa:pkR [.self,.int k]=some [(ag,.self),(iN,.int k)]:=KK
end
section
variable {U:Program} {w:World} {Y:Base} (T0:cQ (KF (HH w)) Y) {T:Kn} (O:gX T Y.V)
include T0 O
theorem Lz {t:Nat} {q k:Int} {c:Nat} {rest:List (Str×ae)} {args:List DV} (ha:pkR args=some [(ag,.self),(iN,.int k)]) (hc:T.ch t (q+k)=some c):af U w 1521 Y 3 (.ref 690) args [] (pkA t q rest) (.str [c]) (pkA t q rest):=
 gd (ba:=⟨pkA t q rest,pkL k⟩) I6 (IZ (HH w)) T0 O.len ha (Hq (aip (HH w)) (gW I6 (IZ (HH w)) T0 O.len (ain ..)) (gW I6 (IZ (HH w)) T0 O.len (aim (HH w) t q k rest)) (EX (T:=T) O (aQ (Option.bind · λc=>some (DV.str [c])) hc))) rfl
end
def t9 {α:Type} (l:List α):Option (α×List α):=List.casesOn (motive:=λ_=>Option (α×List α)) l none λa l=>some (a,l)
def qD {α:Type} (l:List α):On (λp=>p.1::p.2=l) (t9 l):=by cases l;exact trivial;exact rfl
def DI {α:Type} {l:List α} (h:t9 l=none):[]=l:=by cases l;exact rfl;exact sn h
def pkK (args:List DV):Option Int:=(te args).bind λl=>aZ (t9 l) (some 0) λ_=>(dM l).bind intD
def X4 (args:List DV):On (λk=>pkR args=some [(ag,.self),(iN,.int k)]) (pkK args):=
 (mj args).b λl h=>h▸(qD l).or (λ_ _=>(bp l).b λv h'=>(bQ v).up λk FZ=>h'▸FZ▸Qa k) λh'=>DI h'▸P9
def slV (x:Str) (p:Str×ae):Option DV:=bif cU p.1 x then uF p.2 else none
def Mf (x:Str) (p:Str×ae):On (λv=>(x,.pv v)=p) (slV x p):=ak λh=>(iC p.2).up λv e=>(bF _ _).mp h▸aQ (Prod.mk p.1) e
def pkQ (T:Kn) (args:List DV) (aq:bU):Option DV:=aq.bind λas=>(t9 as).bind λa=>(t9 a.2).bind λb=>(slV n7 a.1).bind λv=>(iF v).bind λp=>(slV n6 b.1).bind λv'=>(sO v').bind λz=>bif Nat.beq z 0 then
 (pkK args).bind λk=>(T.ch p.1 (p.2+k)).bind λc=>some (.str [c]) else none
def X5 {U:Program} {w:World} {Y:Base} (T0:cQ (KF (HH w)) Y) {T:Kn} (O:gX T Y.V) (args:List DV) (aq:bU):On (λr=>af U w 1521 Y 3 (.ref 690) args [] aq r aq) (pkQ T args aq):=
 (aY aq).b λas e=>(qD as).b λa ha=>(qD a.2).b λb hb=>(Mf n7 a.1).b λv hv=>(dx v).b λp hp=>(Mf n6 b.1).b λv' hv'=>(jL v').b λz hz=>ak λh3=>(X4 args).b λk hk=>(aY (T.ch p.1 (p.2+k))).b λc hc=>
   show af .. from by rw[e,<-ha,<-hb,<-hv,<-hv',<-hp,<-hz,iT h3];exact Lz T0 O hk hc
structure Un where
 p:DV
 l:DV
 c:DV
 r:Rs
structure Sp where
 x:Str
 t:ae->Bool
 g:ae->ae
 ok:∀k,t k=true->k=g k
def ofS {α:Type} (f:ae->Option α) (d:α) (k:ae):α:=(f k).getD d
def Mi {α:Type} (x:Str) (f:ae->Option α) (d:α) (c:α->ae) (ok:∀k,On (λv=>c v=k) (f k)):Sp:=⟨x,λk=>(f k).isSome,λk=>c (ofS f d k),λk h=>fk (Zg.mp h) λv e=>by rw[ofS,e];exact((ok k).get e).symm⟩
def Mj (x:Str):Sp:=Mi x uF .none .pv iC
def spM (x:Str):Sp:=Mi x vV [] .ml AA
def af0 (f:DV->Bool) (k:ae):Option Unit:=(uF k).bind λv=>bif f v then some () else none
def spC (x:Str) (f:DV->Bool) (d:DV) (ok:∀v,f v=true->d=v):Sp:=Mi x (af0 f) () (λ_=>.pv d) λk=>(iC k).b λv h=>ak λh'=>(aQ ae.pv (ok v h')).trans h
def isAny (v:DV):Bool:=Nat.beq v.ctorIdx 0
def JG (v:DV) (h:isAny v=true):.any=v:=@DV.any.elim (λv=>.any=v) v (iT h) rfl
def isQ {α:Type} [DecidableEq α] (f:DV->Option α) (i:α) (v:DV):Bool:=gY (f v) λj=>decide (i=j)
def rQ {α:Type} [DecidableEq α] {f:DV->Option α} {c:α->DV} (ok:∀v,On (λi=>c i=v) (f v)) (i:α) (v:DV) (h:isQ f i v=true):c i=v:=bx (dN h) λ_ e h=>fb (mQ h)▸(ok v).get e
def spN (x:Str):Sp:=spC x qp .none λ_=>lW
def spI (x:Str) (i:Int):Sp:=spC x (isQ intD i) (.int i) (rQ bQ i)
def spec:List Sp:=[Mj n7,spC n6 (isQ sO 0) (.gP 0) (rQ jL 0),Mj iN,Mj pj,Mj mB,spM KS,spI KP 0,Mi KR RY [] .md J4,Mj GI,Mj gH,spM KQ,Mj KN,Mj KO,spN nf,spN KA,spC iy isAny .any JG,Mj GL,spM KY,spM KX,Mj KW,Mi tL some (.pv .none) id λ_=>rfl,Mj KZ,spN kK,spC Kz (isQ mI true) (.bool true) (rQ k8 true),spI KG 0,spN KC]
def fits (sp:List Sp):List (Str×ae)->Bool:=List.rec (motive:=λ_=>List (Str×ae)->Bool) (·.isEmpty) (λs _ ih as=>List.casesOn (motive:=λ_=>Bool) as false λp as=>cU p.1 s.x&&(s.t p.2&&ih as)) sp
def slots (sp:List Sp):List (Str×ae)->List (Str×ae):=List.rec (motive:=λ_=>List (Str×ae)->List (Str×ae)) (λ_=>[]) (λs _ ih as=>(s.x,s.g (as.headD ("",.pv .none)).2)::ih as.tail) sp
def Oj (sp:List Sp):∀as,fits sp as=true->as=slots sp as:=
 List.rec (motive:=λsp=>∀as,fits sp as=true->as=slots sp as) (λ_ h=>(bT h).symm) (λs _ ih as h=>by
  cases as with
  |nil=>exact ft h
  |cons p as=>exact a2 (aw h) λh1 h=>a2 (aw h) λh2 h3=>t8 (congr (aQ Prod.mk ((bF ..).mp h1)) (s.ok p.2 h2)) (ih as h3)) sp
def atS (as:List (Str×ae)) (i:Nat):ae:=((Nat.rec (motive:=λ_=>List (Str×ae)) as (λ_ l=>l.tail) i).headD ("",.pv .none)).2
def vv (as:List (Str×ae)) (i:Nat):DV:=ofS uF .none (atS as i)
def mm (as:List (Str×ae)) (i:Nat):List DV:=ofS vV [] (atS as i)
def EI (a b:DV):Bool:=gY (iF a) λp=>gY (iF b) λq=>Nat.beq p.1 q.1&&decide (p.2=q.2)
def sE {a b:DV} (h:EI a b=true):a=b:=bx (dN h) λ_ e h=>bx (dN h) λ_ e' h=>a2 (aw h) λc1 c2=>((dx a).get e).symm.trans ((congr (aQ DV.sint (iT c1)) (mQ c2)).trans ((dx b).get e'))
def unP (as:List (Str×ae)):Un:=⟨vv as 0,vv as 3,vv as 4,⟨mm as 5,ofS RY [] (atS as 7),vv as 8,vv as 9,mm as 10,vv as 11,vv as 12,vv as 16,mm as 17,mm as 18,vv as 19,atS as 20,vv as 21⟩⟩
def ML (as:List (Str×ae)):Option Un:=bif fits spec as then bif EI (vv as 0) (vv as 2) then some (unP as) else none else none
def X8 {as:List (Str×ae)} (h:vv as 0=vv as 2):slots spec as=iB (unP as).p (unP as).l (unP as).c (unP as).r:=aQ (λq=>(n7,ae.pv (vv as 0))::(n6,.pv (.gP 0))::(iN,.pv q)::(slots spec as).drop 3) h.symm
def zy (as:List (Str×ae)):On (λu=>as=iB u.p u.l u.c u.r) (ML as):=ak λh=>ak λh'=>(Oj spec as h).trans (X8 (sE h'))
def selfOnly (l:List DV):Bool:=gY (te l) (·.isEmpty)
def yX {l:List DV} (h:selfOnly l=true):[.self]=l:=bx (dN h) λ_ e h=>bT h▸(mj l).get e
def nmQ (u:Un):Option DV:=(iF u.p).bind λ_=>(iF u.l).bind λ_=>(intD u.c).bind λ_=>(mI u.r.done).bind λb=>bif b then some (.bool false) else aZ (t9 u.r.tokens) (some (.bool true)) λ_=>bif u.r.keys.isEmpty then(iF u.r.taken).bind λ_=>some .none else none
def mkQ (u:Un):Option DV:=(iF u.p).bind λ_=>(iF u.l).bind λ_=>(intD u.c).bind λ_=>some .rf
def fwQ (T:Kn) (u:Un):Option bU:=(iF u.p).bind λp=>(iF u.l).bind λl=>(intD u.c).bind λc=>(T.ch p.1 p.2).bind λch=>bif bc ch fwL then bif u.r.clean then some (aN p.1 l.1 (p.2+1) l.2 (c+1) u.r) else none else none
section
variable (H:Array Nat->Int) (b:Nat) (k:Int) (lt:Nat) (j c:Int) (r:Rs) (t:Nat) (i:Int) (tk:DV) (ts:List DV)
def Rs.nm (r:Rs) (ts:List DV) (ks:List (DV×DV)) (tn d:DV):Rs:=⟨ts,ks,tn,r.indent,r.lV,r.allow,d,r.state,r.pI,r.marks,r.ev,r.tags,r.yv⟩
abbrev QF (n f:Nat) (r:Rs) (z:DV):Prop:=fO (tabs H bY eZ) n 1521 f [.self] [] (aN b lt k j c r)=some (z,aN b lt k j c r)
def Qp (ks:List (DV×DV)) (tn:DV):QF H b k lt j c 6 813 (r.nm ts ks tn (.bool true)) (.bool false):=KK
def Qq (ks:List (DV×DV)) (tn:DV):QF H b k lt j c 6 813 (r.nm [] ks tn (.bool false)) (.bool true):=KK
def Qr:QF H b k lt j c 6 813 (r.nm (tk::ts) [] (.sint t i) (.bool false)) .none:=KK
def run_mk:QF H b k lt j c 6 713 r .rf:=KK
end
section
variable {U:Program} {w:World} {Y:Base} (T0:cQ (KF (HH w)) Y) {T:Kn} (O:gX T Y.V)
include T0 O
theorem og {n f:Nat} {args:List DV} {aq aX:bU} {r:DV} (run:fO (tabs (HH w) bY eZ) n 1521 f args [] aq=some (r,aX)):af U w 1521 Y n (.ref f) args [] aq r aX:=
 gF (tabs_ok T0 (mY O.len) λ_ _ _ _ _ _ _ _ h=>ns h) n 1521 f args [] aq r aX run
omit T0 O in
theorem Rs.La {r:Rs} {ts:List DV} {ks:List (DV×DV)} {tn d:DV} (h1:ts=r.tokens) (h2:ks=r.keys) (h3:tn=r.taken) (h4:d=r.done):r=r.nm ts ks tn d:=by rw[h1,h2,h3,h4];rfl
abbrev qX (U:Program) (w:World) (Y:Base) (n f:Nat) (u:Un) (z:DV):Prop:=af U w 1521 Y n (.ref f) [.self] [] (some (iB u.p u.l u.c u.r)) z (some (iB u.p u.l u.c u.r))
theorem XH (u:Un):On (qX U w Y 6 813 u) (nmQ u):=
 (dx u.p).b λp h1=>(dx u.l).b λl h2=>(bQ u.c).b λc h3=>(k8 u.r.done).b λb h4=>by
   unfold qX
   rw[<-h1,<-h2,<-h3]
   exact d7 (λhb=>by rw[Rs.La (r:=u.r) rfl rfl rfl (hb▸h4)];exact og T0 O (Qp ..))
    λhb=>(qD u.r.tokens).or (λt ht=>ak λhk=>(dx u.r.taken).b λq hq=>by rw[Rs.La (r:=u.r) ht (bT hk) hq (hb▸h4)];exact og T0 O (Qr ..))
     λht=>by rw[Rs.La (r:=u.r) (DI ht) rfl rfl (hb▸h4)];exact og T0 O (Qq ..)
theorem UT (u:Un):On (qX U w Y 6 713 u) (mkQ u):=
 (dx u.p).b λp h1=>(dx u.l).b λl h2=>(bQ u.c).b λc h3=>show qX .. from by unfold qX;rw[<-h1,<-h2,<-h3];exact og T0 O (run_mk ..)
theorem T5 (u:Un):On (λa=>af U w 1521 Y 4 (.ref 706) [.self] [] (some (iB u.p u.l u.c u.r)) .none a) (fwQ T u):=
 (dx u.p).b λp h1=>(dx u.l).b λl h2=>(bQ u.c).b λc h3=>(aY (T.ch p.1 p.2)).b λch h4=>ak λh5=>ak λh6=>bx (O.ch _ _ _ h4) λn e1 e2=>show af .. from by
   rw[<-h1,<-h2,<-h3]
   exact Sl T0 O.len e1 h6 (fJ h5) (.of1 e2)
end
def RH (fw:Bool) (T:Kn) (f:Nat) (args:List DV) (aq:bU):Option (DV×bU):=
 bif Nat.beq f 690 then(pkQ T args aq).bind λr=>some (r,aq) else bif selfOnly args then bif Nat.beq f 813||Nat.beq f 713||(fw&&Nat.beq f 706) then aq.bind λas=>(ML as).bind λu=>
  bif Nat.beq f 813 then(nmQ u).bind λz=>some (z,aq) else bif Nat.beq f 713 then(mkQ u).bind λz=>some (z,aq) else bif Nat.beq f 706 then(fwQ T u).bind λa=>some (.none,a) else none else none else none
def IW {fw:Bool} {U:Program} {w:World} {Y:Base} (T0:cQ (KF (HH w)) Y) {T:Kn} (O:gX T Y.V) (f:Nat) (args:List DV) (aq:bU):On (λq=>af U w 1521 Y 6 (.ref f) args [] aq q.1 q.2) (RH fw T f args aq):=
 d7 (λc=>iT c▸(X5 T0 O args aq).b λ_ h=>h.up (by decide))
  λ_=>ak λh1=>ak λ_=>(aY aq).b λas ea=>(zy as).b λu hu=>by
   rw[ea,hu,<-yX h1]
   exact d7 (λc=>iT c▸(XH T0 O u).b λ_ h=>h) λ_=>d7 (λc=>iT c▸(UT T0 O u).b λ_ h=>h) λ_=>ak λc=>iT c▸(T5 T0 O u).b λ_ h=>h.up (by decide)
structure u7 where
 n:Nat
 f:Nat
 a:Option (List Nat)
 p:DV
 l:DV
 ind:Option Int
 col:Option Int
 alw:Bool
 res:DV
 p':DV
 l':DV
 c':Int
def u7.args (J:u7):List DV:=.self::Option.rec (motive:=λ_=>List DV) [] (λs=>[.str s]) J.a
def Dm (a:Option (List Nat)) (l:List DV):Bool:=gY (te l) λr=>Option.rec (motive:=λ_=>Bool) r.isEmpty (λt=>gY (dM r) λv=>gY (iG v) λs=>fQ s t) a
def zR {J:u7} {l:List DV} (h:Dm J.a l=true):J.args=l:=bx (dN h) λr e h=>by
 rw[<-(mj l).get e]
 unfold u7.args
 cases q:J.a with
 |none=>rw[q] at h;exact bT h▸rfl
 |some t=>rw[q] at h;exact bx (dN h) λv e1 h=>bx (dN h) λs e2 h=>by rw[<-(bp r).get e1,<-(cT v).get e2,iI.mp ((jo s t).symm.trans h)]
def X2 {α:Type} (o:Option α) (f:α->Bool):Bool:=Option.rec (motive:=λ_=>Bool) true f o
def Ew {α:Type} {o:Option α} {f:α->Bool} {i:α} (h:X2 o f=true) (e:o=some i):f i=true:=by subst e;exact h
def u7.go (J:u7) (n f:Nat) (args:List DV) (kw:List (Str×DV)) (aq:bU):Option (DV×bU):=
 bif Nat.beq f J.f&&(Nat.ble J.n (n+1)&&(Dm J.a args&&kw.isEmpty)) then aq.bind λas=>(ML as).bind λu=>(intD u.c).bind λc=>bif EI u.p J.p&&(EI u.l J.l&&(u.r.clean&&(X2 J.ind (isQ intD · u.r.indent)&&(X2 J.col (λi=>decide (c=i))&&(!J.alw||isQ mI true u.r.allow))))) then
  some (J.res,some (iB J.p' J.l' (.int J.c') u.r)) else none else none
def Nf (U:Program) (w:World) (Y:Base) (J:u7):Prop:=∀(c:Int) (r:Rs),r.clean=true->(∀i,J.ind=some i->r.indent=.int i)->(∀i,J.col=some i->c=i)->(J.alw=true->r.allow=.bool true)->af U w 1521 Y J.n (.ref J.f) J.args [] (some (iB J.p J.l (.int c) r)) J.res (some (iB J.p' J.l' (.int J.c') r))
def u7.aaM {U:Program} {w:World} {Y:Base} {J:u7} (h:Nf U w Y J) (n f:Nat) (args:List DV) (kw:List (Str×DV)) (aq:bU):On (λq=>af U w 1521 Y (n+1) (.ref f) args kw aq q.1 q.2) (J.go n f args kw aq):=
 ak λc=>a2 (aw c) λc1 c=>a2 (aw c) λc2 c=>a2 (aw c) λc3 c4=>(aY aq).b λas ea=>(zy as).b λu hu=>(bQ u.c).b λc hc=>ak λd=>a2 (aw d) λd1 d=>a2 (aw d) λd2 d=>a2 (aw d) λd3 d=>a2 (aw d) λd4 d=>a2 (aw d) λd5 d6=>show af .. from by
  rw[iT c1,<-zR c3,<-bT c4,ea,hu,sE d1,sE d2,<-hc]
  exact(h c u.r d3 (λi e=>(rQ bQ i _ (Ew (f:=λi=>isQ intD i u.r.indent) d4 e)).symm) (λi e=>mQ (Ew (f:=λi=>decide (c=i)) d5 e)) λha=>(rQ k8 true _ (by rw[ha] at d6;exact d6)).symm).up (eP c2)
def Sh {α:Type} {P:α->Prop} (a:α) (h:P a):On P (some a):=h
def abm (l:List u7) (n f:Nat) (args:List DV) (kw:List (Str×DV)) (aq:bU):Option (DV×bU):=List.rec (motive:=λ_=>Option (DV×bU)) none (λJ _ ih=>aZ (J.go n f args kw aq) ih some) l
def Pe {U:Program} {w:World} {Y:Base} {n f:Nat} {args:List DV} {kw:List (Str×DV)} {aq:bU} (l:List u7) (h:∀J∈l,Nf U w Y J):On (λq=>af U w 1521 Y (n+1) (.ref f) args kw aq q.1 q.2) (abm l n f args kw aq):=by
 induction l with
 |nil=>exact trivial
 |cons J l ih=>exact(u7.aaM (h J (.head _)) ..).or Sh λ_=>ih λJ hJ=>h J (.tail _ hJ)
def spc (T:Kn) (l:List u7):Nat->Nat->Nat->List DV->List (Str×DV)->bU->Option (DV×bU):=λn C f args kw aq=>
 bif Nat.beq C 1521 then aZ (bif Nat.ble 5 n&&kw.isEmpty then RH (!l.isEmpty) T f args aq else none) (abm l n f args kw aq) some else none
def Mk {U:Program} {w:World} {Y:Base} (T0:cQ (KF (HH w)) Y) {T:Kn} (O:gX T Y.V) {l:List u7} (h:∀J∈l,Nf U w Y J):∀n C f args kw aq r aX,spc T l n C f args kw aq=some (r,aX)->af U w C Y (n+1) (.ref f) args kw aq r aX:=λn C f args kw aq _ _ e=>
 On.get (P:=λq=>af U w C Y (n+1) (.ref f) args kw aq q.1 q.2) (ak λhC=>fb (iT hC)▸On.or (ak λc=>a2 (aw c) λc c'=>bT c'▸(IW T0 O f args aq).up λ_ k=>k.up (Rr (eP c))) Sh λ_=>Pe l h) e
structure mq where
 t:Nat
 l:List Nat
 n:Nat
 e:Option Nat
 pos:Bool
 MR:Bool
def G6 (rs:List mq) (t:Nat):Option mq:=List.rec (motive:=λ_=>Option mq) none (λr _ ih=>bif Nat.beq r.t t then some r else ih) rs
def RU (rs:List mq):Kn where
 ch:=λt k=>(G6 rs t).bind λr=>(GU k).bind (XK r.l)
 more:=λt k=>(G6 rs t).bind λr=>(GU k).bind λn=>bif Nat.blt n r.n then some false else r.e.bind λm=>bif Nat.ble m n then some true else none
 pos:=λt=>gY (G6 rs t) (·.pos)
 MR:=λt=>gY (G6 rs t) (·.MR)
def mq.ok (V:Val) (r:mq):Prop:=∃p:Nat,V.β r.t=p/\p+r.n<=(V.ς 0).length/\Txt (V.ς 0) p r.l/\(∀m,r.e=some m->(V.ς 0).length<=p+m)/\(r.pos=true->1<=p)/\(r.MR=true->p=0)
def qN (rs:List mq) (t:Nat):On (λr=>r∈rs/\r.t=t) (G6 rs t):=List.rec (motive:=λrs=>On (λr:mq=>r∈rs/\r.t=t) (G6 rs t)) trivial (λa l ih=>d7 (λc=>⟨.head _,iT c⟩) λ_=>ih.up λ_ h=>⟨.tail _ h.1,h.2⟩) rs
def JM {V:Val} {rs:List mq} (h:∀r∈rs,r.ok V) (hl:V.β 0=(V.ς 0).length):gX (RU rs) V where
 ch:=λt k c e=>On.get (P:=λc=>∃n:Nat,V.β t+k=n/\(V.ς 0)[n]?=some c) ((qN rs t).b λr q=>(n9 k).b λn hn=>.mk λc e=>ua (h r q.1) λp a1 _ q'=>⟨p+n,by rw[<-q.2,a1,<-hn];rfl,q'.1 n c ((Em ..).symm.trans e)⟩) e
 more:=λt k b e=>On.get (P:=λb=>b=decide (V.β 0<=V.β t+k)) ((qN rs t).b λr q=>(n9 k).b λn hn=>Oc (h r q.1) λp a1 a2 _ q'=>hl▸q.2▸a1▸hn▸d7 (λc=>Pz a2 c) λ_=>(aY r.e).b λm hm=>ak λc=>(HI (zM.mpr (bw (q'.1 m hm) (xl (eP c) p)))).symm) e
 len:=hl
 pos:=λt e=>bx (dN e) λr h1 h2=>a2 ((qN rs t).get h1) λhm e=>e15 (h r hm) λp a1 _ _ _ a=>e▸a1▸zM.mpr (a.1 h2)
 MR:=λt e=>bx (dN e) λr h1 h2=>a2 ((qN rs t).get h1) λhm e=>e15 (h r hm) λp a1 _ _ _ a=>e▸a1.trans (aQ Int.ofNat (a.2 h2))
def tok2 (c:Nat):DV:=.inst c [(aK,.rf),(bg,.rf)]
section
variable {U:Program} {w:World} {C:Nat} {Y:Base} {θ:Tg} {d:Nat}
def Val.pM (V:Val) {θ:Tg} {t:Nat} {o:Option (Nat×Int)} (h:θ t=o):(V.tag θ).β t=Option.rec (motive:=λ_=>Int) (V.β t) (λp=>V.β p.1+p.2) o:=h▸rfl
def Base.YS (h:∀t,On (λp=>Y.V.β p.1+p.2=Y.V.β t) (θ t)):Y.tag θ=Y:=by
 obtain⟨hp,⟨β,ς⟩,sys⟩:=Y
 have e:(Val.tag ⟨β,ς⟩ θ).β=β:=funext λt=>by
  have h:=h t
  have e:=Val.pM ⟨β,ς⟩ (Eq.refl (θ t))
  revert h e
  cases θ t with
  |none=>exactλ_ e=>e
  |some x=>exactλh e=>e.trans h
 exact aQ (λβ=>Base.mk hp ⟨β,ς⟩ sys) e
def af.name {f:Value} {args:List DV} {kw:List (Str×DV)} {aq aX:bU} {r:DV} (hθ:∀t,On (λp=>Y.V.β p.1+p.2=Y.V.β t) (θ t)) (h:af U w C Y d f (oL θ args) (SE θ kw) (xk θ aq) (r.tg θ) (xk θ aX)):af U w C Y d f args kw aq r aX:=Base.YS hθ▸h.adN
def N0 {rs:List mq} {js:List u7} {n f:Nat} {args:List DV} {kw:List (Str×DV)} {aq aX:bU} {r:DV} (T0:cQ (KF (HH w)) Y) (hl:bz Y) (h0:θ 0=none) (hr:∀x∈rs,x.ok (Y.V.tag θ)) (hj:∀J∈js,Nf U w (Y.tag θ) J)
    (run:fO (tabs (HH w) (RU rs) (spc (RU rs) js)) n 1521 f args kw aq=some (r,aX)):af U w 1521 Y n (.ref f) (oL θ args) (SE θ kw) (xk θ aq) (r.tg θ) (xk θ aX):=
 have O:gX (RU rs) (Y.tag θ).V:=JM (V:=(Y.tag θ).V) hr ((Y.V.pM h0).trans hl)
 af.lC (gF (tabs_ok (T0.tag _) O (Mk (T0.tag _) O hj)) n 1521 f args kw aq r aX run)
end
def Ht (a t:Nat) (m:Int) (a' l:Nat) (y:Int):Tg:=λx=>bif Nat.beq x a then some (t,m) else bif Nat.beq x a' then some (l,y) else none
def ahT {a t:Nat} {m:Int} {a' l:Nat} {y:Int} (h1:a<16) (h2:a'<16):low (Ht a t m a' l y):=λx h=>by
 unfold Ht
 rw[qx (qu h1 h),qx (qu h2 h)];rfl
def wN {θ:Tg} {t:Nat} {k:Int} {o:Option (Nat×Int)} (h:θ t=o):Q7 θ t k=Option.rec (motive:=λ_=>DV) (.sint t k) (λp=>.sint p.1 (p.2+k)) o:=h▸rfl
def af.land {U:Program} {w:World} {C:Nat} {Y:Base} {d:Nat} {fv:Value} {args:List DV} {v:DV} {t lt a a':Nat} {k j m y c c':Int} {r:Rs} (h1:Y.V.β a=Y.V.β t+m) (h2:Y.V.β a'=Y.V.β lt+y) (hr:r.clean=true)
    (h:af U w C Y d fv args [] (aN t lt k j c r) v (aN t lt m y c' r)) (e1:Ht a t m a' lt y t=none:=by rfl) (e2:Ht a t m a' lt y lt=none:=by rfl) (e3:Ht a t m a' lt y a=some (t,m):=by rfl) (e4:Ht a t m a' lt y a'=some (lt,y):=by rfl) (ha:oL (Ht a t m a' lt y) args=args:=by rfl) (hv:v.tg (Ht a t m a' lt y)=v:=by rfl)
    (la:a<16:=by decide) (la':a'<16:=by decide):af U w C Y d fv args [] (aN t lt k j c r) v (aN a a' 0 0 c' r):=
 .name (θ:=Ht a t m a' lt y) (λx=>d7 (λe=>fb (iT e)▸h1.symm) λ_=>ak λe=>fb (iT e)▸h2.symm) (by
  rw[ha,hv]
  show af U w C Y d fv args [] (some (iB (Q7 _ t k) (Q7 _ lt j) (.int c) (r.tg _))) v (some (iB (Q7 _ a 0) (Q7 _ a' 0) (.int c') (r.tg _)))
  rw[wN e1,wN e2,wN e3,wN e4,Rs.bO (ahT la la') hr]
  show af U w C Y d fv args [] (aN t lt k j c r) v (aN t lt (m+0) (y+0) c' r)
  rw[zE,zE]
  exact h)
def cmt:List Nat:=[35,32,114,58,32,115]
def Rs.al (r:Rs):Rs:={r with allow:=.bool true}
def Rs.ZV {r:Rs} (h:r.allow=.bool true):r.al=r:=by unfold Rs.al;rw[<-h]
def bC (g:Option (List Nat)):List Nat:=Option.rec (motive:=λ_=>List Nat) [] (cmt++·) g
def ik (g:Option (List Nat)):Nat:=Option.rec (motive:=λ_=>Nat) 0 (λ_=>1) g
def T7 (g:Option (List Nat)) (c:Nat) (z:Bool):mq:=⟨1,bC g++[c],(bC g).length+1+(bif Nat.beq c 0 then 0 else 1),bif Nat.beq c 0 then some ((bC g).length+1) else none,!z,z⟩
def xV:List Nat:=[45,46,0]
def gzs:List (Option (List Nat)×Bool):=(none,true)::(none,false)::iJ.map λnl=>(some nl,false)
def T9 {g:Option (List Nat)} (hg:∀nl,g=some nl->nl∈iJ) {z:Bool} (hz:z=true->g=none):(g,z)∈gzs:=by
 cases g with
 |none=>cases z;exact .tail _ (.head _);exact .head _
 |some nl=>
  cases z with
  |true=>exact sn (hz rfl)
  |false=>exact .tail _ (.tail _ (List.mem_map_of_mem (f:=λnl=>(some nl,false)) (hg nl rfl)))
def Qs (H:Array Nat->Int) (r:Rs):gzs.map (λq=>xV.map λc=>fO (tabs H (RU [T7 q.1 c q.2]) (spc (RU [T7 q.1 c q.2]) [])) 8 1521 1100 [.self] [] (aN 1 2 0 0 0 r.al))=gzs.map λq=>xV.map λ_=>some (.none,aN 1 2 (bC q.1).length (ik q.1) 0 r.al):=KK
abbrev HN (S:List Nat) (p l c:Nat):Prop:=cond (Nat.beq c 0) (S.length=p+l+1) (p+l+2<=S.length)
def OC {V:Val} {p:Nat} {g:Option (List Nat)} {c:Nat} (hp:V.β 1=p) (hx:Txt (V.ς 0) p (bC g++[c])) (he:HN (V.ς 0) p (bC g).length c):(T7 g c (decide (p=0))).ok V:=by
 unfold HN at he
 refine⟨p,hp,?_,hx,?_,λe=>Nat.pos_of_ne_zero (of_decide_eq_false (iA e)),λe=>mQ e⟩
 ·show p+((bC g).length+1+(bif Nat.beq c 0 then 0 else 1))<=(V.ς 0).length
  revert he
  cases Nat.beq c 0 with
  |true=>exactλh=>iU (fb h)
  |false=>exactλh=>h
 ·show ∀m,(bif Nat.beq c 0 then some ((bC g).length+1) else none)=some m->(V.ς 0).length<=p+m
  revert he
  cases Nat.beq c 0 with
  |true=>exactλh m e=>eN e▸iU h
  |false=>exactλ_ _ e=>ns e
def q56 {T L:Nat} {m y:Int}:∀p∈[(1,2),(3,4)],Ht 5 T m 6 L y p.1=none/\Ht 5 T m 6 L y p.2=none:=e9.mpr ⟨⟨rfl,rfl⟩,Fn.mpr ⟨rfl,rfl⟩⟩
def q34 {T L:Nat} {m y:Int}:∀p∈[(1,2),(5,6)],Ht 3 T m 4 L y p.1=none/\Ht 3 T m 4 L y p.2=none:=e9.mpr ⟨⟨rfl,rfl⟩,Fn.mpr ⟨rfl,rfl⟩⟩
section
variable {U:Program} {w:World} {Y:Base} (T0:cQ (KF (HH w)) Y) (hl:bz Y)
include T0 hl
theorem QG {t lt:Nat} (ht:(t,lt)∈[(1,2),(3,4)]) {p:Nat} (hp:Y.V.β t=p) {g:Option (List Nat)} (hg:∀nl,g=some nl->nl∈iJ) {c:Nat} (hc:c∈xV) (hx:Txt (Y.V.ς 0) p (bC g++[c]))
 (he:HN (Y.V.ς 0) p (bC g).length c) (hz:p=0->g=none) (h5:Y.V.β 5=p+(bC g).length) (h6:Y.V.β 6=Y.V.β lt+ik g):
 Nf U w Y ⟨8,1100,none,.sint t 0,.sint lt 0,none,some 0,true,.none,.sint 5 0,.sint 6 0,0⟩:=by
 intro col r hr _ agU hal
 rw[agU 0 rfl]
 have hal:=Rs.ZV (hal rfl)
 have run:=aW (aW (Qs (HH w) r) _ (T9 (z:=decide (p=0)) hg λe=>hz (mQ e))) c hc
 rw[hal] at run
 have h:=N0 (U:=U) (w:=w) (θ:=mn t 0 lt 0) (js:=[]) T0 hl rfl (Fn.mpr (OC ((Y.V.pM (θ:=mn t 0 lt 0) (t:=1) (o:=some (t,0)) rfl).trans ((zE _).trans hp)) hx he)) (λJ h=>nomatch h) run
 rw[FQ hr,oZ hr,zN,zN] at h
 exact .land (h5.trans (aQ (· +_) hp.symm)) h6 hr h (q56 _ ht).1 (q56 _ ht).2
theorem NM {t lt:Nat} (ht:(t,lt)∈[(1,2),(5,6)]) {B:fY} {ch:dO} {I:Int} {M:Nat} (O:B.Ok ch M) (hI:(I,M)∈MX) {x:Nat} {p:Nat} (hp:Y.V.β t=p) (hx:Txt (Y.V.ς 0) (p+x) B.txt) {y:Int} (h3:Y.V.β 3=Y.V.β t+(x+B.len)) (h4:Y.V.β 4=Y.V.β lt+(y+B.lines)):
 Nf U w Y ⟨9,1177,some [B.st],.sint t x,.sint lt y,some I,none,false,wV (B.cm ch).flatten B.st,.sint 3 0,.sint 4 0,B.e⟩:=λcol r hr hi _ _=>
 .land h3 h4 hr (HZ (U:=U) (b:=t) (lt:=lt) (k:=x) (j:=y) T0 hl hr O hI (hi I rfl) (by rw[hp];rfl) hx) (q34 _ ht).1 (q34 _ ht).2
end
def Rs.to (r:Rs) (ev st:DV):Rs:=⟨r.tokens,r.keys,r.taken,r.indent,r.lV,r.allow,r.done,st,r.pI,r.marks,ev,r.tags,r.yv⟩
section
variable (H:Array Nat->Int) (n:Nat)
abbrev pS:Stmt:=ai (FI H 1326).body 0
abbrev Zv:Stmt:=ai (wB (pS H)) 0
abbrev pS3:Stmt:=ai (wB (Zv H)) 0
def nJ:qi (KF H) 1326=some (FI H 1326):=KK
def nK:bc 1326 vu=true:=KK
def aik:(FI H 1326).body=[pS H,ai (FI H 1326).body 1]:=KK
def aii:pS H=.If (wT (pS H)) [Zv H] [] (wP (pS H)):=KK
def aij:Zv H=.If (wT (Zv H)) [pS3 H] [] (wP (Zv H)):=KK
abbrev pL:List (Str×ae):=[(ag,.pv .self)]
variable (p l c:DV) (r:Rs) (f:Nat) (ev st:DV)
def acQ:tX H n 1326 (wT (pS H)) ⟨some (iB p l c (r.to .none (.bj f))),pL⟩ true:=KK
def acR:tX H n 1326 (wT (Zv H)) ⟨some (iB p l c (r.to .none (.bj f))),pL⟩ true:=KK
def ail (p' l' c':DV) (r':Rs):rR.map (λf=>(nB (eT H bY n 1326) (fR H bY n 1326) (kr (pS3 H)) ⟨some (iB p l c (r.to .none (.bj f))),pL⟩,tM (eT H bY n 1326) (pS3 H) ev ⟨some (iB p' l' c' (r'.to .none st)),pL⟩))=
 rR.map λf=>(some (f,[.self],⟨some (iB p l c (r.to .none (.bj f))),pL⟩),some ⟨some (iB p' l' c' (r'.to ev st)),pL⟩):=KK
def aio:rX H n 1326 [ai (FI H 1326).body 1] ⟨some (iB p l c (r.to ev st)),pL⟩ (.ret ev) ⟨some (iB p l c (r.to ev st)),pL⟩:=KK
def T8 (cc:Nat) (fs:List (Str×DV)):fO (tabs H bY eZ) 4 1521 1333 [.self] [] (some (iB p l c (r.to (.inst cc fs) st)))=some (.inst cc fs,some (iB p l c (r.to .none st))):=KK
def acP:fO (tabs H bY eZ) 4 1521 1326 [.self] [] (some (iB p l c (r.to .none .none)))=some (.none,some (iB p l c (r.to .none .none))):=KK
def X6:((cR lD 1326 [.self] []).bind λrow=>getAll [.self] [] row.out)=some [(ag,.self)]:=KK
end
def P8 {U:Program} {w:World} {Y:Base} (T0:cQ (KF (HH w)) Y) (hl:bz Y) {n f:Nat} (hf:bc f rR=true) {p l c p' l' c' ev zJ:DV} {r r':Rs} (h:af U w 1521 Y n (.ref f) [.self] [] (some (iB p l c (r.to .none (.bj f)))) ev (some (iB p' l' c' (r'.to .none zJ)))):
    af U w 1521 Y (n+1) (.ref 1326) [.self] [] (some (iB p l c (r.to .none (.bj f)))) ev (some (iB p' l' c' (r'.to ev zJ))):=by
 exact gd nK (nJ (HH w)) T0 hl X6 (.at (aik (HH w)) (ao (.at (aii (HH w)) (iH (kG nK (nJ (HH w)) T0 hl (acQ ..)) (ao (.at (aij (HH w)) (iH (kG nK (nJ (HH w)) T0 hl (acR ..)) (ao (pD nK (nJ (HH w)) T0 hl (aW (ail (HH w) n p l c r ev zJ p' l' c' r') f (fJ hf)) h (fy n)) bA))) bA)))
  (nh nK (nJ (HH w)) T0 hl (aio (HH w) n p' l' c' r' ev zJ)))) rfl
section
variable {U:Program} {w:World} {C:Nat} {Y:Base} {G:Gh} {d:Nat} {s:Shared}
def cu.vy {as:List (Str×ae)} {x:Str} {l:List (DV×DV)} (R:cu w.params C Y G (some as) s) (hx:look as x=some (.md l)):
    ∃G',cu w.params C Y G' (some (put as x (.pv (.iK l)))) s/\Later G.OA G s G' s/\G'.OL=G.OL/\Sub G G':=
 cV R.attr λp dd q=>cV q λes n A=>bx (A.sl.hit x _ hx) λv hv ok=>DO ok λa tH n' e ha hd ho=>by
  have hv:=hv.trans (aQ some e)
  have ng:=(R.fM a ho.1).1
  have p:=ki R.pins ha
  let G':Gh:={pinned G a (dictOf tH n') with OA:=λb=>G.OA b/\b≠a}
  have S:Sub G G':=⟨rfl,p.g,p.par⟩
  have own:∀{b},b≠a->G.g b=none->G'.g b=none:=λq e=>(cD q).trans e
  have ns:(a==sysModules)=false:=HG.mpr λe=>fk (Zg.mp Y.sys) λo h=>sn ((R.dU _ _ h).symm.trans (e▸ng))
  have D:DR w.params G' (.iK l) (.ref a):=.iK ns dw (hd.mono S)
  exact⟨G',⟨λb o=>oq R.pins ha,λb o h=>S.g b o (R.dU b o h),R.val,λb q=>⟨own q.2 (R.fM b q.1).1,(R.fM b q.1).2⟩,λb q=>⟨own (λe=>R.apart a ho.1 (e▸q)) (R.fG b q).1,(R.fG b q).2⟩,λb q=>R.apart b q.1,
   _,dd,es,n,A.par,S.g _ _ A.inst,⟨A.own,λe=>ho.2 e.symm⟩,A.dict,((ou as x _).2 _ hx).symm▸A.len,A.str,
   A.sl.G0 x (.pv (.iK l)) _ hv (λ_ _=>rfl) D (λy ky u q e mu h=>h.keep (a:=a) S (λmy z=>q (A.sl.once y x ky _ e hx my rfl (mu.trans ((aQ some z).trans hv.symm)))) (λb o _ _ e=>e) λb o n=>⟨⟨o.1,n⟩,o.2⟩) λq=>ft q⟩,
   .gh S (λb o _ n e=>(cD (λz:b=a=>n (.inl (z▸ho.1)))).symm.trans e) (λ_ _ q=>q.1) λ_ _ q=>q,rfl,S⟩
def af.vy {f:Value} {args:List DV} {kw:List (Str×DV)} {aq:bU} {as:List (Str×ae)} {r:DV} {x:Str} {l:List (DV×DV)} (h:af U w C Y d f args kw aq r (some as)) (hx:look as x=some (.md l)):
    af U w C Y d f args kw aq r (some (put as x (.pv (.iK l)))):=λA G s vs ks ro R ha hk Q k=>
 h A G s vs ks ro R ha hk Q λaz v ax aB aH el dv=>Oc (aB.vy hx) λaD aE aJ el2 S=>k aD v ax aE (aH.aO aJ) (el2.trans el) (dv.mono S)
end
abbrev ZK:DV:=tok2 203
abbrev BMS:DV:=tok2 215
abbrev BEN:DV:=tok2 227
abbrev KEY:DV:=tok2 287
abbrev VAL:DV:=tok2 299
abbrev SW:DV:=tok2 311
abbrev DST:DV:=tok2 147
abbrev DEN:DV:=tok2 159
abbrev Zj:DV:=tok2 191
def adI:DV:=.inst 400 [(dX,.str [107]),(AD,.bool true),(aK,.rf),(bg,.rf),(fF,.none)]
def SH:DV:=.inst 179 [(aK,.rf),(bg,.rf),(kK,.none)]
def tokA:DV:=.inst 361 [(dX,.str [110]),(aK,.rf),(bg,.rf)]
def tokT:DV:=.inst 380 [(dX,.tup [.str [33],.str [116]]),(aK,.rf),(bg,.rf)]
structure Pv where
 txt:List Nat
 ZZ:DV
 tag:DV
 toks:List DV
def P0:Pv:=⟨[],.none,.none,[]⟩
def Ps:List Pv:=[P0,⟨[38,110,32],.str [110],.none,[tokA]⟩,⟨[33,116,32],.none,.str [33,116],[tokT]⟩,⟨[38,110,32,33,116,32],.str [110],.str [33,116],[tokA,tokT]⟩,⟨[33,116,32,38,110,32],.str [110],.str [33,116],[tokT,tokA]⟩]
def evS (P:Pv) (v:List Nat) (st:Nat):DV:=.inst 585 [(ke,P.ZZ),(mC,P.tag),(pz,.tup [.bool false,.bool (qp P.tag)]),(dX,.str v),(aK,.rf),(bg,.rf),(fF,.str [st])]
def agb:DV:=.inst 585 [(ke,.none),(mC,.none),(pz,.tup [.bool true,.bool false]),(dX,.str [107]),(aK,.rf),(bg,.rf),(fF,.none)]
def evC (c:Nat):DV:=.inst c [(ke,.none),(mC,.none),(pz,.bool true),(aK,.rf),(bg,.rf),(AE,.bool false)]
def agc:DV:=.inst 501 [(aK,.rf),(bg,.rf),(kK,.none)]
def Oe (b:Bool):DV:=.inst 533 [(aK,.rf),(bg,.rf),(n8,.bool b),(yx,.none),(yy,.none)]
def IT (b:Bool):DV:=.inst 553 [(aK,.rf),(bg,.rf),(n8,.bool b)]
def ai1:List Nat:=[116,97,103,58,121,97,109,108,46,111,114,103,44,50,48,48,50,58]
def wL:List (DV×DV):=[(.str [33],.str [33]),(.str [33,33],.str ai1)]
abbrev TG:ae:=.pv (.iK wL)
def ac7:List Nat:=[121,101,115]
def sNo:List Nat:=[110,111]
def sure (b:Bool):DV:=.str (bif b then ac7 else sNo)
def Sx:List Nat:=[115,99,97,108,97,114]
def Sv:List Nat:=[114,111,119]
def Su:List Nat:=[109,97,112]
def Ss:List Nat:=[100,111,99,117,109,101,110,116]
def QY:List Nat:=[32,101,110,100]
def Sy:List Nat:=[115,116,114,101,97,109]
def tS (P:Pv) (v:List Nat) (st:Nat):DV:=.tup [.str Sx,P.ZZ,P.tag,.str sNo,sure (qp P.tag),.str v,.str [st]]
def Zz:DV:=.tup [.str Sx,.none,.none,.str ac7,.str sNo,.str [107],.none]
def sY:DV:=.tup [.str Sv,.str sNo]
def sW:DV:=.tup [.str Su,.str sNo]
def gg:DV:=.tup [.str (Sv++QY)]
def kH:DV:=.tup [.str (Su++QY)]
def kL (b:Bool):DV:=.tup [.str Ss,sure b]
def eI (b:Bool):DV:=.tup [.str (Ss++QY),sure b]
def tQ:DV:=.tup [.str Sy]
def gK:DV:=.tup [.str (Sy++QY)]
def TD (H:Array Nat->Int) (as:List (Str×ae)) (ev:DV):=fO (tabs H bY eZ) 8 1521 1564 [ev] [] (some as)
def rr (toks:List DV) (ind:Int) (aho:List Int) (al dn:Bool) (st:DV) (sts:List Nat) (mk:Nat) (tg:ae) (k:DV):Rs:=⟨toks,[],k,.int ind,aho.map .int,.bool al,.bool dn,st,sts.map .bj,List.replicate mk .rf,.none,tg,.none⟩
def LS (p ln:Nat) (c:Int) (k:Nat) (r:DV->Rs):bU:=some (iB (.sint 17 p) (.sint 17 ln) (.int c) (r (.sint 17 k)))
def nu (p ln p3 l4 p5 l6 m:Nat):Tg:=λt=>(mT [(1,p),(2,ln),(3,p3),(4,l4),(5,p5),(6,l6),(16,m)] t).map λn:Nat=>(17,(n:Int))
def jb (t l st x:Nat) (I:Int) (v:List Nat) (e:Nat):u7:=⟨9,1177,some [st],.sint t x,.sint l 0,some I,none,false,wV v st,.sint 3 0,.sint 4 0,e⟩
def jg:u7:=⟨8,1100,none,.sint 1 0,.sint 2 0,none,some 0,true,.none,.sint 5 0,.sint 6 0,0⟩
def Step (U:Program) (w:World) (B0:Base) (a:bU) (t:DV) (a':bU):Prop:=∃(p l c p' l' c' zJ:DV) (r r':Rs) (f cc:Nat) (fs:List (Str×DV)),a=some (iB p l c (r.to .none (.bj f)))/\a'=some (iB p' l' c' (r'.to .none zJ))/\
 bc f rR=true/\af U w 1521 B0 33 (.ref f) [.self] [] a (.inst cc fs) a'/\∀as,TD (HH w) as (.inst cc fs)=some (t,some as)
abbrev HJ (H:Array Nat->Int) (θ:Tg) (rs:List mq) (js:List u7) (f:Nat) (c:Int) (r:DV->Rs) (ev t:DV) (a a':bU):Prop:=∀as,
 (bc f rR&&(uq ev).isSome,TD H as ev,xk θ (aN 1 2 0 0 c (r (.sint 16 0))),(fO (tabs H (RU rs) (spc (RU rs) js)) 30 1521 f [.self] [] (aN 1 2 0 0 c (r (.sint 16 0)))).map λq=>(q.1.tg θ,xk θ q.2))=(true,some (t,some as),a,some (ev,a'))
def Fe {α β γ δ ε:Type} {a:Bool} {b x:β} {c y:γ} {o:Option δ} {F:δ->α} {K:δ->ε} {u:α} {v:ε} (h:(a,b,c,o.map λq=>(F q,K q))=(true,x,y,some (u,v))):∃z,a=true/\b=x/\c=y/\o=some z/\F z=u/\K z=v:=by
 have h1:=kS h
 have h2:=kS h1.2
 have h3:=kS h2.2
 exact bx (xn.mp h3.2) λz e q=>⟨z,h1.1,h2.1,h3.1,e,kS q⟩
def Lay (S:List Nat) (p:Nat) (r:List Nat):Prop:=p<=S.length/\S.drop p=r
section
variable {S:List Nat} {p:Nat} {a b r:List Nat}
def Lay.len (h:Lay S p r):S.length=p+r.length:=by rw[<-h.2,ZF,Nat.add_sub_cancel' h.1]
def Lay.app (h:Lay S p (a++b)):Lay S (p+a.length) b:=⟨h.len▸xl (da▸Hx ..) p,by rw[<-List.drop_drop,h.2,List.drop_left]⟩
def Lay.txt (h:Lay S p (a++b)):Txt S p a:=λn c e=>by rw[<-List.getElem?_drop,h.2,List.getElem?_append_left (M8.mp e).1];exact e
end
def fY.rest (B:fY) (aR:List Item):List Nat:=List.rec (motive:=λ_=>List Nat) [] (λit aR ih=>it.1++(B.nl++(jY B.nl it.2++(aS (lead B.ind B.e aR)++ih)))) aR
def fY.core (B:fY):List Nat:=B.st::(B.h.txt++(B.t++(B.nl++(jY B.nl B.ss++(aS B.ld++B.rest B.aR)))))
def fY.rest_eq (B:fY) (aR:List Item):gv B.nl B.ind B.e B.c0 aR=B.rest aR++[B.c0]:=by
 induction aR with
 |nil=>rfl
 |cons it aR ih=>
  show it.1++(B.nl++(jY B.nl it.2++(aS (lead B.ind B.e aR)++gv B.nl B.ind B.e B.c0 aR)))=(it.1++(B.nl++(jY B.nl it.2++(aS (lead B.ind B.e aR)++B.rest aR))))++[B.c0]
  rw[ih,fc,fc,fc,fc]
def sN (n:Nat):(aS n).length=n:=tj
def fY.LL (B:fY) (aR:List Item):(B.rest aR).length=j9 B.nl B.ind B.e aR:=by
 induction aR with
 |nil=>rfl
 |cons it aR ih=>
  show(it.1++(B.nl++(jY B.nl it.2++(aS (lead B.ind B.e aR)++B.rest aR)))).length=it.1.length+B.nl.length+dk B.nl it.2+lead B.ind B.e aR+j9 B.nl B.ind B.e aR
  rw[da,da,da,da,nF,sN,ih,xc,xc,xc]
def fY.YZ (B:fY):B.txt=B.core++[B.c0]:=by
 unfold fY.txt fY.core
 rw[B.rest_eq,Dh,fc,fc,fc,fc,fc]
def fY.rA (B:fY):B.core.length=B.len:=by
 unfold fY.core fY.len
 rw[M9,da,da,da,da,da,nF,sN,B.LL,Nat.add_comm,xc,xc,xc,xc,xc]
def pQ {α β γ:Type} {l:List α} {f g:α->β->γ} (h:l.map f=l.map g):∀a∈l,∀b,f a b=g a b:=λa m b=>congrFun (aW h a m) b
def qZ {α β γ δ:Type} {l:List α} {m:List β} {f g:α->β->γ->δ} (h:l.map (λa=>m.map (f a))=l.map λa=>m.map (g a)):∀a∈l,∀b∈m,∀c,f a b c=g a b c:=λa i b j c=>congrFun (aW (aW h a i) b j) c
section
variable {U:Program} {w:World} {B0:Base} (T0:cQ (KF (HH w)) B0) (hl:bz B0) (cg:B0.V.β 17=0) {p ln p3 l4 p5 l6 m:Nat}
def bz.adH {θ:Tg} (hl:bz B0) (h0:θ 0=none):bz (B0.tag θ):=(B0.V.pM h0).trans hl
include cg
theorem uY {l:List (Nat×Nat)} {t n:Nat} (h:mT l t=some n):(B0.V.tag λt=>(mT l t).map λn:Nat=>(17,(n:Int))).β t=n:=(B0.V.pM (o:=some (17,(n:Int))) (aQ (Option.map λn:Nat=>(17,(n:Int))) h)).trans (by show B0.V.β 17+(n:Int)=n;rw[cg,zN])
theorem zD:(B0.V.tag (nu p ln p3 l4 p5 l6 m)).β 1=p/\(B0.V.tag (nu p ln p3 l4 p5 l6 m)).β 2=ln/\(B0.V.tag (nu p ln p3 l4 p5 l6 m)).β 3=p3/\(B0.V.tag (nu p ln p3 l4 p5 l6 m)).β 4=l4/\(B0.V.tag (nu p ln p3 l4 p5 l6 m)).β 5=p5/\(B0.V.tag (nu p ln p3 l4 p5 l6 m)).β 6=l6:=⟨uY cg rfl,uY cg rfl,uY cg rfl,uY cg rfl,uY cg rfl,uY cg rfl⟩
omit cg
include T0 hl
theorem RX {θ:Tg} (f:Nat) (ev:DV) {c c':Int} {r r':DV->Rs} {q' l' k':Nat} {t:DV} {rs:List mq} {js:List u7} (hr:∀x∈rs,x.ok (B0.V.tag θ)) (hj:∀J∈js,Nf U w (B0.tag θ) J)
 (xe:HJ (HH w) θ rs js f c r ev t (LS p ln c m r) (LS q' l' c' k' r')) (e1:∀k,r k=(r k).to .none (.bj f):=by exactλ_=>rfl) (e2:∀k,r' k=(r' k).to .none (r' k).state:=by exactλ_=>rfl) (h0:θ 0=none:=by exact rfl):Step U w B0 (LS p ln c m r) t (LS q' l' c' k' r'):=by
 refine fk (Fe (xe [])) λx q=>a6 q λi _ h1 h3 h5 h6=>fk (Zg.mp (aw i).2) λy h9=>?_
 have O:=JM hr ((B0.V.pM h0).trans hl)
 have h:=af.lC (gF (tabs_ok (U:=U) (T0.tag θ) O (Mk (T0.tag θ) O hj)) 30 1521 f [.self] [] _ x.1 x.2 h3)
 have e:=(nT ev).get h9
 rw[h5,h6,h1,<-e] at h
 exact⟨_,_,_,_,_,_,_,r (.sint 17 m),r' (.sint 17 k'),f,y.1,y.2,aQ (λr=>some (iB _ _ _ r)) (e1 _),aQ (λr=>some (iB _ _ _ r)) (e2 _),(aw i).1,h.up (by decide),λas=>(Fe (xe as)).elim λ_ q=>fb e▸q.2.1⟩
end
abbrev So (t:Nat) (cs:List Nat) (j:Nat):mq:=⟨t,cs,cs.length+j,none,true,false⟩
section
variable {V:Val} {t q j:Nat} {cs rest:List Nat} (ht:V.β t=q)
include ht
theorem wq (h:Lay (V.ς 0) q (cs++rest)) (hj:j<=rest.length) (h1:1<=q):(So t cs j).ok V:=⟨q,ht,by rw[h.len,da];exact xl (xl hj _) q,h.txt,λ_ e=>ns e,λ_=>h1,λe=>ft e⟩
theorem EF (h:Lay (V.ς 0) q cs) (h1:1<=q):(⟨t,cs,cs.length,some cs.length,true,false⟩:mq).ok V:=⟨q,ht,iU h.len.symm,(Lay.txt (b:=[]) (by rw[ti];exact h)),λ_ e=>eN e▸iU h.len,λ_=>h1,λe=>ft e⟩
theorem LO (e:q=0) (h:Lay (V.ς 0) q (cs++rest)) (hj:j<=rest.length):(⟨t,cs,cs.length+j,none,false,true⟩:mq).ok V:=⟨q,ht,by rw[h.len,da];exact xl (xl hj _) q,h.txt,λ_ e=>ns e,λe=>ft e,λ_=>e⟩
end
section
variable {U:Program} {w:World} {B0:Base} (T0:cQ (KF (HH w)) B0) (hl:bz B0) (cg:B0.V.β 17=0) {p ln p3 l4 p5 l6 m:Nat} {t:DV} {c c':Int} {r r':DV->Rs} {q' l' k':Nat} {cs rest:List Nat} {j:Nat} {g:Option (List Nat)} {B:fY} {ch:dO} {I:Int} {M:Nat}
include cg
theorem b1:(B0.V.tag (nu p ln p3 l4 p5 l6 m)).β 1=p:=(zD cg).1
theorem b5:(B0.V.tag (nu p ln p3 l4 p5 l6 m)).β 5=p5:=(zD cg).2.2.2.2.1
include T0 hl
theorem JL (hg:∀nl,g=some nl->nl∈iJ) {x:Nat} (hc:x∈xV) (h:Lay (B0.V.ς 0) p (bC g++x::rest)) (hr:cond (Nat.beq x 0) (rest=[]) (1<=rest.length)) (h1:1<=p):Nf U w (B0.tag (nu p ln p3 l4 (p+(bC g).length) (ln+ik g) m)) jg:=
 QG (T0.tag _) (hl.adH rfl) (.head _) (b1 cg) hg hc (Txt.C9 (t:=rest) (Lay.txt (b:=[]) (by rw[ti];exact h))) (by
  have e:=h.len
  rw[da,<-xc] at e
  show cond (Nat.beq x 0) ((B0.V.ς 0).length=_) (_<=(B0.V.ς 0).length)
  revert hr
  cases Nat.beq x 0 with
  |true=>exactλh=>e.trans (aQ (p+(bC g).length+List.length ·) (aQ (x::·) h))
  |false=>exactλh=>e▸xl (Rr h) _) (λe=>absurd h1 (e▸Nat.not_succ_le_zero 0)) (b5 cg) ((zD cg).2.2.2.2.2.trans (aQ (· +(ik g:Int)) (zD cg).2.1.symm))
theorem RS {t l q y:Nat} (ht:(B0.V.tag (nu p ln p3 l4 p5 l6 m)).β t=q) (hy:(B0.V.tag (nu p ln p3 l4 p5 l6 m)).β l=y) (hb:(t,l)∈[(1,2),(5,6)]) (O:B.Ok ch M) (hI:(I,M)∈MX) (h:Lay (B0.V.ς 0) q (cs++(B.core++B.c0::rest))) (e3:p3=q+cs.length+B.len) (e4:l4=y+B.lines) {e:Nat} (he:B.e=e):
 Nf U w (B0.tag (nu p ln p3 l4 p5 l6 m)) (jb t l B.st cs.length I (B.cm ch).flatten e):=
 he▸NM (T0.tag _) (hl.adH rfl) hb O hI ht (B.YZ▸Lay.txt (b:=rest) (by rw[fc];exact h.app)) (y:=0) ((zD cg).2.2.1.trans (by rw[show(B0.tag (nu p ln p3 l4 p5 l6 m)).V.β t=q from ht,e3,<-Hv];rfl)) ((zD cg).2.2.2.1.trans (by rw[show(B0.tag (nu p ln p3 l4 p5 l6 m)).V.β l=y from hy,e4,zN];rfl))
omit cg
theorem wD (f:Nat) (ev:DV) (xe:HJ (HH w) (nu p ln 0 0 0 0 m) [] [] f c r ev t (LS p ln c m r) (LS q' l' c' k' r')) (e1:∀k,r k=(r k).to .none (.bj f):=by exactλ_=>rfl) (e2:∀k,r' k=(r' k).to .none (r' k).state:=by exactλ_=>rfl):Step U w B0 (LS p ln c m r) t (LS q' l' c' k' r'):=
 RX T0 hl f ev (qT _) (qT _) xe e1 e2
include cg
theorem QH (f:Nat) (ev:DV) (h:Lay (B0.V.ς 0) p (cs++rest)) (hj:j<=rest.length) (h1:1<=p) (xe:HJ (HH w) (nu p ln 0 0 0 0 m) [So 1 cs j] [] f c r ev t (LS p ln c m r) (LS q' l' c' k' r')) (e1:∀k,r k=(r k).to .none (.bj f):=by exactλ_=>rfl) (e2:∀k,r' k=(r' k).to .none (r' k).state:=by exactλ_=>rfl):
 Step U w B0 (LS p ln c m r) t (LS q' l' c' k' r'):=RX T0 hl f ev (Fn.mpr (wq (V:=B0.V.tag (nu p ln 0 0 0 0 m)) (b1 cg) h hj h1)) (qT _) xe e1 e2
theorem ady (f:Nat) (ev:DV) (h:Lay (B0.V.ς 0) 0 (cs++rest)) (hj:j<=rest.length) (xe:HJ (HH w) (nu 0 ln 0 0 0 0 m) [⟨1,cs,cs.length+j,none,false,true⟩] [] f c r ev t (LS 0 ln c m r) (LS q' l' c' k' r')) (e1:∀k,r k=(r k).to .none (.bj f):=by exactλ_=>rfl) (e2:∀k,r' k=(r' k).to .none (r' k).state:=by exactλ_=>rfl):
 Step U w B0 (LS 0 ln c m r) t (LS q' l' c' k' r'):=RX T0 hl f ev (Fn.mpr (LO (V:=B0.V.tag (nu 0 ln 0 0 0 0 m)) (b1 cg) rfl h hj)) (qT _) xe e1 e2
theorem Hg (f:Nat) (ev:DV) (hg:∀nl,g=some nl->nl∈iJ) {x:Nat} (hc:x∈xV) (hx:Nat.beq x 0=false) (h:Lay (B0.V.ς 0) p (bC g++x::(cs++rest))) (hj:j<=rest.length) (hj1:1<=rest.length) (h1:1<=p)
 (xe:HJ (HH w) (nu p ln 0 0 (p+(bC g).length) (ln+ik g) m) [So 5 (x::cs) j] [jg] f c r ev t (LS p ln c m r) (LS q' l' c' k' r')) (e1:∀k,r k=(r k).to .none (.bj f):=by exactλ_=>rfl) (e2:∀k,r' k=(r' k).to .none (r' k).state:=by exactλ_=>rfl):Step U w B0 (LS p ln c m r) t (LS q' l' c' k' r'):=
 RX T0 hl f ev (Fn.mpr (wq (V:=B0.V.tag (nu p ln 0 0 (p+(bC g).length) (ln+ik g) m)) (cs:=x::cs) (b5 cg) h.app hj (zP h1))) (Fn.mpr (JL T0 hl cg hg hc h (by rw[hx,da];exact SS hj1) h1)) xe e1 e2
theorem YG (f:Nat) (ev:DV) (hg:∀nl,g=some nl->nl∈iJ) (h:Lay (B0.V.ς 0) p (bC g++[0])) (h1:1<=p)
 (xe:HJ (HH w) (nu p ln 0 0 (p+(bC g).length) (ln+ik g) m) [⟨5,[0],1,some 1,true,false⟩] [jg] f c r ev t (LS p ln c m r) (LS q' l' c' k' r')) (e1:∀k,r k=(r k).to .none (.bj f):=by exactλ_=>rfl) (e2:∀k,r' k=(r' k).to .none (r' k).state:=by exactλ_=>rfl):Step U w B0 (LS p ln c m r) t (LS q' l' c' k' r'):=
 RX T0 hl f ev (Fn.mpr (EF (V:=B0.V.tag (nu p ln 0 0 (p+(bC g).length) (ln+ik g) m)) (b5 cg) h.app (zP h1))) (Fn.mpr (JL T0 hl cg hg (.tail _ (.tail _ (.head _))) h rfl h1)) xe e1 e2
theorem C0 (f:Nat) (P:Pv) (O:B.Ok ch M) (hI:(I,M)∈MX) {e:Nat} (he:B.e=e) (h:Lay (B0.V.ς 0) p (cs++(B.core++B.c0::rest))) (h1:1<=p)
 (xe:∀p3 l4 v,∀st∈[124,62],HJ (HH w) (nu p ln p3 l4 0 0 m) [So 1 (cs++[st]) 1] [jb 1 2 st cs.length I v e] f c r (evS P v st) (tS P v st) (LS p ln c m r) (LS p3 l4 e k' r')) (e1:∀k,r k=(r k).to .none (.bj f):=by exactλ_=>rfl) (e2:∀k,r' k=(r' k).to .none (r' k).state:=by exactλ_=>rfl):
 Step U w B0 (LS p ln c m r) (tS P (B.cm ch).flatten B.st) (LS (p+cs.length+B.len) (ln+B.lines) e k' r'):=
 RX T0 hl f (evS P (B.cm ch).flatten B.st) (Fn.mpr (wq (V:=B0.V.tag (nu p ln (p+cs.length+B.len) (ln+B.lines) 0 0 m)) (rest:=B.core.tail++B.c0::rest) (b1 cg) (by rw[fc];exact h) (by rw[da];exact SS (oJ 1 _)) h1))
  (Fn.mpr (RS T0 hl cg (b1 cg) (zD cg).2.1 (.head _) O hI h rfl rfl he)) (xe _ _ _ _ O.st) e1 e2
theorem aiP (f:Nat) (P:Pv) (O:B.Ok ch M) (hI:(I,M)∈MX) {e:Nat} (he:B.e=e) (hg:∀nl,g=some nl->nl∈iJ) (h:Lay (B0.V.ς 0) p (bC g++45::(cs++(B.core++B.c0::rest)))) (h1:1<=p)
 (xe:∀p3 l4 p5 l6 v,∀st∈[124,62],HJ (HH w) (nu p ln p3 l4 p5 l6 m) [So 5 (45::cs++[st]) 1] [jg,jb 5 6 st (45::cs).length I v e] f c r (evS P v st) (tS P v st) (LS p ln c m r) (LS p3 l4 e k' r')) (e1:∀k,r k=(r k).to .none (.bj f):=by exactλ_=>rfl) (e2:∀k,r' k=(r' k).to .none (r' k).state:=by exactλ_=>rfl):
 Step U w B0 (LS p ln c m r) (tS P (B.cm ch).flatten B.st) (LS (p+(bC g).length+(45::cs).length+B.len) (ln+ik g+B.lines) e k' r'):=
 RX T0 hl f (evS P (B.cm ch).flatten B.st) (Fn.mpr (wq (V:=B0.V.tag (nu p ln (p+(bC g).length+(45::cs).length+B.len) (ln+ik g+B.lines) (p+(bC g).length) (ln+ik g) m)) (rest:=B.core.tail++B.c0::rest) (b5 cg) (by rw[fc];exact h.app) (by rw[da];exact SS (oJ 1 _)) (zP h1)))
  (e9.mpr ⟨JL T0 hl cg hg (.head _) h (by show 1<=_;rw[da,da];exact SS (SS (oJ 1 _))) h1,Fn.mpr (RS T0 hl cg (b5 cg) (zD cg).2.2.2.2.2 (.tail _ (.head _)) O hI h.app rfl rfl he)⟩) (xe _ _ _ _ _ _ O.st) e1 e2
end
def kB (p ln k:Nat):bU:=LS p ln 1 k (rr [SW] 0 [-1] true false (.bj 1418) [1361] 1 TG)
def kC (p ln k:Nat):bU:=LS p ln 1 k (rr [ZK,SW] 0 [-1] true false (.bj 1411) [1361] 0 TG)
def kA (p ln k:Nat):bU:=LS p ln 0 k (rr [] 0 [-1] true false (.bj 1418) [1361] 1 TG)
def kIs (b:Bool):Nat:=bif b then 1439 else 1418
def kI (b:Bool) (p ln k:Nat):bU:=LS p ln 0 k (rr [] 2 [-1,0] true false (.bj (kIs b)) [1361,1418] 2 TG)
def kM (p ln k:Nat):bU:=LS p ln 4 k (rr [BMS,KEY,adI,VAL] 2 [-1,0] false false (.bj 1432) [1361,1418] 1 TG)
def kV (p ln k:Nat):bU:=LS p ln 4 k (rr [VAL] 2 [-1,0] false false (.bj 1446) [1361,1418] 2 TG)
def kR (p ln k:Nat):bU:=LS p ln 3 k (rr [ZK,SW] 2 [-1,0] true false (.bj 1411) [1361,1418] 1 TG)
def kQ (p ln k:Nat):bU:=LS p ln 3 k (rr [BMS,KEY] 2 [-1,0] true false (.bj 1432) [1361,1418] 1 TG)
def kW (p ln k:Nat):bU:=LS p ln 2 k (rr [] 2 [-1,0] true false (.bj 1446) [1361,1418] 2 TG)
def kD (p ln k:Nat):bU:=LS p ln 3 k (rr [] (-1) [] false false (.bj 1368) [1361] 0 TG)
def kO (p ln k:Nat):bU:=LS p ln 0 k (rr [] (-1) [] true false (.bj 1361) [] 0 TG)
def kZ (p ln:Nat) (c:Int) (k:Nat):bU:=LS p ln c k (rr [Zj] (-1) [] false true (.bj 1361) [] 0 TG)
def kX (p ln k:Nat):bU:=LS p ln 3 k (rr [DEN] (-1) [] false false (.bj 1361) [] 0 TG)
def k0 (tg:ae):bU:=LS 0 0 0 0 (rr [SH] (-1) [] true false (.bj 1340) [] 0 tg)
def k1 (tg:ae):bU:=LS 0 0 0 1 (rr [] (-1) [] true false (.bj 1347) [] 0 tg)
def k2 (p ln k:Nat):bU:=LS p ln 1 k (rr [ZK,SW] 0 [-1] true false (.bj 1382) [1361] 0 TG)
def kE (p ln:Nat) (c:Int) (k:Nat) (toks:List DV) (dn:Bool) (st:Nat) (mk:Nat) (sts:List Nat):bU:=LS p ln c k (rr toks (-1) [] false dn (.bj st) sts mk TG)
def kF (p ln:Nat) (c:Int) (k:Nat) (dn:Bool):bU:=LS p ln c k (rr [] (-1) [] false dn .none [] 0 TG)
def kT (p ln k:Nat):bU:=LS p ln 3 k (rr [] (-1) [] false false (.bj 1368) [1361] 0 (.md wL))
def IP (nl:List Nat) (bL:Bool):List Nat:=bif bL then 46::46::46::(nl++[0]) else[0]
def tIn (b:Bool):DV:=bif b then kH else gg
def eIn (b:Bool):DV:=tok2 (bif b then 633 else 609)
def nl3:List Nat:=[10,13,133]
def US:((0:Int),1)∈MX:=.tail _ (.head _)
def Px:((2:Int),3)∈MX:=.tail _ (.tail _ (.head _))
section
variable (p l c:DV) (r:Rs)
def An:put (iB p l c {r with tags:=.md wL}) tL (.pv (.iK wL))=iB p l c {r with tags:=TG}:=(bk ..).symm.trans (show bS (iB p l c {r with tags:=.md wL}) tL (.pv (.iK wL))=_ by kernel_rfl)
def x7:look (iB p l c {r with tags:=.md wL}) tL=some (.md wL):=(aG ..).symm.trans (show aT (iB p l c {r with tags:=.md wL}) tL=_ by kernel_rfl)
end
section
variable {U:Program} {w:World} {B0:Base}
def af.G4 {n:Nat} {f:Value} {args:List DV} {kw:List (Str×DV)} {a:bU} {ev:DV} {p ln k:Nat} (h:af U w 1521 B0 n f args kw a ev (kT p ln k)):af U w 1521 B0 n f args kw a ev (kD p ln k):=
 show af U w 1521 B0 n f args kw a ev (some _) from An (.sint 17 p) (.sint 17 ln) (.int 3) (rr [] (-1) [] false false (.bj 1368) [1361] 0 TG (.sint 17 k))▸af.vy (x:=tL) h (x7 ..)
def Step.rest {a:bU} {t:DV} {p ln k:Nat} (h:Step U w B0 a t (kT p ln k)):Step U w B0 a t (kD p ln k):=
 gq h λqr aH c₁ h=>gq h λp' l' c' h=>gq h λzJ r r' h=>gq h λf cc fs h=>a5 h λe _ hf hc ht=>⟨qr,aH,c₁,_,_,_,_,r,rr [] (-1) [] false false (.bj 1368) [1361] 0 TG (.sint 17 k),f,cc,fs,e,rfl,hf,hc.G4,ht⟩
variable (T0:cQ (KF (HH w)) B0) (hl:bz B0) (cg:B0.V.β 17=0) {p ln k:Nat} {B:fY} {ch:dO} {rest:List Nat} {g:Option (List Nat)} (h1:1<=p) {y z:Nat} (hg:∀nl,g=some nl->nl∈iJ)
include T0 hl
theorem Yh:Step U w B0 (k0 (.md [])) tQ (k1 (.md [])):=wD T0 hl 1340 agc λ_=>KK
theorem aiJ:Step U w B0 (k2 p ln k) sY (kC p ln k):=wD T0 hl 1382 (evC 597) λ_=>KK
theorem ade:Step U w B0 (kM p ln k) Zz (kV p ln (k+3)):=wD T0 hl 1432 agb λ_=>KK
theorem aiz:Step U w B0 (kE p ln 3 k [BEN,DEN] false 1418 1 [1361]) gg (kX p ln (k+1)):=wD T0 hl 1418 (tok2 609) λ_=>KK
theorem aiA:Step U w B0 (kE p ln 0 k [BEN,Zj] true 1418 1 [1361]) gg (kZ p ln 0 (k+1)):=wD T0 hl 1418 (tok2 609) λ_=>KK
theorem ada:Step U w B0 (kX p ln k) (eI true) (kE p ln 3 (k+1) [] false 1354 0 []):=wD T0 hl 1361 (IT true) λ_=>KK
theorem adb {c:Int}:Step U w B0 (kZ p ln c k) (eI false) (kE p ln c k [Zj] true 1354 0 []):=wD T0 hl 1361 (IT false) λ_=>KK
theorem Yl {c:Int}:Step U w B0 (kE p ln c k [Zj] true 1354 0 []) gK (kF p ln c (k+1) true):=wD T0 hl 1354 (tok2 513) λ_=>KK
theorem aiG:Step U w B0 (kE p ln 3 k [DST] false 1354 0 []) (kL true) (kD p ln (k+1)):=.rest (wD T0 hl 1354 (Oe true) λ_=>KK)
include cg
theorem aiB {x:Nat} (h:Lay (B0.V.ς 0) 0 (45::32::x::y::rest)):Step U w B0 (k1 (.md [])) (kL false) (k2 1 0 1):=ady T0 hl cg (cs:=[45,32,x]) (j:=1) 1347 (Oe false) h (oJ 1 _) λ_=>KK
theorem ac8 (x:Nat) (hx:x∈[32,10,13,133]) (h:Lay (B0.V.ς 0) 0 (45::45::45::x::y::z::rest)):Step U w B0 (k1 (.md [])) (kL true) (kD 3 0 2):=.rest (ady T0 hl cg (cs:=[45,45,45,x]) (j:=2) 1347 (Oe true) h (oJ 2 _) (by clear h;revert x;exact pQ KK))
include h1
theorem aiK (nl:List Nat) (hn:nl∈iJ) (h:Lay (B0.V.ς 0) p ((nl++[45,32,x])++y::rest)):Step U w B0 (kD p ln k) sY (kC (p+(nl.length+1)) (ln+1) k):=QH T0 hl cg (cs:=nl++[45,32,x]) (j:=1) 1368 (evC 597) h (oJ 1 _) h1 (by clear h;revert nl;exact pQ KK)
theorem aiF (nl:List Nat) (hn:nl∈iJ) (h:Lay (B0.V.ς 0) p ((nl++[45,45,45,32])++y::z::rest)):Step U w B0 (kE p ln 3 k [] false 1354 0 []) (kL true) (kD (p+(nl.length+3)) (ln+1) (k+1)):=.rest (QH T0 hl cg (cs:=nl++[45,45,45,32]) (j:=2) 1354 (Oe true) h (oJ 2 _) h1 (by clear h;revert nl;exact pQ KK))
theorem Yj (nl:List Nat) (hn:nl∈iJ) (h:Lay (B0.V.ς 0) p (nl++[0])):Step U w B0 (kE p ln 3 k [] false 1354 0 []) gK (kF (p+nl.length) (ln+1) 0 (k+1) true):=
 RX T0 hl 1354 (tok2 513) (Fn.mpr (EF (V:=B0.V.tag (nu p ln 0 0 0 0 k)) (b1 cg) h h1)) (qT _) (by clear h;revert nl;exact pQ KK)
theorem s_1 (P:Pv) (hP:P∈Ps) (O:B.Ok ch 3) (he:B.e=0) (h:Lay (B0.V.ς 0) p ((32::P.txt)++(B.core++B.c0::rest))):Step U w B0 (kV p ln k) (tS P (B.cm ch).flatten B.st) (kI true (p+(32::P.txt).length+B.len) (ln+B.lines) (k+(P.toks.length+2))):=C0 T0 hl cg 1446 P O Px he h h1 (by clear h;intro _ _ _;revert P;exact qZ KK)
theorem s_2 (P:Pv) (hP:P∈Ps) (O:B.Ok ch 3) (he:B.e=0) (h:Lay (B0.V.ς 0) p ((32::P.txt)++(B.core++B.c0::rest))):Step U w B0 (kR p ln k) (tS P (B.cm ch).flatten B.st) (kI false (p+(32::P.txt).length+B.len) (ln+B.lines) (k+(P.toks.length+3))):=C0 T0 hl cg 1411 P O Px he h h1 (by clear h;intro _ _ _;revert P;exact qZ KK)
theorem s_3 (P:Pv) (hP:P∈Ps) (O:B.Ok ch 3) (he:B.e=2) (h:Lay (B0.V.ς 0) p ((32::P.txt)++(B.core++B.c0::rest))):Step U w B0 (kQ p ln k) (tS P (B.cm ch).flatten B.st) (kW (p+(32::P.txt).length+B.len) (ln+B.lines) (k+(P.toks.length+3))):=C0 T0 hl cg 1432 P O Px he h h1 (by clear h;intro _ _ _;revert P;exact qZ KK)
theorem s_4 (O:B.Ok ch 3) (he:B.e=0) (h:Lay (B0.V.ς 0) p ([58,32]++(B.core++B.c0::rest))):Step U w B0 (kW p ln k) (tS P0 (B.cm ch).flatten B.st) (kI true (p+2+B.len) (ln+B.lines) (k+2)):=C0 T0 hl cg 1446 P0 O Px he h h1 λ_ _ _=>pQ KK
theorem s_5 (P:Pv) (hP:P∈Ps) (O:B.Ok ch 1) (he:B.e=0) (h:Lay (B0.V.ς 0) p ((32::P.txt)++(B.core++B.c0::rest))):Step U w B0 (kD p ln k) (tS P (B.cm ch).flatten B.st) (kO (p+(32::P.txt).length+B.len) (ln+B.lines) (k+(P.toks.length+1))):=C0 T0 hl cg 1368 P O (.head _) he h h1 (by clear h;intro _ _ _;revert P;exact qZ KK)
include hg
theorem aiE {b:Bool} {x:Nat} (h:Lay (B0.V.ς 0) p (bC g++(45::32::x::y::rest))):Step U w B0 (kI b p ln k) (tIn b) (kB (p+(bC g).length+1) (ln+ik g) (k+1)):=
 Hg T0 hl cg (cs:=[32,x]) (j:=1) (kIs b) (eIn b) hg (.head _) rfl h (oJ 1 _) (oJ 1 _) h1 λ_=>by cases b<;>kernel_rfl
theorem aiC {b:Bool} (x:Nat) (hx:x∈nl3) (h:Lay (B0.V.ς 0) p (bC g++(46::46::46::x::y::rest))):Step U w B0 (kI b p ln k) (tIn b) (kE (p+(bC g).length+3) (ln+ik g) 3 (k+1) [BEN,DEN] false 1418 1 [1361]):=
 Hg T0 hl cg (cs:=[46,46,x]) (j:=1) (kIs b) (eIn b) hg (.tail _ (.head _)) rfl h (oJ 1 _) (oJ 1 _) h1 (by clear h;revert x;cases b<;>exact pQ KK)
theorem aix (x:Nat) (hx:x∈nl3) (h:Lay (B0.V.ς 0) p (bC g++(46::46::46::x::y::rest))):Step U w B0 (kA p ln k) gg (kX (p+(bC g).length+3) (ln+ik g) (k+1)):=
 Hg T0 hl cg (cs:=[46,46,x]) (j:=1) 1418 (tok2 609) hg (.tail _ (.head _)) rfl h (oJ 1 _) (oJ 1 _) h1 (by clear h;revert x;exact pQ KK)
theorem adf (x:Nat) (hx:x∈nl3) (h:Lay (B0.V.ς 0) p (bC g++(46::46::46::x::y::rest))):Step U w B0 (kO p ln k) (eI true) (kE (p+(bC g).length+3) (ln+ik g) 3 (k+1) [] false 1354 0 []):=
 Hg T0 hl cg (cs:=[46,46,x]) (j:=1) 1361 (IT true) hg (.tail _ (.head _)) rfl h (oJ 1 _) (oJ 1 _) h1 (by clear h;revert x;exact pQ KK)
theorem aiI (h:Lay (B0.V.ς 0) p (bC g++(45::45::45::32::y::z::rest))):Step U w B0 (kO p ln k) (eI false) (kE (p+(bC g).length+3) (ln+ik g) 3 k [DST] false 1354 0 []):=
 Hg T0 hl cg (cs:=[45,45,32]) (j:=2) 1361 (IT false) hg (.head _) rfl h (oJ 2 _) (oJ 1 _) h1 λ_=>KK
theorem aiD {b:Bool} (h:Lay (B0.V.ς 0) p (bC g++[0])):Step U w B0 (kI b p ln k) (tIn b) (kE (p+(bC g).length) (ln+ik g) 0 (k+1) [BEN,Zj] true 1418 1 [1361]):=YG T0 hl cg (kIs b) (eIn b) hg h h1 λ_=>by cases b<;>kernel_rfl
theorem aiy (h:Lay (B0.V.ς 0) p (bC g++[0])):Step U w B0 (kA p ln k) gg (kZ (p+(bC g).length) (ln+ik g) 0 (k+1)):=YG T0 hl cg 1418 (tok2 609) hg h h1 λ_=>KK
theorem aiH (h:Lay (B0.V.ς 0) p (bC g++[0])):Step U w B0 (kO p ln k) (eI false) (kE (p+(bC g).length) (ln+ik g) 0 k [Zj] true 1354 0 []):=YG T0 hl cg 1361 (IT false) hg h h1 λ_=>KK
end
inductive eQ (U:Program) (w:World) (B0:Base):bU->List DV->bU->Prop
 |nil {a:bU}:eQ U w B0 a [] a
 |cons {a a' ZT:bU} {t:DV} {l:List DV}:Step U w B0 a t a'->eQ U w B0 a' l ZT->eQ U w B0 a (t::l) ZT
def eQ.app {U:Program} {w:World} {B0:Base} {a a' ZT:bU} {l l':List DV} (h:eQ U w B0 a l a') (k:eQ U w B0 a' l' ZT):eQ U w B0 a (l++l') ZT:=by
 induction h with
 |nil=>exact k
 |cons s _ ih=>exact .cons s (ih k)
def eQ.one {U:Program} {w:World} {B0:Base} {a a':bU} {t:DV} (h:Step U w B0 a t a'):eQ U w B0 a [t] a':=.cons h .nil
def ZL (S:List Nat) (a:bU) (q ln:Nat):Prop:=(∃k,a=kB q ln k)\/(∃k,a=kC q ln k)\/∃k p l0 g R,a=kA p l0 k/\q=p+(bC g).length+1/\ln=l0+ik g/\(∀nl,g=some nl->nl∈iJ)/\1<=p/\Lay S p (bC g++45::R)
inductive Turn:List Nat->Nat->List DV->Prop
 |a {P:Pv} (hP:P∈Ps) {B:fY} {ch:dO} (O:B.Ok ch 1) (he:B.e=0):Turn ((32::P.txt)++B.core) B.c0 [tS P (B.cm ch).flatten B.st]
 |b {P:Pv} (hP:P∈Ps) {B:fY} {ch:dO} (O:B.Ok ch 3) (he:B.e=0):Turn ([32,107,58]++((32::P.txt)++B.core)) B.c0 [sW,Zz,tS P (B.cm ch).flatten B.st,kH]
 |c {P:Pv} (hP:P∈Ps) {B:fY} {ch:dO} (O:B.Ok ch 3) (he:B.e=0):Turn ([32,45]++((32::P.txt)++B.core)) B.c0 [sY,tS P (B.cm ch).flatten B.st,gg]
 |d {P:Pv} (hP:P∈Ps) {B B2:fY} {ch ch2:dO} (O:B.Ok ch 3) (he:B.e=2) (hc:B.c0=58) (O2:B2.Ok ch2 3) (he2:B2.e=0):Turn ([32,63]++((32::P.txt)++(B.core++([58,32]++B2.core)))) B2.c0 [sW,tS P (B.cm ch).flatten B.st,tS P0 (B2.cm ch2).flatten B2.st,kH]
structure Tn where
 txt:List Nat
 c0:Nat
 told:List DV
 g:Option (List Nat)
def Tn.Ok (t:Tn):Prop:=Turn t.txt t.c0 t.told/\∀nl,t.g=some nl->nl∈iJ
def S0 (a:bU) (p ln:Nat) (pend:List DV):Prop:=(∃k,a=kA p ln k/\pend=[])\/∃k b,a=kI b p ln k/\pend=[tIn b]
def lP (q:Nat) (l:List Nat) (B:fY):q+l.length+B.len=q+(l++B.core).length:=by rw[da,B.rA,xc]
def MI (q:Nat) (l:List Nat) (B B2:fY):q+2+(l++B.core).length+2+B2.len=q+([32,63]++(l++(B.core++([58,32]++B2.core)))).length:=by simp[B2.rA];omega
def wj (P:Pv) (B:fY) (r:List Nat):∃y l,P.txt++(B.core++r)=y::l:=by
 cases P.txt with
 |nil=>exact⟨B.st,_,rfl⟩
 |cons y l=>exact⟨y,_,rfl⟩
section
variable {U:Program} {w:World} {B0:Base} (T0:cQ (KF (HH w)) B0) (hl:bz B0) (cg:B0.V.β 17=0) {a:bU} {q ln:Nat} {rest:List Nat} (h1:1<=q)
include T0 hl cg h1
theorem first (hB:ZL (B0.V.ς 0) a q ln) {cs:List Nat} {y d:Nat} {ev t:DV} {c':Int} {r':DV->Rs} (h:Lay (B0.V.ς 0) q (cs++y::rest)) (cb:∀p ln k,HJ (HH w) (nu p ln 0 0 0 0 k) [So 1 cs 1] [] 1418 1 (rr [SW] 0 [-1] true false (.bj 1418) [1361] 1 TG) ev t (kB p ln k) (LS (p+d) ln c' (k+1) r'))
 (cc:∀p ln k,HJ (HH w) (nu p ln 0 0 0 0 k) [So 1 cs 1] [] 1411 1 (rr [ZK,SW] 0 [-1] true false (.bj 1411) [1361] 0 TG) ev t (kC p ln k) (LS (p+d) ln c' (k+2) r')) (ca:∀p ln p5 l6 k,HJ (HH w) (nu p ln 0 0 p5 l6 k) [So 5 (45::cs) 1] [jg] 1418 0 (rr [] 0 [-1] true false (.bj 1418) [1361] 1 TG) ev t (kA p ln k) (LS (p5+1+d) l6 c' (k+1) r'))
 (e2:∀k,r' k=(r' k).to .none (r' k).state:=by exactλ_=>rfl):∃k',Step U w B0 a t (LS (q+d) ln c' k' r'):=by
 refine hB.elim (λx=>fk x λk e=>⟨k+1,e▸QH T0 hl cg 1418 ev h (oJ 1 _) h1 (cb q ln k) (λ_=>rfl) e2⟩) λx=>x.elim (λx=>fk x λk e=>⟨k+2,e▸QH T0 hl cg 1411 ev h (oJ 1 _) h1 (cc q ln k) (λ_=>rfl) e2⟩) λx=>gq x λk p l0 x=>cV x λg R x=>a6 x λe eq el hg hp hL=>⟨k+1,?_⟩
 subst e eq el
 have eR:R=cs++y::rest:=(Lay.app (a:=[45]) hL.app).2.symm.trans h.2
 exact Hg T0 hl cg (rest:=y::rest) 1418 ev hg (.head _) rfl (eR▸hL) (oJ 1 _) (oJ 1 _) hp (ca p l0 _ _ k) (λ_=>rfl) e2
theorem Og (P:Pv) (hP:P∈Ps) {B:fY} {ch:dO} (O:B.Ok ch 1) (he:B.e=0) (h:Lay (B0.V.ς 0) q ((32::P.txt)++(B.core++B.c0::rest))) (k:Nat):Step U w B0 (kB q ln k) (tS P (B.cm ch).flatten B.st) (kA (q+(32::P.txt).length+B.len) (ln+B.lines) (k+(P.toks.length+2))):=C0 T0 hl cg 1418 P O US he h h1 (by clear h;intro _ _ _;revert P;exact qZ KK)
theorem Oh (P:Pv) (hP:P∈Ps) {B:fY} {ch:dO} (O:B.Ok ch 1) (he:B.e=0) (h:Lay (B0.V.ς 0) q ((32::P.txt)++(B.core++B.c0::rest))) (k:Nat):Step U w B0 (kC q ln k) (tS P (B.cm ch).flatten B.st) (kA (q+(32::P.txt).length+B.len) (ln+B.lines) (k+(P.toks.length+3))):=C0 T0 hl cg 1411 P O US he h h1 (by clear h;intro _ _ _;revert P;exact qZ KK)
theorem Oi (hB:ZL (B0.V.ς 0) a q ln) (P:Pv) (hP:P∈Ps) {B:fY} {ch:dO} (O:B.Ok ch 1) (he:B.e=0) (h:Lay (B0.V.ς 0) q ((32::P.txt)++(B.core++B.c0::rest))):∃k,Step U w B0 a (tS P (B.cm ch).flatten B.st) (kA (q+(32::P.txt).length+B.len) (ln+B.lines) k):=by
 refine hB.elim (λx=>fk x λk e=>⟨k+(P.toks.length+2),e▸Og T0 hl cg h1 P hP O he h k⟩) λx=>x.elim (λx=>fk x λk e=>⟨k+(P.toks.length+3),e▸Oh T0 hl cg h1 P hP O he h k⟩)
  λx=>gq x λk p l0 x=>cV x λg R x=>a6 x λe eq el hg hp hL=>⟨k+(P.toks.length+2),?_⟩
 subst e eq el
 have eR:R=(32::P.txt)++(B.core++B.c0::rest):=(Lay.app (a:=[45]) hL.app).2.symm.trans h.2
 have s:=aiP (U:=U) (k':=k+(P.toks.length+2)) (r':=rr [] 0 [-1] true false (.bj 1418) [1361] 1 TG) T0 hl cg 1418 P O US he hg (eR▸hL) hp (m:=k) (ln:=l0) (c:=0) (r:=rr [] 0 [-1] true false (.bj 1418) [1361] 1 TG) (by clear h eR;intro _ _ _ _ _;revert P;exact qZ KK)
 rw[show p+(bC g).length+1+(32::P.txt).length=p+(bC g).length+(45::32::P.txt).length from Nb ..]
 exact s
theorem zw (hB:ZL (B0.V.ς 0) a q ln) {txt:List Nat} {c0:Nat} {told:List DV} (T:Turn txt c0 told) (h:Lay (B0.V.ς 0) q (txt++c0::rest)):∃a' l pend pd,eQ U w B0 a l a'/\S0 a' (q+txt.length) pd pend/\told=l++pend:=by
 cases T with
 |a hP O he=>
  rw[fc] at h
  exact fk (Oi (U:=U) T0 hl cg h1 hB _ hP O he h) λk s=>⟨_,_,[],_,.one s,by rw[<-lP];exact .inl ⟨k,rfl,rfl⟩,rfl⟩
 |@b P hP B ch O he=>
  rw[fc,fc] at h
  refine cV (wj P B (B.c0::rest)) λy l e=>fk (first (U:=U) T0 hl cg h1 hB (cs:=[32,107,58,32]) (d:=3) (y:=y) (rest:=l) (ev:=evC 621) (t:=sW) (c':=4) (r':=rr [BMS,KEY,adI,VAL] 2 [-1,0] false false (.bj 1432) [1361,1418] 1 TG) (e▸h) (λ_ _ _ _=>KK) (λ_ _ _ _=>KK) (λ_ _ _ _ _ _=>KK)) λk s=>?_
  have s2:=s_1 (U:=U) T0 hl cg (zP h1) (k:=k+3) (ln:=ln) P hP O he h.app
  rw[lP,xc q,<-da] at s2
  exact⟨_,_,[kH],_,.cons s (.cons (ade T0 hl) (.one s2)),(.inr ⟨_,true,rfl,rfl⟩),rfl⟩
 |@c P hP B ch O he=>
  rw[fc,fc] at h
  refine cV (wj P B (B.c0::rest)) λy l e=>fk (first (U:=U) T0 hl cg h1 hB (cs:=[32,45,32]) (d:=2) (y:=y) (rest:=l) (ev:=evC 597) (t:=sY) (c':=3) (r':=rr [ZK,SW] 2 [-1,0] true false (.bj 1411) [1361,1418] 1 TG) (e▸h) (λ_ _ _ _=>KK) (λ_ _ _ _=>KK) (λ_ _ _ _ _ _=>KK)) λk s=>?_
  have s2:=s_2 (U:=U) T0 hl cg (zP h1) (k:=k) (ln:=ln) P hP O he h.app
  rw[lP,xc q,<-da] at s2
  exact⟨_,_,[gg],_,.cons s (.one s2),(.inr ⟨_,false,rfl,rfl⟩),rfl⟩
 |@d P hP B B2 ch ch2 O he hc O2 he2=>
  rw[fc,fc,fc,fc] at h
  refine cV (wj P B ([58,32]++(B2.core++B2.c0::rest))) λy l e=>fk (first (U:=U) T0 hl cg h1 hB (cs:=[32,63,32]) (d:=2) (y:=y) (rest:=l) (ev:=evC 621) (t:=sW) (c':=3) (r':=rr [BMS,KEY] 2 [-1,0] true false (.bj 1432) [1361,1418] 1 TG) (e▸h) (λ_ _ _ _=>KK) (λ_ _ _ _=>KK) (λ_ _ _ _ _ _=>KK)) λk s=>?_
  have h2:=h.app
  have s2:=s_3 (U:=U) T0 hl cg (zP h1) (k:=k) (ln:=ln) (rest:=32::(B2.core++B2.c0::rest)) P hP O he (hc▸h2)
  have h3:=h2.app.app
  rw[lP] at s2
  rw[B.rA,lP] at h3
  have s3:=s_4 (U:=U) T0 hl cg (zP (zP h1)) (k:=k+(P.toks.length+3)) (ln:=ln+B.lines) O2 he2 h3
  rw[show q+[32,63].length+((32::P.txt)++B.core).length+2+B2.len=_ from MI ..] at s3
  exact⟨_,_,[kH],_,.cons s (.cons s2 (.one s3)),.inr ⟨_,true,rfl,rfl⟩,rfl⟩
end
def jN (nl:List Nat) (bL:Bool) (ts:List Tn):List Nat:=List.rec (motive:=λ_=>List Nat) (IP nl bL) (λt _ ih=>45::(t.txt++(bC t.g++ih))) ts
def wt (nl:List Nat) (bL:Bool) (ts:List Tn):Prop:=List.rec (motive:=λ_=>Prop) True (λt ts ih=>t.Ok/\(∃l,bC t.g++jN nl bL ts=t.c0::l)/\ih) ts
def jK (nl:List Nat) (bL:Bool):List Nat:=bif bL then 46::46::46::nl else[]
def jf (nl:List Nat) (bL:Bool) (ts:List Tn):List Nat:=List.rec (motive:=λ_=>List Nat) [0] (λt _ ih=>45::45::45::(t.txt++(bC t.g++(jK nl bL++ih)))) ts
def Tn.DocOk (t:Tn):Prop:=(∃P B ch,P∈Ps/\fY.Ok B ch 1/\B.e=0/\t.txt=(32::P.txt)++B.core/\t.c0=B.c0/\t.told=[tS P (B.cm ch).flatten B.st])/\∀nl,t.g=some nl->nl∈iJ
def vp (nl:List Nat) (bL:Bool) (ts:List Tn):Prop:=List.rec (motive:=λ_=>Prop) True (λt ts ih=>t.DocOk/\(∃l,bC t.g++(jK nl bL++jf nl bL ts)=t.c0::l)/\ih) ts
def Tn.mO (t:Tn) (bL:Bool):List DV:=kL true::(t.told++[eI bL])
def CA:∀nl∈iJ,∃x l,nl=x::l/\x∈nl3:=uy
def Iu {B:fY} {ch:dO} {M:Nat} (O:B.Ok ch M):∃x y l,B.core=x::y::l:=mw (uy _ O.nl) λx l e _=>by
 unfold fY.core
 rw[e]
 cases B.h.txt with
 |cons a b=>exact⟨_,_,_,rfl⟩
 |nil=>cases B.t<;>exact⟨_,_,_,rfl⟩
def Qd {B:fY} {ch:dO} {M:Nat} (O:B.Ok ch M) (l r:List Nat):∃x y l',l++(B.core++r)=x::y::l':=gq (Iu O) λx y l' e=>by
 rw[e]
 cases l with
 |nil=>exact⟨_,_,_,rfl⟩
 |cons a b=>cases b<;>exact⟨_,_,_,rfl⟩
def qR {txt:List Nat} {c0:Nat} {told:List DV} (T:Turn txt c0 told) (r:List Nat):∃x y l,txt++r=32::x::y::l:=by
 cases T with
 |a hP O he=>exact gq (Qd O _ r) λx y l e=>⟨x,y,l,by rw[fc];exact aQ (32::·) e⟩
 |b=>exact⟨_,_,_,rfl⟩
 |c=>exact⟨_,_,_,rfl⟩
 |d=>exact⟨_,_,_,rfl⟩
section
variable {U:Program} {w:World} {B0:Base} (T0:cQ (KF (HH w)) B0) (hl:bz B0) (cg:B0.V.β 17=0) {a:bU} {ln:Nat} {nl:List Nat} (hn:nl∈iJ)
include T0 hl cg
include hn in
theorem next_end {p:Nat} {pend:List DV} (hF:S0 a p ln pend) {g:Option (List Nat)} {bL:Bool} (hg:∀nl,g=some nl->nl∈iJ) (h1:1<=p) (h:Lay (B0.V.ς 0) p (bC g++IP nl bL)):∃p' pd c k,eQ U w B0 a (pend++[gg,eI bL,gK]) (kF p' pd c k true):=by
 cases bL with
 |true=>
  refine mw (CA nl hn) λx l e hx=>?_
  have hz:Lay (B0.V.ς 0) (p+(bC g).length+3) (nl++[0]):=Lay.app (a:=[46,46,46]) h.app
  have hp:1<=p+(bC g).length+3:=zP (zP h1)
  have hy:∃y l',l++[0]=y::l':=by cases l<;>exact⟨_,_,rfl⟩
  refine cV hy λy l' hy=>?_
  have h:Lay (B0.V.ς 0) p (bC g++(46::46::46::x::y::l')):=hy▸(by rw[e] at h;exact h)
  exact hF.elim (λq=>bx q λk e z=>by subst e z;exact⟨_,_,_,_,.cons (aix T0 hl cg h1 hg x hx h) (.cons (ada T0 hl) (.one (Yj T0 hl cg hp nl hn hz)))⟩)
   λq=>mw q λk b e z=>by subst e z;exact⟨_,_,_,_,.cons (aiC T0 hl cg h1 hg x hx h) (.cons (aiz T0 hl) (.cons (ada T0 hl) (.one (Yj T0 hl cg hp nl hn hz))))⟩
 |false=>
  exact hF.elim (λq=>bx q λk e z=>by subst e z;exact⟨_,_,_,_,.cons (aiy T0 hl cg h1 hg h) (.cons (adb T0 hl) (.one (Yl T0 hl)))⟩) λq=>mw q λk b e z=>by subst e z;exact⟨_,_,_,_,.cons (aiD T0 hl cg h1 hg h) (.cons (aiA T0 hl) (.cons (adb T0 hl) (.one (Yl T0 hl))))⟩
theorem K8 {p x y:Nat} {pend:List DV} (hF:S0 a p ln pend) {g:Option (List Nat)} {rest:List Nat} (hg:∀nl,g=some nl->nl∈iJ) (h1:1<=p) (h:Lay (B0.V.ς 0) p (bC g++(45::32::x::y::rest))):∃a',eQ U w B0 a pend a'/\ZL (B0.V.ς 0) a' (p+(bC g).length+1) (ln+ik g):=
 hF.elim (λq=>bx q λk e z=>by subst e z;exact⟨_,.nil,.inr (.inr ⟨k,p,ln,g,_,rfl,rfl,rfl,hg,h1,h⟩)⟩) λq=>mw q λk b e z=>by subst e z;exact⟨_,.one (aiE T0 hl cg h1 hg h),.inl ⟨_,rfl⟩⟩
include hn
theorem yT (bL:Bool) (ts:List Tn):∀(t:Tn) (a:bU) (q ln:Nat),ZL (B0.V.ς 0) a q ln->1<=q->wt nl bL (t::ts)->Lay (B0.V.ς 0) q (t.txt++(bC t.g++jN nl bL ts))->
 ∃p' pd c k,eQ U w B0 a ((((t::ts).map Tn.told).flatten)++[gg,eI bL,gK]) (kF p' pd c k true):=by
 induction ts with
 |nil=>
  exactλt a q ln hB h1 O h=>fk O.2.1 λl hc=>cV (zw (U:=U) T0 hl cg h1 hB O.1.1 (rest:=l) (by rw[<-hc];exact h)) λa' l' q=>xf q λpend pd e1 hF et=>cV (next_end (U:=U) T0 hl cg hn hF O.1.2 (zP h1) h.app) λp' UQ q=>cV q λc k e2=>⟨p',UQ,c,k,by
   show eQ U w B0 a ((t.told++[])++_) _
   rw[ti,et,fc]
   exact e1.app e2⟩
 |cons t' ts ih=>
  exactλt a q ln hB h1 O h=>fk O.2.1 λl hc=>cV (zw (U:=U) T0 hl cg h1 hB O.1.1 (rest:=l) (by rw[<-hc];exact h)) λa' l' q=>xf q λpend pd e1 hF et=>gq (qR O.2.2.1.1 (bC t'.g++jN nl bL ts)) λx y l2 e=>bx (K8 (U:=U) T0 hl cg hF O.1.2 (zP h1) (x:=x) (y:=y) (rest:=l2) (e▸h.app)) λa2 e2 hB2=>
   cV (ih t' a2 _ _ hB2 (oJ 1 _) O.2.2 (Lay.app (a:=[45]) h.app.app)) λp' UQ q=>cV q λc k e3=>⟨p',UQ,c,k,by
    show eQ U w B0 a ((t.told++((t'::ts).map Tn.told).flatten)++_) _
    rw[fc,et]
    exact(e1.app e2).app e3⟩
omit T0 hl cg hn in
theorem DL {t:Tn} (O:t.DocOk) (r:List Nat):∃x y l,t.txt++r=32::x::y::l:=gq O.1 λP B ch q=>a6 q λhP OB he et _ _=>et▸qR (.a hP OB he) r
theorem IH (bL:Bool) (ts:List Tn):∀(t:Tn) (p ln k:Nat),1<=p->vp nl bL (t::ts)->Lay (B0.V.ς 0) p (t.txt++(bC t.g++(jK nl bL++jf nl bL ts)))->
 ∃p' pd c k',eQ U w B0 (kD p ln k) ((t.told++[eI bL])++((ts.map λt=>t.mO bL).flatten++[gK])) (kF p' pd c k' true):=by
 have first:∀{ts} (t:Tn) (p ln k:Nat),1<=p->vp nl bL (t::ts)->Lay (B0.V.ς 0) p (t.txt++(bC t.g++(jK nl bL++jf nl bL ts)))->∃pd k' x,t.told=[x]/\Step U w B0 (kD p ln k) x (kO (p+t.txt.length) pd k'):=λt p ln k h1 O h=>fk O.2.1 λl hc=>gq O.1.1 λP B ch q=>a6 q λhP OB he et ec eo=>by
  rw[hc,ec,et,fc] at h
  rw[et,<-lP]
  exact⟨_,_,_,eo,s_5 T0 hl cg h1 P hP OB he h⟩
 refine mw (CA nl hn) λx l e hx=>?_
 induction ts with
 |nil=>
  refineλt p ln k h1 O h=>e32 (first t p ln k h1 O h) λpd k' x' eo s5=>?_
  have h2:=h.app
  have hp:=zP (k:=t.txt.length) h1
  rw[eo]
  cases bL with
  |false=>exact⟨_,_,_,_,.cons s5 (.cons (aiH T0 hl cg hp O.1.2 h2) (.one (Yl T0 hl)))⟩
  |true=>
   have hy:∃y l',l++[0]=y::l':=by cases l<;>exact⟨_,_,rfl⟩
   exact cV hy λy l' hy=>⟨_,_,_,_,.cons s5 (.cons (adf T0 hl cg hp O.1.2 x hx (y:=y) (rest:=l') (hy▸(by rw[e] at h2;exact h2))) (.one (Yj T0 hl cg (zP (zP hp)) nl hn (Lay.app (a:=[46,46,46]) h2.app))))⟩
 |cons t' ts ih=>
  refineλt p ln k h1 O h=>e32 (first t p ln k h1 O h) λpd k' x' eo s5=>gq (DL O.2.2.1 (bC t'.g++(jK nl bL++jf nl bL ts))) λy z l2 e2=>?_
  have h2:=h.app
  have hp:=zP (k:=t.txt.length) h1
  have hq:1<=p+t.txt.length+(bC t.g).length+3:=SS (by decide)
  have app:∀{A F:List DV},[x']++[eI bL]++((kL true::(A++[eI bL])++F)++[gK])=x'::eI bL::kL true::((A++[eI bL])++(F++[gK])):=by
   intro A F
   rw[fc (kL true::_)];rfl
  rw[eo,show((t'::ts).map λt=>t.mO bL).flatten=kL true::(t'.told++[eI bL])++(ts.map λt=>t.mO bL).flatten from rfl,app]
  cases bL with
  |false=>
   have h3:Lay (B0.V.ς 0) (p+t.txt.length) (bC t.g++(45::45::45::(t'.txt++(bC t'.g++(jK nl false++jf nl false ts))))):=h2
   exact cV (ih t' _ (pd+ik t.g) (k'+1) hq O.2.2 (Lay.app (a:=[45,45,45]) h3.app)) λp' l' q=>cV q λc k'' e4=>⟨p',l',c,k'',.cons s5 (.cons (aiI T0 hl cg hp O.1.2 (e2▸h3)) (.cons (aiG T0 hl) e4))⟩
  |true=>
   have h3:Lay (B0.V.ς 0) (p+t.txt.length) (bC t.g++(46::46::46::(nl++(45::45::45::(t'.txt++(bC t'.g++(jK nl true++jf nl true ts))))))):=h2
   have h4:=Lay.app (a:=[46,46,46]) h3.app
   have hy:∃y l',l++(45::45::45::(t'.txt++(bC t'.g++(jK nl true++jf nl true ts))))=y::l':=by cases l<;>exact⟨_,_,rfl⟩
   exact cV hy λy' l3 hy=>cV (ih t' _ (pd+ik t.g+1) (k'+1+1) (SS (by decide)) O.2.2 (Lay.app (a:=[45,45,45]) h4.app)) λp' l' q=>cV q λc k'' e4=>⟨p',l',c,k'',.cons s5 (.cons (adf T0 hl cg hp O.1.2 x hx (y:=y') (rest:=l3) (hy▸(by rw[e] at h3 ⊢;exact h3)))
    (.cons (aiF T0 hl cg hq nl hn (y:=y) (z:=z) (rest:=l2) (by rw[e2] at h4;rw[fc];exact h4)) e4))⟩
omit T0 hl cg hn in
theorem two_of (l:List Nat) (a b:Nat) (r:List Nat):∃y z r',l++a::b::r=y::z::r':=by
 cases l with
 |nil=>exact⟨_,_,_,rfl⟩
 |cons _ l=>cases l<;>exact⟨_,_,_,rfl⟩
theorem ZW (bL:Bool) {t:Tn} {ts:List Tn} (O:wt nl bL (t::ts)) (h:B0.V.ς 0=jN nl bL (t::ts)):
 ∃p' pd c k,eQ U w B0 (k0 (.md [])) ([tQ,kL false,sY]++(((t::ts).map Tn.told).flatten++[gg,eI bL,gK])) (kF p' pd c k true):=gq (qR O.1.1 (bC t.g++jN nl bL ts)) λx y l e=>by
 have h0:Lay (B0.V.ς 0) 0 (45::(t.txt++(bC t.g++jN nl bL ts))):=⟨ju _,h⟩
 exact cV (yT (U:=U) T0 hl cg hn bL ts t (kC 1 0 1) 1 0 (.inr (.inl ⟨1,rfl⟩)) (fy 1) O (zQ 1▸Lay.app (a:=[45]) h0)) λp' pd q=>cV q λc k e1=>⟨p',pd,c,k,.cons (Yh T0 hl) (.cons (aiB T0 hl cg (e▸h0)) (.cons (aiJ T0 hl) e1))⟩
theorem ZX (bL:Bool) {t:Tn} {ts:List Tn} (O:wt nl bL (t::ts)) (h:B0.V.ς 0=45::45::45::(nl++jN nl bL (t::ts))):
 ∃p' pd c k,eQ U w B0 (k0 (.md [])) ([tQ,kL true,sY]++(((t::ts).map Tn.told).flatten++[gg,eI bL,gK])) (kF p' pd c k true):=gq (qR O.1.1 (bC t.g++jN nl bL ts)) λx y l e=>mw (CA nl hn) λz l1 en hz=>gq (two_of l1 45 32 (x::y::l)) λu v l2 e2=>by
 have h0:Lay (B0.V.ς 0) 0 (45::45::45::(nl++(45::(t.txt++(bC t.g++jN nl bL ts))))):=⟨ju _,h⟩
 have h3:Lay (B0.V.ς 0) 3 (nl++(45::(t.txt++(bC t.g++jN nl bL ts)))):=zQ 3▸Lay.app (a:=[45,45,45]) h0
 have hd:Lay (B0.V.ς 0) 0 (45::45::45::z::u::v::l2):=by rw[e,en] at h0;exact e2▸h0
 exact cV (yT (U:=U) T0 hl cg hn bL ts t (kC (3+(nl.length+1)) 1 2) _ 1 (.inr (.inl ⟨2,rfl⟩)) (SS (oJ 1 _)) O (Lay.app (a:=[45]) h3.app)) λp' pd q=>cV q λc k e1=>⟨p',pd,c,k,.cons (Yh T0 hl) (.cons (ac8 T0 hl cg z (.tail _ hz) hd) (.cons (aiK T0 hl cg (by decide) nl hn (x:=x) (y:=y) (rest:=l) (by rw[e] at h3;rw[fc];exact h3)) e1))⟩
theorem ZY (bL:Bool) {t:Tn} {ts:List Tn} (O:vp nl bL (t::ts)) (h:B0.V.ς 0=jf nl bL (t::ts)):
 ∃p' pd c k,eQ U w B0 (k0 (.md [])) ([tQ]++(((t::ts).map λt=>t.mO bL).flatten++[gK])) (kF p' pd c k true):=gq (DL O.1 (bC t.g++(jK nl bL++jf nl bL ts))) λy z l2 e=>by
 have h0:Lay (B0.V.ς 0) 0 (45::45::45::(t.txt++(bC t.g++(jK nl bL++jf nl bL ts)))):=⟨ju _,h⟩
 refine cV (IH (U:=U) T0 hl cg hn bL ts t 3 0 2 (by decide) O (zQ 3▸Lay.app (a:=[45,45,45]) h0)) λp' pd q=>cV q λc k e1=>⟨p',pd,c,k,?_⟩
 rw[show[tQ]++(((t::ts).map λt=>t.mO bL).flatten++[gK])=tQ::kL true::((t.told++[eI bL])++((ts.map λt=>t.mO bL).flatten++[gK])) from aQ (tQ::kL true::·) (fc ..)]
 exact .cons (Yh T0 hl) (.cons (ac8 T0 hl cg 32 (.head _) (e▸h0)) e1)
end
structure HR (U:Program) (Y:Base) (K:Frag) (C:Nat) (sc:Scope) (env:Env) (name:Str) (f2:Nat):Prop where
 hks:sc.names.lookup ("super":Str)=some .globalImplicit
 hkc:sc.names.lookup ("__class__":Str)=some .free
 hka:sc.names.lookup ag=some .local
 fn:∃f of fd ar,env.func=some f/\Y.hp.get? f=some of/\of.data=.func fd/\(fd.params.posonlyargs++fd.params.args).head?=some ar/\ar.arg=ag
 code:∃cda oc vs file tf,env.code=.ref cda/\Y.hp.get? cda=some oc/\oc.data=.fields vs/\vs[2]?=some (.str file tf)/\((U.main.file:Str)==file)=true
 ahd:(U.main.scope.names.lookup ("super":Str)).isSome=false
 cell:∃cc oc D cdD,env.cells.lookup ("__class__":Str)=some cc/\Y.hp.get? cc=some oc/\oc.data=.cell (some (.ref D))/\clsIn K D=some cdD/\mroIn K C (.ref D)=some true/\ks_superIn K C D name=some (some (.ref f2))
 Ui:nsIn K mainGlobals "super"=some none
 aaS:bootBuiltins "super"=some (.type "super")
 hno:nsIn K cStatics "thirdparty.any"=some none
 ht:typeIn K (.ref f2)=some (.type "function")
 hn:(name==("__class__":Str))=false
 hfn:fnIn K f2=true
def Ik {K:Frag} {D:Nat} {cd:ClassData} (h:clsIn K D=some cd) {hh:Heap} (X:K.In hh):∃o,hh.get? D=some o/\o.data=.cls cd:=by
 unfold clsIn at h
 split at h
 ·rename_i ho
  cases h
  exact⟨_,X _ _ ho,rfl⟩
 ·cases h
def aaC {K:Frag} {f:Nat} (h:typeIn K (.ref f)=some (.type "function")) {hh:Heap} (X:K.In hh):∃o,hh.get? f=some o/\o.cls=.type "function":=
 bx (xn.mp (show(K.lookup f).map (·.cls)=some (.type "function") from h)) λo e q=>⟨o,X _ _ e,q⟩
section
variable {U:Program} {w:World} {C:Nat} {K:Frag} {Y:Base} {sc:Scope} {d:Nat} {Z:aj}
def qt {A:Around} {c:Code} {s:Shared} {env:Env} {o:Expr} {x:Str} {apos pos:Pos} {args:List Expr} {dh:List Keyword} {Q:Value->Shared->Prop} (hf:dW args dh apos pos=true)
    (h:_root_.PySem.wpAt (model U w) A c (attributeBase o x env (eval o env)) (λov ax=>∀pl,WP U w A (getMethod ov x pl) ax λfx ay=>WP U w A (callWith pos fx.1 fx.2 (backTo pos (starEach args env)) (backToKw pos (keywordEach dh env))) ay Q) (λ_ _=>False) s):
    _root_.PySem.wpAt (model U w) A c (eval (.Call (.Attribute o x apos) args dh pos) env) Q (λ_ _=>False) s:=by
 show _root_.PySem.wpAt (model U w) A c (attributeBase o x env (eval o env) >>= λov=>standAt apos.atName >>= λ_=>methodCall o x apos pos env ov (args.length+dh.length) (backTo pos (starEach args env)) (backToKw pos (keywordEach dh env))) Q _ s
 refine _root_.PySem.wpAt_bind (_root_.PySem.wpAt_mono h (λov ax cf=>_root_.PySem.wpAt_of_wpAny (eO (Rt ?_))) λ_ _ x=>x)
 unfold methodCall
 rw[xY hf]
 refine eO (Nc (WP.mono (cf _) λfx ay cP=>?_))
 unfold methodCallPos
 rw[(aw (aw (aw hf).2).2).2]
 exact eO (k5 cP)
def C2 {A:Around} {G:Gh} {L:Addr} {s:Shared} {env:Env} {body:List Stmt} {p0 p1 apos pos:Pos} {name:Str} {e:Expr} {v r:DV} {f2:Nat} {as:List (Str×ae)} {aX:bU} (T:cQ K Y) (S:HR U Y K C sc env name f2) (eo:cN sc L env) (ro:dI A d)
    (R:Rep w.params C Y G L Z s) (hs:Z.aq=some as) (Jt:look Z.loc ag=some (.pv .self)) (ha:dJ U w C Y sc d [e] Z [v] Z) (hc:af U w C Y d (.ref f2) [.self,v] [] Z.aq r aX)
    (Uc:dW [e] [] apos pos=true) {Q:Value->Shared->Prop} (kk:∀G' u s',Rep w.params C Y G' L ⟨aX,Z.loc⟩ s'->Later G.OA G s G' s'->Q u s'):
    _root_.PySem.wpAt (model U w) A (.func body env) (eval (.Call (.Attribute (.Call (.Name "super" p0) [] [] p1) name apos) [e] [] pos) env) Q (λ_ _=>False) s:=by
 have kp:∀b o,Y.hp.get? b=some o->s.heap.get? b=some o:=λb o q=>R.pins b o (R.dU b o q)
 have X:K.In s.heap:=fm T R
 have sc0:∀{x k},sc.names.lookup x=some k->env.kindOf x=some k:=λh=>by unfold Env.kindOf;rw[eo.scope];exact h
 have kd:=eo.scope▸eo.kind
 refine gq S.fn λf of fd q=>fk q λar q=>a5 q λe1 e2 e3 e4 e5=>gq S.code λcda oc vs q=>cV q λfile tk q=>a5 q λc1 c2 c3 c4 c5=>gq S.cell λcc ocl D q=>fk q λcdD q=>a6 q λd1 d2 d3 d4 d5 d6=>fk T.glob λmg hg=>bx T.blt λmb ag2 ag3=>
  bx R.locs λm hm hsl=>bx (hsl.hit ag _ Jt) λu hu du=>bx (Ik d4 X) λoD hD1 hD2=>?_
 revert hu
 have du:DR w.params G .self u:=du
 refine gs du (oP R hs) λp dd eS n AO I hu=>?_
 refine qt Uc (ks_wpAt_super_base (env:=env) (sc0 S.hks) (sc0 S.hkc) S.hn e1 (kp _ _ e2) e3 e4 c1 (kp _ _ c2) c3 c4 c5 S.ahd ?_)
 refine ks_loadName_global kd (sc0 S.hks) (loadGlobal_builtin (mg:=mg) (mb:=mb) (v:=.type "super") (by rw[eo.globals];exact hg.keeps kp) (mg_none_of T.Jz hg S.Ui) (by rw[eo.builtins];exact ag2.keeps kp) (by rw[ag3 _ (by decide+kernel)];exact S.aaS) ⟨rfl,?_⟩)
 refine wpAny_loadName_free kd (sc0 S.hkc) d1 ⟨_,kp _ _ d2,d3⟩ (wpAny_loadName_local (m:=m) (v:=.ref p) kd (by rw[e5];exact sc0 S.hka) (by rw[eo.locals];exact hm) (by rw[e5];exact hu) (ks_wpAny_isType_cls hD1 hD2 ⟨rfl,?_⟩))
 refine ks_wpAny_call_super hD1 hD2 I.at_ I.cls (λc e=>?_) (looks_mroIn X d5) (λh' eh k=>?_)
 ·have:=I.no
  unfold notCls at this
  rw[e] at this
  exact ft this
 ·intro pl
  have X':K.In h':=X.keeps k
  have hz:s.heap.objs.size<=h'.objs.size:=Rp (u0 eh)
  have R1:Rep w.params C Y G L Z {s with heap:=h'}:=R.ext k hz
  cases RJ:clsIn K C with
  |none=>unfold ks_superIn at d6;rw[RJ] at d6;cases d6
  |some cd=>
   unfold ks_superIn at d6
   rw[RJ] at d6
   exact bx (aaC S.ht X') λo2 ho2 ag4=>ks_wpAny_getMethod_super eh (looks_opaque X' S.hno) (λA Q E s k q=>eO ((looks_clsIn X' RJ) A _ E s k (k5 q))) rfl X' d6 ho2 ag4 (ks_ne X I RJ) S.hn
    (a3 (R1.wk (methodObj (.ref f2) (.ref p)) rfl (t:=s.toks+1)) λR2 l2 g2=>have l2:=(Later.keep (O:=G.OA) k hz rfl rfl:Later G.OA G s G {s with heap:=h'}).aO l2
      xN (G:=pinned G h'.objs.size (methodObj (.ref f2) (.ref p))) (λaD cB aE sb=>keeps_M S.hfn _ ⟨aE.pins _ _ (sb.g _ _ g2),fm T aE⟩) ha .nil ro eo R2 λaD cB us kw aE aJ cA lB=>lB.jr (wpAny_call (method_call (aE.pins _ _ (aJ.sub.g _ _ g2))
       (hc A aD cB _ _ ro aE.tocu (.cons ((DR.self AO.par).mono (l2.sub.trans aJ.sub)) cA) .nil _ λiL v pK cF cL e _=>kk iL v pK (aE.ofA (loc:=Z.loc) cF cL e) ((l2.aO aJ).aO cL)))))
end
def FJ {U:Program} {w:World} {Y:Base} {B:tq} (O:TabsOk U w Y B) {n C f:Nat} {args:List DV} {kw:List (Str×DV)} {aq S9 aX:bU} {I:Zi} {row:k6} {bl:List (Str×DV)} {fl:au} {iw:List (Str×ae)} {v:DV} {p0 p1 apos pos X7:Pos} {name:Str} {e:Expr} {rest:List Stmt} {v1:DV} {f2:Nat} {as:List (Str×ae)} (h1:B.fns f=true) (h2:qi B.K f=some I) (h3:cR B.rows f args kw=some row) (h4:getAll args kw row.out=some bl)
    (aaR:I.body=.Expr (.Call (.Attribute (.Call (.Name "super" p0) [] [] p1) name apos) [e] [] pos) X7::rest)
    (S:∀fd L,fdOf B.K f=some fd->HR U Y B.K C I.sc (callEnv fd L f) name f2) (Uc:dW [e] [] apos pos=true) (aaV:cZ (.Call (.Attribute (.Call (.Name "super" p0) [] [] p1) name apos) [e] [] pos)=true) (hs:aq=some as) (Jt:look (bl.map λp=>(p.1,ae.pv p.2)) ag=some (.pv .self)) (ha:dJ U w C Y I.sc n [e] ⟨aq,bl.map λp=>(p.1,.pv p.2)⟩ [v1] ⟨aq,bl.map λp=>(p.1,.pv p.2)⟩)
    (hc:af U w C Y n (.ref f2) [.self,v1] [] aq .none S9) (run:aF U w C Y I.sc n rest ⟨S9,bl.map λp=>(p.1,.pv p.2)⟩ fl ⟨aX,iw⟩) (h6:uf fl=some v):af U w C Y (n+1) (.ref f) args kw aq v aX:=
 ua (callee O h1 h2 h3 h4) λfd e1 e c=>by
  rw[aaR] at c
  rw[<-e] at S ha run
  exact(x6 fl).get h6▸uK O.T c λA G L s ro eo R Q k=>ks_wpAt_execs_cons (ks_wpAt_Expr_any (C2 O.T (S fd L e1) eo ro R hs Jt ha hc Uc λaz u ax aB aH=>_root_.PySem.wpAt_of_wpAny (run _ az _ ax _ ro eo aB _ λaD r ay aE aJ cA=>k aD r ay aE (aH.up.trans' aJ) cA)) (by unfold interactive;rw[eo.scope,eo.kind];rfl) (dq aaV))
def gE:Expr->Option (Expr×Operator×Expr):=iQ Expr.ctorIdx 2 λe h=>@Expr.BinOp.elim (λ_=>Expr×Operator×Expr) e h λa o b _=>(a,o,b)
def lM:∀e:Expr,On (λq=>.BinOp q.1 q.2.1 q.2.2 e.pos=e) (gE e):=eK (P:=λe (q:Expr×Operator×Expr)=>.BinOp q.1 q.2.1 q.2.2 e.pos=e) λe h=>@Expr.BinOp.elim (λe=>∀h,(λq:Expr×Operator×Expr=>Expr.BinOp q.1 q.2.1 q.2.2 e.pos) (@Expr.BinOp.elim (λ_=>Expr×Operator×Expr) e h λa o b _=>(a,o,b))=e) e h (λ_ _ _ _ _=>rfl) h
def Al:Stmt->Option (Expr×Expr×List Stmt×List Stmt):=iQ Stmt.ctorIdx 9 λe h=>@Stmt.For.elim (λ_=>Expr×Expr×List Stmt×List Stmt) e h λt i b o _=>(t,i,b,o)
def DY:∀st:Stmt,On (λq=>∃p,.For q.1 q.2.1 q.2.2.1 q.2.2.2 p=st) (Al st):=eK (P:=λe (q:Expr×Expr×List Stmt×List Stmt)=>∃p,Stmt.For q.1 q.2.1 q.2.2.1 q.2.2.2 p=e) λe h=>@Stmt.For.elim (λe=>∀h,(λq:Expr×Expr×List Stmt×List Stmt=>∃p,Stmt.For q.1 q.2.1 q.2.2.1 q.2.2.2 p=e) (@Stmt.For.elim (λ_=>Expr×Expr×List Stmt×List Stmt) e h λt i b o _=>(t,i,b,o))) e h (λ_ _ _ _ p _=>⟨p,rfl⟩) h
def pT (st:Stmt):Option (List Expr×Str×Expr×List Stmt):=(Al st).bind λq=>bif q.2.2.2.isEmpty then(mF q.1).bind λes=>(gS q.2.1).bind λc=>bif c.2.2.1.isEmpty then(dY c.1).bind λx=>(dM c.2.1).bind λe=>some (es,x,e,q.2.2.1) else none else none
@[elab_as_elim] def vq {P:Stmt->Prop} {st:Stmt} {q:List Expr×Str×Expr×List Stmt} (h:pT st=some q) (k:∀kt p pn pos' pos,P (.For (.Tuple q.1 kt p) (.Call (.Name q.2.1 pn) [q.2.2.1] [] pos') q.2.2.2 [] pos)):P st:=
  (((DY st).b λz e=>ak λh0=>(qQ z.1).b λes e1=>(ic z.2.1).b λc e2=>ak λh1=>(dp c.1).b λx e3=>(bp c.2.1).b λa e4=>show(∀kt p pn pos' pos,P (.For (.Tuple es kt p) (.Call (.Name x pn) [a] [] pos') z.2.2.1 [] pos))->P st from
    λk=>fk e λp e=>cV e1 λkt pt e1=>by rw[<-e,<-e1,<-e2,<-e3,<-e4,<-bT h0,<-bT h1];exact k ..:On (λq:List Expr×Str×Expr×List Stmt=>(∀kt p pn pos' pos,P (.For (.Tuple q.1 kt p) (.Call (.Name q.2.1 pn) [q.2.2.1] [] pos') q.2.2.2 [] pos))->P st) (pT st))).get h k
section
variable {U:Program} {w:World} {C:Nat} {K:Frag} {Y:Base} {sc:Scope} {d:Nat} {Z aa ah:aj}
def lE {e:Expr} {q:Expr×Operator×Expr} {x y z:DV} (h:gE e=some q) (h1:aC U w C Y sc d q.1 Z x aa) (h2:aC U w C Y sc d q.2.2 aa y ah) (hb:qf U w q.2.1 x y z):aC U w C Y sc d e Z z ah:=(lM e).get h▸me h1 h2 hb
def Pb {x y:Str} {p q pos:Pos} {e:Expr} {l:List Nat} (T:cQ K Y) (hb1:bB K sc x (.builtin "isinstance")=true) (hb2:bB K sc y (.type "str")=true) (n1:noStar e=true) (h1:aC U w C Y sc d e Z (.str l) Z):
    aC U w C Y sc d (.Call (.Name x p) [e,.Name y q] [] pos) Z (.bool true) Z:=λA G L s env ro eo R Q k=>
 wpAny_Call_Name_kw (lO (U:=U) (A:=A) T eo R hb1 (callWith_builtin (lG [e,.Name y q] (SR.mpr ⟨n1,rfl⟩)).1 (by
  rw[gw n1]
  exact Calls.evalArgs_plain (Calls.spliced_cons (h1 A G L s env ro eo R _ λaz u ax aB aH aV=>by
   rw[gw (show noStar (.Name y q)=true from rfl)]
   exact Calls.spliced_cons (lO (U:=U) (A:=A) T eo aB hb2 (Calls.spliced_nil (aV.gi λt _=>kia_one (kitx_str (K:=K)) (fm T aB) trivial (by unfold kitOne;rw[d8 (by simp)]) (λe=>nomatch e) λtk=>k az _ _ aB.toks aH.tk rfl))))))))
def cu.tell {P:Params} {G:Gh} {s:Shared} {as:List (Str×ae)} {x:Str} {a b:DV} (R:cu P C Y G (some as) s) (hx:look as x=some (.pv a)) (h:∀v,DR P G a v->DR P G b v):cu P C Y G (some (put as x (.pv b))) s:=
 ⟨R.pins,R.dU,R.val,R.fM,R.fG,R.apart,cV R.attr λp dd q=>cV q λes n A=>bx (A.sl.hit x _ hx) λv hv ok=>⟨p,dd,es,n,A.par,A.inst,A.own,A.dict,((ou as x _).2 _ hx).symm▸A.len,A.str,A.sl.G0 x (.pv b) v hv (λ_ _=>rfl) (h v ok) (λ_ _ _ _ _ _ h=>h) λq=>ft q⟩⟩
def af.tell {f:Value} {args:List DV} {kw:List (Str×DV)} {aq:bU} {as vd:List (Str×ae)} {r a b:DV} {x:Str} (hd:∀G:Gh,G.V=Y.V->∀v,DR w.params G a v->DR w.params G b v) (hx:aT as x=some (.pv a)) (e:bS as x (.pv b)=vd) (h:af U w C Y d f args kw aq r (some as)):af U w C Y d f args kw aq r (some vd):=λA G s vs ks ro R ha hk Q k=>
 h A G s vs ks ro R ha hk Q λaz v ax aB aH el dv=>k az v ax (e▸bk as x (.pv b)▸aB.tell ((aG ..).symm.trans hx) (hd az aB.val)) aH el dv
def af.order {f:Value} {args:List DV} {kw:List (Str×DV)} {aq:bU} {as vd:List (Str×ae)} {r:DV} (hz:as.length=vd.length) (hk:(as.map (·.1)).map (aT as)=(as.map (·.1)).map (aT vd)) (hk':(vd.map (·.1)).all (λk=>J5 k (as.map (·.1)))=true)
    (h:af U w C Y d f args kw aq r (some as)):af U w C Y d f args kw aq r (some vd):=λA G s vs ks ro R ha hk0 Q k=>
 have lk:∀x,look as x=look vd x:=λx=>by
  have no:∀l:List (Str×ae),x ∉ l.map (·.1)->look l x=none:=λl h=>by
   induction l with
   |nil=>rfl
   |cons p l ih=>
    rw[xb,List.mem_cons,not_or] at h
    rw[dj,dZ λq=>h.1 q.symm,ih h.2]
  by_cases q:x∈as.map (·.1)
  ·exact(aG ..).symm.trans ((aW hk x q).trans (aG ..))
  ·rw[no as q,no vd λq'=>q (vU (gj.mp hk' x q'))]
 h A G s vs ks ro R ha hk0 Q λaz v ax aB aH el dv=>k az v ax ⟨aB.pins,aB.dU,aB.val,aB.fM,aB.fG,aB.apart,cV aB.attr λp dd q=>cV q λes n A=>⟨p,dd,es,n,A.par,A.inst,A.own,A.dict,hz▸A.len,A.str,
   λx e=>A.sl.miss x ((lk x).trans e),λx k e=>A.sl.hit x k ((lk x).trans e),λx y kx ky ex ey=>A.sl.once x y kx ky ((lk x).trans ex) ((lk y).trans ey)⟩⟩ aH el dv
end
def kU (c:Nat):Bool:=bc c [9,10,13,133]||(Nat.ble 32 c&&Nat.ble c 126)
def okL:List Nat:=[9,10,13,133]++(List.range 95).map (· +32)
def Er {c:Nat} (h:kU c=true):c∈okL:=(Bool.or_eq_true_iff.mp h).elim (λh=>List.mem_append_left _ (fJ h)) λh=>a2 (aw h) λh1 h2=>
 List.mem_append_right _ (Hw.mpr ⟨c - 32,List.mem_range.mpr (Nat.sub_lt_left_of_lt_add (eP h1) (Nat.lt_succ_of_le (eP h2))),Nat.sub_add_cancel (eP h1)⟩)
section
variable (H:Array Nat->Int) (l:List Nat) (i:Int) (c:Nat) (aq:bU)
abbrev cpS:Stmt:=ai (FI H 720).body 0
def TJ:List Expr×Str×Expr×List Stmt:=(pT (cpS H)).getD default
def IY:qi (KF H) 720=some (FI H 720):=KK
def I5:bc 720 vu=true:=KK
def af3:(FI H 720).body=[cpS H]:=KK
def af6:pT (cpS H)=some (TJ H):=KK
def af5:names (FI H 720).sc (TJ H).1=some [vX,tK]:=KK
def af4:bB (KF H) (FI H 720).sc (TJ H).2.1 (.type "enumerate")=true:=KK
abbrev cpL:List (Str×ae):=[(ag,.pv .self),(Kx,.pv (.str l))]
abbrev TH:List (Str×ae):=[(ag,.pv .self),(Kx,.pv (.str l)),(vX,.pv (.int i)),(tK,.pv (.str [c]))]
def af2:vr (fR H bY 5 720) [(TJ H).2.2.1] ⟨aq,cpL l⟩=some ([.str l],⟨aq,cpL l⟩):=KK
def N8:okL.map (λc=>cj (fR H bY 5 720) (TJ H).2.2.2 ⟨aq,TH l i c⟩)=okL.map λc=>some (.next,⟨aq,TH l i c⟩):=KK
def uE (loc:List (Str×ae)) (x y:Str) (a b:DV):putAll loc [x,y] [a,b]=bS (bS loc x (.pv a)) y (.pv b):=(put2 loc x y (ae.pv a) (.pv b)).symm
def aar:putAll (cpL l) [vX,tK] [.int i,.str [c]]=TH l i c:=(uE ..).trans KK
def aas (i':Int) (c':Nat):putAll (TH l i' c') [vX,tK] [.int i,.str [c]]=TH l i c:=(uE ..).trans KK
def TK:((cR lD 720 [.self,.str l] []).bind λrow=>getAll [.self,.str l] [] row.out)=some [(ag,.self),(Kx,.str l)]:=KK
end
section
variable {U:Program} {w:World} {Y:Base} (T0:cQ (KF (HH w)) Y) (hl:bz Y)
include T0 hl
theorem N7 (l:List Nat) (aq:bU) (cs:List Nat):∀(k:Nat) (loc:List (Str×ae)),cs.all kU=true->(∀i c,putAll loc [vX,tK] [.int i,.str [c]]=TH l i c)->∃iw,fh U w 1521 Y (FI (HH w) 720).sc 5 [vX,tK] (TJ (HH w)).2.2.2 ((cs.zipIdx k).map λp=>[.int p.2,.str [p.1]]) ⟨aq,loc⟩ .next ⟨aq,iw⟩:=by
 induction cs with
 |nil=>exactλk loc _ _=>⟨loc,.done⟩
 |cons c cs ih=>exactλk loc h As=>a2 (aw h) λh1 h2=>fk (ih (k+1) (TH l k c) h2 λi c'=>aas l i c' k c) λiw h3=>⟨iw,.turn rfl (show aF U w 1521 Y (FI (HH w) 720).sc 5 (TJ (HH w)).2.2.2 ⟨aq,putAll loc [vX,tK] [.int k,.str [c]]⟩ .next _ from fb (As k c)▸nh I5 (IY (HH w)) T0 hl (aW (N8 (HH w) l k aq) c (Er h1))) (.inl rfl) h3⟩
theorem aaq {l:List Nat} (h:l.all kU=true) (aq:bU):af U w 1521 Y 6 (.ref 720) [.self,.str l] [] aq .none aq:=
 fk (N7 (U:=U) T0 hl l aq l 0 (cpL l) h (aar l)) λiw hL=>gd (ba:=⟨aq,iw⟩) I5 (IY (HH w)) T0 hl (TK l) (.at (af3 (HH w)) (ao (vq (af6 (HH w)) λkt p pn pos' pos=>p9 T0 (af5 (HH w)) (af4 (HH w)) (lZ I5 (IY (HH w)) T0 hl (af2 (HH w) l aq)) (λ_ _=>rfl) (by
  rw[show iY (l.map λc=>DV.str [c])=(l.zipIdx 0).map λp=>[.int p.2,.str [p.1]] by unfold iY;rw[List.zipIdx_map,List.map_map];rfl]
  exact hL)) bA)) rfl
end
def zx:List Nat:=[60,117,110,105,99,111,100,101,32,115,116,114,105,110,103,62]
section
variable (H:Array Nat->Int) (T:List Nat) (nm bf z:DV) (a:bU)
abbrev tp:List (Str×ae):=[(ag,.pv .self),(nf,.pv (.str T))]
def rdZ (nm bf z:DV) (tl:List (Str×ae)):List (Str×ae):=(iy,.pv nm)::(nf,.pv .none)::(KG,.pv (.int 0))::(Kz,.pv (.bool true))::(n6,.pv bf)::(n7,.pv z)::(KA,.pv .none)::(KC,.pv .none)::(kK,.pv .none)::(iN,.pv z)::(pj,.pv z)::(mB,.pv (.int 0))::tl
def LF:List (Str×ae):=rdZ nm bf (.int 0) []
def scZ (nm bf z:DV) (tl:List (Str×ae)):List (Str×ae):=rdZ nm bf z ((KO,.pv (.bool false))::(KP,.pv (.int 0))::(KS,.ml [SH])::(GI,.pv z)::(gH,.pv (.int (-1)))::(KQ,.ml [])::(KN,.pv (.bool true))::(KR,.md [])::tl)
def scA:List (Str×ae):=scZ nm bf (.int 0) []
def paA:List (Str×ae):=scZ nm bf z [(KW,.pv .none),(KZ,.pv .none),(tL,.md []),(KY,.ml []),(KX,.ml []),(GL,.pv (.bj 1340))]
def rF:qi (KF H) 682=some (FI H 682):=KK
def rH:bc 682 vu=true:=KK
abbrev riB:List Stmt:=(FI H 682).body
abbrev CO:Stmt:=ai (riB H) 12
def Zw:Expr×List Expr×List Keyword×Pos:=(gS (wT (CO H))).getD default
def riQ:Expr×Operator×Expr:=(gE (kr (ai (wB (CO H)) 2))).getD default
def r_a:rX H 8 682 ((riB H).take 12) ⟨some [],tp T⟩ .next ⟨some (LF .none (.str [])),tp T⟩:=KK
def r_b:riB H=(riB H).take 12++[CO H]:=KK
def r_i:CO H=.If (.Call (.Name n30 (Zw H).1.pos) [(Zw H).2.1.headD default,.Name n76 ((Zw H).2.1.getD 1 default).pos] [] (Zw H).2.2.2) [ai (wB (CO H)) 0,ai (wB (CO H)) 1,ai (wB (CO H)) 2] [] (wP (CO H)):=KK
def r_n:(bB (KF H) (FI H 682).sc n30 (.builtin "isinstance")&&(bB (KF H) (FI H 682).sc n76 (.type "str")&&noStar ((Zw H).2.1.headD default)))=true:=KK
def r_e:eX H 8 682 ((Zw H).2.1.headD default) ⟨a,tp T⟩ (.str T):=KK
def r_0:rX H 8 682 [ai (wB (CO H)) 0] ⟨some (LF .none (.str [])),tp T⟩ .next ⟨some (LF (.str zx) (.str [])),tp T⟩:=KK
def r_1:cX H 8 682 (ai (wB (CO H)) 1) ⟨some (LF nm bf),tp T⟩ 720 [.self,.str T] .none (some (LF nm bf)) ⟨some (LF nm bf),tp T⟩:=KK
def r_q:gE (kr (ai (wB (CO H)) 2))=some ((riQ H).1,.Add,(riQ H).2.2):=KK
def ais:eX H 8 682 (riQ H).1 ⟨a,tp T⟩ (.str T):=KK
def ait:eX H 8 682 (riQ H).2.2 ⟨a,tp T⟩ (.str [0]):=KK
def aiu (b:DV):tM (eT H bY 8 682) (ai (wB (CO H)) 2) b ⟨some (LF nm bf),tp T⟩=some ⟨some (LF nm b),tp T⟩:=KK
def inB (f:Nat):Option (List (Str×DV)):=(cR lD f [.self,.str T] []).bind λrow=>getAll [.self,.str T] [] row.out
def acX:inB T 682=some [(ag,.self),(nf,.str T)]:=KK
abbrev suS (f:Nat):Stmt:=ai (FI H f).body 0
def Zy (f:Nat):Expr×Str×Pos×List Expr×Pos:=(nC (kr (suS H f))).getD default
def suC (f:Nat):Expr×List Expr×List Keyword×Pos:=(gS (Zy H f).1).getD default
abbrev suA (f:Nat):List Expr:=[(Zy H f).2.2.2.1.headD default]
abbrev suE (f:Nat):Expr:=.Call (.Attribute (.Call (.Name ("super":Str) (suC H f).1.pos) [] [] (suC H f).2.2.2) aM (Zy H f).2.2.1) (suA H f) [] (Zy H f).2.2.2.2
def sus:List Nat:=[783,1312]
def Mq (n:Nat):sus.map (λf=>(qi (KF H) f,(FI H f).body,dW (suA H f) [] (Zy H f).2.2.1 (Zy H f).2.2.2.2&&cZ (suE H f),(fdOf (KF H) f).map (λfd=>((fd.params.posonlyargs++fd.params.args).head?).map (·.arg)),inB T f,vr (fR H bY n f) (suA H f) ⟨some [],tp T⟩,[("super":Str),("__class__":Str),ag].map λx=>(FI H f).sc.names.lookup x))=
 sus.map λf=>(some (FI H f),.Expr (suE H f) (suS H f).pos::(FI H f).body.drop 1,true,some (some ag),some [(ag,.self),(nf,.str T)],some ([.str T],⟨some [],tp T⟩),[some .globalImplicit,some .free,some .local]):=KK
def adD (l:List Nat):rX H 12 783 ((FI H 783).body.drop 1) ⟨some (LF (.str zx) (.str l)),tp T⟩ .next ⟨some (scA (.str zx) (.str l)),tp T⟩:=KK
def adE (l:List Nat):rX H 13 1312 ((FI H 1312).body.drop 1) ⟨some (scA (.str zx) (.str l)),tp T⟩ .next ⟨some (paA (.str zx) (.str l) (.int 0)),tp T⟩:=KK
def aaB:Data->Option (Array Value):=iQ Data.ctorIdx 9 λv h=>@Data.fields.elim (λ_=>Array Value) v h id
def Om:∀d:Data,On (λv=>.fields v=d) (aaB d):=cH .fields λv h=>@Data.fields.elim (λv=>∀h,Data.fields (@Data.fields.elim (λ_=>Array Value) v h id)=v) v h (λ_ _=>rfl) h
def Hj:List (Nat×Nat×Nat×Nat×Nat×Nat):=[(783,782,1356,771,1281,682),(1312,1311,2137,1299,1521,783)]
def YH:Hj.map (λq=>((fdOf (KF H) q.1).map (λfd=>(fd.code,fd.closure.lookup ("__class__":Str))),(((KF H).lookup q.2.1).bind λo=>aaB o.data).bind (λvs=>vs[2]?),(clsIn (KF H) q.2.2.2.2.1).isSome&&fnIn (KF H) q.2.2.2.2.2,mroIn (KF H) 1521 (.ref q.2.2.2.2.1),ks_superIn (KF H) 1521 q.2.2.2.2.1 aM,typeIn (KF H) (.ref q.2.2.2.2.2)))=
 Hj.map λq=>(some (.ref q.2.1,some q.2.2.2.1),some (.str sa q.2.2.1),true,some true,some (some (.ref q.2.2.2.2.2)),some (.type "function")):=KK
def aiS:(nsIn (KF H) mainGlobals "super",bootBuiltins "super",nsIn (KF H) cStatics "thirdparty.any",(aM==("__class__":Str)))=(some none,some (.type "super"),some none,false):=KK
def adC:lY (KF H) 1521 1312=true:=KK
def aiT:aT (tp T) ag=some (.pv .self):=KK
def aiv:[(ag,DV.self),(nf,.str T)].map (λp=>(p.1,ae.pv p.2))=tp T:=KK
end
structure Ng (U:Program) (Y:Base):Prop where
 file:((U.main.file:Str)==sa)=true
 top:(U.main.scope.names.lookup ("super":Str)).isSome=false
 cells:∀q∈Hj,∃oc,Y.hp.get? q.2.2.2.1=some oc/\oc.data=.cell (some (.ref q.2.2.2.2.1))
section
variable {U:Program} {w:World} {Y:Base} (T0:cQ (KF (HH w)) Y) (hl:bz Y) (PW:Ng U Y) {T:List Nat} (hT:T.all kU=true) (h0:Y.V.ς 0=T++[0]) (hz:T.length+1<=lim)
include T0 hl hT hz in
theorem G1:af U w 1521 Y 9 (.ref 682) [.self,.str T] [] (some []) .none (some (LF (.str zx) (.str (T++[0])))):=by
 have F:=zS (U:=U) (n:=8) rH (rF (HH w)) T0 hl
 have⟨g1,g2⟩:=aw (r_n (HH w))
 have⟨g2,g3⟩:=aw g2
 exact gd (ba:=⟨some (LF (.str zx) (.str (T++[0]))),tp T⟩) rH (rF (HH w)) T0 hl (acX T) (.at (r_b (HH w)) (eH F (ao (.at (r_i (HH w)) (iH (w5 (Pb T0 g1 g2 g3 (gW rH (rF (HH w)) T0 hl (r_e (HH w) T _))) rfl λenv=>rfl)
  (eH F (l':=[ai (wB (CO (HH w))) 1,ai (wB (CO (HH w))) 2]) (ao (pD rH (rF (HH w)) T0 hl (r_1 ..) (aaq T0 hl hT _)) (ao (kh rH (rF (HH w)) T0 hl (lE (r_q (HH w)) (gW rH (rF (HH w)) T0 hl (ais ..)) (gW rH (rF (HH w)) T0 hl (ait ..)) (lN (a:=T) (b:=[0]) hz)) (aiu ..)) bA)) [ai (wB (CO (HH w))) 0] _ (r_0 (HH w) T)))) bA) _ _ (r_a (HH w) T))) rfl
include T0 PW in
theorem YK {q:Nat×Nat×Nat×Nat×Nat×Nat} (hq:q∈Hj) (hf:q.1∈sus):∀fd L,fdOf (KF (HH w)) q.1=some fd->HR U Y (KF (HH w)) 1521 (FI (HH w) q.1).sc (callEnv fd L q.1) aM q.2.2.2.2.2:=λfd L hfd=>by
 have h1:=kS (aW (YH (HH w)) q hq)
 have h2:=kS h1.2
 have h3:=kS h2.2
 have h4:=kS h3.2
 have h5:=kS h4.2
 have c:=aw h3.1
 have s1:=(kS (kS (kS (aW (Mq (HH w) [] 0) q.1 hf)).2).2).2
 have s2:=kS s1
 have s3:=List.cons.inj (kS (kS s2.2).2).2
 have s4:=List.cons.inj s3.2
 have b1:=kS (aiS (HH w))
 have b2:=kS b1.2
 have b3:=kS b2.2
 have e1:=h1.1
 have p1:=s2.1
 rw[hfd] at e1 p1
 have e1:=kS (eN e1)
 refine bx (xn.mp (eN p1)) λar p2 p3=>bx ((DQ _ _).get hfd) λo ho hd=>bx (pR h2.1) λvs v1 v2=>bx (pR v1) λoc oc1 v1=>fk (Zg.mp c.1) λcd RJ=>bx (PW.cells q hq) λocl oc3 oc4=>?_
 exact⟨s3.1,s4.1,(List.cons.inj s4.2).1,⟨q.1,o,fd,ar,rfl,T0.Jz _ _ ho,hd,p2,p3⟩,⟨q.2.1,oc,vs,sa,q.2.2.1,e1.1,T0.Jz _ _ oc1,((Om _).get v1).symm,v2,PW.file⟩,PW.top,⟨q.2.2.2.1,ocl,q.2.2.2.2.1,cd,e1.2,oc3,oc4,RJ,h4.1,h5.1⟩,b1.1,b2.1,b3.1,h5.2,b3.2,c.2⟩
include T0 hl PW
theorem Mr {q:Nat×Nat×Nat×Nat×Nat×Nat} (hq:q∈Hj) (hf:q.1∈sus) (hm:bc q.1 vu=true) {n:Nat} {a a':List (Str×ae)} (hc:af U w 1521 Y n (.ref q.2.2.2.2.2) [.self,.str T] [] (some []) .none (some a)) (run:rX (HH w) n q.1 ((FI (HH w) q.1).body.drop 1) ⟨some a,tp T⟩ .next ⟨some a',tp T⟩):
 af U w 1521 Y (n+1) (.ref q.1) [.self,.str T] [] (some []) .none (some a'):=by
 have s1:=kS (aW (Mq (HH w) T n) q.1 hf)
 have s2:=kS s1.2
 have s3:=kS s2.2
 have s4:=kS (kS s3.2).2
 have k:=aw s3.1
 exact bx (pR s4.1) λrow r1 r2=>FJ (tabs_ok T0 (mY hl) λ_ _ _ _ _ _ _ _ h=>ns h:TabsOk U w Y (tabs (HH w) bY eZ)) (as:=[]) hm s1.1 r1 r2 s2.1 (YK T0 PW hq hf) k.1 k.2 rfl ((aG ..).symm.trans (aiT T)) (lZ hm s1.1 T0 hl (kS s4.2).1) hc (nh hm s1.1 T0 hl run) rfl
include hT h0 hz
theorem Pw (cg:Y.V.β 17=0):af U w 1521 Y 15 (.ref 1521) [.str T] [] none .self (k0 (.md [])):=by
 have zz:∀G:Gh,G.V=Y.V->∀v,DR w.params G (.int 0) v->DR w.params G (.sint 17 0) v:=λG e v h=>h.fS λt=>⟨t,by rw[e,cg];rfl⟩
 refine wx T0 (adC (HH w)) rfl rfl (.order (as:=paA .any (.gP 0) (.sint 17 0)) rfl KK KK ?_)
 have P:=Mr (n:=13) T0 hl PW (.tail _ (.head _)) (.tail _ (.head _)) KK (Mr (n:=12) T0 hl PW (.head _) (.head _) KK ((G1 T0 hl hT hz).up (by decide)) (adD (HH w) T (T++[0]))) (adE (HH w) T (T++[0]))
 have P:=af.tell (x:=iy) (a:=.str zx) (b:=.any) (λ_ _ _ h=>h.handed) KK rfl P
 have P:=af.tell (x:=n6) (a:=.str (T++[0])) (b:=.gP 0) (λG e v h=>h.gi λt hz=>by rw[<-h0,<-e] at hz ⊢;exact⟨t,rfl,hz⟩) KK rfl P
 have P:=af.tell (x:=n7) zz KK rfl P
 have P:=af.tell (x:=iN) zz KK rfl P
 have P:=af.tell (x:=pj) zz KK rfl P
 exact af.tell (x:=GI) zz KK KK P
end
section
variable {U:Program} {w:World} {C:Nat} {K:Frag} {Y:Base} {sc:Scope} {d:Nat} {Z aa ah cC:aj} {G:Gh} {L:Addr} {s:Shared} {A:Around} {env:Env}
def made {eD:Gh} {eL:Shared} {h':Heap} {t:Nat} {D:Addr} {ys:List Value} {m:Nat} {l:List DV} {Q:Value->Shared->Prop} (R:Rep w.params C Y G L Z s) (ly:Later eD.OA eD eL G s) (hk:∀b o,s.heap.get? b=some o->h'.get? b=some o) (hs:s.heap.objs.size<=h'.objs.size) (hD:s.heap.objs.size<=D) (hg:h'.get? D=some (bG ys m)) (hd:eC w.params G l ys) (hz:ys.length<=lim)
    (k:∀G' v s',Rep w.params C Y G' L Z s'->Later eD.OA eD eL G' s'->nz w.params G' s'.heap eL.heap.objs.size (.fl l) v->Q v s'):Q (.ref D) {s with heap:=h',toks:=t}:=
 have q:=jQ.grown (tk:=t) R hk hs
 have f:=R.fresh hD
 k G _ _ q.1 (ly.aO q.2) ⟨D,ys,m,rfl,hg,hd,hz,f.1,f.2.1,f.2.2,bw ly.size hD⟩
def yY {a b:Expr} {op:Operator} {pos:Pos} {x y:DV} {l:List DV} (ha:aC U w C Y sc d a Z x aa) (hb:aC U w C Y sc d b aa y ah) (h:∀(A:Around) (G:Gh) (s:Shared) (u v:Value) (Q:Value->Shared->Prop),(∀b o,G.g b=some o->s.heap.get? b=some o)->DR w.params G x u->DR w.params G y v->
    (∀ys m,eC w.params G l ys->ys.length<=lim->Q (.ref s.heap.objs.size) {s with heap:=s.heap.push (bG ys m)})->WP U w A (binaryOp op u v) s Q):cO U w C Y sc d (.BinOp a op b pos) Z (.fl l) ah:=λA G L s env ro eo R Q k=>
 show WP U w A (eval a env >>= λx=>holding [x] (eval b env) >>= λy=>standAt pos >>= λ_=>operate [x,y] (binaryOp op x y)) s Q from
 eO (ha A G L s env ro eo R _ λaz u ax aB aH aV=>eO (Nc (hb A az L ax env ro eo aB _ λaD v ay aE aJ cA=>eO (Rt (wpAny_operate' (h A aD ay u v _ aE.pins (aV.mono aJ.sub) cA λys m hd hz=>
  made (t:=ay.toks) aE (aH.aO aJ) (λb o e=>MT _ e) (size_push ..) (fy _) (Hu _ rfl) hd hz k))))))
def sH {a b:Expr} {pos:Pos} {l l':List DV} (ha:aC U w C Y sc d a Z (.lst l) aa) (hb:aC U w C Y sc d b aa (.lst l') ah) (hz:l.length+l'.length<=lim):cO U w C Y sc d (.BinOp a .Add b pos) Z (.fl (l++l')) ah:=
 yY ha hb λA G s u v Q hp hu hv k=>hu.lu λx vs n hg _ hd=>hv.lu λy HF n' hg' _ Ar=>by
  have zz:vs.length+HF.length<=lim:=hd.length▸Ar.length▸hz
  refine P.add_list (items:=⟨vs⟩) (items2:=⟨HF⟩) (hp _ _ hg) (hp _ _ hg') ?_ (cK zz)
  have q:=k (vs++HF) 0 (hd.app Ar) (by rw[da];exact zz)
  simpa using q
def PC {l:Addr} {vs:List Value} {x:Int} {u:Tok} {Q:Value->Shared->Prop} (hl:s.heap.IsList l vs.toArray) (hlo:0<=x) (hhi:x<256) (yc:vs.length*x.toNat<=256)
    (h:Q (.ref s.heap.objs.size) {s with heap:=s.heap.push {cls:=.type "list",data:=.seq (List.replicate x.toNat vs).flatten.toArray}}):WP U w A (binaryOp .Mult (.ref l) (.int x u)) s Q:=by
 obtain⟨⟨cls,d,data,sl⟩,ho,hcl,k,hd⟩:=id hl
 simp only at hcl hd
 subst hcl hd
 have alr:vs.toArray.size*x.toNat<=256:=by simpa using yc
 refine wpAny_binaryOp_repeat_ref (T:="list") (U:="int") (by decide) ⟨_,ho,rfl⟩ (λs'=>typeIs_int s' x u) noFill_list_mul PySem.F.fills_int_mul PySem.F.slot_int_rmul repeat_list PySem.F.slot_int_index.lookup
  (call_meets PySem.F.slot_int_rmul (typeIs_int s x u) PySem.F.entry_int_rmul (PySem.F.args_int_rmul_2 _ _) (lm_int_rmul_list_any x u l vs.toArray k d sl)
    ⟨ho,rfl,⟨_,ho,rfl⟩,call_meets PySem.F.slot_list_mul ⟨_,ho,rfl⟩ PySem.F.entry_list_mul (PySem.F.args_list_mul_2 _ _)
      (lm_list_mul_any l vs.toArray k d sl x u (by simp[Builtin.List.listFitsIndex];lia) (by lia) (by simp[Builtin.List.listTooLong,sizeLine];lia))
      ⟨ho,?_⟩⟩)
 rw[listMul_foldl_if]
 exact h
def ED {P:Params} {v:DV} {u:Value} (h:DR P G v u) (n:Nat):eC P G (List.replicate n v) (List.replicate n [u]).flatten:=by
 induction n with
 |zero=>exact .nil
 |succ n ih=>rw[List.replicate_succ,List.replicate_succ,Rm];exact .cons h ih
def L7 {a b:Expr} {pos:Pos} {v:DV} {n:Nat} (ha:aC U w C Y sc d a Z (.lst [v]) aa) (hb:aC U w C Y sc d b aa (.int (n:Int)) ah) (hz:n<=200):cO U w C Y sc d (.BinOp a .Mult b pos) Z (.fl (List.replicate n v)) ah:=
 yY ha hb λA G s u v Q hp hu hv k=>hu.lu λx vs m hg _ hd=>by revert hg;exact hd.fz λu us hu h=>h.jr λhg=>hv.fS λtk=>PC (vs:=[u]) ⟨_,hp _ _ hg,rfl,m,rfl⟩ (MU n) (by lia) (by rw[Int.toNat_natCast];simp;lia) (by
  have e:=(ED hu n).length
  rw[tj] at e
  rw[Int.toNat_natCast]
  exact k _ _ (ED hu n) (e▸bw hz (by decide)))
def u9 (U:Program) (w:World) (C:Nat) (Y:Base) (sc:Scope) (d:Nat) (e:Option Expr) (Z:aj) (k:Option Int):Prop:=Option.rec (motive:=λ_=>Prop) (k=none) (λe=>∃i:Int,k=some i/\aC U w C Y sc d e Z (.int i) Z) e
def yM {e:Option Expr} {k:Option Int} {Q:Value->Shared->Prop} (h:u9 U w C Y sc d e Z k) (ro:dI A d) (eo:cN sc L env) (R:Rep w.params C Y G L Z s) (kk:∀G' v s',Rep w.params C Y G' L Z s'->Later G.OA G s G' s'->IsPart v k->Q v s'):WP U w A (evalPart e env) s Q:=by
 cases e with
 |none=>have h:k=none:=h;subst h;exact wpAny_evalPart_none (kk G _ s R (.refl _ _ _) .none)
 |some e=>exact bx (show ∃i:Int,k=some i/\aC U w C Y sc d e Z (.int i) Z from h) λi e1 hq=>by subst e1;exact wpAny_evalPart_some (hq A G L s env ro eo R _ λaz v ax aB aH q=>q.fS λt=>kk az _ ax aB aH (.int _ _))
def cutD (l:List DV) (lo hi:Option Int):List DV:=(l.drop (lo.elim 0 (clipAt l.length))).take (hi.elim l.length (clipAt l.length) - lo.elim 0 (clipAt l.length))
def IA {α:Type} {l:List α} {a n m:Nat} (h:l.length<=m):((l.drop a).take n).length<=m:=bw (List.length_take_le' ..) (bw (ZF ..▸Nat.sub_le ..) h)
def Qu {e:Expr} {a b:Option Expr} {p pos:Pos} {l:List DV} {lo hi:Option Int} (he:aC U w C Y sc d e Z (.lst l) aa) (ha:u9 U w C Y sc d a aa lo) (hb:u9 U w C Y sc d b aa hi) (hz:l.length<=lim):
    cO U w C Y sc d (.Subscript e (.Slice a b none p) pos) Z (.fl (cutD l lo hi)) aa:=λA G L s env ro eo R Q k=>
 qd (he A G L s env ro eo R _ λaz u ax aB aH aV=>wpAny_Slice (yM ha ro eo aB λaD v ay aE aJ cA=>yM hb ro eo aE λiL x cB cF cL lB=>evalPart_none_step ((aV.mono (aJ.aO cL).sub).lu λo vs n hg _ hd=>⟨"list",_,⟨_,MT _ (cF.pins _ _ hg),rfl⟩,PySem.F.slot_list_getitem.lookup,have zz:vs.length<=lim:=hd.length▸hz;wpAny_getItem_list_slice (items:=⟨vs⟩) (Heap.IsList.push ⟨_,cF.pins _ _ hg,rfl,n,rfl⟩ _) (Heap.IsSliceOf.new ..) cA lB .none (λe=>nomatch e) (by
  rw[show slicePick ⟨vs⟩ lo hi none=_ from slicePick_plain ⟨vs⟩ lo hi]
  have dd:eC w.params iL (cutD l lo hi) ((vs.drop (lo.elim 0 (clipAt vs.length))).take (hi.elim vs.length (clipAt vs.length) - lo.elim 0 (clipAt vs.length))):=by
   unfold cutD;rw[hd.length];exact Zip.take (Zip.drop hd _) _
  exact made (t:=cB.toks) (cF.push (t:=cB.toks) _) (((aH.aO aJ).aO cL).aO (eU (t:=cB.toks) _)) (λb o e=>MT _ e) (size_push ..) (fy _) (Hu _ rfl) dd (IA zz) k) (cK zz)⟩)))
def I9 (c:Nat) (n:Nat):∀acc:List Nat,((List.replicate n (⟨[c]⟩:Array Nat)).foldl (· ++·) ⟨acc⟩)=(⟨acc++List.replicate n c⟩:Array Nat):=by
 induction n with
 |zero=>exactλacc=>by simp
 |succ n ih=>
  exactλacc=>by
   show(List.replicate n (⟨[c]⟩:Array Nat)).foldl (· ++·) ((⟨acc⟩:Array Nat)++⟨[c]⟩)=_
   rw[show((⟨acc⟩:Array Nat)++⟨[c]⟩)=⟨acc++[c]⟩ from by simp,ih,List.replicate_succ,fc]
   rfl
def Ra (c n:Nat):Txt.mul ⟨⟨[c]⟩⟩ (n:Int)=⟨⟨List.replicate n c⟩⟩:=by
 unfold Txt.mul
 by_cases h1:(n:Int)<1
 ·rw[d8 h1,show n=0 by lia];rfl
 ·rw[dZ h1]
  by_cases h2:n=1
  ·subst h2;rfl
  ·rw[show(((n:Int)==1)||((⟨⟨[c]⟩⟩:Str).length==0))=false from Bool.or_eq_false_iff.mpr ⟨HG.mpr (by lia),rfl⟩,dZ Bool.false_ne_true,Int.toNat_natCast,<-Ro (List.replicate n c),<-I9 c n []]
def HW {c n:Nat} (hn:n<=lim):qf U w .Mult (.str [c]) (.int n) (.str (List.replicate n c)):=λA G s u v _ hu hv Q k=>hu.gi λt hz=>hv.fS λt'=>by
 have hn':n<=2 ^ 22:=hn
 refine SB.mul (x:=⟨⟨[c]⟩⟩) (n:=(n:Int)) ⟨?_,λh1 _=>?_,λ_ _=>?_⟩ λt' tk=>?_
 ·rw[Hy (by lia),Hy (by lia)];rfl
 ·have h3:(1:Int)<=(2 ^ 63 - 1) / n:=by
   rw[Int.le_ediv_iff_mul_le (by lia)];lia
  show ¬(((⟨⟨[c]⟩⟩:Str).length:Int)>(2 ^ 63 - 1) / n)
  rw[show((⟨⟨[c]⟩⟩:Str).length:Int)=1 from rfl];lia
 ·show decide (_>sizeLine)=false
  rw[ZJ,show(⟨⟨[c]⟩⟩:Str).length=1 from rfl,Int.toNat_natCast]
  have:=cK hn
  lia
 ·rw[Ra]
  exact k _ tk (.str _ _ (by rw[tj];exact hn))
end
def Mh (e:Expr):Option (Option Expr×Option Expr):=(Mg e).bind λq=>bif q.2.2.isNone then some (q.1,q.2.1) else none
def Hb (e:Expr):On (λq=>.Slice q.1 q.2 none e.pos=e) (Mh e):=
 (eK (P:=λe (q:Option Expr×Option Expr×Option Expr)=>.Slice q.1 q.2.1 q.2.2 e.pos=e) (λe h=>@Expr.Slice.elim (λe=>∀h,(λq:Option Expr×Option Expr×Option Expr=>Expr.Slice q.1 q.2.1 q.2.2 e.pos) (@Expr.Slice.elim (λ_=>Option Expr×Option Expr×Option Expr) e h λa b c _=>(a,b,c))=e) e h (λ_ _ _ _ _=>rfl) h) e).b λq h=>ak λec=>show Expr.Slice q.1 q.2.1 none e.pos=e from SU.mp ec▸h
def Iw (l:List DV) (lo hi:Option Int):(cutD l lo hi).length<=l.length:=IA (fy _)
def HE (v:DV):Nat:=@DV.casesOn (λ_=>Nat) v 0 0 0 (λ_=>0) Int.natAbs List.length (λ_ _=>0) (λ_=>0) (λ_=>0) List.length (λ_=>0) (λ_ _=>0) 0 (λ_=>0) (λ_=>0) λ_=>0
def M3 (k:ae):Nat:=ae.rec (motive:=λ_=>Nat) HE List.length (λ_=>0) k
def zK (r:Res):Nat:=M3 r.slot
def sg (v:DV):Option Nat:=(intD v).bind GU
def i8 (v:DV):On (λn:Nat=>.int (n:Int)=v) (sg v):=(bQ v).b λi h=>(n9 i).up λn e=>(aQ DV.int e).trans h
abbrev iV:=List (Str×Nat)
def hZ (β:iV) (loc:List (Str×ae)):Prop:=∀x b k,aT β x=some b->look loc x=some k->M3 k<=b
def NP (β:iV) (x:Str) (n:Nat):Nat:=Option.rec (motive:=λ_=>Nat) n id (aT β x)
abbrev OV:=Option (Res×Nat)
def oI (n b:Nat):OV:=some (.pv (.int (n:Int)),b)
def oT (l:List Nat) (b:Nat):OV:=some (.pv (.str l),b)
def small (m n:Nat):Bool:=Nat.ble m 100000&&Nat.ble n 100000
def acF (k a b m n:Nat):Option (Nat×Nat):=bif Nat.beq k 0 then some (a+b,m+n) else bif Nat.beq k 1 then bif Nat.ble b a then some (a - b,m) else none else bif Nat.beq k 2 then bif small m n then some (a*b,m*n) else none else bif Nat.beq k 5 then bif Nat.ble 1 b then some (a % b,n - 1) else none
 else bif Nat.beq k 12 then bif small m n then bif Nat.ble 1 b then some (a / b,m / b) else none else none else none
def XX (op:Operator) (x y:DV) (m n:Nat):OV:=
 aZ (sg x) (aZ (iG x) ((yp x).bind λl=>bif Nat.beq op.ctorIdx 0 then(yp y).bind λl'=>bif Nat.ble (m+n) 4000000 then some (.fl (l++l'),m+n) else none else bif Nat.beq op.ctorIdx 2 then(dM l).bind λv=>(sg y).bind λb=>bif Nat.ble n 200 then some (.fl (List.replicate b v),n) else none else none)
  λs=>bif Nat.beq op.ctorIdx 0 then(iG y).bind λs'=>bif Nat.ble (m+n) 4000000 then oT (s++s') (m+n) else none else bif Nat.beq op.ctorIdx 2 then(dM s).bind λc=>(sg y).bind λb=>bif Nat.ble n 4000000 then oT (List.replicate b c) n else none else none)
  λa=>(sg y).bind λb=>(acF op.ctorIdx a b m n).bind λz=>oI z.1 z.2
def acH (c:Bool) (p q:Res×Nat):OV:=
 (uF p.1.slot).bind λu=>(uF q.1.slot).bind λv=>aZ (iG u) ((sg u).bind λa=>(sg v).bind λb=>oI (bif c then a else b) (p.2+q.2)) λs=>(iG v).bind λs'=>oT (bif c then s else s') (p.2+q.2)
def oAt (l:List DV) (i:DV):Option (Nat×DV×Nat):=(intD i).bind λk=>(idx k l.length).bind λj=>(l[j]?).bind λz=>some (j,z,HE z)
def Ll (l:List DV) (i:DV) (m:Nat):Option (Nat×DV×Nat):=aZ (sg i) (oAt l i) λn=>bif Nat.beq m 0 then List.casesOn (motive:=λ_=>Option (Nat×DV×Nat)) l none λz _=>some (n,z,HE z) else aZ (strsOf l) (oAt l i) λss=>bif Nat.ble (m+1) ss.length then some (n,.str (ss.getD n []),c9 ss) else none
section
variable (X:Cx) (Z:aj) (β:iV)
structure OF where
 E:Expr->OV
 T:Expr->Option Bool
variable (F:OF)
def oA (es:List Expr):Option (List DV):=List.rec (motive:=λ_=>Option (List DV)) (some []) (λe _ ih=>bif noStar e then(F.E e).bind λp=>ih.bind λr=>some (p.1.rest::r) else none) es
def Se (x:Str):OV:=bif fP X x then((aT Z.loc x).bind uF).bind λv=>some (.pv v,NP β x (HE v)) else bif lq X x then(X.B.glob x).bind λv=>some (.pv v,HE v) else none
def acG (e:Expr):OV:=(dY e).bind λx=>bif fP X x then(aT Z.loc x).bind λk=>aZ (vV k) ((uF k).bind λv=>(iG v).bind λs=>oI s.length (NP β x s.length)) λl=>oI l.length (NP β x l.length) else none
def PQ (e:Expr):Option (Nat×List DV):=(gS e).bind λc=>(dY c.1).bind λx=>bif c.2.2.1.isEmpty then(X.B.glob x).bind λv=>bif lq X x then(mW v).bind λg=>bif X.B.kept g then bif Z.aq.isNone then(oA F c.2.1).bind λvs=>some (g,vs) else none else none else none else none
def Sb (f:Expr) (es:List Expr) (ks:List Keyword) (p:Pos):OV:=aZ (PQ X Z F (.Call f es ks p)) ((dY f).bind λx=>bif ks.isEmpty then bif lq X x then bif X.B.yl x then(dM es).bind λe=>bif noStar e then acG X Z β e else none else none else none else none) λq=>(X.code q.1 q.2 [] none).bind λr=>bif r.2.isNone then some (.pv r.1,HE r.1) else none
def acI (o i:Expr):OV:=bif eG i then(F.E i).bind λq=>aZ (placeOf X Z o)
    ((F.E o).bind λp=>aZ (iG p.1.rest) ((yp p.1.rest).bind λl=>(Ll l q.1.rest q.2).bind λz=>some (.pv z.2.1,z.2.2)) λs=>(sg q.1.rest).bind λn=>bif Nat.ble (q.2+1) s.length then oT [s.getD n 0] 1 else none)
    (λp=>bif p.fix then((g9 Z p).bind vV).bind λl=>(Ll l q.1.rest q.2).bind λz=>some (.pv z.2.1,z.2.2) else none) else none
def Ln (o:Option Expr):Option (Option Int):=aZ o (some none) λe=>(F.E e).bind λp=>(intD p.1.rest).bind λi=>some (some i)
def acD (o:Expr) (q:Option Expr×Option Expr):OV:=(F.E o).bind λp=>(yp p.1.rest).bind λl=>bif Nat.ble p.2 4000000 then(Ln F q.1).bind λlo=>(Ln F q.2).bind λhi=>some (.fl (cutD l lo hi),p.2) else none
def XY (a:Expr) (ops:List CmpOp) (bs:List Expr):Option Bool:=(dM ops).bind λop=>(dM bs).bind λb=>bif behindInMarks op b then none else(F.E a).bind λp=>(F.E b).bind λq=>X.B.cmp op p.1.rest q.1.rest
def oE (e:Expr):OV:=
 @Expr.casesOn (λ_=>OV) e (λ_ _ _=>none) (λ_ _ _=>none) (λa op b _=>(F.E a).bind λp=>(F.E b).bind λq=>XX op p.1.rest q.1.rest p.2 q.2)
  (λop a _=>bif Nat.beq op.ctorIdx 3 then(F.E a).bind λp=>(intD p.1.rest).bind λi=>some (.pv (.int (-i)),p.2) else none) (λ_ _ _ _=>none) (λt a b _=>(F.T t).bind λc=>aZ ((F.E a).bind λp=>(F.E b).bind λq=>acH c p q) (bif c then F.E a else F.E b) some) (λ_ _ _=>none)
  (λ_ _ _=>none) (λ_ _ _ _=>none) (λ_ _ _ _=>none) (λ_ _ _ _ _=>none) (λ_ _ _ _=>none) (λ_ _=>none) (λ_ _=>none) (λ_ _=>none)
  (λa ops bs _=>(XY X F a ops bs).bind λc=>some (.pv (.bool c),0)) (λf es ks p=>Sb X Z β F f es ks p) (λ_ _ _ _=>none) (λ_ _=>none) (λc _ _=>(mh c Z).bind λp=>some (p.1,zK p.1)) (λ_ _ _=>none)
  (λo i _=>aZ (Mh i) (acI X Z F o i) (acD F o)) (λ_ _=>none) (λx _=>Se X Z β x) (λes _=>(oA F es).bind λvs=>bif Nat.ble vs.length 1000 then some (.fl vs,vs.length) else none) (λes _ _=>(oA F es).bind λvs=>bif Nat.ble vs.length 1000 then some (.pv (.tup vs),0) else none) λ_ _ _ _=>none
def XW (es:List Expr):Option Bool:=List.rec (motive:=λ_=>Option Bool) (some true) (λe _ ih=>(F.T e).bind λa=>aZ ih (bif a then none else some false) λb=>some (a&&b)) es
def oOr (es:List Expr):Option Bool:=List.rec (motive:=λ_=>Option Bool) (some false) (λe _ ih=>(F.T e).bind λa=>aZ ih (bif a then some true else none) λb=>some (a||b)) es
def acJ (e:Expr):Option Bool:=
 aZ (XJ e) (aZ (k9 e) (aZ (N5 e) (bif Dc e then aZ (placeOf X Z e) ((F.E e).bind λp=>mE p.1.rest) (λp=>(g9 Z p).bind ME) else none) λq=>XY X F q.1 q.2.1 q.2.2) λq=>BoolOp.casesOn (motive:=λ_=>Option Bool) q.1 (XW F q.2) (oOr F q.2)) λq=>bif Nat.beq q.1.ctorIdx 1 then(F.T q.2).bind λb=>some (!b) else none
def oN (n:Nat):OF:=Nat.rec ⟨λ_=>none,λ_=>none⟩ (λ_ F=>⟨oE X Z β F,acJ X Z F⟩) n
end
section
variable {U:Program} {w:World} {Y:Base} {d:Nat} {op:Operator}
def opA (h:Nat.beq op.ctorIdx 0=true):.Add=op:=by cases op<;>first|rfl|exact ft h
def opM (h:Nat.beq op.ctorIdx 2=true):.Mult=op:=by cases op<;>first|rfl|exact ft h
def y8 {m n a b:Nat} (h:small m n=true) (ha:a<=m) (hb:b<=n):a<2 ^ 28/\b<2 ^ 28:=a2 (aw h) λh1 h2=>⟨Rq (bw ha (eP h1)) (by decide),Rq (bw hb (eP h2)) (by decide)⟩
def wc (a b m n:Nat) (ha:a<=m) (hb:b<=n):On (λz=>qf U w op (.int a) (.int b) (.int (z.1:Nat))/\z.1<=z.2) (acF op.ctorIdx a b m n):=by
 cases op
 case Add=>exact⟨jT rfl,u4 ha hb⟩
 case Sub=>exact ak λh=>⟨jT (aQ some (Int.ofNat_sub (eP h)).symm),bw (Nat.sub_le ..) ha⟩
 case Mult=>exact ak λh=>a2 (y8 h ha hb) λh1 h2=>⟨jT ((d8 (show _/\_ from⟨Nat.lt_trans h1 (by decide),Nat.lt_trans h2 (by decide)⟩)).trans (aQ some (Int.natCast_mul a b).symm)),Nat.mul_le_mul ha hb⟩
 case Mod=>exact ak λh=>have h:=eP h;⟨jT ((dZ (show ¬(b:Int)=0 by lia)).trans (aQ some (Int.fmod_eq_emod_of_nonneg _ (MU b)))),bw (Nat.le_sub_one_of_lt (qe a h)) (Nat.sub_le_sub_right hb 1)⟩
 case FloorDiv=>exact ak λh=>ak λh'=>have h':=eP h';a2 (y8 h ha hb) λh1 h2=>⟨jT ((dZ (show ¬((b:Int)=0\/2 ^ 28<=(a:Int).natAbs\/2 ^ 28<=(b:Int).natAbs) by rw[Int.natAbs_natCast,Int.natAbs_natCast];lia)).trans (aQ some (Int.fdiv_eq_ediv_of_nonneg _ (MU b)))),Nat.div_le_div_right ha⟩
 all_goals exact trivial
def UP {a b m n:Nat} (h:Nat.ble (m+n) 4000000=true) (ha:a<=m) (hb:b<=n):a+b<=lim:=bw (u4 ha hb) (bw (eP h) (by decide))
def ZM (U:Program) (w:World) (Y:Base) (op:Operator) (x y:DV) (z:Res×Nat):Prop:=(∀{C:Nat} {sc:Scope} {d:Nat} {a b:Expr} {pos:Pos} {Z aa ah:aj},aC U w C Y sc d a Z x aa->aC U w C Y sc d b aa y ah->cO U w C Y sc d (.BinOp a op b pos) Z z.1 ah)/\zK z.1<=z.2
def Eo (x y:DV) (m n:Nat) (hm:HE x<=m) (hn:HE y<=n):On (ZM U w Y op x y) (XX op x y m n):=
 (i8 x).or (λa ea=>(i8 y).b λb eb=>by
   rw[<-ea] at hm ⊢;rw[<-eb] at hn ⊢
   exact(wc (U:=U) (w:=w) a b m n hm hn).b λz hz=>⟨λha hb=>(me ha hb hz.1).plain,hz.2⟩)
 λ_=>(cT x).or (λs es=>by
  rw[<-es] at hm ⊢
  exact d7 (λc=>opA c▸(cT y).b λs' tH=>ak λh=>by
   rw[<-tH] at hn ⊢
   exact⟨λha hb=>(me ha hb (lN (UP h hm hn))).plain,bw (iU da) (u4 hm hn)⟩)
   λ_=>ak λc=>opM c▸(bp s).b λc hc=>(i8 y).b λb eb=>ak λh=>by
    rw[<-eb] at hn ⊢
    rw[<-hc]
    exact⟨λha hb'=>(me ha hb' (HW (bw hn (bw (eP h) (by decide))))).plain,bw (iU tj) hn⟩)
 λ_=>(kc x).b λl el=>by
  rw[<-el] at hm ⊢
  exact d7 (λc=>opA c▸(kc y).b λs' tH=>ak λh=>by
   rw[<-tH] at hn ⊢
   exact⟨λha hb=>sH ha hb (UP h hm hn),bw (iU da) (u4 hm hn)⟩)
   λ_=>ak λc=>opM c▸(bp l).b λv hv=>(i8 y).b λb eb=>ak λh=>by
    rw[<-eb] at hn ⊢
    rw[<-hv]
    exact⟨λha hb=>L7 ha hb (bw hn (eP h)),bw (iU tj) hn⟩
structure ZP (U:Program) (w:World) (Y:Base) (d:Nat) (X:Cx) (Z:aj) (F:OF):Prop where
 E:∀e,On (λz=>cO U w X.C Y X.sc d e Z z.1 Z/\zK z.1<=z.2) (F.E e)
 T:∀e,On (λb=>bu U w X.C Y X.sc d e Z b Z) (F.T e)
def QV (v:DV) {r:Res} {n:Nat} (h:zK r<=n):HE r.rest<=n:=by cases r<;>first|exact h|exact ju _
def Sj {k:ae} {r:Res} (h:k=r.slot):∀{v:DV},ae.pv v=k->Res.pv v=r:=by
 subst h
 cases r<;>intro v q<;>first|exact aQ Res.pv (ae.noConfusion q id) |exact ae.noConfusion q
def PT (c:Bool) (p q:Res×Nat):On (λz=>((if c then p else q).1=z.1)/\(zK p.1<=p.2->zK q.1<=q.2->zK z.1<=z.2)) (acH c p q):=
 (iC p.1.slot).b λu hu=>(iC q.1.slot).b λv hv=>(cT u).or (λs es=>(cT v).b λs' tH=>by
   rw[<-Sj rfl hu,<-Sj rfl hv,<-es,<-tH]
   cases c
   ·exact⟨(Sj rfl hv).symm.trans (aQ Res.pv tH.symm),λ_ h=>bw h (oJ ..)⟩
   ·exact⟨(Sj rfl hu).symm.trans (aQ Res.pv es.symm),λh _=>bw h (Hx ..)⟩)
   λ_=>(i8 u).b λa es=>(i8 v).b λb tH=>by
    rw[<-Sj rfl hu,<-Sj rfl hv,<-es,<-tH]
    cases c
    ·exact⟨(Sj rfl hv).symm.trans (aQ Res.pv tH.symm),λ_ h=>bw h (oJ ..)⟩
    ·exact⟨(Sj rfl hu).symm.trans (aQ Res.pv es.symm),λh _=>bw h (Hx ..)⟩
def Li (l:List DV) (i:DV):On (λz=>(∃k,.int k=i/\idx k l.length=some z.1)/\l[z.1]?=some z.2.1/\HE z.2.1<=z.2.2) (oAt l i):=
 (bQ i).b λk hk=>(aY (idx k l.length)).b λj hj=>(aY l[j]?).b λz hz=>⟨⟨k,hk,hj⟩,hz,fy _⟩
def lT {k n:Nat} (h:k<n):idx (k:Int) n=some k:=by
 unfold idx
 rw[d8 (MU k),d8 (Int.ofNat_lt.mpr h),Int.toNat_natCast]
def YJ {ss:List (List Nat)} {n:Nat}:(ss.getD n []).length<=c9 ss:=by
 induction ss generalizing n with
 |nil=>exact ju _
 |cons s ss ih=>
  cases n with
  |zero=>exact Hx ..
  |succ n=>exact bw ih (oJ ..)
def yI (l:List DV) (i:DV) (m:Nat) (h:HE i<=m):On (λz=>(∃k,.int k=i/\idx k l.length=some z.1)/\l[z.1]?=some z.2.1/\HE z.2.1<=z.2.2) (Ll l i m):=
 (i8 i).or (λn e=>d7 (λc=>by
   rw[<-e] at h
   have z:n=0:=Nat.le_zero.mp (bw h (iU (iT c)))
   cases l with
   |nil=>exact trivial
   |cons a l=>exact⟨⟨n,e,lT (z▸MW _)⟩,by rw[z];rfl,fy _⟩) λ_=>(aY (strsOf l)).or (λss es=>ak λhb=>by
   rw[<-e] at h
   have lt:n<ss.length:=Rq h (eP hb)
   rw[strs_map es]
   exact⟨⟨n,e,lT (by rw[mG];exact lt)⟩,by rw[Rn,zO lt,Zd,zO lt];rfl,YJ⟩) λ_=>Li l i) λ_=>Li l i
def GS {C:Nat} {l:List Nat}:jQ U w C Y (.builtin "len") [.str l] (.pv (.int l.length)):=λA G L Z s us ro R hd Q k=>
 hd.fz λu us hu h=>h.jr (hu.gi λt hz=>P.len_str (by have hz:l.length<=2 ^ 22:=hz;show ¬((l.length:Nat):Int)>=2 ^ 63;lia) (k _ _ R.toks bb ⟨_,rfl⟩))
variable {X:Cx} {Z:aj} {β:iV} {F:OF} (O:mR U w Y d X) (FO:ZP U w Y d X Z F) (B:hZ β Z.loc)
def rk {β:iV} {x:Str} {n:Nat} (h:∀b,aT β x=some b->n<=b):n<=NP β x n:=by
 unfold NP
 cases q:aT β x with
 |none=>exact fy _
 |some b=>exact h b q
def FG {C:Nat} {sc:Scope} {c:Const} {k:Nat} {pos:Pos}:On (λq=>cO U w C Y sc d (.Constant c k pos) Z q.1 Z) (mh c Z):=by
 cases c with
 |none=>exact y4.plain
 |bool b=>exact yZ.plain
 |int i=>exact EK.plain
 |str x=>exact ak λh1=>(EM (eP h1)).plain
 |_=>exact trivial
include FO in
theorem Lh (es:List Expr):On (λvs=>dJ U w X.C Y X.sc d es Z vs Z) (oA F es):=
 List.rec (motive:=λes=>On (λvs=>dJ U w X.C Y X.sc d es Z vs Z) (oA F es)) dJ.nil (λe _ ih=>ak λh=>(FO.E e).b λp q=>ih.b λ_ r=>dJ.cons h q.1.rest r) es
include O
include B in
theorem Lm {x:Str} {pos:Pos}:On (λz=>cO U w X.C Y X.sc d (.Name x pos) Z z.1 Z/\zK z.1<=z.2) (Se X Z β x):=
 d7 (λc=>(sq (aG ..)).b λv e=>⟨(pH (aP c) e (O.DK _ _ (aP c))).plain,rk λb h=>B x b _ h e⟩)
  λ_=>ak λh1=>(aY (X.B.glob x)).b λv hv=>bx (O.t.glob _ _ hv) λ_ a b=>⟨(nk O.t.T (gu h1) a (O.DK _ _ (gu h1)) b).plain,fy _⟩
include B in
theorem PS {e:Expr} {x:Str} {p pos:Pos} (hs:noStar e=true) (hb:bB X.B.K X.sc x (.builtin "len")=true):On (λz=>cO U w X.C Y X.sc d (.Call (.Name x p) [e] [] pos) Z z.1 Z/\zK z.1<=z.2) (acG X Z β e):=
 (dp e).b λy h=>h▸ak λc=>(aY (aT Z.loc y)).b λk ek=>have ek:=(aG ..).symm.trans ek
   (AA k).or (λl el=>⟨(y0 O.t.T hb (uD (aP c) (el.symm▸ek) rfl (O.DK _ _ (aP c))) (h▸hs) (el.symm▸ek)).plain,rk λb hb=>(show M3 k<=b from B y b k hb ek) |> λq=>by rw[<-el] at q;exact q⟩)
   λ_=>(iC k).b λv ev=>(cT v).b λs es=>⟨(pG O.t.T hb (.cons (h▸hs) (pH (v:=.str s) (aP c) (es.symm▸ev.symm▸ek) (O.DK _ _ (aP c))) .nil) GS),rk λb hb=>(show M3 k<=b from B y b k hb ek) |> λq=>by rw[<-ev,<-es] at q;exact q⟩
omit O in
theorem P5 {α:Type} {P:α->Prop} {o u:Option α} (h:On P o) (k:On P u):On P (aZ o u some):=by cases o;exact k;exact h
include FO
theorem wa (e:Expr):On (λq=>∀r:DV,af U w X.C Y d (.ref q.1) q.2 [] none r none->aC U w X.C Y X.sc d e Z r Z) (PQ X Z F e):=
 (ic e).b λc h=>(dp c.1).b λx h1=>ak λh2=>(aY (X.B.glob x)).b λv hv=>ak λh3=>(uo v).b λg hg=>ak λhk=>ak λhn=>(Lh FO c.2.1).b λvs ha r hc=>by
   have hn:=SU.mp hn
   have q:=mf (pos:=c.2.2.2) (p:=c.1.pos) O.t.T (O.t.kept _ hk) hg (bx (O.t.glob _ _ hv) λ_ a b=>nk O.t.T (gu h3) a (O.DK _ _ (gu h3)) b) ha .nil (hn.symm▸hc)
   rw[<-h,<-h1,<-bT h2]
   exact q
include B in
theorem Lj {f:Expr} {es:List Expr} {ks:List Keyword} {pos:Pos}:On (λz=>cO U w X.C Y X.sc d (.Call f es ks pos) Z z.1 Z/\zK z.1<=z.2) (Sb X Z β F f es ks pos):=
 (wa O FO _).or (λq hq=>(aY (X.code ..)).b λr hc=>ak λhr=>⟨(hq r.1 (by have k:=O.code _ _ _ _ r.1 r.2 hc;rw[SU.mp hr] at k;exact k)).plain,fy _⟩)
   λ_=>(dp f).b λx h=>h▸ak λh2=>bT h2▸ak λh1=>ak λcl=>(bp es).b λe he=>he▸ak λh3=>PS O B h3 (jX O h1 (O.t.yl _ cl))
theorem PU {o i:Expr} {pos:Pos}:On (λz=>cO U w X.C Y X.sc d (.Subscript o i pos) Z z.1 Z/\zK z.1<=z.2) (acI X Z F o i):=
 ak λhn=>(FO.E i).b λq hq=>(bZ O Z o).or (λp hP=>ak λhf=>(i7 (cw ..)).b λl el=>(yI l _ _ (QV .none hq.2)).b λz hz=>bx hz.1 λk ek hk=>⟨(sM hn hP.1 hf (ek▸hq.1.rest) el hk hz.2.1).plain,hz.2.2⟩)
  λ_=>(FO.E o).b λp hp=>(cT p.1.rest).or (λs es=>(i8 q.1.rest).b λn en=>ak λhb=>by
   have hq':=QV .none hq.2
   rw[<-en] at hq'
   have lt:n<s.length:=Rq hq' (eP hb)
   exact⟨(oz hn (es▸hp.1.rest) (en▸hq.1.rest) (LV (lT lt) (c:=s.getD n 0) (by rw[zO lt,Zd,zO lt];rfl))).plain,fy 1⟩)
   λ_=>(kc p.1.rest).b λl el=>(yI l _ _ (QV .none hq.2)).b λz hz=>bx hz.1 λk ek hk=>⟨(oz hn (el▸hp.1.rest) (ek▸hq.1.rest) (EG hk hz.2.1)).plain,hz.2.2⟩
omit O in
theorem yK (o:Option Expr):On (u9 U w X.C Y X.sc d o Z) (Ln F o):=by
 cases o with
 |none=>exact rfl
 |some e=>exact(FO.E e).b λp h=>(bQ p.1.rest).b λi hi=>⟨i,rfl,hi▸h.1.rest⟩
omit O in
theorem PR {o:Expr} {q:Option Expr×Option Expr} {p pos:Pos}:On (λz=>cO U w X.C Y X.sc d (.Subscript o (.Slice q.1 q.2 none p) pos) Z z.1 Z/\zK z.1<=z.2) (acD F o q):=
 (FO.E o).b λr hr=>(kc r.1.rest).b λl el=>ak λhz=>(yK FO q.1).b λlo ha=>(yK FO q.2).b λhi hb=>by
   have z:=QV .none hr.2
   rw[<-el] at z
   exact⟨Qu (el▸hr.1.rest) ha hb (bw z (bw (eP hz) (by decide))),bw (Iw l lo hi) z⟩
theorem Ep {a:Expr} {ops:List CmpOp} {bs:List Expr} {pos:Pos}:On (λc=>bu U w X.C Y X.sc d (.Compare a ops bs pos) Z c Z/\aC U w X.C Y X.sc d (.Compare a ops bs pos) Z (.bool c) Z) (XY X F a ops bs):=
 (bp ops).b λop h=>(bp bs).b λb h'=>h▸h'▸CE λhm=>(FO.E a).b λp h0=>(FO.E b).b λq h1=>(aY (X.B.cmp ..)).up λz hz=>⟨wZ h0.1.rest h1.1.rest (O.t.cmp _ _ _ _ hz) hm,wu h0.1.rest h1.1.rest (O.t.cmp _ _ _ _ hz) hm⟩
omit O in
theorem PM {es:List Expr} {pos:Pos}:On (λb=>bu U w X.C Y X.sc d (.BoolOp .And es pos) Z b Z) (XW F es):=
 List.rec (motive:=λes=>On (λb=>bu U w X.C Y X.sc d (.BoolOp .And es pos) Z b Z) (XW F es)) ji (λe _ ih=>(FO.T e).b λa h=>ih.or (λb k=>jh h (by cases a;exact⟨rfl,rfl⟩;exact k)) λ_=>CE λc=>jh h (by rw[c];exact⟨rfl,rfl⟩)) es
omit O in
theorem XZ {es:List Expr} {pos:Pos}:On (λb=>bu U w X.C Y X.sc d (.BoolOp .Or es pos) Z b Z) (oOr F es):=
 List.rec (motive:=λes=>On (λb=>bu U w X.C Y X.sc d (.BoolOp .Or es pos) Z b Z) (oOr F es)) td (λe _ ih=>(FO.T e).b λa h=>ih.or (λb k=>w2 h (by cases a;exact k;exact⟨rfl,rfl⟩)) λ_=>ak λc=>w2 h (by rw[c];exact⟨rfl,rfl⟩)) es
theorem PV {e:Expr}:On (λb=>bu U w X.C Y X.sc d e Z b Z) (acJ X Z F e):=
 (Ek e).or (λq h=>ak λc=>(FO.T q.2).b λp h'=>h▸rP c▸Fb h') λ_=>(rm e).or (λq h=>h▸by
   cases q.1
   ·exact PM FO
   ·exact XZ FO)
   λ_=>(vl e).or (λq h=>h▸(Ep O FO).up λ_ k=>k.1) λ_=>ak λhv=>(bZ O Z e).or (λp hP=>(aY (g9 Z p)).b λk hk=>(aY (ME k)).up λb hb=>Fc (k:=k) (λA G L s env ro eo R Q kk=>hP.1 A G L s env ro eo R _ λa t lS=>kk _ _ ((R.gZ lS ((cw ..).symm.trans hk)).mono (.refl G) (λ_ _ _ h=>h) (acS p))) hb (kn hv))
    λ_=>(FO.E e).b λp h=>(aY (mE p.1.rest)).up λb hb=>w5 h.1.rest hb (kn hv)
include B in
theorem acE {e:Expr}:On (λz=>cO U w X.C Y X.sc d e Z z.1 Z/\zK z.1<=z.2) (oE X Z β F e):=by
 cases e with
 |BinOp a op b pos=>exact(FO.E a).b λp hp=>(FO.E b).b λq hq=>(Eo (U:=U) (w:=w) (Y:=Y) p.1.rest q.1.rest p.2 q.2 (QV .none hp.2) (QV .none hq.2)).up λz hz=>⟨hz.1 hp.1.rest hq.1.rest,hz.2⟩
 |UnaryOp op a pos=>exact ak λc=>yf c▸(FO.E a).b λp hp=>(bQ p.1.rest).b λi hi=>⟨(EL (hi▸hp.1.rest)).plain,by
  have q:=QV .none hp.2
  rw[<-hi] at q
  exact bw (iU (Int.natAbs_neg i)) q⟩
 |IfExp t a b pos=>exact(FO.T t).b λc hc=>P5 ((FO.E a).b λp hp=>(FO.E b).b λq hq=>(PT c p q).up λz hz=>⟨sJ hc (hz.1▸by cases c;exact hq.1;exact hp.1),hz.2 hp.2 hq.2⟩) (d7 (λe=>(FO.E a).up λz h=>⟨sJ (c:=true) (e▸hc) h.1,h.2⟩) λe=>(FO.E b).up λz h=>⟨sJ (c:=false) (e▸hc) h.1,h.2⟩)
 |Compare a ops bs pos=>exact(Ep O FO).b λc h=>⟨h.2.plain,fy _⟩
 |Call f es ks pos=>exact Lj O FO B
 |Constant c k pos=>exact FG.b λp h=>⟨h,fy _⟩
 |Subscript o i pos=>exact(Hb i).or (λq h=>h▸PR FO) λ_=>PU O FO
 |Name x pos=>exact Lm O B
 |List es pos=>exact(Lh FO es).b λvs h=>ak λhz=>⟨y3 h (bw (eP hz) (by decide)),fy _⟩
 |Tuple es k pos=>exact(Lh FO es).b λvs h=>ak λhz=>⟨(uN h (bw (eP hz) (by decide))).plain,fy _⟩
 |_=>exact trivial
include B
omit FO
theorem yJ (n:Nat):ZP U w Y d X Z (oN X Z β n):=
 Nat.rec ⟨λ_=>trivial,λ_=>trivial⟩ (λ_ ih=>⟨λ_=>acE O ih B,λ_=>PV O ih⟩) n
end
def Ao (Z:aj) (x:Str) (l:List DV):aj:=⟨Z.aq,bS Z.loc x (.pv (.lst l))⟩
abbrev zF:=au×aj×iV
section
variable (X:Cx)
def oV (Z:aj) (β:iV):Expr->OV:=(oN X Z β 40).E
def Sd (x:Str) (v:Expr) (Z:aj) (β:iV):OV:=(gE v).bind λq=>(dY q.1).bind λy=>bif cU y x then((aT Z.loc x).bind vV).bind λl=>(oV X (Ao Z x l) β q.2.2).bind λr=>XX q.2.1 (.lst l) r.1.rest (NP β x l.length) r.2 else none
def acC (t v:Expr) (Z:aj) (β:iV):Option zF:=bif cZ v then(dY t).bind λx=>bif fP X x then(aZ (Sd X x v Z β) (oV X Z β v) some).bind λp=>some (.next,⟨Z.aq,bS Z.loc x p.1.slot⟩,bS β x p.2) else none else none
def acB (st:Stmt) (Z:aj) (β:iV):Option zF:=(jw X st Z).bind λq=>(oV X Z β q.2).bind λr=>((g9 Z q.1).bind vV).bind λl=>Pl.rec (motive:=λ_=>Option zF) (λx=>bif Nat.ble (NP β x l.length+1) 4000000 then some (.next,⟨Z.aq,bS Z.loc x (.ml (l++[r.1.rest]))⟩,bS β x (NP β x l.length+1)) else none) (λ_=>none) q.1
def Zu (ih:Stmt->aj->iV->Option zF) (l:List Stmt):aj->iV->Option zF:=List.rec (motive:=λ_=>aj->iV->Option zF) (λZ β=>some (.next,Z,β)) (λst _ go Z β=>(ih st Z β).bind λp=>bif p.1.p8 then some p else go p.2.1 p.2.2) l
def oS (ih:Stmt->aj->iV->Option zF) (st:Stmt) (Z:aj) (β:iV):Option zF:=
 @Stmt.casesOn (λ_=>Option zF) st (λ_ _ _ _ _ _ _ _ _ _=>none) (λ_ _ _ _ _ _ _ _ _ _=>none) (λ_ _ _ _ _ _ _ _ _ _ _=>none) (λo _=>o.bind λe=>(oV X Z β e).bind λp=>some (.ret p.1.rest,Z,β)) (λ_ _=>none) (λts v _=>(dM ts).bind λt=>acC X t v Z β) (λ_ _ _ _ _ _ _=>none) (λ_ _ _ _=>none) (λ_ _ _ _ _=>none)
  (λ_ _ _ _ _=>none) (λ_ _ _ _ _=>none) (λ_ _ _ _=>none) (λt b o _=>((oN X Z β 40).T t).bind λc=>bif c then Zu ih b Z β else Zu ih o Z β)
  (λ_ _ _=>none) (λ_ _ _=>none) (λ_ _ _=>none) (λ_ _ _=>none) (λ_ _ _ _ _=>none) (λ_ _ _ _ _=>none) (λ_ _ _=>none) (λ_ _=>none) (λ_ _ _ _=>none) (λ_ _=>none) (λ_ _=>none) (λ_ _=>acB X st Z β) (λ_=>some (.next,Z,β)) (λ_=>some (.brk,Z,β)) λ_=>some (.cont,Z,β)
def oX (n:Nat):Stmt->aj->iV->Option zF:=Nat.rec (λ_ _ _=>none) (λ_ ih=>oS X ih) n
end
section
variable {U:Program} {w:World} {Y:Base} {d:Nat} {X:Cx} (O:mR U w Y d X)
def pf {α:Type} (l:List (Str×α)) (x:Str) (v:α) (y:Str):aT (bS l x v) y=if y=x then some v else aT l y:=by rw[aG,bk,r7,aG]
def hZ.put {β β':iV} {loc:List (Str×ae)} {x:Str} {k:ae} (B:hZ β loc) (h:∀b,aT β' x=some b->M3 k<=b) (o:∀y,y≠x->aT β' y=aT β y):hZ β' (bS loc x k):=λy c k' e1 e2=>by
 rw[<-aG,pf,aG] at e2
 by_cases q:y=x
 ·rw[d8 q] at e2;exact eN e2▸h c (q▸e1)
 ·rw[dZ q] at e2;exact B y c k' (o y q▸e1) e2
def hZ.new {β:iV} {loc:List (Str×ae)} {x:Str} {k:ae} {b:Nat} (B:hZ β loc) (h:M3 k<=b):hZ (bS β x b) (bS loc x k):=
 B.put (λc e=>by rw[pf,d8 rfl] at e;exact eN e▸h) λy q=>by rw[pf,dZ q]
def EA {α:Type} (l:List (Str×α)) (x:Str) (a b:α):put (put l x a) x b=put l x b:=by
 induction l with
 |nil=>exact d8 rfl
 |cons p r ih=>
  show put (if p.1=x then(x,a)::r else p::put r x a) x b=if p.1=x then(x,b)::r else p::put r x b
  by_cases q:p.1=x
  ·rw[d8 q,d8 q];exact d8 rfl
  ·rw[dZ q,dZ q];exact(dZ q).trans (aQ _ ih)
include O
theorem uB {Z:aj} {β:iV} (B:hZ β Z.loc) (e:Expr):On (λz=>cO U w X.C Y X.sc d e Z z.1 Z/\zK z.1<=z.2) (oV X Z β e):=(yJ O B 40).E e
theorem Lk {x:Str} {v:Expr} {Z:aj} {β:iV} (B:hZ β Z.loc) (h1:fP X x=true):On (λz=>(∃k,cO U w X.C Y X.sc d v Z z.1 ⟨Z.aq,put Z.loc x k⟩)/\zK z.1<=z.2) (Sd X x v Z β):=
 (lM v).b λq hq=>(dp q.1).b λy hy=>ak λhs=>(i7 (aG ..)).b λl el=>have hx:=(bF _ _).mp hs
   have B':hZ β (Ao Z x l).loc:=B.put (λb e=>(show M3 (.ml l)<=b from B x b _ e el)) λ_ _=>rfl
   have e1:aC U w X.C Y X.sc d q.1 Z (.lst l) (Ao Z x l):=by
    have hy:.Name x q.1.pos=q.1:=hx▸hy
    unfold Ao
    rw[<-hy,bk];exact nj (aP h1) el (O.DK _ _ (aP h1))
   (uB O B' q.2.2).b λr hr=>(Eo (U:=U) (w:=w) (Y:=Y) (.lst l) r.1.rest _ r.2 (rk λb e=>(show M3 (.ml l)<=b from B x b _ e el)) (QV .none hr.2)).up λz hz=>⟨⟨.pv (.lst l),bk Z.loc x (.pv (.lst l))▸hq▸hz.1 e1 hr.1.rest⟩,hz.2⟩
theorem PO {t v:Expr} {pos:Pos} {Z:aj} {β:iV} (B:hZ β Z.loc):On (λq=>aU U w X.C Y X.sc d (.Assign [t] v pos) Z q.1 q.2.1/\hZ q.2.2 q.2.1.loc) (acC X t v Z β):=
 ak λhc=>(dp t).b λx hx=>hx▸ak λh1=>On.b (P:=λz=>aU U w X.C Y X.sc d (.Assign [.Name x t.pos] v pos) Z .next ⟨Z.aq,put Z.loc x z.1.slot⟩/\zK z.1<=z.2)
  ((Lk O B h1).or (λz hz=>⟨fk hz.1 λk h=>EA Z.loc x k z.1.slot▸gx h (aP h1) hc,hz.2⟩) λ_=>(uB O B v).up λz hz=>⟨gx hz.1 (aP h1) hc,hz.2⟩) λz hz=>⟨bk Z.loc x z.1.slot▸hz.1,B.new hz.2⟩
theorem PN {st:Stmt} {Z:aj} {β:iV} (B:hZ β Z.loc):On (λq=>aU U w X.C Y X.sc d st Z q.1 q.2.1/\hZ q.2.2 q.2.1.loc) (acB X st Z β):=
 (aY (jw X st Z)).b λq hq=>(uB O B q.2).b λr hr=>(i7 (cw ..)).b λl el=>by
   obtain⟨p,e⟩:=q
   cases p with
   |aq x=>exact trivial
   |loc x=>exact ak λh=>have z:l.length<=NP β x l.length:=rk λb e=>B x b _ e el
    ⟨bk Z.loc x (.ml (l++[r.1.rest]))▸xr O hq hr.1.rest el (bw (Rr z) (bw (eP h) (by decide))),B.new (bw (iU da) (Rr z))⟩
def D5 (X:Cx) (st:Stmt):Option (Str×Expr):=(ve st).bind λq=>(dM q.1).bind λt=>bif cZ q.2 then(dY t).bind λx=>bif fP X x then(gE q.2).bind λb=>(dY b.1).bind λy=>bif cU y x&&Nat.beq b.2.1.ctorIdx 0 then some (x,b.2.2) else none else none else none
theorem Jh (st:Stmt):On (λq=>∀{Z:aj} {l l':List DV},aT Z.loc q.1=some (.ml l)->aC U w X.C Y X.sc d q.2 (Ao Z q.1 l) (.lst l') (Ao Z q.1 l)->l.length+l'.length<=lim->aU U w X.C Y X.sc d st Z .next ⟨Z.aq,bS Z.loc q.1 (.ml (l++l'))⟩) (D5 X st):=
 (jR st).b λq h=>(bp q.1).b λt h1=>ak λhc=>(dp t).b λx hx=>ak λhl=>(lM q.2).b λb hb=>(dp b.1).b λy hy=>ak λhs {Z l l'} el he hz=>a2 (aw hs) λhs ho=>by
   have el:=(aG ..).symm.trans el
   have hy:.Name x b.1.pos=b.1:=(bF _ _).mp hs▸hy
   unfold Ao at he
   rw[bk] at he
   have e:=sH (pos:=q.2.pos) (nj (pos:=b.1.pos) (aP hl) el (O.DK _ _ (aP hl))) he hz
   rw[hy,opA ho,hb] at e
   have k:=λp=>gx (p:=t.pos) (pos:=p) e (aP hl) hc
   rw[hx,h1] at k
   exact fk h λp h=>by
    have k:=k p
    rw[h] at k
    rw[bk,<-EA Z.loc x (.pv (.lst l))]
    exact k
omit O in
theorem De {C:Nat} {sc:Scope} {x:Str} {l:List DV} {ss:List Stmt} {f:au} {Z ba:aj} (hx:aT Z.loc x=some (.ml l)) (h:aF U w C Y sc d ss (Ao Z x l) f ba):aF U w C Y sc d ss Z f ba:=λA G L s env ro eo R Q k=>by
 have hx:=(aG ..).symm.trans hx
 unfold Ao at h
 rw[bk] at h
 exact bx R.locs λm hm hs=>bx (hs.hit x _ hx) λu hu q=>gq q λa vs n q=>a5 q λe g hd hz o=>a3 (R.freeze hm hs hx (hu.trans (aQ some e)) g hd hz o.1 o.2) λh1 h2 _=>h A _ L s env ro eo h1 Q λG' r s' R' l'=>k G' r s' R' (h2.up.trans' l')
def acA (X:Cx) (st:Stmt) (Z:aj) (β:iV):Option (Str×List Nat×Nat×List DV):=(ve st).bind λq=>(dM q.1).bind λt=>bif cZ q.2 then(dY t).bind λx=>bif fP X x then(gE q.2).bind λb=>bif Nat.beq b.2.1.ctorIdx 0 then(oV X Z β b.1).bind λr=>bif Nat.ble r.2 2000000 then(iG r.1.rest).bind λs=>(PQ X Z (oN X Z β 40) b.2.2).bind λc=>some (x,s,c.1,c.2) else none else none else none else none
theorem PL {Z:aj} {β:iV} (B:hZ β Z.loc) (st:Stmt):On (λq=>∀r:List Nat,af U w X.C Y d (.ref q.2.2.1) q.2.2.2 [] none (.str r) none->r.length<=2000000->aU U w X.C Y X.sc d st Z .next ⟨Z.aq,bS Z.loc q.1 (.pv (.str (q.2.1++r)))⟩) (acA X st Z β):=
 (jR st).b λq h=>(bp q.1).b λt h1=>ak λhc=>(dp t).b λx hx=>ak λhl=>(lM q.2).b λb hb=>ak λho=>(uB O B b.1).b λz hz=>ak λh2=>(cT z.1.rest).b λs es=>(wa O (yJ O B 40) b.2.2).b λc hc' r hr rK=>by
   have zz:=QV .none hz.2
   rw[<-es] at zz
   have e:=me (pos:=q.2.pos) (es▸hz.1.rest) (hc' _ hr) (lN (UP (Nat.ble_eq_true_of_le (u4 (eP h2) (fy 2000000))) zz rK))
   rw[opA ho,hb] at e
   have k:=λp=>gx (p:=t.pos) (pos:=p) e.plain (aP hl) hc
   rw[hx,h1] at k
   exact fk h λp h=>by rw[bk];exact h▸k p
def S3 (U:Program) (w:World) (Y:Base) (d:Nat) (X:Cx) (ih:Stmt->aj->iV->Option zF):Prop:=∀st Z β,hZ β Z.loc->On (λq=>aU U w X.C Y X.sc d st Z q.1 q.2.1/\hZ q.2.2 q.2.1.loc) (ih st Z β)
omit O in
theorem CD {ih:Stmt->aj->iV->Option zF} (I:S3 U w Y d X ih) (l:List Stmt):∀Z β,hZ β Z.loc->On (λq=>aF U w X.C Y X.sc d l Z q.1 q.2.1/\hZ q.2.2 q.2.1.loc) (Zu ih l Z β):=
 List.rec (motive:=λl=>∀Z β,hZ β Z.loc->On (λq:zF=>aF U w X.C Y X.sc d l Z q.1 q.2.1/\hZ q.2.2 q.2.1.loc) (Zu ih l Z β)) (λ_ _ B=>⟨bA,B⟩) (λst r go Z β B=>(I st Z β B).b λp h=>d7 (λc=>⟨jd h.1 c,h.2⟩) λc=>(go p.2.1 p.2.2 h.2).up λ_ k=>⟨ao (kj c▸h.1) k.1,k.2⟩) l
omit O in
theorem Lo {ih:Stmt->aj->iV->Option zF} (I:S3 U w Y d X ih) {l':List Stmt} {aa ah:aj} {f:au} {SQ:iV} (k:aF U w X.C Y X.sc d l' aa f ah) (l:List Stmt):∀Z β,hZ β Z.loc->Zu ih l Z β=some (.next,aa,SQ)->aF U w X.C Y X.sc d (l++l') Z f ah:=by
 induction l with
 |nil=>exactλZ β _ h=>(show Z=aa from aQ (λq:zF=>q.2.1) (eN h))▸k
 |cons st l go=>
  exactλZ β B h=>bx (pR h) λp hp h=>by
   have q:=(I st Z β B).get hp
   revert h
   cases c:p.1.p8 with
   |true=>exactλh=>tf (c.symm.trans (aQ (λq:zF=>q.1.p8) (eN h)))
   |false=>exactλh=>ao (kj c▸q.1) (go p.2.1 p.2.2 q.2 h)
theorem Sf (n:Nat):S3 U w Y d X (oX X n):=
 Nat.rec (λ_ _ _ _=>trivial) (λ_ I st Z β B=>by
  cases st with
  |Assign ts v pos=>exact(bp ts).b λt h=>h▸PO O B
  |Expr v pos=>exact PN O B
  |If t b o pos=>exact((yJ O B 40).T t).b λc hc=>d7 (λe=>(CD I b Z β B).up λ_ k=>⟨qa (c:=true) (e▸hc) k.1,k.2⟩) λe=>(CD I o Z β B).up λ_ k=>⟨qa (c:=false) (e▸hc) k.1,k.2⟩
  |Return o pos=>exact(aY o).b λe h=>h▸(uB O B e).b λp h=>⟨sV h.1.rest,B⟩
  |Pass pos=>exact⟨E2,B⟩
  |Break pos=>exact⟨Mt,B⟩
  |Continue pos=>exact⟨EY,B⟩
  |_=>exact trivial) n
end
def fV (β:iV) (loc:List (Str×ae)):Prop:=List.rec (motive:=λ_=>Prop) True (λp _ ih=>Option.rec (motive:=λ_=>Prop) ih (λk=>M3 k<=p.2/\ih) (aT loc p.1)) β
def fV.ok {β:iV} {loc:List (Str×ae)} (h:fV β loc):hZ β loc:=by
 induction β with
 |nil=>exactλ_ _ _ e=>ns e
 |cons p β ih=>
  intro x b k e1 e2
  rw[aG,dj] at e1
  have h1:Option.rec (motive:=λ_=>Prop) (fV β loc) (λk=>M3 k<=p.2/\fV β loc) (aT loc p.1):=h
  by_cases q:p.1=x
  ·rw[d8 q] at e1
   rw[q,aG,e2] at h1
   exact eN e1▸h1.1
  ·rw[dZ q] at e1
   refine ih ?_ x b k ((aG ..).trans e1) e2
   cases c:aT loc p.1 with
   |none=>rw[c] at h1;exact h1
   |some k=>rw[c] at h1;exact h1.2
@[irreducible] def oR (H:Array Nat->Int) (n f:Nat) (l:List Stmt) (Z:aj) (β:iV):Option (au×aj):=(Zu (oX (eT H bY n f) 20) l Z β).map λq=>(q.1,q.2.1)
@[irreducible] def uA (H:Array Nat->Int) (n f:Nat) (e:Expr) (Z:aj) (β:iV):Option Bool:=(oN (eT H bY n f) Z β 40).T e
@[irreducible] def oK (H:Array Nat->Int) (n f:Nat) (e:Expr) (Z:aj) (β:iV):Option Res:=(oV (eT H bY n f) Z β e).map λq=>q.1
@[irreducible] def oAC (H:Array Nat->Int) (n f:Nat) (st:Stmt) (Z:aj) (β:iV):Option (Str×List Nat×Nat×List DV):=acA (eT H bY n f) st Z β
@[irreducible] def oAk (H:Array Nat->Int) (n f:Nat) (e:Expr) (Z:aj) (β:iV):Option (Nat×List DV):=PQ (eT H bY n f) Z (oN (eT H bY n f) Z β 40) e
section
variable {U:Program} {w:World} {Y:Base} {f:Nat} (hf:bc f vu=true) (hI:qi (KF (HH w)) f=some (FI (HH w) f)) {n:Nat} (T0:cQ (KF (HH w)) Y) (hl:bz Y) {Z:aj} {β:iV} (B:fV β Z.loc)
include hf hI T0 hl B
theorem wg {l:List Stmt} {fl:au} {ba:aj} (h:oR (HH w) n f l Z β=some (fl,ba)):aF U w 1521 Y (FI (HH w) f).sc n l Z fl ba:=by
 unfold oR at h
 exact bx (xn.mp h) λq e1 e2=>by
  have k:=((CD (Sf (zG (U:=U) hf hI T0 hl) 20) l Z β B.ok).get e1).1
  exact(show q.1=fl from aQ Prod.fst e2)▸(show q.2.1=ba from aQ Prod.snd e2)▸k
theorem hY {l l':List Stmt} {fl:au} {ba Rj:aj} (h:oR (HH w) n f l Z β=some (.next,ba)) (k:aF U w 1521 Y (FI (HH w) f).sc n l' ba fl Rj):aF U w 1521 Y (FI (HH w) f).sc n (l++l') Z fl Rj:=by
 unfold oR at h
 exact bx (xn.mp h) λq e1 e2=>Lo (SQ:=q.2.2) (Sf (zG (U:=U) hf hI T0 hl) 20) k l Z β B.ok (e1.trans (aQ some (show q=(.next,ba,q.2.2) from(show q.1=.next from aQ Prod.fst e2)▸(show q.2.1=ba from aQ Prod.snd e2)▸rfl)))
theorem wd {e:Expr} {c:Bool} (h:uA (HH w) n f e Z β=some c):bu U w 1521 Y (FI (HH w) f).sc n e Z c Z:=by
 unfold uA at h
 exact((yJ (zG (U:=U) hf hI T0 hl) B.ok 40).T e).get h
theorem sj {e:Expr} {r:Res} (h:oK (HH w) n f e Z β=some r):cO U w 1521 Y (FI (HH w) f).sc n e Z r Z:=by
 unfold oK at h
 exact bx (xn.mp h) λq e1 e2=>e2▸((uB (zG (U:=U) hf hI T0 hl) B.ok e).get e1).1
theorem Lu {e:Expr} {g:Nat} {vs:List DV} {r:DV} {m:Nat} (h:oAk (HH w) n f e Z β=some (g,vs)) (hc:af U w 1521 Y m (.ref g) vs [] none r none) (le:m<=n:=by decide):aC U w 1521 Y (FI (HH w) f).sc n e Z r Z:=by
 unfold oAk at h
 have k:=(wa (zG (U:=U) hf hI T0 hl) (yJ (zG (U:=U) hf hI T0 hl) B.ok 40) e).get h
 exact k r (hc.up le)
theorem yL {st:Stmt} {x:Str} {s r:List Nat} {g m:Nat} {vs:List DV} (h:oAC (HH w) n f st Z β=some (x,s,g,vs)) (hc:af U w 1521 Y m (.ref g) vs [] none (.str r) none) (hz:r.length<=2000000) (le:m<=n:=by decide):aU U w 1521 Y (FI (HH w) f).sc n st Z .next ⟨Z.aq,bS Z.loc x (.pv (.str (s++r)))⟩:=by
 unfold oAC at h
 have k:=(PL (zG (U:=U) hf hI T0 hl) B.ok st).get h
 exact k r (hc.up le) hz
omit B in
theorem GX {st:Stmt} {x:Str} {e:Expr} {l l':List DV} (h:(D5 (eT (HH w) bY n f) st,aT Z.loc x)=(some (x,e),some (.ml l))) (he:aC U w 1521 Y (FI (HH w) f).sc n e (Ao Z x l) (.lst l') (Ao Z x l)) (hz:l.length+l'.length<=lim):aU U w 1521 Y (FI (HH w) f).sc n st Z .next ⟨Z.aq,bS Z.loc x (.ml (l++l'))⟩:=
 (Jh (zG (U:=U) hf hI T0 hl) st).get (kS h).1 (kS h).2 he hz
end
structure tU (w:World) (Y:Base) (sc:Scope) (x:Str) (d:DV) (A:Around) (G:Gh) (s:Shared) (env:Env):Prop where
 ro:dI A 0
 V:G.V=Y.V
 pins:∀b o,G.g b=some o->s.heap.get? b=some o
 bas:∀b o,Y.hp.get? b=some o->G.g b=some o
 sc:env.scope=sc
 gl:env.globals=mainGlobals
 loc:∃m u,s.heap.Ns env.locals m/\m x=some u/\DR w.params G d u
structure ia (sc:Scope) (x:Str):Prop where
 kd:sc.kind=.function
 nm:∀y∈sc.names,y.2≠.free/\y.2≠.cell/\(y.2=.local->sc.names.lookup y.1=some .local)
 hx:sc.names.lookup x=some .local
 db:(x==("__debug__":Str))=false
def Ip (sc:Scope) (x:Str):Bool:=sc.names.all (λy=>!Nat.beq y.2.ctorIdx 2&&(!Nat.beq y.2.ctorIdx 1&&(!mX y.2||gY (aT sc.names y.1) mX)))&&(Nat.beq sc.kind.ctorIdx 1&&(gY (aT sc.names x) mX&&!cU x K3))
def D9 {l:List (Str×NameKind)} {x:Str} (h:gY (aT l x) mX=true):l.lookup x=some .local:=bx (dN h) λ_ e h=>(hA ..).symm.trans (e.trans (aQ some (o5 h).symm))
def FF {sc:Scope} {x:Str} (h:Ip sc x=true):ia sc x:=a2 (aw h) λh1 h=>a2 (aw h) λh2 h=>a2 (aw h) λh3 h4=>
 ⟨pW h2,λy m=>a2 (aw (gj.mp h1 y m)) λa b=>a2 (aw b) λb c=>⟨λe=>ft ((aQ (λk:NameKind=>!Nat.beq k.ctorIdx 2) e).symm.trans a),λe=>ft ((aQ (λk:NameKind=>!Nat.beq k.ctorIdx 1) e).symm.trans b),λe=>D9 (by rw[e] at c;exact c)⟩,D9 h3,HG.mpr (ja (iA h4))⟩
def ia.relabel {sc:Scope} {x:Str} (S:ia sc x) (env:Env):relabel sc env=sc:=by
 unfold PySem.relabel
 rw[show sc.names.map (λ(n,k)=>if(k==NameKind.free&&env.scope.kind==.function&&env.kindOf n==some .cell) then(n,NameKind.cell) else(n,k))=sc.names from(List.map_congr_left λy hy=>by
  show(if(y.2==NameKind.free&&env.scope.kind==.function&&env.kindOf y.1==some .cell)=true then(y.1,NameKind.cell) else(y.1,y.2))=id y
  rw[HG.mpr (S.nm y hy).1];rfl).trans (List.map_id _)]
section
variable (U:Program) (w:World) (Y:Base) (sc:Scope) (x:Str)
def f6 (e:Expr) (d d':DV):Prop:=∀(A:Around) (G:Gh) (s:Shared) (env:Env),tU w Y sc x d A G s env->∀Q:Value->Shared->Prop,(∀y t,DR w.params G d' y->Q y {s with toks:=t})->WP U w A (eval e env) s Q
def qW (e:Expr) (d:DV) (b:Bool):Prop:=∀(A:Around) (G:Gh) (s:Shared) (env:Env),tU w Y sc x d A G s env->∀Q:Bool->Shared->Prop,(∀t,Q b {s with toks:=t})->WP U w A (isTrue e env (eval e env)) s Q
end
section
variable {U:Program} {w:World} {Y:Base} {sc:Scope} {x:Str} {K:Frag} {p:Pos} {d u v z:DV} {a b:Expr}
def tU.tk {A:Around} {G:Gh} {s:Shared} {env:Env} (c:tU w Y sc x d A G s env) (t:Nat):tU w Y sc x d A G {s with toks:=t} env:=⟨c.ro,c.V,c.pins,c.bas,c.sc,c.gl,c.loc⟩
def UJ (S:ia sc x):f6 U w Y sc x (.Name x p) d d:=λA G s env c Q k=>xf c.loc λm u hn hm du=>wpAny_Name (wpAny_loadName_local (m:=m) (v:=u) (by rw[c.sc];exact S.kd) (by rw[Env.kindOf,c.sc];exact S.hx) hn hm (k u s.toks du)) S.db
def abF {i:Int} {k:Nat}:f6 U w Y sc x (.Constant (.int i) k p) d (.int i):=λ_ _ _ _ _ _ k _ _ _=>k _ _ ⟨_,rfl⟩
def abG {y:Str} {k:Nat} (h:y.cps.toList.length<=lim):f6 U w Y sc x (.Constant (.str y) k p) d (.str y.cps.toList):=λ_ _ _ _ _ _ k _ _ _=>k _ _ ⟨_,rfl,h⟩
def abD {op:Operator} (ha:f6 U w Y sc x a d u) (hb:f6 U w Y sc x b d v) (h:qf U w op u v z):f6 U w Y sc x (.BinOp a op b p) d z:=λA G s env c Q k=>
 wpAny_BinOp (ha A G s env c _ λr t d1=>hb A G _ env (c.tk t) _ λr' t' d2=>h A G _ r r' c.ro d1 d2 _ λr3 t3 d3=>k r3 t3 d3)
def UH (T:cQ K Y) {y:Str} {v:Value} (hk:sc.kind=.function) (hy:sc.names.lookup y=some .globalImplicit) (e:nsIn K mainGlobals y=some (some v)) (hd:(y==("__debug__":Str))=false) (hv:∀G:Gh,(∀b o,Y.hp.get? b=some o->G.g b=some o)->DR w.params G u v):f6 U w Y sc x (.Name y p) d u:=λA G s env c Q k=>
 T.glob.elim λmg hg=>Name_function_global (by rw[c.sc];exact hk) (by rw[Env.kindOf,c.sc];exact hy) (loadGlobal_global (by rw[c.gl];exact hg.keeps λb o q=>c.pins b o (c.bas b o q)) (mg_of T.Jz hg e) (k v s.toks (hv G c.bas))) hd
def abH (F1:eG b=true) (ha:f6 U w Y sc x a d u) (hb:f6 U w Y sc x b d v) (h:qg U w Y.V u v z):f6 U w Y sc x (.Subscript a b p) d z:=λA G s env c Q k=>
 hM F1 (ha A G s env c _ λr t d1=>hb A G _ env (c.tk t) _ λr' t' d2=>xf (h A G _ r r' c.ro c.V (c.tk t').pins d1 d2) λT id u1 u2 u3=>⟨T,id,u1,u2,u3 _ λr3 t3 d3=>k r3 t3 d3⟩)
def abE {op:CmpOp} {c:Bool} (ha:f6 U w Y sc x a d u) (hb:f6 U w Y sc x b d v) (h:fi U w Y.V op u v c) (hm:behindInMarks op b=false):qW U w Y sc x (.Compare a [op] [b] p) d c:=λA G s env ca Q k=>
 wpAny_isTrue_Compare1 (ha A G s env ca _ λr t d1=>hb A G _ env (ca.tk t) _ λr' t' d2=>h A G _ r r' ca.ro ca.V (ca.tk t').pins d1 d2 _ λt3=>Zh (k t3)) hm
end
def xT (v:Value):DV:=@Value.casesOn (λ_=>DV) v .none .none .none (λ_=>.none) (λi _=>.int i) (λ_ _=>.none) (λs _=>.str s.cps.toList) (λ_ _=>.none) (λ_=>.none) (λ_=>.none) λ_=>.none
def rG (d:DV):Bool:=Nat.beq d.ctorIdx 4||Nat.beq d.ctorIdx 5
def DN {P:Params} {G:Gh} {d:DV} {v:Value} (h:rG d=true) (k:DR P G d v):xT v=d:=by
 cases d<;>first|exact ft h|exact k.fS λt=>rfl|exact k.gi λt _=>rfl
def TO {P:Params} {G:Gh} {l:List DV} {vs:List Value} (h:eC P G l vs) (hf:∀v∈l,rG v=true):l=vs.map xT:=by
 induction h with
 |nil=>rfl
 |cons a _ ih=>exact(aQ (_::·) (ih λv m=>hf v (.tail _ m))).trans (aQ (· ::_) (DN (hf _ (.head _)) a).symm)
def Lw {P:Params} {G:Gh} {g:DV->DV} {vs ys:List Value} (h:Paired (λv y=>DR P G (g (xT v)) y) vs ys):eC P G ((vs.map xT).map g) ys:=by
 induction h with
 |nil=>exact .nil
 |cons a _ ih=>exact .cons a ih
def vn {M:Model} {A:Around} {c:Code} {Q:Result->Shared->Prop} {s:Shared} (h:codeAny M A c (λr s'=>Grows s.heap s'.heap->Q r s') s):codeAny M A c Q s:=λΓ p hc hΓ=>mw (h Γ p hc hΓ) λr s' hr k=>⟨r,s',hr,k (mc hr)⟩
section
variable {U:Program} {w:World} {C:Nat} {K:Frag} {Y:Base} {sc rB:Scope} {d:Nat} {Z aa:aj} {A:Around} {G:Gh} {L:Addr} {s:Shared} {env:Env} {elt iter:Expr} {x y:Str} {px py pos Yy:Pos} {ifs:List Expr} {l:List DV} {p:DV->Bool} {g:DV->DV}
def t7 {use:Option (Value->Sem Unit)} {Q:Value->Shared->Prop} {fp:Pos} {a:Addr} {vs:List Value} {n:Nat} (S:ia rB x) (ro:dI A d) (eo:cN sc L env) (R:Rep w.params C Y G L Z s) (hg:G.g a=some (bG vs n)) (hd:eC w.params G l vs) (hz:l.length<=lim) (MY:∀v∈l,rG v=true) (hs:∀env u,foldedSetIterable iter env u=pure u)
    (ht:(ifs=[]/\∀v,p v=true)\/∃t,ifs=[t]/\∀v∈l,qW U w Y rB x t v (p v)) (he:∀v∈l,p v=true->f6 U w Y rB x elt v (g v))
    (fin:∀D C' h' tk m m' ys,s.heap.get? D=none->s.heap.get? C'=none->D≠C'->h'.Ns C' m'->h'.get? D=some (bG ys m)->eC w.params G ((l.filter p).map g) ys->(∀b o,s.heap.get? b=some o->h'.get? b=some o)->Grows s.heap h'->compPost (model U w) A (λ_ _=>False) use Q (.ref D) C' (.ok .next) {s with heap:=h',toks:=tk}):
    WP U w A (comprehension (.ListComp elt [⟨.Name x px,iter,ifs,0⟩] rB pos) rB env fp (newList []) false (pure (.ref a)) use) s Q:=by
 have el:=TO hd MY
 have zz:vs.length<=lim:=hd.length▸hz
 have hp:=R.pins _ _ hg
 have lt:=u0 hp
 have up:∀b o,s.heap.get? b=some o->(s.heap.push {cls:=.type "list_iterator",data:=.fields #[.ref a,.int 0 0]}).get? b=some o:=λb o e=>MT _ e
 have old:∀b o,s.heap.get? b=some o->b ∉ [s.heap.objs.size]:=λb o e m=>absurd (u0 e) (by rw[List.mem_singleton.mp m];exact Nat.lt_irrefl _)
 have gone:∀b,(s.heap.push {cls:=.type "list_iterator",data:=.fields #[.ref a,.int 0 0]}).get? b=none->s.heap.get? b=none:=λb e=>by
  cases q:s.heap.get? b with
  |none=>rfl
  |some o=>exact sn ((up b o q).symm.trans e)
 have at_:∀(C':Addr) (i:Nat) (v:Value) (cB:Shared) (yt:Str->Option Value),(⟨vs⟩:Array Value)[i]?=some v->cB.heap.Ns C' yt->yt x=some v->(∀b o,b ∉ [s.heap.objs.size]->(s.heap.push {cls:=.type "list_iterator",data:=.fields #[.ref a,.int 0 0]}).get? b=some o->cB.heap.get? b=some o)->xT v∈l/\tU w Y rB x (xT v) A G cB (compEnvC rB [] C' env):=λC' i v cB yt hP hn hm hk=>by
  have hP:vs[i]?=some v:=by simpa using hP
  have lt:i<l.length:=by rw[hd.length];exact(M8.mp hP).1
  have hit:=zO lt
  exact bx (hd.at i _ hit) λu e q=>by
   cases hP.symm.trans e
   have e:=DN (MY _ (List.getElem_mem lt)) q
   exact⟨e▸List.getElem_mem lt,ro.low,R.val,λb o e=>hk b o (old b o (R.pins b o e)) (up b o (R.pins b o e)),R.dU,S.relabel env,eo.globals,yt,v,hn,hm,fb e▸q⟩
 have gp:=Grows.push s.heap {cls:=.type "list_iterator",data:=.fields #[.ref a,.int 0 0]}
 refine wpAny_comprehension_free rfl (hs env) (closureFor_none λy m=>(S.nm y m).1) S.kd (λy m=>(S.nm y m).2.2) (k5 (wpAny_pyIter_list (items:=⟨vs⟩) ⟨_,hp,rfl,n,rfl⟩ ?_))
 refine e8 (wpAny_mono (comp_block_walkC (env:=env) (cl:=[]) (ifs:=ifs) (RR:=λacc C' r s'=>Grows s.heap s'.heap->compPost (model U w) A (λ_ _=>False) use Q acc C' r s') (Walks.list ro.handled s.heap.objs.size a (Fo lt) ⟨vs⟩) (cK zz) (λv=>p (xT v)) (λv y=>DR w.params G (g (xT v)) y) (λy m=>(S.nm y m).2.1) S.kd S.hx ⟨⟨_,Hu _ rfl,rfl,rfl⟩,⟨_,up _ _ hp,rfl,n,rfl⟩⟩
  (e9.mpr ⟨by rw[M7];exact MV _,e9.mpr ⟨qu lt gp.size,qT _⟩⟩) ⟨λC' i v cB yt E' _ hP hn hm hk _=>?_,λC' i v cB yt E' _ hP hpv hn hm hk _=>?_⟩ λD C' h' tk m' ys HF hD hC hDC hn hL hPl hvl hvP hPr hk gr=>?_)
  (λacc cB vG agN=>e8 (wpAny_mono vG (λakK pK ahj agO=>vn (codeAny_mono ahj λr adF ahk agP=>ahk (gp.trans (agN.trans (agO.trans agP))))) λ_ _ e=>e)) λ_ _ e=>e)
 ·have c:=at_ C' i v cB yt hP hn hm hk
  rcases ht with q|⟨t,et,q⟩
  ·rw[q.1];exact k5 ⟨(q.2 _).symm,cB.heap,cB.toks,rfl,λ_ _ e=>e⟩
  ·rw[et,List.forIn_cons]
   refine eO ?_
   rw[d8 rfl]
   refine eO (WP.to (q _ c.1 A G cB _ c.2 _ λtt=>?_))
   exact k5 (k5 ⟨rfl,cB.heap,tt,rfl,λ_ _ e=>e⟩)
 ·exact a2 (at_ C' i v cB yt hP hn hm hk) λzH c=>(he _ zH hpv A G cB _ c _ λy tt dy=>⟨dy,cB.heap,tt,rfl,λ_ _ e=>e⟩).to
 ·have ev:HF=vs:=List.ext_getElem? λj=>by
   cases q:HF[j]? with
   |none=>exact(List.getElem?_eq_none_iff.mpr (bw (iU (hvl:HF.length=vs.length).symm) (List.getElem?_eq_none_iff.mp q))).symm
   |some v=>exact(by simpa using(hvP j v q:(⟨vs⟩:Array Value)[j]?=some v):vs[j]?=some v).symm
  rw[ev] at hPr
  exact fk hPl λmm hm=>fin D C' h' tk mm m' ys.toList (gone _ hD) (gone _ hC) hDC hn hm (by
   rw[el,List.filter_map];exact Lw hPr) (λb o e=>hk b o (old b o e) (up b o e)) gr
def L3 (p:DV->Bool) (g:DV->DV) (S:ia rB x) (hz:l.length<=lim) (MY:∀v∈l,rG v=true) (hi:aC U w C Y sc d iter Z (.lst l) aa) (hs:∀env u,foldedSetIterable iter env u=pure u)
    (ht:(ifs=[]/\∀v,p v=true)\/∃t,ifs=[t]/\∀v∈l,qW U w Y rB x t v (p v)) (he:∀v∈l,p v=true->f6 U w Y rB x elt v (g v)):
    cO U w C Y sc d (.ListComp elt [⟨.Name x px,iter,ifs,0⟩] rB pos) Z (.fl ((l.filter p).map g)) aa:=λA G L s env ro eo R Q k=>by
 rw[eval_ListComp]
 exact eO (hi A G L s env ro eo R _ λaz u ax aB aH aV=>aV.lu λa vs n hg _ hd=>t7 S ro eo aB hg hd hz MY hs ht he λD C' h' tk m m' ys hD hC hDC hn hm hy hk gr=>⟨m',hn,λFZ Av=>
  made (s:=ax) (h':=FZ) (t:=tk) aB aH (λb o e=>Av.extBut b o (λq=>sn (e.symm.trans (q▸hC))) (hk b o e)) (bw gr.size (iU Av.1.symm)) (gr.new hD hm) (Av.extBut _ _ hDC hm) hy (bw (iU hy.length.symm) (bw (iU (mG ..)) (bw (List.length_filter_le p l) hz))) k⟩)
def Aa (sc rB:Scope) (y:Str) (py pos:Pos):Bool:=sc.names.lookup y==some .local&&(py.line==pos.line&&!(rB.names.any λ(n,k)=>n==y&&(k==.local||k==.cell)))
def QP (p:DV->Bool) (g:DV->DV) (S:ia rB x) (lS:Aa sc rB y py pos=true) (hz:l.length<=lim) (MY:∀v∈l,rG v=true) (hi:aC U w C Y sc d iter Z (.lst l) aa) (hs:∀env u,foldedSetIterable iter env u=pure u)
    (ht:(ifs=[]/\∀v,p v=true)\/∃t,ifs=[t]/\∀v∈l,qW U w Y rB x t v (p v)) (he:∀v∈l,p v=true->f6 U w Y rB x elt v (g v)):
    aU U w C Y sc d (.Assign [.Name y py] (.ListComp elt [⟨.Name x px,iter,ifs,0⟩] rB pos) Yy) Z .next {aa with loc:=put aa.loc y (.ml ((l.filter p).map g))}:=λA G L s env ro eo R Q k=>a2 (aw lS) λh1 h2=>a2 (aw h2) λh2 h3=>by
 have hy:=iI.mp h1
 have hsw:swapsWith (.ListComp elt [⟨.Name x px,iter,ifs,0⟩] rB pos) (some (.Name y py)) Yy.line env=pure true:=by
  have e1:(env.blockKind==.function)=true:=by unfold Env.blockKind;rw[eo.scope,eo.kind];rfl
  have e2:(env.kindOf y==some .local)=true:=by unfold Env.kindOf;rw[eo.scope,hy];rfl
  show(pure (env.blockKind==.function&&env.kindOf y==some .local&&py.line==pos.line&&!(rB.names.any λ(n,k)=>n==y&&(k==.local||k==.cell))):Sem Bool)=pure true
  rw[e1,e2,h2,h3];rfl
 show WP U w A (exec (.Assign [.Name y py] (.ListComp elt [⟨.Name x px,iter,ifs,0⟩] rB pos) Yy) env) s _
 rw[exec_Assign_Name_used _ _ _ _ hsw]
 refine eO (Rt (eO ?_))
 show WP U w A ((eval iter env >>= λu=>comprehension (.ListComp elt [⟨.Name x px,iter,ifs,0⟩] rB pos) rB env (firstIterPos [⟨.Name x px,iter,ifs,0⟩] pos) (newList []) false (pure u) (some (assign (.Name y py) env))) >>= λ_=>pure ()) s _
 refine eO (eO (hi A G L s env ro eo R _ λaz u ax aB aH aV=>aV.lu λa vs n hg _ hd=>?_))
 refine t7 S ro eo aB hg hd hz MY hs ht he λD C' h' tk m m' ys hD hC hDC hn hm hy' hk gr=>fk hn λoC z=>cV z λ_ _ z=>?_
 have hD':=gr.new hD hm
 have hC':=gr.new hC z.1
 have f:=aB.fresh hD'
 have fC:=aB.fresh hC'
 have q:=jQ.grown (tk:=tk) aB hk gr.size
 have XI:¬(own az D).O C':=λz=>z.elim fC.1 λz=>z.elim fC.2.1 λe=>hDC e.symm
 have zz:ys.length<=lim:=bw (iU hy'.length.symm) (bw (iU (mG ..)) (bw (List.length_filter_le p l) hz))
 show WP U w A (assign (.Name y py) env (.ref D)) {ax with heap:=h',toks:=tk} _
 exact SV (nt (kk:=.ml ((l.filter p).map g)) eo (q.1.own f.1 f.2.2 (u0 hm)) hy ⟨D,ys,m,rfl,hm,hy'.mono (oi D),zz,.inr rfl,λe=>f.2.1 (e▸aB.fB)⟩
  (λm hm _ y ky _ e km z=>bx q.1.locs λm' zH hs=>hs.CB (λo=>f.2.1 o.1) y ky e km (oh hm zH▸z)) λay cF cL=>⟨m',hn.at λo e=>cL.kept C' o e XI,λFZ Av=>
  have kp:∀b o,¬b=C'->ay.heap.get? b=some o->FZ.get? b=some o:=λb o n e=>Av.extBut b o n e
  k5 (k5 (k (own az D) _ {ay with heap:=FZ} (cF.keep (λb o g=>kp b o λe=>sn (g.symm.trans (e▸fC.2.2))) (λb o g=>kp b o λe=>XI (e▸g)) (iU Av.1.symm))
   ((((aH.up.trans' q.2.up).own (bw aH.size hD')).trans' cL).acL (W:=λb=>b=C') cF (λb e g=>XI (e▸.inl g)) (λb e=>fb e▸bw aH.size hC') kp (iU Av.1.symm) rfl rfl) rfl))⟩)
end
def lcE:Expr->Option (Expr×List Comprehension×Scope):=iQ Expr.ctorIdx 8 λe h=>@Expr.ListComp.elim (λ_=>Expr×List Comprehension×Scope) e h λa g s _=>(a,g,s)
def UL:∀e:Expr,On (λq=>.ListComp q.1 q.2.1 q.2.2 e.pos=e) (lcE e):=eK (P:=λe (q:Expr×List Comprehension×Scope)=>.ListComp q.1 q.2.1 q.2.2 e.pos=e) λe h=>@Expr.ListComp.elim (λe=>∀h,(λq:Expr×List Comprehension×Scope=>Expr.ListComp q.1 q.2.1 q.2.2 e.pos) (@Expr.ListComp.elim (λ_=>Expr×List Comprehension×Scope) e h λa g s _=>(a,g,s))=e) e h (λ_ _ _ _ _=>rfl) h
def fS (e:Expr):Option Int:=(iQ Expr.ctorIdx 19 (λe h=>@Expr.Constant.elim (λ_=>Const) e h λc _ _=>c) e).bind (iQ Const.ctorIdx 2 λc h=>@Const.int.elim (λ_=>Int) c h id)
def O3 (e:Expr):On (λx=>∃k p,.Constant (.int x) k p=e) (fS e):=
 (eK (P:=λe c=>∃k p,Expr.Constant c k p=e) (λe h=>@Expr.Constant.elim (λe=>∀h,∃k p,Expr.Constant (@Expr.Constant.elim (λ_=>Const) e h λc _ _=>c) k p=e) e h (λ_ k p _=>⟨k,p,rfl⟩) h) e).b λc h=>
   (cH Const.int (λv h=>@Const.int.elim (λv=>∀h,Const.int (@Const.int.elim (λ_=>Int) v h id)=v) v h (λ_ _=>rfl) h) c).up λx e=>cV h λk p h=>⟨k,p,e▸h⟩
structure CQ where
 elt:Expr
 x:Str
 iter:Expr
 ifs:List Expr
 sc:Scope
def cq0:CQ:=⟨default,default,default,[],default⟩
def xQ (e:Expr):Option CQ:=(lcE e).bind λq=>(dM q.2.1).bind λg=>(dY g.target).bind λx=>bif decide (g.is_async=0) then bif Ip q.2.2 x then bif !Nat.beq g.iter.ctorIdx 7 then some ⟨q.1,x,g.iter,g.ifs,q.2.2⟩ else none else none else none
structure ZN (e:Expr) (q:CQ):Prop where
 S:ia q.sc q.x
 set:∀env u,foldedSetIterable q.iter env u=pure u
 eq:∃px,.ListComp q.elt [⟨.Name q.x px,q.iter,q.ifs,0⟩] q.sc e.pos=e
def Iq (g:Comprehension):Comprehension.mk g.target g.iter g.ifs g.is_async=g:=by cases g;rfl
def rx (e:Expr):On (ZN e) (xQ e):=(UL e).b λq h=>(bp q.2.1).b λg hg=>(dp g.target).b λx hx=>ak λh1=>ak λh2=>ak λh3=>⟨FF h2,λenv u=>by cases hh:g.iter<;>first|(rw[hh] at h3;exact ft h3) |rfl,g.target.pos,by
 have e0:(⟨g.target,g.iter,g.ifs,0⟩:Comprehension)=g:=(aQ (Comprehension.mk g.target g.iter g.ifs) (mQ h1).symm).trans (Iq g)
 show Expr.ListComp q.1 [⟨.Name x g.target.pos,g.iter,g.ifs,0⟩] q.2.2 e.pos=e
 rw[hx,e0,hg];exact h⟩
def nH (sc:Scope) (st:Stmt):Option (Str×CQ):=(ve st).bind λq=>(dM q.1).bind λt=>(dY t).bind λy=>(xQ q.2).bind λz=>bif Aa sc z.sc y t.pos q.2.pos then some (y,z) else none
def xR (sc:Scope) (st:Stmt):On (λq=>∃py e p,.Assign [.Name q.1 py] e p=st/\ZN e q.2/\Aa sc q.2.sc q.1 py e.pos=true) (nH sc st):=
 (jR st).b λq h=>(bp q.1).b λt ht=>(dp t).b λy hy=>(rx q.2).b λz hz=>ak λhc=>fk h λp h=>⟨t.pos,q.2,p,by rw[hy,ht];exact h,hz,hc⟩
section
variable {U:Program} {w:World} {C:Nat} {Y:Base} {sc:Scope} {d:Nat} {Z aa:aj} {l:List DV} {x:Str} {dv u v z:DV} {e:Expr}
def ry {st:Stmt} {q:Str×CQ} (h:nH sc st=some q) (p:DV->Bool) (g:DV->DV) (hz:l.length<=lim) (MY:∀v∈l,rG v=true) (hi:aC U w C Y sc d q.2.iter Z (.lst l) aa) (ht:(q.2.ifs=[]/\∀v,p v=true)\/∃t,q.2.ifs=[t]/\∀v∈l,qW U w Y q.2.sc q.2.x t v (p v)) (he:∀v∈l,p v=true->f6 U w Y q.2.sc q.2.x q.2.elt v (g v)):
    aU U w C Y sc d st Z .next ⟨aa.aq,bS aa.loc q.1 (.ml ((l.filter p).map g))⟩:=by
 exact gq ((xR sc st).get h) λpy e p0 c=>a3 c λc1 c2 c3=>fk c2.eq λpx e2=>by
  rw[<-c1,bk]
  rw[<-e2] at c3 ⊢
  exact QP p g c2.S c3 hz MY hi c2.set ht he
def rz {st:Stmt} {q:Str×CQ} (h:nH sc st=some q):ia q.2.sc q.2.x:=gq ((xR sc st).get h) λ_ _ _ c=>c.2.1.S
def vO (S:ia sc x) (h:dY e=some x):f6 U w Y sc x e dv dv:=(dp e).get h▸UJ S
def UI {i:Int} (h:fS e=some i):f6 U w Y sc x e dv (.int i):=cV ((O3 e).get h) λ_ _ h=>h▸abF
def UK {y:Str} (h:gi e=some y) (hz:y.cps.toList.length<=lim):f6 U w Y sc x e dv (.str y.cps.toList):=cV ((wG e).get h) λ_ _ h=>h▸abG hz
def UE {q:Expr×Operator×Expr} (h:gE e=some q) (ha:f6 U w Y sc x q.1 dv u) (hb:f6 U w Y sc x q.2.2 dv v) (ho:qf U w q.2.1 u v z):f6 U w Y sc x e dv z:=(lM e).get h▸abD ha hb ho
end
section
variable {P:Prop} {α β γ δ ε:Type} {a a':α} {b b':β} {c c':γ} {d d':δ} {e e':ε}
def j2 (h:(a,b)=(a',b')) (k:a=a'->b=b'->P):P:=k (kS h).1 (kS h).2
def j3 (h:(a,b,c)=(a',b',c')) (k:a=a'->b=b'->c=c'->P):P:=j2 h λx h=>j2 h (k x)
def j4 (h:(a,b,c,d)=(a',b',c',d')) (k:a=a'->b=b'->c=c'->d=d'->P):P:=j2 h λx h=>j3 h (k x)
def j5 (h:(a,b,c,d,e)=(a',b',c',d',e')) (k:a=a'->b=b'->c=c'->d=d'->e=e'->P):P:=j2 h λx h=>j4 h (k x)
end
def nG (e:Expr):Option (Expr×CmpOp×Expr):=(N5 e).bind λq=>(dM q.2.1).bind λop=>(dM q.2.2).bind λb=>bif behindInMarks op b then none else some (q.1,op,b)
def qC (e:Expr):On (λq=>.Compare q.1 [q.2.1] [q.2.2] e.pos=e/\behindInMarks q.2.1 q.2.2=false) (nG e):=(vl e).b λq h=>(bp q.2.1).b λop h1=>(bp q.2.2).b λb h2=>CE λh3=>⟨show Expr.Compare q.1 [op] [b] e.pos=e from h1▸h2▸h,h3⟩
def tP (e:Expr):Option (Expr×Expr):=(uR e).bind λq=>bif eG q.2 then some q else none
def wI (e:Expr):On (λq=>.Subscript q.1 q.2 e.pos=e/\eG q.2=true) (tP e):=(lH e).b λ_ h=>ak λh'=>⟨h,h'⟩
section
variable {U:Program} {w:World} {C:Nat} {K:Frag} {Y:Base} {sc:Scope} {d:Nat} {Z aa ah:aj} {e:Expr}
def and_cons {es:List Expr} {p:Pos} {c b:Bool} (h:bu U w C Y sc d e Z c Z) (k:c=true->bu U w C Y sc d (.BoolOp .And es p) Z b Z):bu U w C Y sc d (.BoolOp .And (e::es) p) Z (c&&b) Z:=jh h (by cases c;exact⟨rfl,rfl⟩;exact k rfl)
def Hr {q:BoolOp×List Expr} {b:Bool} (h:k9 e=some q) (k:bu U w C Y sc d (.BoolOp q.1 q.2 e.pos) Z b Z):bu U w C Y sc d e Z b Z:=(rm e).get h▸k
def tc {q:Expr×CmpOp×Expr} {x y:DV} {c:Bool} (h:nG e=some q) (ha:aC U w C Y sc d q.1 Z x aa) (hb:aC U w C Y sc d q.2.2 aa y ah) (hc:fi U w Y.V q.2.1 x y c):bu U w C Y sc d e Z c ah:=a2 ((qC e).get h) λh m=>h▸wZ ha hb hc m
def y5 {q:Expr×Expr} {x y z:DV} (h:tP e=some q) (cf:aC U w C Y sc d q.1 Z x aa) (cP:aC U w C Y sc d q.2 aa y ah) (hs:qg U w Y.V x y z):aC U w C Y sc d e Z z ah:=a2 ((wI e).get h) λh m=>h▸oz m cf cP hs
def y6 {A:Around} {E:Value->Shared->Prop} {s:Shared} {l:Addr} {items:Array Value} {k:Int} {t:Tok} {v:Value} {Q:Unit->Shared->Prop} (hl:s.heap.IsList l items) (h0:k<0) (h1:-(items.size:Int)<=k) (agV:-(2 ^ 63)<=k)
    (hQ:Q () {s with heap:=s.heap.update l (Obj.mapSeq (·.setIfInBounds (k+items.size).toNat v))}):wpAny (model U w) A (setItem (.ref l) (.int k t) v) Q E s:=by
 obtain⟨o,ho,hc,ne,hd⟩:=id hl
 have hj:(k+items.size).toNat<items.size:=by lia
 unfold setItem
 try with_reducible refine Nc ?_
 first|refine eO (k5 ?_) |skip
 refine eO (wpAny_sequenceKey hl.typeIs (by decide) ?_)
 refine eO (wpAny_callSpecial?_slot (name:=Str.ofString "__setitem__") hl.typeIs PySem.F.slot_list_setitem
  (wpAny_call_entry PySem.F.slot_list_setitem hl.typeIs PySem.F.entry_list_setitem ?_ (args_list_setitem _ _ _)))
 show wpAny _ _ (Builtin.List.listSubscript? (.int k t) >>= _) _ _ s
 refine eO (wpAny_listSubscript_int (fitsIndex_neg h0 agV) ?_)
 have agY:=seqIndex_neg h0 h1
 obtain⟨j,rfl⟩:∃j:Nat,k=Int.negSucc j:=by
  cases k with
  |ofNat n=>exact absurd h0 (Int.not_lt.mpr (MU n))
  |negSucc n=>exact⟨n,rfl⟩
 show wpAny _ _ ((Builtin.List.listItems (.ref l) >>= λxs=>pure ((seqIndex? (Int.negSucc j) xs.size).bind λi=>xs[i]?.map (i,·))) >>= _) _ _ s
 refine eO (eO ?_)
 show wpAny _ _ (seqItems? (.ref l) >>= _) _ _ s
 refine eO (wpAny_seqItems ho hd (k5 (k5 ?_)))
 rw[agY]
 simp only[Option.bind_some,Array.getElem?_eq_getElem hj,Option.map_some]
 show wpAny _ _ (setSeqItemAt l _ v >>= _) _ _ s
 refine eO (wpAny_setSeqItemAt ho hd ?_)
 first
  |exact eO (k5 (k5 ⟨.none,rfl,k5 hQ⟩))
  |exact k5 ⟨.none,rfl,k5 hQ⟩
def Zip.set {α β:Type} {R:α->β->Prop} {a:α} {b:β} (h:R a b) {l:List α} {m:List β} (z:Zip R l m) (i:Nat):Zip R (l.set i a) (m.set i b):=by
 induction z generalizing i with
 |nil=>exact .nil
 |cons x y ih=>cases i<;>first|exact .cons h y|exact .cons x (ih _)
def QU {o i:Expr} {p' pos:Pos} {x:Str} {l:List DV} {k:Int} {v:DV} (he:aC U w C Y sc d e Z v Z) (ho:gB U w C Y sc d o Z (.loc x)) (hi:aC U w C Y sc d i Z (.int k) Z) (hl:(Pl.loc x).get Z=some (.ml l)) (h0:k<0) (h1:-(l.length:Int)<=k) (hz:l.length<=lim) (hc:cZ e=true):
    aU U w C Y sc d (.Assign [.Subscript o i p'] e pos) Z .next ((Pl.loc x).set Z (.ml (l.set (k+l.length).toNat v))):=λA G L s env ro eo R Q kk=>
 wpAny_Assign_Subscript (he A G L s env ro eo R _ λaz u ax aB aH aV=>ho A az L ax env ro eo aB _ λa t lS=>hi A az L _ env ro eo aB.toks _ λiL iv cB cF cL q=>q.fS λtk=>by
  have Jj:=lS.toks.later aB.toks cL (p:=.loc x) rfl
  exact gq (cF.gZ Jj hl) λb vs n q=>a5 q λe g hd rK _=>by
   cases e
   have hlen:=hd.length
   have hz:l.length<=2 ^ 22:=hz
   refine y6 (items:=⟨vs⟩) ⟨_,g,rfl,n,rfl⟩ h0 (by rw[Ze,<-hlen];exact h1) (by lia) ?_
   rw[show(k+((⟨vs⟩:Array Value).size:Int)).toNat=(k+l.length).toNat from by rw[Ze,hlen]]
   obtain⟨n',g'⟩:=iu (f:=λx=>x.setIfInBounds (k+l.length).toNat u) (HF:=vs.set (k+l.length).toNat u) g (by simp)
   have q:=cF.turn (k':=.ml (l.set (k+l.length).toNat v)) (t:=cB.toks) Jj hl rfl λO o=>⟨a,vs.set (k+l.length).toNat u,n',rfl,g',Zip.set (aV.mono cL.sub) hd _,by rw[List.length_set];exact rK,o⟩
   exact kk iL _ _ q.1 (((aH.aO (Later.aO bb cL))).turn q.2) rfl) (dq hc)
end
def Uj:∀st:Stmt,On (λq=>.If q.1 q.2.1 q.2.2 st.pos=st) (rL st):=eK (P:=λe (q:Expr×List Stmt×List Stmt)=>.If q.1 q.2.1 q.2.2 e.pos=e) λe h=>@Stmt.If.elim (λe=>∀h,(λq:Expr×List Stmt×List Stmt=>Stmt.If q.1 q.2.1 q.2.2 e.pos) (@Stmt.If.elim (λ_=>Expr×List Stmt×List Stmt) e h λt b o _=>(t,b,o))=e) e h (λ_ _ _ _ _=>rfl) h
def kl {U:Program} {w:World} {C:Nat} {Y:Base} {sc:Scope} {d:Nat} {Z aa ah:aj} {st:Stmt} {q:Expr×List Stmt×List Stmt} {c:Bool} {f:au} (h:rL st=some q) (ht:bu U w C Y sc d q.1 Z c aa) (k:aF U w C Y sc d (bif c then q.2.1 else q.2.2) aa f ah):aU U w C Y sc d st Z f ah:=
 (Uj st).get h▸qa ht (by cases c;exact k;exact k)
def Yr (st:Stmt):Option (Expr×Expr×Expr):=(ve st).bind λq=>(dM q.1).bind λt=>(uR t).bind λz=>bif cZ q.2 then some (z.1,z.2,q.2) else none
def QA (st:Stmt):On (λq=>∃p pos,.Assign [.Subscript q.1 q.2.1 p] q.2.2 pos=st/\cZ q.2.2=true) (Yr st):=
 (jR st).b λq h=>(bp q.1).b λt h'=>(lH t).b λz FZ=>ak λh3=>fk h λp h=>⟨_,p,by rw[FZ,h'];exact h,h3⟩
def lh (r:List Nat) (f i c:Nat):Bool:=fQ [c] [32]&&(!bc (r.headD 0) [32,9]&&(decide (((i+1:Nat):Int)<(r.length:Int))&&(!bc ((r[i+1]?).getD 0) [32,9]&&((((i+f) % 2:Nat):Int)==(0:Int)&&true))))
def lj (r:List Nat) (f:Nat) (cs:List Nat):Nat->List (List Nat)->List Nat->List (List Nat):=
 List.rec (motive:=λ_=>Nat->List (List Nat)->List Nat->List (List Nat)) (λ_ init last=>init++[last]) (λc _ go i init last=>bif lh r f i c then go (i+1) (init++[last]) [] else go (i+1) init (last++[c])) cs
def i6 (r:List Nat) (f:Nat):List (List Nat):=lj r f r 0 [] []
section
variable (H:Array Nat->Int) (r:List Nat) (f i c:Nat) (ps:List DV)
def mJ:qi (KF H) 1545=some (FI H 1545):=KK
def mK:bc 1545 vu=true:=KK
abbrev foF:Stmt:=ai (FI H 1545).body 1
def Zn:List Expr×Str×Expr×List Stmt:=(pT (foF H)).getD default
abbrev Ot:Stmt:=ai (Zn H).2.2.2 0
abbrev I8:Expr×List Stmt×List Stmt:=(rL (Ot H)).getD default
abbrev I7 (n:Nat):Expr:=bE (I8 H).1 n
abbrev foU:Expr×CmpOp×Expr:=(nG (I7 H 3)).getD default
abbrev foV:Expr×Expr:=(tP (foU H).1).getD default
def foZ:Expr×Expr×Expr:=(Yr (ai (I8 H).2.2 0)).getD default
abbrev foB:Expr×Operator×Expr:=(gE (foZ H).2.2).getD default
abbrev foC:Expr×Expr:=(tP (foB H).1).getD default
abbrev foL:aj:=⟨none,[(fq,.pv (.str r)),(hE,.pv (.int f)),(v5,.ml ps)]⟩
abbrev ku:aj:=⟨none,[(fq,.pv (.str r)),(hE,.pv (.int f)),(v5,.ml ps),(iz,.pv (.int i)),(se,.pv (.str [c]))]⟩
abbrev xg:iV:=[(fq,900),(hE,90000),(v5,1900),(iz,900)]
def agD:(FI H 1545).body=[ai (FI H 1545).body 0,foF H,ai (FI H 1545).body 2]:=KK
def aaG:(pT (foF H),names (FI H 1545).sc (Zn H).1,bB (KF H) (FI H 1545).sc (Zn H).2.1 (.type "enumerate"),(Zn H).2.2.2,rL (Ot H))=(some (Zn H),some [iz,se],true,[Ot H],some (I8 H)):=KK
def agI:(k9 (I8 H).1,nG (I7 H 3),tP (foU H).1,(foU H).2.1)=(some (.And,[I7 H 0,I7 H 1,I7 H 2,I7 H 3,I7 H 4]),some (foU H),some (foV H),.NotIn):=KK
def agB (a:Nat):(uA H 5 1545 (I7 H 0) (ku (a::r) f i c ps) xg,uA H 5 1545 (I7 H 1) (ku (a::r) f i c ps) xg,uA H 5 1545 (I7 H 2) (ku (a::r) f i c ps) xg,uA H 5 1545 (I7 H 4) (ku (a::r) f i c ps) xg)=(some (fQ [c] [32]),some (!bc a [32,9]),some (decide (((i+1:Nat):Int)<((r.length+1:Nat):Int))),some ((((i+f) % 2:Nat):Int)==(0:Int))):=KK
def agA:(oK H 5 1545 (foV H).1 (ku r f i c ps) xg,oK H 5 1545 (foV H).2 (ku r f i c ps) xg,oK H 5 1545 (foU H).2.2 (ku r f i c ps) xg)=(some (.pv (.str r)),some (.pv (.int (i+1:Nat))),some (.pv (.str [32,9]))):=KK
def akV:(I8 H).2.1=[ai (I8 H).2.1 0]:=KK
def agK:oR H 5 1545 (I8 H).2.1 (ku r f i c ps) xg=some (.next,ku r f i c (ps++[.str []])):=KK
def agH:((I8 H).2.2,Yr (ai (I8 H).2.2 0),gE (foZ H).2.2,tP (foB H).1,(foB H).2.1)=([ai (I8 H).2.2 0],some (foZ H),some (foB H),some (foC H),.Add):=KK
def agF:(placeOf (eT H bY 5 1545) (ku r f i c ps) (foZ H).1,placeOf (eT H bY 5 1545) (ku r f i c ps) (foC H).1,oK H 5 1545 (foZ H).2.1 (ku r f i c ps) xg,oK H 5 1545 (foC H).2 (ku r f i c ps) xg,oK H 5 1545 (foB H).2.2 (ku r f i c ps) xg)=(some (.loc v5),some (.loc v5),some (.pv (.int (-1))),some (.pv (.int (-1))),some (.pv (.str [c]))):=KK
def agE:g9 (ku r f i c ps) (.loc v5)=some (.ml ps):=KK
def agJ (ps':List DV):wy (ku r f i c ps) (.ml ps') (.loc v5)=ku r f i c ps':=KK
def agC:vr (fR H bY 5 1545) [(Zn H).2.2.1] (foL r f ps)=some ([.str r],foL r f ps):=KK
def aaI:putAll (foL r f ps).loc [iz,se] [.int i,.str [c]]=(ku r f i c ps).loc:=(uE ..).trans KK
def aaJ (i' c':Nat):putAll (ku r f i' c' ps).loc [iz,se] [.int i,.str [c]]=(ku r f i c ps).loc:=(uE ..).trans KK
def agy:cj (fR H bY 5 1545) [ai (FI H 1545).body 0] ⟨none,[(fq,.pv (.str r)),(hE,.pv (.int f))]⟩=some (.next,foL r f [.str []]):=KK
def agG:cj (fR H bY 5 1545) [ai (FI H 1545).body 2] (ku r f i c ps)=some (.ret (.lst ps),⟨none,[(fq,.pv (.str r)),(hE,.pv (.int f)),(v5,.pv (.lst ps)),(iz,.pv (.int i)),(se,.pv (.str [c]))]⟩):=KK
def T2:((cR lD 1545 [.str r,.int f] []).bind λrow=>getAll [.str r,.int f] [] row.out)=some [(fq,.str r),(hE,.int f)]:=KK
def agz (h1:r.length<=900) (h2:f<=90000) (h3:ps.length<=1900) (h4:i<=900):fV xg (ku r f i c ps).loc:=Eq.mpr (by kernel_rfl:fV xg (ku r f i c ps).loc=(r.length<=900/\f<=90000/\ps.length<=1900/\i<=900/\True)) ⟨h1,h2,h3,h4,trivial⟩
end
def Jw {n:Nat} (h:0<n):idx (-1) n=some (n - 1):=by
 unfold idx
 rw[dZ (by lia),d8 (by lia)]
 exact aQ some (by lia)
def Mc (init:List (List Nat)) (last v:List Nat):(((init++[last]).map DV.str).set (-1+(((init++[last]).map DV.str).length:Int)).toNat (.str v))=(init++[v]).map DV.str:=by
 have e:(-1+(((init++[last]).map DV.str).length:Int)).toNat=init.length:=by simp;lia
 rw[e,Na,Na,List.set_append_right _ _ (by simp)]
 simp
def IQ (l:List Nat):iY (l.map λc=>DV.str [c])=(l.zipIdx 0).map λp=>[.int p.2,.str [p.1]]:=by unfold iY;rw[List.zipIdx_map,List.map_map];rfl
section
variable {U:Program} {w:World} {Y:Base} (T0:cQ (KF (HH w)) Y) (hl:bz Y) (r:List Nat) (f:Nat)
include T0 hl
theorem Le {f:Nat} (hf:bc f vu=true) (hI:qi (KF (HH w)) f=some (FI (HH w) f)) {n:Nat} {e:Expr} {Z:aj} {p:Pl} (h:placeOf (eT (HH w) bY n f) Z e=some p):gB U w 1521 Y (FI (HH w) f).sc n e Z p:=(CJ (zG (U:=U) hf hI T0 hl) h).1
theorem T3 (i c:Nat) (ps:List DV) (hr:r≠[]) (B:fV xg (ku r f i c ps).loc):bu U w 1521 Y (FI (HH w) 1545).sc 5 (I8 (HH w)).1 (ku r f i c ps) (lh r f i c) (ku r f i c ps):=by
 cases r with
 |nil=>exact absurd rfl hr
 |cons a r=>
  have T:=λ{e:Expr} {b:Bool} (h:uA (HH w) 5 1545 e (ku (a::r) f i c ps) xg=some b)=>wd (U:=U) mK (mJ (HH w)) T0 hl (n:=5) B h
  have E:=λ{e:Expr} {b:Res} (h:oK (HH w) 5 1545 e (ku (a::r) f i c ps) xg=some b)=>(sj (U:=U) mK (mJ (HH w)) T0 hl (n:=5) B h).rest
  exact j4 (agB (HH w) r f i c ps a) λt0 t1 t2 t4=>j4 (agI (HH w)) λq0 q1 q2 q3=>j3 (agA (HH w) (a::r) f i c ps) λe0 e1 e2=>Hr q0 (and_cons (T t0) λ_=>and_cons (T t1) λ_=>and_cons (T t2) λlt=>
   have lt:i+1<(a::r).length:=Int.ofNat_lt.mp (mQ lt)
   and_cons (c:=!bc (((a::r)[i+1]?).getD 0) [32,9]) (tc q1 (y5 q2 (E e0) (E e1) (LV (lT lt) (c:=((a::r)[i+1]?).getD 0) (by rw[zO lt];rfl))) (E e2) (by rw[q3,nY];exact jZ rfl)) λ_=>and_cons (T t4) λ_=>ji)
theorem Ov (i c:Nat) (init:List (List Nat)) (last:List Nat) (hr:r≠[]) (B:fV xg (ku r f i c ((init++[last]).map .str)).loc) (h2:last.length<=1000):
 aF U w 1521 Y (FI (HH w) 1545).sc 5 [Ot (HH w)] (ku r f i c ((init++[last]).map .str)) .next (ku r f i c ((bif lh r f i c then(init++[last])++[[]] else init++[last++[c]]).map .str)):=
 ao (j5 (aaG (HH w)) λ_ _ _ _ q=>kl q (T3 (U:=U) T0 hl r f i c _ hr B) (by
  cases lh r f i c with
  |true=>
   have h:=wg (U:=U) mK (mJ (HH w)) T0 hl (n:=5) B (agK (HH w) r f i c _)
   rw[show(init++[last]).map DV.str++[.str []]=((init++[last])++[[]]).map .str by rw[@Na _ _ _ (init++[last])];rfl] at h
   exact h
  |false=>
   have E:=λ{e:Expr} {b:Res} (h:oK (HH w) 5 1545 e (ku r f i c ((init++[last]).map .str)) xg=some b)=>(sj (U:=U) mK (mJ (HH w)) T0 hl (n:=5) B h).rest
   have g:=(cw ..).symm.trans (agE r f i c ((init++[last]).map .str))
   have ll:((init++[last]).map DV.str).length=init.length+1:=by rw[mG,da];rfl
   have zz:((init++[last]).map DV.str).length<=lim:=bw B.2.2.1 (by decide)
   exact j5 (agH (HH w)) λs0 s1 s2 s3 s4=>j5 (agF (HH w) r f i c ((init++[last]).map .str)) λp0 p1 e0 e1 e2=>.at s0 (ao (a2 ((wI _).get s3) λc1 c2=>cV ((QA _).get s1) λp' pos q=>a2 q λst hc=>by
    have hv:=lE s2 (c1▸sM c2 (Le T0 hl mK (mJ (HH w)) p1) rfl (E e1) g (Jw (by rw[ll];exact MW _)) (z:=.str last) (by rw[ll];simp)) (E e2) (by rw[s4];exact lN (a:=last) (b:=[c]) (bw (Rr h2) (by decide)))
    have h:=QU (p':=p') (pos:=pos) hv (Le T0 hl mK (mJ (HH w)) p0) (E e0) g (by decide) (by rw[ll];lia) zz hc
    rw[Mc,<-jc,agJ] at h
    exact st▸h) bA))) bA
theorem Ou (hr:r≠[]) (hz:r.length<=900) (hf:f<=90000) (cs:List Nat):∀(k:Nat) (init:List (List Nat)) (last:List Nat) (loc:List (Str×ae)),k+cs.length<=900->init.length<=k->last.length<=k->(∀i c:Nat,putAll loc [iz,se] [.int i,.str [c]]=(ku r f i c ((init++[last]).map .str)).loc)->cs≠[]->
 ∃i c,fh U w 1521 Y (FI (HH w) 1545).sc 5 [iz,se] [Ot (HH w)] ((cs.zipIdx k).map λp=>[.int p.2,.str [p.1]]) ⟨none,loc⟩ .next (ku r f i c ((lj r f cs k init last).map .str)):=by
 induction cs with
 |nil=>exactλ_ _ _ _ _ _ _ _ h=>absurd rfl h
 |cons c cs ih=>
  intro k init last loc hk h1 h2 As _
  have hk':k+1+cs.length<=900:=by rw[M9] at hk;lia
  have tn:=Ov (U:=U) T0 hl r f k c init last hr (agz r f k c _ hz hf (by rw[mG,da,ZG];lia) (by lia)) (by lia)
  have nx:∀(ye:List (List Nat)) (yk:List Nat),ye.length<=k+1->yk.length<=k+1->∃i c',fh U w 1521 Y (FI (HH w) 1545).sc 5 [iz,se] [Ot (HH w)] ((cs.zipIdx (k+1)).map λp=>[.int p.2,.str [p.1]]) (ku r f k c ((ye++[yk]).map .str)) .next (ku r f i c' ((lj r f cs (k+1) ye yk).map .str)):=λye yk a b=>by
   cases cs with
   |nil=>exact⟨k,c,.done⟩
   |cons c' cs=>exact ih (k+1) ye yk _ hk' a b (λi c'=>aaJ r f i c' _ k c) λh=>cn h
  have tn:aF U w 1521 Y (FI (HH w) 1545).sc 5 [Ot (HH w)] ⟨none,putAll loc [iz,se] [.int k,.str [c]]⟩ .next _:=fb (As k c)▸(show aF U w 1521 Y (FI (HH w) 1545).sc 5 [Ot (HH w)] ⟨none,(ku r f k c ((init++[last]).map .str)).loc⟩ .next _ from tn)
  show ∃i c',fh U w 1521 Y (FI (HH w) 1545).sc 5 [iz,se] [Ot (HH w)] (([.int k,.str [c]])::((cs.zipIdx (k+1)).map λp=>[.int p.2,.str [p.1]])) ⟨none,loc⟩ .next (ku r f i c' ((bif lh r f k c then lj r f cs (k+1) (init++[last]) [] else lj r f cs (k+1) init (last++[c])).map .str))
  cases hb:lh r f k c with
  |true=>
   rw[hb] at tn
   exact cV (nx (init++[last]) [] (by rw[da,ZG];lia) (ju _)) λi c' h=>⟨i,c',.turn rfl tn (.inl rfl) h⟩
  |false=>
   rw[hb] at tn
   exact cV (nx init (last++[c]) (Nat.le_succ_of_le h1) (by rw[da,ZG];lia)) λi c' h=>⟨i,c',.turn rfl tn (.inl rfl) h⟩
theorem aaH (hr:r≠[]) (hz:r.length<=900) (hf:f<=90000):af U w 1521 Y 6 (.ref 1545) [.str r,.int f] [] none (.lst ((i6 r f).map .str)) none:=
 cV (Ou (U:=U) T0 hl r f hr hz hf r 0 [] [] _ (by lia) (fy _) (fy _) (λi c=>aaI r f i c _) hr) λi c hL=>gd (ba:=⟨none,_⟩) mK (mJ (HH w)) T0 hl (T2 r f) (.at (agD (HH w)) (eH (zS mK (mJ (HH w)) T0 hl) (l':=[foF (HH w),ai (FI (HH w) 1545).body 2]) (ao (j5 (aaG (HH w)) λf0 f1 f2 f3 _=>vq f0 λkt p pn pos' pos=>p9 T0 f1 f2 (lZ mK (mJ (HH w)) T0 hl (agC (HH w) r f _)) (λ_ _=>rfl) (by
  rw[IQ,f3];exact hL)) (nh mK (mJ (HH w)) T0 hl (agG (HH w) r f i c _))) [ai (FI (HH w) 1545).body 0] _ (agy (HH w) r f))) rfl
end
def jk:Str:=⟨#[114,111,119,115]⟩
def zClose:Str:=⟨#[99,108,111,115,101]⟩
def Dg:Str:=⟨#[108,101,97,115,116]⟩
def SP:Str:=⟨#[110,108]⟩
def Fm:Str:=⟨#[102,117,108,108]⟩
def MP:Str:=⟨#[100,105,103,105,116]⟩
def Df:Str:=⟨#[99,104,111,109,112]⟩
def Fl:Str:=⟨#[98,101,104,105,110,100]⟩
def uX:Str:=⟨#[98,111,100,121]⟩
def Fj:Str:=⟨#[98,101,102,111,114,101]⟩
def mP:Str:=⟨#[116,101,120,116]⟩
def rD (full:List (List Nat)) (fr:Nat):Bool:=List.rec (motive:=λ_=>Bool) false (λa _ _=>fQ [a.headD 0] [32]&&true) full||(((fr / 3 % 2:Nat):Int)==(1:Int)||false)
def qh (full:List (List Nat)) (fr:Nat):List Nat:=bif rD full fr then[[49,50,51].getD (fr % 3) 0] else[]
def mA {α:Type} (l:List α):Bool:=List.rec (motive:=λ_=>Bool) true (λ_ _ _=>false) l
def jn (e:Bool) (cl fr:Nat):List Nat:=bif Nat.ble 2 cl then[43] else bif Nat.beq cl 1 then bif e then[43] else[[],[43]].getD (fr / 48 % 2) [] else bif e then[[],[45],[43]].getD (fr / 48 % 3) [] else[45]
def tr (e:Bool) (cl fr:Nat):Nat:=bif fQ (jn e cl fr) [43] then bif e then cl else cl - 1 else fr / 84 % 3
def qj (bf r:List Nat):Bool:=!fQ bf []&&(!bc (bf.headD 0) [32,9]&&(!bc (r.headD 0) [32,9]&&true))
def fg (st f:Nat) (rs:List (List Nat)):List (List Nat)->List Nat->List (List Nat):=List.rec (motive:=λ_=>List (List Nat)->List Nat->List (List Nat)) (λB _=>B)
 (λr _ go B bf=>bif fQ r [] then go (B++[[]]) bf else bif fQ [st] [124] then go (B++[r]) bf else go ((bif qj bf r then B++[[]] else B)++i6 r f) r) rs
def je (n:Nat):List Nat:=[[],[32],[32,32,35,32,99],[32,35,32,45,32,120,58,32,124]].getD n []
def Jk (dg ch:List Nat) (fr:Nat):List Nat:=bif ((fr / 6 % 2:Nat):Int)==(0:Int) then dg++ch else ch++dg
def MO (f ind i:Nat) (r:List Nat):Nat:=bif fQ r [] then(f+i) % (ind+1) else ind
def jI (f ind:Nat) (nl:List Nat) (rs:List (List Nat)):Nat->List Nat:=List.rec (motive:=λ_=>Nat->List Nat) (λ_=>[]) (λr _ go i=>(List.replicate (MO f ind i r) 32++(r++nl))++go (i+1)) rs
def br (rows:List (List Nat)):List (List Nat):=rows.filter λr=>!fQ r []
def xA (rows:List (List Nat)) (cl st fr:Nat):List (List Nat):=fg st (fr / 7) rows [] []++List.replicate (tr (mA (br rows)) cl fr) []
def kq (rows:List (List Nat)) (cl st le fr:Nat) (nl:List Nat):List Nat:=
 ([st]++Jk (qh (br rows) fr) (jn (mA (br rows)) cl fr) fr++je (fr / 12 % 4)++nl)++jI (fr / 5) (le+fr % 3) nl (xA rows cl st fr) 0
structure WS where
 R:List DV
 F:List DV
 cl:Nat
 st:Nat
 le:Nat
 fr:Nat
 ind:Nat
 bh:Nat
 nl:List Nat
 dg:List Nat
 ch:List Nat
section
variable (H:Array Nat->Int) (u:WS) (B:List DV) (bf r t:List Nat) (i:Nat) (e:Bool)
def iZ:qi (KF H) 1550=some (FI H 1550):=KK
def i5:bc 1550 vu=true:=KK
abbrev wr (n:Nat):Stmt:=ai (FI H 1550).body n
def ajh:(FI H 1550).body=[wr H 0,wr H 1,wr H 2,wr H 3,wr H 4,wr H 5,wr H 6,wr H 7,wr H 8,wr H 9,wr H 10,wr H 11,wr H 12,wr H 13]:=KK
abbrev w0 (tl:List (Str×ae)):aj:=⟨none,(jk,.pv (.lst u.R))::(zClose,.pv (.int u.cl))::(fF,.pv (.str [u.st]))::(Dg,.pv (.int u.le))::(hE,.pv (.int u.fr))::(SP,.pv (.str u.nl))::tl⟩
abbrev w1:aj:=w0 u [(Fm,.ml u.F)]
abbrev w3 (tl:List (Str×ae)):aj:=w0 u ((Fm,.ml u.F)::(gH,.pv (.int u.ind))::(MP,.pv (.str u.dg))::tl)
abbrev w4:aj:=w3 u [(Df,.pv (.str u.ch))]
abbrev w7 (B:ae) (bf:List Nat) (tl:List (Str×ae)):aj:=w3 u ((Df,.pv (.str u.ch))::(Fl,.pv (.int u.bh))::(uX,B)::(Fj,.pv (.str bf))::tl)
abbrev w8 (B:List DV) (bf r:List Nat):aj:=w7 u (.ml B) bf [(fq,.pv (.str r))]
abbrev wK:iV:=[(zClose,3),(Dg,40),(hE,90000),(SP,50),(gH,60),(MP,1),(Df,1),(Fl,100),(uX,2000),(Fj,60),(fq,60),(mP,900000),(iz,3000)]
abbrev wR (l:List Stmt) (Z:aj) (f:au) (ba:aj):Prop:=oR H 10 1550 l Z wK=some (f,ba)
abbrev ZC (e:Expr) (Z:aj) (c:Bool):Prop:=uA H 10 1550 e Z wK=some c
def aje:wR H [wr H 1,wr H 2] (w1 u) .next (w3 {u with ind:=u.le+u.fr % 3,dg:=[]} []):=KK
abbrev Y0:Expr×List Stmt×List Stmt:=(rL (wr H 3)).getD default
def ajf:rL (wr H 3)=some (Y0 H):=KK
def ad4:ZC H (Y0 H).1 (w3 {u with F:=[],dg:=[]} []) (rD [] u.fr):=KK
def ad3 (a:Nat) (as:List Nat) (F:List DV):ZC H (Y0 H).1 (w3 {u with F:=.str (a::as)::F,dg:=[]} []) (rD [a::as] u.fr):=KK
def ad5:wR H (Y0 H).2.1 (w3 {u with dg:=[]} []) .next (w3 {u with dg:=[[49,50,51].getD (u.fr % 3) 0]} [])/\(Y0 H).2.2=[]:=⟨KK,KK⟩
def ad7:([0,1,2,3].map λcl=>oR H 10 1550 [wr H 4] (w3 {u with F:=[],cl:=cl} []) wK)=[0,1,2,3].map λcl=>some (.next,w4 {u with F:=[],cl:=cl,ch:=jn true cl u.fr}):=KK
def ad6 (a:DV) (F:List DV):([0,1,2,3].map λcl=>oR H 10 1550 [wr H 4] (w3 {u with F:=a::F,cl:=cl} []) wK)=[0,1,2,3].map λcl=>some (.next,w4 {u with F:=a::F,cl:=cl,ch:=jn false cl u.fr}):=KK
def ad8:([[],[45]].map λch=>oR H 10 1550 [wr H 5,wr H 6,wr H 7,wr H 8] (w4 {u with ch:=ch}) wK)=[[],[45]].map λch=>some (.next,w7 {u with ch:=ch,bh:=u.fr / 84 % 3} (.ml []) [] []):=KK
def aea:([0,1,2,3].map λcl=>oR H 10 1550 [wr H 5,wr H 6,wr H 7,wr H 8] (w4 {u with F:=[],cl:=cl,ch:=[43]}) wK)=[0,1,2,3].map λcl=>some (.next,w7 {u with F:=[],cl:=cl,ch:=[43],bh:=cl} (.ml []) [] []):=KK
def ad9 (a:DV) (F:List DV) (cl:Nat):wR H [wr H 5,wr H 6,wr H 7,wr H 8] (w4 {u with F:=a::F,cl:=cl+1,ch:=[43]}) .next (w7 {u with F:=a::F,cl:=cl+1,ch:=[43],bh:=cl} (.ml []) [] []):=KK
def Y5:Expr×Expr×List Stmt×List Stmt:=(Al (wr H 9)).getD default
abbrev wb (n:Nat):Stmt:=ai (Y5 H).2.2.1 n
abbrev SM:List Stmt:=[wb H 0,wb H 1,wb H 2,wb H 3,wb H 4]
def ajg:(Al (wr H 9),dY (Y5 H).1,fP (eT H bY 10 1550) fq,wi (Y5 H).2.1,(Y5 H).2.2)=(some (Y5 H),some fq,true,true,(SM H,[])):=KK
def aeb:oK H 10 1550 (Y5 H).2.1 (w7 u (.ml B) bf []) wK=some (.pv (.lst u.R)):=KK
def ajb:wR H (SM H) (w8 u B bf []) .cont (w8 u (B++[.str []]) bf []):=KK
def aja (a:Nat):wR H (SM H) (w8 {u with st:=124} B bf (a::r)) .cont (w8 {u with st:=124} (B++[.str (a::r)]) bf (a::r)):=KK
def adR (a:Nat):wR H [wb H 0,wb H 1] (w8 {u with st:=62} B bf (a::r)) .next (w8 {u with st:=62} B bf (a::r)):=KK
abbrev ZD:Expr×List Stmt×List Stmt:=(rL (wb H 2)).getD default
def ai7:rL (wb H 2)=some (ZD H):=KK
def adT:ZC H (ZD H).1 (w8 u B [] r) (qj [] r):=KK
def adS (a b:Nat):ZC H (ZD H).1 (w8 u B (b::bf) (a::r)) (qj (b::bf) (a::r)):=KK
def adU (c:Bool):wR H (bif c then(ZD H).2.1 else(ZD H).2.2) (w8 u B bf r) .next (w8 u (bif c then B++[.str []] else B) bf r):=by cases c<;>kernel_rfl
def wbE:Str×Expr:=(D5 (eT H bY 10 1550) (wb H 3)).getD default
def ai8:(D5 (eT H bY 10 1550) (wb H 3),aT (w8 u B bf r).loc uX)=(some (uX,(wbE H).2),some (.ml B)):=KK
def adX:Ao (w8 u B bf r) uX B=w7 u (.pv (.lst B)) bf [(fq,.pv (.str r))]:=KK
def adW (B':List DV):(⟨none,bS (w8 u B bf r).loc uX (.ml B')⟩:aj)=w8 u B' bf r:=KK
def adV:oAk H 10 1550 (wbE H).2 (w7 u (.pv (.lst B)) bf [(fq,.pv (.str r))]) wK=some (1545,[.str r,.int (u.fr / 7:Nat)]):=KK
def ai9:wR H [wb H 4] (w8 u B bf r) .next (w8 u B r r):=KK
def adY (Dv:List Nat):bS (w7 u (.ml B) bf []).loc fq (.pv (.str r))=(w8 u B bf r).loc/\bS (w8 u B bf Dv).loc fq (.pv (.str r))=(w8 u B bf r).loc:=⟨KK,KK⟩
def r0 (e:Bool) (r:List Nat) (tl:List (Str×ae)):List (Str×ae):=bif e then(fq,.pv (.str r))::tl else tl
def r2 (e:Bool) (r t:List Nat) (i:Nat):List (Str×ae):=bif e then[(fq,.pv (.str r)),(mP,.pv (.str t)),(iz,.pv (.int i))] else[(mP,.pv (.str t)),(iz,.pv (.int i)),(fq,.pv (.str r))]
abbrev w9 (B:ae) (bf r t:List Nat) (e:Bool):aj:=w7 u B bf (r0 e r [(mP,.pv (.str t))])
abbrev wA (B:List DV) (bf r t:List Nat) (i:Nat) (e:Bool):aj:=w7 u (.pv (.lst B)) bf (r2 e r t i)
def ad1:wR H [wr H 10,wr H 11] (w7 u (.ml B) bf (r0 e r [])) .next (w9 u (.ml (B++List.replicate u.bh (.str []))) bf r ([u.st]++Jk u.dg u.ch u.fr++je (u.fr / 12 % 4)++u.nl) e):=by cases e<;>kernel_rfl
def ZE:List Expr×Str×Expr×List Stmt:=(pT (wr H 12)).getD default
abbrev we:Stmt:=ai (ZE H).2.2.2 0
def ad2:(pT (wr H 12),names (FI H 1550).sc (ZE H).1,bB (KF H) (FI H 1550).sc (ZE H).2.1 (.type "enumerate"),(ZE H).2.2.2)=(some (ZE H),some [iz,fq],true,[we H]):=KK
def Y6:vr (fR H bY 10 1550) [(ZE H).2.2.1] (w9 u (.ml B) bf r t e)=some ([.lst B],w9 u (.pv (.lst B)) bf r t e):=by cases e<;>kernel_rfl
def Y7 (r':List Nat):putAll (w9 u (.pv (.lst B)) bf r t e).loc [iz,fq] [.int i,.str r']=(wA u B bf r' t i e).loc:=(uE ..).trans (by cases e<;>kernel_rfl)
def Y8 (r':List Nat) (i':Nat):putAll (wA u B bf r' t i' e).loc [iz,fq] [.int i,.str r]=(wA u B bf r t i e).loc:=(uE ..).trans (by cases e<;>kernel_rfl)
def ajc (a:Nat):([[],a::r].map λr=>oR H 10 1550 [we H] (wA u B bf r t i e) wK)=[[],a::r].map λr=>some (.next,wA u B bf r (t++List.replicate (MO (u.fr / 5) u.ind i r) 32++r++u.nl) i e):=by cases e<;>kernel_rfl
def SN:(oR H 10 1550 [wr H 13] (w9 u (.pv (.lst B)) bf r t e) wK,oR H 10 1550 [wr H 13] (wA u B bf r t i e) wK)=(some (.ret (.str t),w9 u (.pv (.lst B)) bf r t e),some (.ret (.str t),wA u B bf r t i e)):=by cases e<;>kernel_rfl
def Y9:((cR lD 1550 [.lst u.R,.int u.cl,.str [u.st],.int u.le,.int u.fr,.str u.nl] []).bind λrow=>getAll [.lst u.R,.int u.cl,.str [u.st],.int u.le,.int u.fr,.str u.nl] [] row.out)=some [(jk,.lst u.R),(zClose,.int u.cl),(fF,.str [u.st]),(Dg,.int u.le),(hE,.int u.fr),(SP,.str u.nl)]:=KK
end
section
variable (H:Array Nat->Int) (u:WS) (B:List DV) (bf r t:List Nat) (i:Nat) (e:Bool)
def M4:Str×CQ:=(nH (FI H 1550).sc (wr H 0)).getD (default,cq0)
abbrev w0C:Expr×CmpOp×Expr:=(nG ((M4 H).2.ifs.headD default)).getD default
def ajd:(nH (FI H 1550).sc (wr H 0),(M4 H).1,(M4 H).2.ifs,dY (M4 H).2.elt,nG ((M4 H).2.ifs.headD default))=(some (M4 H),Fm,[(M4 H).2.ifs.headD default],some (M4 H).2.x,some (w0C H)):=KK
def adZ:(dY (w0C H).1,(w0C H).2.1,gi (w0C H).2.2,oK H 10 1550 (M4 H).2.iter (w0 u []) wK)=(some (M4 H).2.x,.NotEq,some Cy,some (.pv (.lst u.R))):=KK
def ad0 (F:List DV):(⟨none,bS (w0 u []).loc Fm (.ml F)⟩:aj)=w1 {u with F:=F}:=KK
structure WOk (u:WS):Prop where
 cl:u.cl<=3
 le:u.le<=40
 fr:u.fr<=90000
 nl:u.nl.length<=50
structure Ni (u:WS):Prop extends WOk u where
 ind:u.ind<=60
 dg:u.dg.length<=1
structure oO (u:WS):Prop extends Ni u where
 ch:u.ch.length<=1
 bh:u.bh<=100
variable {u}
def aai (h:WOk u):fV wK (w0 u []).loc:=Eq.mpr (by kernel_rfl:fV wK (w0 u []).loc=(u.cl<=3/\u.le<=40/\u.fr<=90000/\u.nl.length<=50/\True)) ⟨h.cl,h.le,h.fr,h.nl,trivial⟩
def afU (h:WOk u):fV wK (w1 u).loc:=Eq.mpr (by kernel_rfl:fV wK (w1 u).loc=fV wK (w0 u []).loc) (aai h)
def TA (h:Ni u):fV wK (w3 u []).loc:=Eq.mpr (by kernel_rfl:fV wK (w3 u []).loc=(u.cl<=3/\u.le<=40/\u.fr<=90000/\u.nl.length<=50/\u.ind<=60/\u.dg.length<=1/\True)) ⟨h.cl,h.le,h.fr,h.nl,h.ind,h.dg,trivial⟩
def afV (h:Ni u) (hc:u.ch.length<=1):fV wK (w4 u).loc:=Eq.mpr (by kernel_rfl:fV wK (w4 u).loc=(u.cl<=3/\u.le<=40/\u.fr<=90000/\u.nl.length<=50/\u.ind<=60/\u.dg.length<=1/\u.ch.length<=1/\True)) ⟨h.cl,h.le,h.fr,h.nl,h.ind,h.dg,hc,trivial⟩
def Ib (h:oO u) {P:Prop} (hP:P) (hB:B.length<=2000) (hf:bf.length<=60):u.cl<=3/\u.le<=40/\u.fr<=90000/\u.nl.length<=50/\u.ind<=60/\u.dg.length<=1/\u.ch.length<=1/\u.bh<=100/\B.length<=2000/\bf.length<=60/\P:=⟨h.cl,h.le,h.fr,h.nl,h.ind,h.dg,h.ch,h.bh,hB,hf,hP⟩
abbrev Y1 (u:WS) (B:List DV) (bf:List Nat) (P:Prop):Prop:=u.cl<=3/\u.le<=40/\u.fr<=90000/\u.nl.length<=50/\u.ind<=60/\u.dg.length<=1/\u.ch.length<=1/\u.bh<=100/\B.length<=2000/\bf.length<=60/\P
def RC (h:oO u) (hB:B.length<=2000) (hf:bf.length<=60):fV wK (w7 u (.ml B) bf []).loc:=Eq.mpr (by kernel_rfl:fV wK (w7 u (.ml B) bf []).loc=Y1 u B bf True) (Ib B bf h trivial hB hf)
def NV (h:oO u) (hB:B.length<=2000) (hf:bf.length<=60) (hr:r.length<=60):fV wK (w8 u B bf r).loc/\fV wK (w7 u (.pv (.lst B)) bf [(fq,.pv (.str r))]).loc:=
 have q:Y1 u B bf (r.length<=60/\True):=Ib B bf h ⟨hr,trivial⟩ hB hf
 ⟨Eq.mpr (by kernel_rfl:fV wK (w8 u B bf r).loc=Y1 u B bf (r.length<=60/\True)) q,Eq.mpr (by kernel_rfl:fV wK (w7 u (.pv (.lst B)) bf [(fq,.pv (.str r))]).loc=Y1 u B bf (r.length<=60/\True)) q⟩
def afW (h:oO u) (hB:B.length<=2000) (hf:bf.length<=60) (hr:r.length<=60):fV wK (w7 u (.ml B) bf (r0 e r [])).loc:=by
 cases e
 ·exact RC B bf h hB hf
 ·exact(NV B bf r h hB hf hr).1
def aaj (h:oO u) (hB:B.length<=2000) (hf:bf.length<=60) (hr:r.length<=60) (ht:t.length<=900000):fV wK (w9 u (.pv (.lst B)) bf r t e).loc:=by
 cases e
 ·exact Eq.mpr (by kernel_rfl:fV wK (w9 u (.pv (.lst B)) bf r t false).loc=Y1 u B bf (t.length<=900000/\True)) (Ib B bf h ⟨ht,trivial⟩ hB hf)
 ·exact Eq.mpr (by kernel_rfl:fV wK (w9 u (.pv (.lst B)) bf r t true).loc=Y1 u B bf (r.length<=60/\t.length<=900000/\True)) (Ib B bf h ⟨hr,ht,trivial⟩ hB hf)
def aak (h:oO u) (hB:B.length<=2000) (hf:bf.length<=60) (hr:r.length<=60) (ht:t.length<=900000) (hi:i<=3000):fV wK (wA u B bf r t i e).loc:=Eq.mpr (by cases e<;>kernel_rfl:fV wK (wA u B bf r t i e).loc=Y1 u B bf (r.length<=60/\t.length<=900000/\i<=3000/\True)) (Ib B bf h ⟨hr,ht,hi,trivial⟩ hB hf)
end
def SO (f ind i:Nat) (r:List Nat):MO f ind i r<=ind:=by
 unfold MO
 cases fQ r [] with
 |true=>exact u5 (qe _ (MW _))
 |false=>exact fy _
def uG (f ind:Nat) (nl:List Nat) (h1:ind<=60) (h2:nl.length<=50) (rs:List (List Nat)):∀k,(∀r∈rs,r.length<=60)->(jI f ind nl rs k).length<=200*rs.length:=by
 induction rs with
 |nil=>exactλ_ _=>ju _
 |cons r rs ih=>
  intro k h
  have a:=ih (k+1) λr m=>h r (.tail _ m)
  have b:=h r (.head _)
  have c:=SO f ind k r
  show((List.replicate (MO f ind k r) 32++(r++nl))++jI f ind nl rs (k+1)).length<=_
  simp only[da,tj,M9]
  lia
def Ja {P:Stmt->Prop} {st:Stmt} {q:Expr×Expr×List Stmt×List Stmt} {x:Str} (h:Al st=some q) (hx:dY q.1=some x) (ho:q.2.2.2=[]) (k:∀p pos,P (.For (.Name x p) q.2.1 q.2.2.1 [] pos)):P st:=fk ((DY st).get h) λp e=>by
 have k:=k q.1.pos p
 rw[(dp q.1).get hx,<-ho,e] at k
 exact k
def UG {U:Program} {w:World} {Y:Base} {sc:Scope} {x:Str} {d u v:DV} {c:Bool} {e:Expr} {q:Expr×CmpOp×Expr} (h:nG e=some q) (ha:f6 U w Y sc x q.1 d u) (hb:f6 U w Y sc x q.2.2 d v) (hc:fi U w Y.V q.2.1 u v c):qW U w Y sc x e d c:=a2 ((qC e).get h) λh m=>h▸abE ha hb hc m
def adA (v:DV):Bool:=Option.rec (motive:=λ_=>Bool) false (λa=>!fQ a []) (iG v)
def I0 (rows:List (List Nat)):(((rows.map DV.str).filter adA).map id)=(br rows).map DV.str:=by
 rw[List.map_id,List.filter_map];rfl
def Oz {rows:List (List Nat)} {q:List Nat} (h:q∈br rows):q≠[]:=λe=>by
 have k:=(List.mem_filter.mp h).2
 rw[e] at k
 exact ft k
def z4 (e:Bool) (cl fr:Nat):jn e cl fr=[]\/jn e cl fr=[45]\/jn e cl fr=[43]/\(e=false->1<=cl):=by
 have p2:∀n,n<2->([[],[43]].getD n []:List Nat)=[]\/([[],[43]].getD n []:List Nat)=[43]:=λn h=>by
  match n,h with
  |0,_=>exact .inl rfl
  |1,_=>exact .inr rfl
 have p3:∀n,n<3->([[],[45],[43]].getD n []:List Nat)=[]\/([[],[45],[43]].getD n []:List Nat)=[45]\/([[],[45],[43]].getD n []:List Nat)=[43]:=λn h=>by
  match n,h with
  |0,_=>exact .inl rfl
  |1,_=>exact .inr (.inl rfl)
  |2,_=>exact .inr (.inr rfl)
 match cl,e with
 |0,true=>exact(p3 (fr / 48 % 3) (qe _ (by decide))).imp_right λh=>h.imp_right λh=>⟨h,λe=>tf e⟩
 |0,false=>exact .inr (.inl rfl)
 |1,true=>exact .inr (.inr ⟨rfl,λe=>tf e⟩)
 |1,false=>exact(p2 (fr / 48 % 2) (qe _ (by decide))).imp_right λh=>.inr ⟨h,λ_=>fy _⟩
 |n+2,_=>exact .inr (.inr ⟨rfl,λ_=>MW _⟩)
def four {P:Nat->Prop} {n:Nat} (h:n<=3) (k:∀m∈[0,1,2,3],P m):P n:=k n (by match n,h with|0,_=>simp|1,_=>simp|2,_=>simp|3,_=>simp)
def E5 (n:Nat):(je (n % 4)).length<=10:=four (P:=λn=>(je n).length<=10) (u5 (qe _ (by decide))) (by decide)
section
variable {U:Program} {w:World} {Y:Base} (T0:cQ (KF (HH w)) Y) (hl:bz Y) (u:WS)
include T0 hl
abbrev wX (U:Program) (w:World) (Y:Base) (l:List Stmt) (Z:aj) (f:au) (ba:aj):Prop:=aF U w 1521 Y (FI (HH w) 1550).sc 10 l Z f ba
theorem qc {Z ba:aj} {l:List Stmt} {f:au} (B:fV wK Z.loc) (h:wR (HH w) l Z f ba):wX U w Y l Z f ba:=wg i5 (iZ (HH w)) T0 hl B h
theorem Y3 (B:List (List Nat)) (bf r:List Nat) (h:oO u) (jA:u.st=124\/u.st=62) (hB:B.length<=1000) (hb:bf.length<=60) (hr:r.length<=60) (hfo:(i6 r (u.fr / 7)).length<=100):
 ∃B' Dv f,wX U w Y (SM (HH w)) (w8 u (B.map .str) bf r) f (w8 u (B'.map .str) Dv r)/\(f=.next\/f=.cont)/\(∀rs,fg u.st (u.fr / 7) (r::rs) B bf=fg u.st (u.fr / 7) rs B' Dv)/\B'.length<=B.length+101/\Dv.length<=60:=by
 have ll:∀B:List (List Nat),(B.map DV.str).length=B.length:=λB=>mG ..
 have ap:∀(B:List (List Nat)) (v:List Nat),B.map DV.str++[.str v]=(B++[v]).map .str:=λB v=>by rw[Na];rfl
 have a1:∀v:List Nat,(B++[v]).length<=B.length+101:=λv=>by rw[da,ZG];lia
 have bd:=NV (B.map .str) bf r h (by rw[ll];lia) hb hr
 cases r with
 |nil=>
  have k:=qc (U:=U) T0 hl bd.1 (ajb (HH w) u (B.map .str) bf)
  rw[ap] at k
  exact⟨B++[[]],bf,.cont,k,.inr rfl,λ_=>rfl,a1 _,hb⟩
 |cons a r=>
  rcases jA with jA|jA
  ·have e:{u with st:=124}=u:=by rw[<-jA]
   have k:=qc (U:=U) T0 hl (e.symm▸bd.1) (aja (HH w) u (B.map .str) bf r a)
   rw[ap,e] at k
   exact⟨B++[a::r],bf,.cont,k,.inr rfl,λ_=>by rw[jA];rfl,a1 _,hb⟩
  ·have e:{u with st:=62}=u:=by rw[<-jA]
   have g:ZC (HH w) (ZD (HH w)).1 (w8 u (B.map .str) bf (a::r)) (qj bf (a::r)):=by
    cases bf with
    |nil=>exact adT (HH w) u (B.map .str) (a::r)
    |cons b bf=>exact adS (HH w) u (B.map .str) bf r a b
   have k2:=kl (ai7 (HH w)) (wd (U:=U) i5 (iZ (HH w)) T0 hl bd.1 g) (qc T0 hl bd.1 (adU (HH w) u (B.map .str) bf (a::r) _))
   have e2:(bif qj bf (a::r) then B.map DV.str++[.str []] else B.map .str)=(bif qj bf (a::r) then B++[[]] else B).map .str:=by cases qj bf (a::r);exact rfl;exact ap B []
   have z2:(bif qj bf (a::r) then B++[[]] else B).length<=B.length+1:=by cases qj bf (a::r);exact Nat.le_succ _;exact iU da
   rw[e2] at k2
   have k0:=λl' f ba k=>hY (U:=U) i5 (iZ (HH w)) T0 hl (n:=10) (l':=l') (fl:=f) (Rj:=ba) (show fV wK (w8 {u with st:=62} (B.map .str) bf (a::r)).loc from e.symm▸bd.1) (adR (HH w) u (B.map .str) bf r a) k
   rw[e] at k0
   generalize hB2:(bif qj bf (a::r) then B++[[]] else B)=B2 at k2 z2
   have bd2:=NV (B2.map .str) bf (a::r) h (by rw[ll];lia) hb hr
   have zz:B2.length+(i6 (a::r) (u.fr / 7)).length<=B.length+101:=bw (u4 z2 hfo) (by lia)
   have call:=Lu (U:=U) i5 (iZ (HH w)) T0 hl (n:=10) bd2.2 (adV (HH w) u (B2.map .str) bf (a::r)) (aaH (U:=U) T0 hl (a::r) (u.fr / 7) (λh=>cn h) (by lia) (bw (Nat.div_le_self ..) h.fr))
   rw[<-adX] at call
   have k3:=GX (U:=U) i5 (iZ (HH w)) T0 hl (n:=10) (ai8 (HH w) u (B2.map .str) bf (a::r)) call (by rw[ll,ll];exact bw zz (bw (ZI hB 101) (by decide)))
   rw[<-Na] at k3
   have bd3:=NV ((B2++i6 (a::r) (u.fr / 7)).map .str) bf (a::r) h (by rw[ll,da];lia) hb hr
   exact⟨B2++i6 (a::r) (u.fr / 7),a::r,.next,k0 _ _ _ (ao k2 (ao (adW u (B2.map .str) bf (a::r) _▸k3) (qc T0 hl bd3.1 (ai9 (HH w) u _ bf (a::r))))),.inl rfl,λ_=>by rw[jA,<-hB2];rfl,by rw[da];exact zz,hr⟩
theorem Y2 (h:oO u) (jA:u.st=124\/u.st=62) (rs:List (List Nat)):∀(B:List (List Nat)) (bf:List Nat) (loc:List (Str×ae)),B.length+101*rs.length<=1000->bf.length<=60->(∀r∈rs,r.length<=60/\(i6 r (u.fr / 7)).length<=100)->(∀r,bS loc fq (.pv (.str r))=(w8 u (B.map .str) bf r).loc)->rs≠[]->
 ∃Dv r,gk U w 1521 Y (FI (HH w) 1550).sc 10 fq (SM (HH w)) (rs.map .str) ⟨none,loc⟩ .next (w8 u ((fg u.st (u.fr / 7) rs B bf).map .str) Dv r)/\Dv.length<=60/\r.length<=60:=by
 induction rs with
 |nil=>exactλ_ _ _ _ _ _ _ h=>absurd rfl h
 |cons r rs ih=>
  intro B bf loc hB hb hr As _
  have hr1:=hr r (.head _)
  obtain⟨B',Dv,f,run,hf,eb,hlen,hb'⟩:=Y3 (U:=U) T0 hl u B bf r h jA (bw (Hx ..) hB) hb hr1.1 hr1.2
  rw[eb rs]
  have run:aF U w 1521 Y (FI (HH w) 1550).sc 10 (SM (HH w)) ⟨none,put loc fq (.pv (.str r))⟩ f (w8 u (B'.map .str) Dv r):=by
   rw[<-bk,As r];exact run
  cases rs with
  |nil=>exact⟨Dv,r,.turn run hf .done,hb',hr1.1⟩
  |cons r' rs=>
   obtain⟨bf2,r2,h2,h3,h4⟩:=ih B' Dv (w8 u (B'.map .str) Dv r).loc (by rw[M9] at hB;lia) hb' (λq m=>hr q (.tail _ m)) (λq=>(adY u (B'.map .str) Dv q r).2) λh=>cn h
   exact⟨bf2,r2,.turn run hf h2,h3,h4⟩
theorem Y4 (B:List DV) (bf r t:List Nat) (i:Nat) (e:Bool) (b:fV wK (wA u B bf r t i e).loc):wX U w Y [we (HH w)] (wA u B bf r t i e) .next (wA u B bf r (t++(List.replicate (MO (u.fr / 5) u.ind i r) 32++(r++u.nl))) i e):=by
 have k:=λa r' m=>qc (U:=U) T0 hl b (show wR (HH w) [we (HH w)] _ .next _ from aW (ajc (HH w) u B bf r' t i e a) r m)
 simp only[fc] at k
 cases r with
 |nil=>exact k 0 [] (.head _)
 |cons a r=>exact k a r (.tail _ (.head _))
theorem Rb (h:oO u) (B:List DV) (hB:B.length<=2000) (bf:List Nat) (hf:bf.length<=60) (e:Bool) (rs:List (List Nat)):∀(k:Nat) (t:List Nat) (loc:List (Str×ae)),k+rs.length<=3000->(∀r∈rs,r.length<=60)->t.length+200*rs.length<=900000->(∀(i:Nat) r,putAll loc [iz,fq] [.int i,.str r]=(wA u B bf r t i e).loc)->rs≠[]->
 ∃r i,fh U w 1521 Y (FI (HH w) 1550).sc 10 [iz,fq] [we (HH w)] ((rs.zipIdx k).map λp=>[.int p.2,.str p.1]) ⟨none,loc⟩ .next (wA u B bf r (t++jI (u.fr / 5) u.ind u.nl rs k) i e)/\r.length<=60/\i<=3000:=by
 induction rs with
 |nil=>exactλ_ _ _ _ _ _ _ h=>absurd rfl h
 |cons r rs ih=>
  intro k t loc hk hr ht As _
  rw[M9] at hk ht
  have h1:=hr r (.head _)
  have tn:=Y4 (U:=U) T0 hl u B bf r t k e (aak B bf r t k e h hB hf h1 (by lia) (by lia))
  have tn:aF U w 1521 Y (FI (HH w) 1550).sc 10 [we (HH w)] ⟨none,putAll loc [iz,fq] [.int k,.str r]⟩ .next _:=fb (As k r)▸(show aF U w 1521 Y (FI (HH w) 1550).sc 10 [we (HH w)] ⟨none,(wA u B bf r t k e).loc⟩ .next _ from tn)
  have e1:∀X:List Nat,t++((List.replicate (MO (u.fr / 5) u.ind k r) 32++(r++u.nl))++X)=t++(List.replicate (MO (u.fr / 5) u.ind k r) 32++(r++u.nl))++X:=λX=>(fc ..).symm
  show ∃r' i,fh U w 1521 Y (FI (HH w) 1550).sc 10 [iz,fq] [we (HH w)] ([.int k,.str r]::(rs.zipIdx (k+1)).map λp=>[.int p.2,.str p.1]) ⟨none,loc⟩ .next (wA u B bf r' (t++((List.replicate (MO (u.fr / 5) u.ind k r) 32++(r++u.nl))++jI (u.fr / 5) u.ind u.nl rs (k+1))) i e)/\r'.length<=60/\i<=3000
  rw[e1]
  cases rs with
  |nil=>exact⟨r,k,.turn rfl tn (.inl rfl) (by rw[show jI (u.fr / 5) u.ind u.nl [] (k+1)=[] from rfl,ti];exact .done),h1,by lia⟩
  |cons r' rs=>
   have:=SO (u.fr / 5) u.ind k r
   have hi:=h.ind
   have hn:=h.nl
   obtain⟨r2,i2,h2,h3,h4⟩:=ih (k+1) (t++(List.replicate (MO (u.fr / 5) u.ind k r) 32++(r++u.nl))) (wA u B bf r (t++(List.replicate (MO (u.fr / 5) u.ind k r) 32++(r++u.nl))) k e).loc (by lia) (λq m=>hr q (.tail _ m)) (by simp only[da,tj];lia) (λi q=>Y8 u B bf q _ i e r k) λh=>cn h
   exact⟨r2,i2,.turn rfl tn (.inl rfl) h2,h3,h4⟩
theorem MN (h:oO u) (B:List (List Nat)) (bf r:List Nat) (e:Bool) (hB:B.length<=1000) (hB2:∀b∈B,b.length<=60) (hf:bf.length<=60) (hr:r.length<=60):
 ∃iw,wX U w Y [wr (HH w) 10,wr (HH w) 11,wr (HH w) 12,wr (HH w) 13] (w7 u (.ml (B.map .str)) bf (r0 e r [])) (.ret (.str (([u.st]++Jk u.dg u.ch u.fr++je (u.fr / 12 % 4)++u.nl)++jI (u.fr / 5) u.ind u.nl (B++List.replicate u.bh []) 0))) ⟨none,iw⟩:=by
 have k1:=λl' f ba k=>hY (U:=U) i5 (iZ (HH w)) T0 hl (n:=10) (l':=l') (fl:=f) (Rj:=ba) (afW (B.map .str) bf r e h (by rw[mG];lia) hf hr) (ad1 (HH w) u (B.map .str) bf r e) k
 rw[show B.map DV.str++List.replicate u.bh (DV.str [])=(B++List.replicate u.bh []).map .str by rw[Na,List.map_replicate]] at k1
 have zB:(B++List.replicate u.bh []).length<=1100:=by
  have:=h.bh
  rw[da,tj];lia
 have zb:∀b∈B++List.replicate u.bh [],b.length<=60:=λb m=>(List.mem_append.mp m).elim (hB2 b) λm=>by rw[List.eq_of_mem_replicate m];exact ju _
 have zt:([u.st]++Jk u.dg u.ch u.fr++je (u.fr / 12 % 4)++u.nl).length<=200:=by
  have h1:(Jk u.dg u.ch u.fr).length=u.dg.length+u.ch.length:=by
   unfold Jk
   cases((u.fr / 6 % 2:Nat):Int)==0
   ·exact(da ..).trans (Nat.add_comm ..)
   ·exact da ..
  have:=E5 (u.fr / 12)
  have:=h.dg;have:=h.ch;have:=h.nl
  simp only[da,ZG];lia
 generalize B++List.replicate u.bh []=B at k1 zB zb
 generalize [u.st]++Jk u.dg u.ch u.fr++je (u.fr / 12 % 4)++u.nl=t at k1 zt
 have zB':(B.map DV.str).length<=2000:=by rw[mG];lia
 have en:iY (B.map DV.str)=(B.zipIdx 0).map λp=>[.int p.2,.str p.1]:=by unfold iY;rw[List.zipIdx_map,List.map_map];rfl
 have s12:∀{ba:aj},fh U w 1521 Y (FI (HH w) 1550).sc 10 [iz,fq] [we (HH w)] ((B.zipIdx 0).map λp=>[.int p.2,.str p.1]) (w9 u (.pv (.lst (B.map .str))) bf r t e) .next ba->aU U w 1521 Y (FI (HH w) 1550).sc 10 (wr (HH w) 12) (w9 u (.ml (B.map .str)) bf r t e) .next ba:=λhL=>
  j4 (ad2 (HH w)) λf0 f1 f2 f3=>vq f0 λkt p pn pos' pos=>zo T0 f1 f2 (lZ (U:=U) i5 (iZ (HH w)) T0 hl (Y6 (HH w) u (B.map .str) bf r t e)) (λ_ _=>rfl) (by rw[f3,en];exact hL)
 cases B with
 |nil=>exact⟨_,k1 _ _ _ (ao (s12 .done) (by rw[show jI (u.fr / 5) u.ind u.nl [] 0=[] from rfl,ti];exact qc T0 hl (aaj [] bf r t e h zB' hf hr (by lia)) (kS (SN (HH w) u [] bf r t 0 e)).1))⟩
 |cons b B=>
  obtain⟨r',i,hL,hr',hi⟩:=Rb (U:=U) T0 hl u h ((b::B).map .str) zB' bf hf e (b::B) 0 t (w9 u (.pv (.lst ((b::B).map .str))) bf r t e).loc (by lia) zb (by lia) (λi q=>Y7 u ((b::B).map .str) bf r t i e q) λh=>cn h
  exact⟨_,k1 _ _ _ (ao (s12 hL) (qc T0 hl (aak ((b::B).map .str) bf r' _ i e h zB' hf hr' (by
   rw[da]
   have:=uG (u.fr / 5) u.ind u.nl h.ind h.nl (b::B) 0 zb
   lia) hi) (kS (SN (HH w) u _ bf r' _ i e)).2))⟩
omit T0 hl in
theorem w_4 (H:Array Nat->Int) {e:Bool} (he:mA u.F=e) (h:u.cl<=3):wR H [wr H 4] (w3 u []) .next (w4 {u with ch:=jn e u.cl u.fr}):=by
 subst he
 obtain⟨R,F,cl,st,le,fr,ind,bh,nl,dg,ch⟩:=u
 cases F with
 |nil=>exact four (P:=λcl=>wR H [wr H 4] (w3 ⟨R,[],cl,st,le,fr,ind,bh,nl,dg,ch⟩ []) .next (w4 ⟨R,[],cl,st,le,fr,ind,bh,nl,dg,jn true cl fr⟩)) h (aW (ad7 H ⟨R,[],cl,st,le,fr,ind,bh,nl,dg,ch⟩))
 |cons a F=>exact four (P:=λcl=>wR H [wr H 4] (w3 ⟨R,a::F,cl,st,le,fr,ind,bh,nl,dg,ch⟩ []) .next (w4 ⟨R,a::F,cl,st,le,fr,ind,bh,nl,dg,jn false cl fr⟩)) h (aW (ad6 H ⟨R,F,cl,st,le,fr,ind,bh,nl,dg,ch⟩ a F))
omit T0 hl in
theorem w_5 (H:Array Nat->Int) {e:Bool} (he:mA u.F=e) (h:u.cl<=3):wR H [wr H 5,wr H 6,wr H 7,wr H 8] (w4 {u with ch:=jn e u.cl u.fr}) .next (w7 {u with ch:=jn e u.cl u.fr,bh:=tr e u.cl u.fr} (.ml []) [] []):=by
 subst he
 have c:=z4 (mA u.F) u.cl u.fr
 unfold tr
 generalize jn (mA u.F) u.cl u.fr=ch at c ⊢
 rcases c with c|c|c
 ·rw[c];exact aW (ad8 H u) [] (.head _)
 ·rw[c];exact aW (ad8 H u) [45] (.tail _ (.head _))
 ·rw[c.1]
  have c2:=c.2
  obtain⟨R,F,cl,st,le,fr,ind,bh,nl,dg,ch⟩:=u
  cases F with
  |nil=>exact four (P:=λcl=>wR H [wr H 5,wr H 6,wr H 7,wr H 8] (w4 ⟨R,[],cl,st,le,fr,ind,bh,nl,dg,[43]⟩) .next (w7 ⟨R,[],cl,st,le,fr,ind,cl,nl,dg,[43]⟩ (.ml []) [] [])) h (aW (aea H ⟨R,[],cl,st,le,fr,ind,bh,nl,dg,[43]⟩))
  |cons a F=>
   cases cl with
   |zero=>exact absurd (c2 rfl) (Nat.not_succ_le_zero 0)
   |succ n=>exact ad9 H ⟨R,F,n,st,le,fr,ind,bh,nl,dg,[43]⟩ a F n
theorem w_9 (h:oO u) {ba:aj} (hL:gk U w 1521 Y (FI (HH w) 1550).sc 10 fq (SM (HH w)) u.R (w7 u (.ml []) [] []) .next ba):aU U w 1521 Y (FI (HH w) 1550).sc 10 (wr (HH w) 9) (w7 u (.ml []) [] []) .next ba:=
 j5 (ajg (HH w)) λf0 f1 f2 f3 f4=>Ja (P:=λst=>aU U w 1521 Y (FI (HH w) 1550).sc 10 st (w7 u (.ml []) [] []) .next ba) f0 f1 (aQ Prod.snd f4) λp pos=>by
  rw[show(Y5 (HH w)).2.2.1=SM (HH w) from aQ Prod.fst f4]
  exact Mu (sj (U:=U) i5 (iZ (HH w)) T0 hl (n:=10) (RC [] [] h (ju _) (ju _)) (aeb ..)) (.inr rfl) (aP f2) (hG f3) hL
abbrev wU (rows:List (List Nat)) (cl st le fr:Nat) (nl:List Nat):WS:=⟨rows.map .str,(br rows).map .str,cl,st,le,fr,le+fr % 3,tr (mA (br rows)) cl fr,nl,qh (br rows) fr,jn (mA (br rows)) cl fr⟩
theorem aec (rows:List (List Nat)) (cl st le fr:Nat) (nl:List Nat) (jA:st=124\/st=62) (hr:rows.length<=8) (hrf:∀r∈rows,r.length<=60/\(i6 r (fr / 7)).length<=100) (hb:(fg st (fr / 7) rows [] []).length<=1000) (hb2:∀b∈fg st (fr / 7) rows [] [],b.length<=60) (hc:cl<=3) (hle:le<=40) (hz:fr<=90000) (h3:nl.length<=50):
 af U w 1521 Y 11 (.ref 1550) [.lst (rows.map .str),.int cl,.str [st],.int le,.int fr,.str nl] [] none (.str (kq rows cl st le fr nl)) none:=by
 have ok:∀F ind dg ch bh,ind<=60->dg.length<=1->ch.length<=1->bh<=100->oO ⟨rows.map .str,F,cl,st,le,fr,ind,bh,nl,dg,ch⟩:=λF ind dg ch bh a b c d=>⟨⟨⟨hc,hle,hz,h3⟩,a,b⟩,c,d⟩
 have hi:le+fr % 3<=60:=by lia
 have ok0:=(ok [] 0 [] [] 0 (ju _) (ju _) (ju _) (ju _)).toWOk
 have hdg:(qh (br rows) fr).length<=1:=by
  unfold qh
  cases rD (br rows) fr
  ·exact ju _
  ·exact fy _
 have hch:(jn (mA (br rows)) cl fr).length<=1:=by
  rcases z4 (mA (br rows)) cl fr with h|h|h
  ·rw[h];exact ju _
  ·rw[h];exact fy _
  ·rw[h.1];exact fy _
 have hbh:tr (mA (br rows)) cl fr<=100:=by
  unfold tr
  cases fQ (jn (mA (br rows)) cl fr) [43] with
  |true=>cases mA (br rows)<;>show _<=_<;>lia
  |false=>show fr / 84 % 3<=100;lia
 have GW:=ok ((br rows).map .str) (le+fr % 3) (qh (br rows) fr) (jn (mA (br rows)) cl fr) (tr (mA (br rows)) cl fr) hi hdg hch hbh
 have GW:oO (wU rows cl st le fr nl):=GW
 have h9:∃iw,wX U w Y [wr (HH w) 9,wr (HH w) 10,wr (HH w) 11,wr (HH w) 12,wr (HH w) 13] (w7 (wU rows cl st le fr nl) (.ml []) [] []) (.ret (.str (kq rows cl st le fr nl))) ⟨none,iw⟩:=by
  cases Jr:rows with
  |nil=>
   rw[Jr] at GW
   exact fk (MN (U:=U) T0 hl (wU [] cl st le fr nl) GW [] [] [] false (ju _) (λ_ h=>nomatch h) (ju _) (ju _)) λba k=>⟨ba,ao (w_9 T0 hl (wU [] cl st le fr nl) GW .done) k⟩
  |cons r rs=>
   rw[<-Jr]
   obtain⟨bf,r,hL,hf,hr'⟩:=Y2 (U:=U) T0 hl (wU rows cl st le fr nl) GW jA rows [] [] (w7 (wU rows cl st le fr nl) (.ml []) [] []).loc (by rw[List.length_nil];lia) (ju _) hrf (λq=>(adY (wU rows cl st le fr nl) [] [] q []).1) (by rw[Jr];exactλh=>cn h)
   exact fk (MN (U:=U) T0 hl (wU rows cl st le fr nl) GW (fg st (fr / 7) rows [] []) bf r true hb hb2 hf hr') λba k=>⟨ba,ao (w_9 T0 hl (wU rows cl st le fr nl) GW hL) k⟩
 have h3:∃iw,wX U w Y [wr (HH w) 3,wr (HH w) 4,wr (HH w) 5,wr (HH w) 6,wr (HH w) 7,wr (HH w) 8,wr (HH w) 9,wr (HH w) 10,wr (HH w) 11,wr (HH w) 12,wr (HH w) 13] (w3 {wU rows cl st le fr nl with dg:=[]} []) (.ret (.str (kq rows cl st le fr nl))) ⟨none,iw⟩:=fk h9 λba k=>⟨ba,by
  have e:mA (wU rows cl st le fr nl).F=mA (br rows):=by show mA ((br rows).map DV.str)=_;cases br rows<;>rfl
  have k4:=hY (U:=U) i5 (iZ (HH w)) T0 hl (n:=10) (TA GW.toNi) (w_4 (wU rows cl st le fr nl) (HH w) e hc) (hY (U:=U) i5 (iZ (HH w)) T0 hl (n:=10) (afV GW.toNi GW.ch) (w_5 (wU rows cl st le fr nl) (HH w) e hc) k)
  have t:ZC (HH w) (Y0 (HH w)).1 (w3 {wU rows cl st le fr nl with dg:=[]} []) (rD (br rows) fr):=by
   have q:=λr m=>Oz (rows:=rows) (q:=r) m
   unfold wU
   generalize br rows=full at q
   cases full with
   |nil=>exact ad4 (HH w) (wU rows cl st le fr nl)
   |cons a as=>
    cases a with
    |nil=>exact absurd rfl (q [] (.head _))
    |cons a b=>exact ad3 (HH w) (wU rows cl st le fr nl) a b (as.map .str)
  have ok3:Ni {wU rows cl st le fr nl with dg:=[]}:=⟨⟨hc,hle,hz,h3⟩,hi,ju _⟩
  refine ao (kl (ajf (HH w)) (wd (U:=U) i5 (iZ (HH w)) T0 hl (n:=10) (TA ok3) t) ?_) k4
  have x:=ad5 (HH w) (wU rows cl st le fr nl)
  show aF U w 1521 Y _ 10 _ _ .next (w3 {wU rows cl st le fr nl with dg:=qh (br rows) fr} [])
  unfold qh
  cases rD (br rows) fr with
  |true=>exact qc T0 hl (TA ok3) x.1
  |false=>exact(show aF U w 1521 Y (FI (HH w) 1550).sc 10 (Y0 (HH w)).2.2 _ .next _ from x.2▸bA)⟩
 refine fk h3 λiw k3=>gd (fl:=.ret (.str (kq rows cl st le fr nl))) (ba:=⟨none,iw⟩) i5 (iZ (HH w)) T0 hl (Y9 (wU rows cl st le fr nl)) (.at (ajh (HH w)) (ao ?_ (hY (U:=U) i5 (iZ (HH w)) T0 hl (n:=10) (afU GW.toWOk) (aje (HH w) (wU rows cl st le fr nl)) k3))) rfl
 exact j5 (ajd (HH w)) λc0 c1 c2 c3 c4=>j4 (adZ (HH w) (wU rows cl st le fr nl)) λd0 d1 d2 d3=>by
  have S:=rz c0
  have k:=ry (U:=U) (w:=w) (C:=1521) (Y:=Y) (d:=10) (Z:=w0 (wU rows cl st le fr nl) []) (l:=rows.map .str) c0 adA id (by rw[mG];exact bw hr (by decide)) (λv m=>bx (Hw.mp m) λa _ e=>e▸rfl) (sj (U:=U) i5 (iZ (HH w)) T0 hl (n:=10) (aai GW.toWOk) d3).rest
   (.inr ⟨_,c2,λv m=>bx (Hw.mp m) λa _ e=>by
     rw[<-e]
     exact UG c4 (vO S d0) (UK d2 (by decide)) (by rw[d1];exact jZ (show some (a != [])=some (!fQ a []) by rw[jo];rfl))⟩) λv m _=>vO S c3
  rw[I0,c1] at k
  exact ad0 (wU rows cl st le fr nl) ((br rows).map .str)▸k
end
section
variable {U:Program} {w:World} {C:Nat} {K:Frag} {Y:Base} {sc:Scope} {d:Nat} {Z aa ah:aj}
def zp {x y:Str} {p pn pos' pos:Pos} {e:Expr} {b:List Stmt} {n:Nat} {f:au} {iS:aj} (T:cQ K Y) (hl:sc.names.lookup x=some .local) (hb:bB K sc y (.type "range")=true) (ha:dJ U w C Y sc d [e] Z [.int n] aa) (hn:n<=1000)
    (hB:gk U w C Y sc d x b ((List.range n).map λ(i:Nat)=>DV.int (i:Int)) aa f iS):aU U w C Y sc d (.For (.Name x p) (.Call (.Name y pn) [e] [] pos') b [] pos) Z f iS:=
 wJ hl (λ_ _=>rfl) (λA G L s env ro eo R Q k=>xO (pos:=pos') T hb ha ro eo R λaD ay u aE aJ du=>du.fS λtk=>by
  refine call_range_1 ?_
  have yc:Builtin.Range.rangeSize 0 (n:Int) 1=(n:Int):=by rw[rangeSize_one];split<;>lia
  have gr:=jQ.grown (tk:=ay.toks+1+1) aE (λb o e=>MT {cls:=.type "range",data:=.fields #[.int 0 ay.toks,.int n tk,.int 1 (ay.toks+1)]} e) (size_push ..)
  generalize hh:ay.heap.push {cls:=.type "range",data:=.fields #[.int 0 ay.toks,.int n tk,.int 1 (ay.toks+1)]}=h' at gr ⊢
  have f:=gr.1.fresh (fy h'.objs.size)
  have l:=aJ.aO gr.2
  have W:=KTurns.ofWalks (target:=.Name x p) (Walks.range (prog:=U) (w:=w) (A:=A) ro.handled h'.objs.size 0 1 n).bound λ_ _ _ _ _ _ h=>vA h
  have W:=Eq.subst (motive:=λm=>KTurns U w A (.Name x p) h'.objs.size [h'.objs.size] [h'.objs.size] m _ _ _) (show n=((List.range n).map λ(i:Nat)=>DV.int (i:Int)).length by simp) W
  refine k aD _ _ {ay with heap:=h'.push {cls:=.type "range_iterator",data:=.fields #[rawInt 0,rawInt (n:Int),rawInt 1]},toks:=ay.toks+1+1} _ _ _ _ _ _ (gr.1.push (t:=ay.toks+1+1) _) (l.aO (eU (t:=ay.toks+1+1) _)) ⟨λQ E hQ=>wpAny_pyIter_range (hh▸IsRange.new ay.heap 0 n 1 ay.toks tk (ay.toks+1)) (small_one (by lia) (by lia) (by lia) (by lia)) (by rw[yc];exact hQ),W,?_,?_,?_,?_⟩
  ·show IsRangeIter _ _ ((0:Int)+((0:Nat):Int)*1) ((n:Int) - ((0:Nat):Int)) 1
   rw[show(0:Int)+((0:Nat):Int)*1=0 by lia,show(n:Int) - ((0:Nat):Int)=n by lia]
   exact Hu _ rfl
  ·exact e9.mpr ⟨⟨λq=>q.elim f.1 f.2.1,by rw[M7];exact MV _⟩,qT _⟩
  ·exact e9.mpr ⟨⟨f.2.2,l.size⟩,qT _⟩
  ·exactλG' sb j v _ q=>a2 q λhj q=>fk q λt e=>⟨.int (j:Int),by simp[hj],by
    rw[e,show(0:Int)+(j:Int)*1=(j:Int) by lia]
    exact⟨t,rfl⟩⟩) hB
def tupS (st:Stmt):Option (List Expr×Expr):=(ve st).bind λq=>(dM q.1).bind λt=>(mF t).bind λes=>bif cZ q.2&&si q.2 then some (es,q.2) else none
def Fd (st:Stmt):On (λq=>(∃k p pos,.Assign [.Tuple q.1 k p] q.2 pos=st)/\cZ q.2=true/\si q.2=true) (tupS st):=
 (jR st).b λq h=>(bp q.1).b λt h1=>(qQ t).b λes h2=>ak λh3=>a2 (aw h3) λh3 h4=>⟨fk h λp h=>cV h2 λk p' h2=>⟨k,p',p,by rw[h2,h1];exact h⟩,h3,h4⟩
def C5 {st:Stmt} {q:List Expr×Expr} {xs:List Str} {vs:List DV} (hq:tupS st=some q) (h:aC U w C Y sc d q.2 Z (.lst vs) aa) (hx:names sc q.1=some xs) (hn:xs.length=vs.length):aU U w C Y sc d st Z .next {aa with loc:=putAll aa.loc xs vs}:=
 a3 ((Fd st).get hq) λe hc ht=>gq e λkk p pos e=>e▸λA G L s env ro eo R Q k=>
 wpAny_Assign_stores (h A G L s env ro eo R _ λaz u ax aB aH aV=>show WP U w A (assign (.Tuple q.1 kk p) env u) ax _ from aV.lu λa us n g _ hd=>by
  have⟨n1,n2⟩:=sf (env:=env) q.1 hx
  rw[assign_Tuple]
  refine eO (Rt ?_)
  show WP U w A (unpack (.ref a) (assignEach q.1 env)) ax _
  unfold unpack
  rw[n1,hn,hd.length,n2]
  exact eO (Nc (e8 (kun_itemsOf (items:=⟨us⟩) ro.handled ⟨_,aB.pins _ _ g,rfl,n,rfl⟩ λh' he gr=>a2 (jQ.grown (tk:=ax.toks) aB (λb o e=>he b o (Fo (u0 e)) e) gr.size) λaE aJ=>uQ eo q.1 xs vs us aa _ hx hn aE hd _ λcB cF cL=>k az _ cB cF ((aH.up.trans' aJ.up).trans' cL) rfl))))
  (show swapsWith q.2 (some (.Tuple q.1 kk p)) pos.line env=pure false from dq hc) (i9 ht env)
def C6 {st:Stmt} {q:List Expr×Expr} {xs:List Str} {vs:List DV} (hq:tupS st=some q) (h:aC U w C Y sc d q.2 Z (.tup vs) aa) (hx:names sc q.1=some xs) (hn:xs.length=vs.length):aU U w C Y sc d st Z .next {aa with loc:=putAll aa.loc xs vs}:=
 a3 ((Fd st).get hq) λe hc ht=>gq e λkk p pos e=>e▸pJ h hx hn hc (i9 ht)
def L1 {e:Expr} {q:Expr×CmpOp×Expr} {x y:DV} {c:Bool} (h:nG e=some q) (ha:aC U w C Y sc d q.1 Z x aa) (hb:aC U w C Y sc d q.2.2 aa y ah) (hc:fi U w Y.V q.2.1 x y c):aC U w C Y sc d e Z (.bool c) ah:=a2 ((qC e).get h) λh m=>h▸wu ha hb hc m
end
def q8 (X:Cx) (st:Stmt):Option (Str×Expr):=(ve st).bind λq=>(dM q.1).bind λt=>(dY t).bind λx=>bif fP X x then bif cZ q.2 then some (x,q.2) else none else none
def S8 {U:Program} {w:World} {C:Nat} {Y:Base} {d:Nat} {X:Cx} {Z aa:aj} {st:Stmt} {q:Str×Expr} {r:Res} (h:q8 X st=some q) (he:cO U w C Y X.sc d q.2 Z r aa):aU U w C Y X.sc d st Z .next ⟨aa.aq,bS aa.loc q.1 r.slot⟩:=by
 revert he
 exact((jR st).b λz h=>(bp z.1).b λt ht=>(dp t).b λy hy=>ak λhl=>ak λhc=>show cO U w C Y X.sc d z.2 Z r aa->aU U w C Y X.sc d st Z .next ⟨aa.aq,bS aa.loc y r.slot⟩ fromλhe=>fk h λp h=>by rw[<-h,<-ht,<-hy,bk];exact gx he (aP hl) hc:On (λq:Str×Expr=>cO U w C Y X.sc d q.2 Z r aa->aU U w C Y X.sc d st Z .next ⟨aa.aq,bS aa.loc q.1 r.slot⟩) (q8 X st)).get h
def jO:Str:=⟨#[116,97,112,101]⟩
def gQ:Str:=⟨#[100,114,97,119,110]⟩
def th:Str:=⟨#[115,104,97,112,101]⟩
def MQ:Str:=⟨#[115,104,117,116]⟩
def Rg:Str:=⟨#[100,117,101]⟩
def jP:Str:=⟨#[116,117,114,110]⟩
def lK:Str:=⟨#[112,108,97,99,101]⟩
def Rh:Str:=⟨#[111,110,101]⟩
def Ri:Str:=⟨#[116,119,111]⟩
def xa:Str:=⟨#[116,104,114,101,101]⟩
def Zc:Str:=⟨#[111,116,104,101,114]⟩
def w6:Str:=⟨#[112,114,111,112,115]⟩
def aeh:Str:=⟨#[116,111,108,100]⟩
def zC:Str:=⟨#[103,111,116]⟩
def hR:Str:=⟨#[112,97,114,115,101,114]⟩
structure LU where
 S:List DV
 TP:List DV
 D:ae
 nl:List Nat
 sh:Nat
 su:Bool
 t:List Nat
 fW:List DV
structure TU where
 i:Nat
 pl:Nat
 fr:Nat
 a:Nat
 b:Nat
 c:Nat
 st:Nat
 ot:Nat
 cl:Nat
 R:ae
 v:List Nat
 P:Pv
 told:DV
def iD (k:Nat):DV:=.int (k:Int)
def zz5:List DV:=[iD 0,iD 0,iD 0,iD 0,iD 0]
section
variable (H:Array Nat->Int) (u:LU) (e:Bool) (o x:TU)
def ew:qi (KF H) 1569=some (FI H 1569):=KK
def eA:bc 1569 vu=true:=KK
abbrev lw (n:Nat):Stmt:=ai (FI H 1569).body n
abbrev L0 (tl:List (Str×ae)):aj:=⟨none,(gA,.pv (.lst u.S))::tl⟩
abbrev L2 (tl:List (Str×ae)):aj:=L0 u ((jO,.ml u.TP)::(gQ,u.D)::tl)
abbrev L5 (tl:List (Str×ae)):aj:=L2 u ((SP,.pv (.str u.nl))::(th,.pv (.int u.sh))::(MQ,.pv (.bool u.su))::tl)
abbrev LA (tl:List (Str×ae)):aj:=L5 u ((mP,.pv (.str u.t))::(Rg,.ml u.fW)::tl)
def tE (x:TU):List (Str×ae):=[(lK,.pv (.int x.pl)),(hE,.pv (.int x.fr)),(Rh,.pv (.int x.a)),(Ri,.pv (.int x.b)),(xa,.pv (.int x.c)),(fF,.pv (.str [x.st])),(Zc,.pv (.str [x.ot])),(zClose,.pv (.int x.cl)),(jk,x.R),(dX,.pv (.str x.v)),(w6,.pv (.str x.P.txt)),(ke,.pv x.P.ZZ),(mC,.pv x.P.tag),(aeh,.pv x.told)]
abbrev LT (k:Nat):aj:=LA u ((jP,.pv (.int x.i))::((tE x).take k++bif e then(tE o).drop k else[]))
abbrev LE:aj:=LA u ((jP,.pv (.int x.i))::tE x)
abbrev lR (l:List Stmt) (Z:aj) (β:iV) (f:au) (ba:aj):Prop:=oR H 40 1569 l Z β=some (f,ba)
def ahU:(FI H 1569).body=[lw H 0,lw H 1,lw H 2,lw H 3,lw H 4,lw H 5,lw H 6,lw H 7,lw H 8,lw H 9,lw H 10,lw H 11,lw H 12,lw H 13,lw H 14]:=KK
abbrev lA0:Str×Expr:=(q8 (eT H bY 40 1569) (lw H 0)).getD default
def lB0:Expr×Operator×Expr:=(gE (lA0 H).2).getD default
def Zr:CQ:=(xQ (lB0 H).1).getD cq0
def lM0:Expr×Operator×Expr:=(gE (Zr H).elt).getD default
def ahw:(q8 (eT H bY 40 1569) (lw H 0),(lA0 H).1)=(some (lA0 H),jO):=KK
def aht:(gE (lA0 H).2,(lB0 H).2.1,xQ (lB0 H).1,(Zr H).ifs,gE (Zr H).elt)=(some (lB0 H),.Add,some (Zr H),[],some (lM0 H)):=KK
def ahu:(dY (lM0 H).1,(lM0 H).2.1,fS (lM0 H).2.2)=(some (Zr H).x,.Mod,some 5040):=KK
def abn:(oK H 40 1569 (Zr H).iter (L0 u []) [(gA,100)],oK H 40 1569 (lB0 H).2.2 (L0 u []) [(gA,100)])=(some (.fl (cutD u.S none (some 2))),some (.fl [iD 0,iD 0])):=KK
def ahv:bS (L0 u []).loc jO (.ml u.TP)=(L0 u [(jO,.ml u.TP)]).loc:=KK
def UC:Str×CQ:=(nH (FI H 1569).sc (lw H 1)).getD (default,cq0)
def lM1:Expr×Operator×Expr:=(gE (UC H).2.elt).getD default
def ahA:(nH (FI H 1569).sc (lw H 1),(UC H).1,(UC H).2.ifs,gE (UC H).2.elt)=(some (UC H),gQ,[],some (lM1 H)):=KK
def ahy:(dY (lM1 H).1,(lM1 H).2.1,fS (lM1 H).2.2)=(some (UC H).2.x,.Mod,some 5040):=KK
def ahx:oK H 40 1569 (UC H).2.iter (L0 u [(jO,.ml u.TP)]) [(gA,100)]=some (.fl (cutD u.S (some 2) (some 12))):=KK
def ahz (D:List DV):bS (L0 u [(jO,.ml u.TP)]).loc gQ (.ml D)=(L2 {u with D:=.ml D} []).loc:=KK
abbrev pC (k:Nat):List Nat:=[[10],[13,10],[13],[133]].getD k []
def ahB (a b:Nat):([[],[iD 0],[iD 0,iD 0]].map λq=>oR H 40 1569 [lw H 2,lw H 3] (L2 {u with TP:=iD a::iD b::q} []) [(jO,4)])=[[],[iD 0],[iD 0,iD 0]].map λq=>some (.next,L2 {u with TP:=iD a::iD b::q} [(SP,.pv (.str (pC (a % 4)))),(th,.pv (.int (b % 3:Nat)))]):=KK
abbrev lA4:Str×Expr:=(q8 (eT H bY 40 1569) (lw H 4)).getD default
def lQ4:Expr×CmpOp×Expr:=(nG (lA4 H).2).getD default
def lB4:Expr×Operator×Expr:=(gE (lQ4 H).1).getD default
def lD4:Expr×Operator×Expr:=(gE (lB4 H).1).getD default
def ahF:(q8 (eT H bY 40 1569) (lw H 4),(lA4 H).1,nG (lA4 H).2,gE (lQ4 H).1,gE (lB4 H).1)=(some (lA4 H),MQ,some (lQ4 H),some (lB4 H),some (lD4 H)):=KK
def ahD:((lQ4 H).2.1,(lB4 H).2.1,(lD4 H).2.1)=(.Eq,.Mod,.FloorDiv):=KK
abbrev L4:aj:=L2 u [(SP,.pv (.str u.nl)),(th,.pv (.int u.sh))]
def ahC (a b:Nat):([[],[iD 0],[iD 0,iD 0]].map λq=>(oK H 40 1569 (lD4 H).1 (L4 {u with TP:=iD a::iD b::q}) [],oK H 40 1569 (lD4 H).2.2 (L4 {u with TP:=iD a::iD b::q}) [],oK H 40 1569 (lB4 H).2.2 (L4 {u with TP:=iD a::iD b::q}) [],oK H 40 1569 (lQ4 H).2.2 (L4 {u with TP:=iD a::iD b::q}) []))=[[],[iD 0],[iD 0,iD 0]].map λq=>(some (.pv (.int b)),some (.pv (.int (3:Nat))),some (.pv (.int (2:Nat))),some (.pv (.int (1:Nat)))):=KK
def ahE:(⟨none,bS (L4 u).loc MQ (.pv (.bool u.su))⟩:aj)=L5 u []:=KK
def E6 (sh:Nat) (nl:List Nat):List Nat:=bif ((sh:Nat):Int)==(1:Int) then[45,45,45]++nl else[]
def Ob (sh:Nat):List DV:=bif Nat.blt sh 2 then[tQ,kL (Nat.beq sh 1),sY] else[tQ]
abbrev bH:iV:=[(SP,50),(th,2),(Rg,3)]
def ahG:([0,1,2].map λn=>oR H 40 1569 [lw H 5,lw H 6,lw H 7] (L5 {u with sh:=n} []) bH)=[0,1,2].map λn=>some (.next,LA {u with sh:=n,t:=E6 n u.nl,fW:=Ob n} []):=KK
def lF:Expr×Expr×List Stmt×List Stmt:=(Al (lw H 8)).getD default
abbrev tb (n:Nat):Stmt:=ai (lF H).2.2.1 n
def ahK:(Al (lw H 8),dY (lF H).1,fP (eT H bY 40 1569) jP,(lF H).2.2)=(some (lF H),some jP,true,([tb H 0,tb H 1,tb H 2,tb H 3,tb H 4,tb H 5,tb H 6,tb H 7,tb H 8,tb H 9,tb H 10,tb H 11,tb H 12,tb H 13],[])):=KK
def b0Q:List Expr×Expr:=(tupS (tb H 0)).getD default
def afA:(tupS (tb H 0),names (FI H 1569).sc (b0Q H).1)=(some (b0Q H),some [lK,hE,Rh,Ri,xa]):=KK
def afy (D:List DV):oK H 40 1569 (b0Q H).2 (LT {u with D:=.pv (.lst D)} e o x 0) [(gQ,10),(jP,1)]=some (.fl (cutD (cutD D (some (5*x.i:Nat)) (some (5*x.i+5:Nat))++zz5) none (some 5))):=by cases e<;>kernel_rfl
def afC:lR H [tb H 1,tb H 2,tb H 3,tb H 4,tb H 5] (LT u e o x 5) [(lK,5039),(hE,5039)] .next (LT u e o {x with st:=[124,62].getD (x.pl / 4 % 2) 0,ot:=[124,62].getD ((x.pl / 4+1) % 2) 0,pl:=x.pl % 4,fr:=x.fr*1733 % 5040,cl:=x.fr*1733 % 5040 / 252 % 4} 8):=by cases e<;>kernel_rfl
abbrev kP:List (Str×Nat):=[(th,2),(lK,3),(hE,5039),(mP,700000),(SP,50),(w6,6),(Rg,60),(zClose,3)]
def Du:Str×CQ:=(nH (FI H 1569).sc (tb H 6)).getD (default,cq0)
def b6S:Expr×Expr:=(tP (Du H).2.elt).getD default
def b6M:Expr×Operator×Expr:=(gE (b6S H).2).getD default
def afH:(nH (FI H 1569).sc (tb H 6),(Du H).1,(Du H).2.ifs,tP (Du H).2.elt)=(some (Du H),jk,[],some (b6S H)):=KK
def afF:(dY (b6S H).1,gE (b6S H).2,dY (b6M H).1,(b6M H).2.1,fS (b6M H).2.2)=(some K0,some (b6M H),some (Du H).2.x,.Mod,some 11):=KK
def afE:(Du H).2.sc.names.lookup K0=some .globalImplicit/\nsIn (KF H) mainGlobals K0=some (some (.ref 1524))/\(K0==("__debug__":Str))=false:=⟨KK,KK,KK⟩
def afD:oK H 40 1569 (Du H).2.iter (LT u e o x 8) []=some (.fl [iD x.a,iD x.b,iD x.c]):=by cases e<;>kernel_rfl
def afG (R:List DV):(⟨none,bS (LT u e o x 8).loc jk (.ml R)⟩:aj)=LT u e o {x with R:=.ml R} 9:=by cases e<;>kernel_rfl
def Hz:Expr×List Stmt:=(whS (tb H 7)).getD default
def afJ:tb H 7=.While (Hz H).1 (Hz H).2 [] (tb H 7).pos:=KK
def afI:uA H 40 1569 (Hz H).1 (LT u e o {x with R:=.ml []} 9) []=some false:=by cases e<;>kernel_rfl
def Tb (p q r:List Nat):(uA H 40 1569 (Hz H).1 (LT u e o {x with R:=.ml [.str p]} 9) [],uA H 40 1569 (Hz H).1 (LT u e o {x with R:=.ml [.str q,.str p]} 9) [],uA H 40 1569 (Hz H).1 (LT u e o {x with R:=.ml [.str r,.str q,.str p]} 9) [])=(some (fQ p []&&true),some (fQ p []&&true),some (fQ p []&&true)):=by cases e<;>kernel_rfl
def afK (l:List DV):lR H (Hz H).2 (LT u e o {x with R:=.pv (.lst l)} 9) [(jk,3)] .next (LT u e o {x with R:=.ml (cutD l none (some (-1)))} 9):=by cases e<;>kernel_rfl
def afL (l:List DV):Ao (LT u e o {x with R:=.ml l} 9) jk l=LT u e o {x with R:=.pv (.lst l)} 9/\aT (LT u e o {x with R:=.ml l} 9).loc jk=some (.ml l):=by cases e<;>exact⟨KK,KK⟩
abbrev b8A:Str×Expr:=(q8 (eT H bY 40 1569) (tb H 8)).getD default
def b8B:Expr×Operator×Expr:=(gE (b8A H).2).getD default
def afO:(q8 (eT H bY 40 1569) (tb H 8),(b8A H).1,gE (b8A H).2,(b8B H).2.1)=(some (b8A H),dX,some (b8B H),.Add):=KK
def afM (l:List DV):(vL (eT H bY 40 1569) (b8B H).1 (LT u e o {x with R:=.ml l} 9),oK H 40 1569 (b8B H).2.2 (LT u e o {x with R:=.ml l} 9) [(zClose,3)],g9 (LT u e o {x with R:=.ml l} 9) (.loc jk))=(some (⟨#[10]⟩,.loc jk),some (.pv (.str (List.replicate x.cl 10))),some (.ml l)):=by cases e<;>kernel_rfl
def afN (v:List Nat):(⟨none,bS (LT u e o x 9).loc dX (.pv (.str v))⟩:aj)=LT u e o {x with v:=v} 10:=by cases e<;>kernel_rfl
def prD (P:Pv):DV:=.tup [.str P.txt,P.ZZ,P.tag]
def b9Q:List Expr×Expr:=(tupS (tb H 9)).getD default
def b9S:Expr×Expr:=(tP (b9Q H).2).getD default
def afS:(tupS (tb H 9),names (FI H 1569).sc (b9Q H).1,tP (b9Q H).2)=(some (b9Q H),some [w6,ke,mC],some (b9S H)):=KK
def afQ:(oK H 40 1569 (b9S H).1 (LT u e o x 10) [(hE,5039)],oK H 40 1569 (b9S H).2 (LT u e o x 10) [(hE,5039)])=(some (.pv (.lst (Ps.map prD))),some (.pv (.int (x.fr / 1008:Nat)))):=by cases e<;>kernel_rfl
def Z4:(Ps.map λP=>oR H 40 1569 [tb H 10] (LT u e o {x with P:=P} 13) [])=Ps.map λP=>some (.next,LT u e o {x with P:=P,told:=tS P x.v x.st} 14):=by cases e<;>kernel_rfl
def Z5 (l:List DV):aT (LT u e o {x with R:=.ml l} 14).loc jk=some (.ml l)/\Ao (LT u e o {x with R:=.ml l} 14) jk l=LE u {x with R:=.pv (.lst l)}:=by cases e<;>exact⟨KK,KK⟩
def LB:Expr×List Stmt×List Stmt:=(rL (tb H 11)).getD default
def LC:Expr×List Stmt×List Stmt:=(rL (ai (LB H).2.2 0)).getD default
def LD:Expr×List Stmt×List Stmt:=(rL (ai (LC H).2.2 0)).getD default
def CL:Expr×List Stmt×List Stmt:=(rL (ai (LD H).2.2 0)).getD default
def Z9:(rL (tb H 11),(LB H).2.2,rL (ai (LB H).2.2 0))=(some (LB H),[ai (LB H).2.2 0],some (LC H)):=KK
def Z8:((LC H).2.2,rL (ai (LC H).2.2 0),(LD H).2.2,rL (ai (LD H).2.2 0))=([ai (LC H).2.2 0],some (LD H),[ai (LD H).2.2 0],some (CL H)):=KK
def aaa:(uA H 40 1569 (LB H).1 (LE u x) kP,uA H 40 1569 (LC H).1 (LE u x) kP,uA H 40 1569 (LD H).1 (LE u x) kP,uA H 40 1569 (CL H).1 (LE u x) kP)=(some ((u.sh:Int)==(2:Int)),some ((x.pl:Int)==(0:Int)),some ((x.pl:Int)==(1:Int)),some ((x.pl:Int)==(2:Int))):=KK
abbrev brs:List (List Stmt×List Nat×Nat):=[((LB H).2.1,[45,45,45,32],1),((LC H).2.1,[45,32],1),((LD H).2.1,[45,32,107,58,32],3),((CL H).2.1,[45,32,45,32],3),((CL H).2.2,[45,32,63,32],3)]
def aab (l:List DV):(brs H).map (λb=>oAC H 40 1569 (ai b.1 0) (LE u {x with R:=.pv (.lst l)}) kP)=(brs H).map λb=>some (mP,u.t++b.2.1++x.P.txt,1550,[.lst l,.int x.cl,.str [x.st],.int b.2.2,.int x.fr,.str u.nl]):=KK
def Z7:(((LB H).2.1,(LC H).2.1),(LD H).2.1,(CL H).2.1,(CL H).2.2)=(([ai (LB H).2.1 0,ai (LB H).2.1 1],[ai (LC H).2.1 0,ai (LC H).2.1 1]),[ai (LD H).2.1 0,ai (LD H).2.1 1],[ai (CL H).2.1 0,ai (CL H).2.1 1],[ai (CL H).2.2 0,ai (CL H).2.2 1,ai (CL H).2.2 2]):=KK
def aac (l:List DV):oAC H 40 1569 (ai (CL H).2.2 1) (LE u {x with R:=.pv (.lst l)}) kP=some (mP,u.t++[32,32,58,32],1550,[.lst l,.int x.cl,.str [x.ot],.int (3:Nat),.int ((x.fr+1733) % 5040:Nat),.str u.nl]):=KK
def Rz (t:List Nat):(⟨none,bS (LE u x).loc mP (.pv (.str t))⟩:aj)=LE {u with t:=t} x:=KK
def Z6:(lR H [ai (LB H).2.1 1] (LE u x) kP .next (LE {u with fW:=u.fW++[kL true,x.told,eI u.su]} x)):=by obtain⟨_,_,_,_,_,su,_,_⟩:=u;cases su<;>kernel_rfl
def Ry:lR H [ai (LC H).2.1 1] (LE u x) kP .next (LE {u with fW:=u.fW++[x.told]} x)/\lR H [ai (LD H).2.1 1] (LE u x) kP .next (LE {u with fW:=u.fW++[sW,Zz,x.told,kH]} x)/\lR H [ai (CL H).2.1 1] (LE u x) kP .next (LE {u with fW:=u.fW++[sY,x.told,gg]} x)/\lR H [ai (CL H).2.2 2] (LE u x) kP .next (LE {u with fW:=u.fW++[sW,x.told,tS P0 x.v x.ot,kH]} x):=⟨KK,KK,KK,KK⟩
abbrev q15:Expr×List Stmt×List Stmt:=(rL (tb H 12)).getD default
abbrev q16:Expr×List Stmt×List Stmt:=(rL (tb H 13)).getD default
def aad:(rL (tb H 12),rL (tb H 13),(q15 H).2.2,(q16 H).2.2)=(some (q15 H),some (q16 H),[],[]):=KK
def RA:(uA H 40 1569 (q15 H).1 (LE u x) kP,uA H 40 1569 (q16 H).1 (LE u x) kP)=(some (((x.fr / 5 % 2:Nat):Int)==(1:Int)),some (((u.sh:Int)==(2:Int))&&(u.su&&true))):=KK
def aae:lR H (q15 H).2.1 (LE u x) kP .next (LE {u with t:=u.t++[35,32,114,58,32,115]++u.nl} x)/\lR H (q16 H).2.1 (LE u x) kP .next (LE {u with t:=u.t++[46,46,46]++u.nl} x):=⟨KK,KK⟩
def ahL:([0,1,2].map λn=>oR H 40 1569 [lw H 9,lw H 10] (LE {u with sh:=n} x) kP)=[0,1,2].map λn=>some (.next,LE {u with sh:=n,t:=bif Nat.blt n 2&&u.su then u.t++[46,46,46]++u.nl else u.t,fW:=(bif Nat.blt n 2 then u.fW++[gg,eI u.su] else u.fW)++[gK]} x):=by obtain⟨_,_,_,_,_,su,_,_⟩:=u;cases su<;>kernel_rfl
end
def mods (ns:List Int):List Nat:=ns.map λn=>(n % 5040).toNat
def uU (ns:List Int):List Nat:=mods (ns.take 2)++[0,0]
def fL (ns:List Int):List Nat:=mods ((ns.drop 2).take 10)
def dA (ns:List Int):Nat:=(uU ns).getD 0 0
def dB (ns:List Int):Nat:=(uU ns).getD 1 0
def UU (v:DV):DV:=Option.rec (motive:=λ_=>DV) v (λi=>iD (i % 5040).toNat) (intD v)
def Ed (ns:List Int):((ns.map DV.int).filter λ_=>true).map UU=(mods ns).map iD:=by
 rw[List.filter_eq_self.mpr λ_ _=>rfl]
 unfold mods
 rw[List.map_map,List.map_map];rfl
def Eg (ns:List Int):∀n∈mods ns,n<5040:=λn h=>bx (Hw.mp h) λi _ e=>by
 have h1:=Int.emod_lt_of_pos i (by decide:(0:Int)<5040)
 have h2:=Int.emod_nonneg i (by decide:(5040:Int)≠0)
 lia
def Q4 (ns:List Int):∃q,(uU ns).map iD=iD (dA ns)::iD (dB ns)::q/\q∈[[],[iD 0],[iD 0,iD 0]]/\dB ns<5040:=by
 have h:=Eg ns
 match ns,h with
 |[],_=>exact⟨_,rfl,.head _,MW _⟩
 |[a],_=>exact⟨_,rfl,.tail _ (.head _),MW _⟩
 |a::b::_,h=>exact⟨_,rfl,.tail _ (.tail _ (.head _)),h _ (.tail _ (.head _))⟩
def Iy (l:List DV) (a b:Nat):cutD l (some (a:Int)) (some (b:Int))=(l.drop a).take (b - a):=by
 unfold cutD
 show(l.drop (clipAt l.length ((a:Nat):Int))).take (clipAt l.length ((b:Nat):Int) - clipAt l.length ((a:Nat):Int))=_
 rw[clipAt_nat,clipAt_nat]
 rcases Nat.le_total a l.length with h|h
 ·rw[Nat.min_eq_left h]
  rcases Nat.le_total b l.length with h'|h'
  ·rw[Nat.min_eq_left h']
  ·rw[Nat.min_eq_right h',List.take_of_length_le (by rw[ZF];lia),List.take_of_length_le (by rw[ZF];lia)]
 ·rw[Nat.min_eq_right h,List.drop_of_length_le h,List.drop_of_length_le (fy _)]
  simp
def RE (l:List DV) (b:Nat):cutD l none (some (b:Int))=l.take b:=(Iy l 0 b)
def Io {U:Program} {w:World} {C:Nat} {Y:Base} {sc:Scope} {d:Nat} {Z aa:aj} {l:List DV} {e:Expr} {q:CQ} (h:xQ e=some q) (p:DV->Bool) (g:DV->DV) (hz:l.length<=lim) (MY:∀v∈l,rG v=true) (hi:aC U w C Y sc d q.iter Z (.lst l) aa) (ht:(q.ifs=[]/\∀v,p v=true)\/∃t,q.ifs=[t]/\∀v∈l,qW U w Y q.sc q.x t v (p v)) (he:∀v∈l,p v=true->f6 U w Y q.sc q.x q.elt v (g v)):
    cO U w C Y sc d e Z (.fl ((l.filter p).map g)) aa:=have c:=(rx e).get h;fk c.eq λpx e2=>e2▸L3 p g c.S hz MY hi c.set ht he
def JV {U:Program} {w:World} {Y:Base} {sc:Scope} {x:Str} {e:Expr} {q:Expr×Operator×Expr} {n:Nat} {i:Int} (S:ia sc x) (hn:0<n) (h:gE e=some q) (h1:dY q.1=some x) (h2:q.2.1=.Mod) (h3:fS q.2.2=some (n:Int)):f6 U w Y sc x e (.int i) (iD (i % n).toNat):=
 UE h (vO S h1) (UI h3) (by
  rw[h2]
  refine jT ((dZ (show ¬(n:Int)=0 by lia)).trans (aQ some ?_))
  rw[Int.fmod_eq_emod_of_nonneg _ (MU n),aei (Int.emod_nonneg _ (by lia))])
def LY {U:Program} {w:World} {C:Nat} {Y:Base} {sc:Scope} {d:Nat} {Z aa ah:aj} {l l':List DV} {e:Expr} {q:Expr×Operator×Expr} (h:gE e=some q) (ho:q.2.1=.Add) (ha:aC U w C Y sc d q.1 Z (.lst l) aa) (hb:aC U w C Y sc d q.2.2 aa (.lst l') ah) (hz:l.length+l'.length<=lim):cO U w C Y sc d e Z (.fl (l++l')) ah:=(lM e).get h▸fb ho▸sH ha hb hz
abbrev uH (ns:List Int):LU:=⟨ns.map .int,(uU ns).map iD,.ml ((fL ns).map iD),pC (dA ns % 4),dB ns % 3,((dB ns / 3 % 2:Nat):Int)==(1:Int),E6 (dB ns % 3) (pC (dA ns % 4)),Ob (dB ns % 3)⟩
def K9 (k:Nat):(pC (k % 4)).length<=2:=four (P:=λk=>(pC k).length<=2) (u5 (qe _ (by decide))) (by decide)
def SF {P:Nat->Prop} {n:Nat} (h:n<=2) (k:∀m∈[0,1,2],P m):P n:=k n (by match n,h with|0,_=>simp|1,_=>simp|2,_=>simp)
section
variable {U:Program} {w:World} {Y:Base} (T0:cQ (KF (HH w)) Y) (hl:bz Y)
include T0 hl
abbrev lX (U:Program) (w:World) (Y:Base) (l:List Stmt) (Z:aj) (f:au) (ba:aj):Prop:=aF U w 1521 Y (FI (HH w) 1569).sc 40 l Z f ba
theorem pZ {Z ba:aj} {β:iV} {l:List Stmt} {f:au} (B:fV β Z.loc) (h:lR (HH w) l Z β f ba):lX U w Y l Z f ba:=wg eA (ew (HH w)) T0 hl B h
theorem rY {Z aa ba:aj} {β:iV} {l l':List Stmt} {f:au} (B:fV β Z.loc) (h:lR (HH w) l Z β .next aa) (k:lX U w Y l' aa f ba):lX U w Y (l++l') Z f ba:=hY eA (ew (HH w)) T0 hl B h k
theorem rW {Z:aj} {β:iV} {e:Expr} {r:Res} (B:fV β Z.loc) (h:oK (HH w) 40 1569 e Z β=some r):aC U w 1521 Y (FI (HH w) 1569).sc 40 e Z r.rest Z:=(sj eA (ew (HH w)) T0 hl B h).rest
theorem p4 {Z:aj} {β:iV} {e:Expr} {c:Bool} (B:fV β Z.loc) (h:uA (HH w) 40 1569 e Z β=some c):bu U w 1521 Y (FI (HH w) 1569).sc 40 e Z c Z:=wd eA (ew (HH w)) T0 hl B h
omit T0 hl in
theorem Eb {Z aa:aj} {st:Stmt} {q:Str×Expr} {r:Res} (h:q8 (eT (HH w) bY 40 1569) st=some q) (he:cO U w 1521 Y (FI (HH w) 1569).sc 40 q.2 Z r aa):aU U w 1521 Y (FI (HH w) 1569).sc 40 st Z .next ⟨aa.aq,bS aa.loc q.1 r.slot⟩:=S8 (X:=eT (HH w) bY 40 1569) h he
theorem IJ (ns:List Int) (u:LU) (hu:u.S=ns.map .int) (hn:ns.length<=63):aU U w 1521 Y (FI (HH w) 1569).sc 40 (lw (HH w) 1) (L0 u [(jO,.ml u.TP)]) .next (L2 {u with D:=.ml ((fL ns).map iD)} []):=j4 (ahA (HH w)) λs0 s1 s2 s3=>j3 (ahy (HH w)) λm0 m1 m2=>by
 have S:=rz s0
 have e:cutD u.S (some 2) (some 12)=((ns.drop 2).take 10).map .int:=by rw[hu,List.map_take,List.map_drop];exact Iy _ 2 12
 have B:fV [(gA,100)] (L0 u [(jO,.ml u.TP)]).loc:=Eq.mpr (by kernel_rfl:fV [(gA,100)] (L0 u [(jO,.ml u.TP)]).loc=(u.S.length<=100/\True)) ⟨by rw[hu,mG];lia,trivial⟩
 have k:=ry (d:=40) (l:=((ns.drop 2).take 10).map .int) s0 (λ_=>true) UU (by rw[mG,ZH];exact bw (Nat.min_le_left ..) (by decide)) (λv m=>bx (Hw.mp m) λi _ e=>e▸rfl) (e▸rW (U:=U) T0 hl B (ahx (HH w) u)) (.inl ⟨s2,λ_=>rfl⟩) λv m _=>bx (Hw.mp m) λi _ e=>e▸JV S (by decide) s3 m0 m1 m2
 rw[Ed,s1,ahz] at k
 exact k
theorem Q5 (ns:List Int) (u:LU) (hu:u.S=ns.map .int) (hn:ns.length<=63) (ht:u.TP=(uU ns).map iD):aU U w 1521 Y (FI (HH w) 1569).sc 40 (lw (HH w) 0) (L0 u []) .next (L0 u [(jO,.ml u.TP)]):=j2 (ahw (HH w)) λa0 a1=>j5 (aht (HH w)) λs0 s1 s2 s3 s4=>j3 (ahu (HH w)) λm0 m1 m2=>by
 have S:=((rx _).get s2).S
 have e:cutD u.S none (some 2)=(ns.take 2).map .int:=by rw[hu,List.map_take];exact RE _ 2
 have B:fV [(gA,100)] (L0 u []).loc:=Eq.mpr (by kernel_rfl:fV [(gA,100)] (L0 u []).loc=(u.S.length<=100/\True)) ⟨by rw[hu,mG];lia,trivial⟩
 have c:=Io (d:=40) (l:=(ns.take 2).map .int) s2 (λ_=>true) UU (by rw[mG,ZH];exact bw (Nat.min_le_left ..) (by decide)) (λv m=>bx (Hw.mp m) λi _ e=>e▸rfl) (e▸rW (U:=U) T0 hl B (kS (abn (HH w) u)).1) (.inl ⟨s3,λ_=>rfl⟩) λv m _=>bx (Hw.mp m) λi _ e=>e▸JV S (by decide) s4 m0 m1 m2
 rw[Ed] at c
 have z:((mods (ns.take 2)).map iD).length<=2:=by unfold mods;rw[mG,mG,ZH];exact Nat.min_le_left ..
 have k:=Eb (U:=U) a0 (LY s0 s1 c.rest (rW (U:=U) T0 hl B (kS (abn (HH w) u)).2) (bw (ZI z 2) (by decide)))
 rw[a1,show(mods (ns.take 2)).map iD++[iD 0,iD 0]=u.TP by rw[ht];unfold uU;rw[Na];rfl,show Res.slot (.fl u.TP)=.ml u.TP from rfl,ahv] at k
 exact k
theorem Ox (u:LU) (a b:Nat) (q:List DV) (ht:u.TP=iD a::iD b::q) (hq:q∈[[],[iD 0],[iD 0,iD 0]]) (hb:b<5040) {l:List Stmt} {f:au} {ba:aj} (k:lX U w Y l (L5 {u with nl:=pC (a % 4),sh:=b % 3,su:=((b / 3 % 2:Nat):Int)==(1:Int)} []) f ba):lX U w Y (lw (HH w) 2::lw (HH w) 3::lw (HH w) 4::l) (L2 u []) f ba:=by
 have B:∀(u:LU) (tl:List (Str×ae)),fV [] (L2 u tl).loc:=λ_ _=>trivial
 have hz:q.length<=2:=(show ∀q∈([[],[iD 0],[iD 0,iD 0]]:List (List DV)),q.length<=2 by decide) q hq
 have eu:u={u with TP:=iD a::iD b::q}:=by rw[<-ht]
 have B4:fV [(jO,4)] (L2 {u with TP:=iD a::iD b::q} []).loc:=Eq.mpr (by kernel_rfl:fV [(jO,4)] (L2 {u with TP:=iD a::iD b::q} []).loc=(q.length+1+1<=4/\True)) ⟨by lia,trivial⟩
 have E:=aW (ahC (HH w) {u with nl:=pC (a % 4),sh:=b % 3} a b) q hq
 rw[eu]
 refine rY (U:=U) T0 hl B4 (aW (ahB (HH w) u a b) q hq) (ao ?_ (eu▸k))
 exact j5 (ahF (HH w)) λs0 s1 s2 s3 s4=>j3 (ahD (HH w)) λo0 o1 o2=>j4 E λe0 e1 e2 e3=>by
  have n:=λ{e:Expr} {r:Res} (h:oK (HH w) 40 1569 e (L4 {u with TP:=iD a::iD b::q,nl:=pC (a % 4),sh:=b % 3}) []=some r)=>rW (U:=U) T0 hl (B _ _) h
  have d1:=lE (z:=.int (b / 3:Nat)) s4 (n e0) (n e1) (by rw[o2];exact((wc (op:=.FloorDiv) b 3 5040 3 (Rp hb) (fy _)).get rfl).1)
  have d2:=lE (z:=.int (b / 3 % 2:Nat)) s3 d1 (n e2) (by rw[o1];exact((wc (op:=.Mod) (b / 3) 2 (b / 3) 2 (fy _) (fy _)).get rfl).1)
  have k:=Eb (U:=U) s0 (r:=.pv (.bool (((b / 3 % 2:Nat):Int)==(1:Int)))) (L1 s2 d2 (n e3) (by rw[o0];exact N6 rfl)).plain
  rw[s1] at k
  exact Eq.subst (motive:=λZ=>aU U w 1521 Y (FI (HH w) 1569).sc 40 (lw (HH w) 4) _ .next Z) (ahE {u with TP:=iD a::iD b::q,nl:=pC (a % 4),sh:=b % 3,su:=((b / 3 % 2:Nat):Int)==(1:Int)}) k
theorem OK (ns:List Int) (hn:ns.length<=63) {l:List Stmt} {f:au} {ba:aj} (k:lX U w Y l (LA (uH ns) []) f ba):lX U w Y (lw (HH w) 0::lw (HH w) 1::lw (HH w) 2::lw (HH w) 3::lw (HH w) 4::lw (HH w) 5::lw (HH w) 6::lw (HH w) 7::l) (L0 (uH ns) []) f ba:=ua (Q4 ns) λq ht hq hb=>
 ao (Q5 T0 hl ns (uH ns) rfl hn rfl) (ao (IJ T0 hl ns (uH ns) rfl hn) (Ox T0 hl (uH ns) (dA ns) (dB ns) q ht hq hb (rY (U:=U) T0 hl (l:=[lw (HH w) 5,lw (HH w) 6,lw (HH w) 7]) (β:=bH) (Z:=L5 (uH ns) []) (aa:=LA (uH ns) []) (Eq.mpr (by kernel_rfl:fV bH (L5 (uH ns) []).loc=((pC (dA ns % 4)).length<=50/\dB ns % 3<=2/\True)) ⟨bw (K9 _) (by decide),u5 (qe _ (by decide)),trivial⟩)
  (SF (P:=λn=>lR (HH w) [lw (HH w) 5,lw (HH w) 6,lw (HH w) 7] (L5 {uH ns with sh:=n} []) bH .next (LA {uH ns with sh:=n,t:=E6 n (pC (dA ns % 4)),fW:=Ob n} [])) (u5 (qe (dB ns) (by decide))) (aW (ahG (HH w) (uH ns)))) k)))
end
def fa (f ind:Nat) (body:List (List Nat)):Nat->List Nat×List Item:=List.rec (motive:=λ_=>Nat->List Nat×List Item) (λ_=>([],[])) (λr _ ih i=>bif fQ r [] then((f+i) % (ind+1)::(ih (i+1)).1,(ih (i+1)).2) else([],(r,(ih (i+1)).1)::(ih (i+1)).2)) body
def JK (f:Nat) (B:fY) (body:List (List Nat)):∀i,jI f B.ind B.nl body i++aS B.e=jY B.nl (fa f B.ind body i).1++(aS (lead B.ind B.e (fa f B.ind body i).2)++B.rest (fa f B.ind body i).2):=by
 induction body with
 |nil=>exactλi=>(ti (aS B.e)).symm
 |cons r rs ih=>
  intro i
  have ih:=ih (i+1)
  cases r with
  |nil=>
   show((aS ((f+i) % (B.ind+1))++([]++B.nl))++jI f B.ind B.nl rs (i+1))++aS B.e=(aS ((f+i) % (B.ind+1))++(B.nl++jY B.nl (fa f B.ind rs (i+1)).1))++(aS (lead B.ind B.e (fa f B.ind rs (i+1)).2)++B.rest (fa f B.ind rs (i+1)).2)
   rw[fc _ _ (aS B.e),ih]
   simp only[fc,Ro]
  |cons c r=>
   show((aS B.ind++((c::r)++B.nl))++jI f B.ind B.nl rs (i+1))++aS B.e=[]++(aS B.ind++((c::r)++(B.nl++(jY B.nl (fa f B.ind rs (i+1)).1++(aS (lead B.ind B.e (fa f B.ind rs (i+1)).2)++B.rest (fa f B.ind rs (i+1)).2)))))
   rw[fc _ _ (aS B.e),ih]
   simp only[fc,Ro]
def sk (aR:List Item):List (List Nat×Nat):=aR.map λit=>(it.1,it.2.length)
def Uv (f ind:Nat) (body:List (List Nat)):∀i,(fa f ind body i).1.length=(fa 0 0 body i).1.length/\sk (fa f ind body i).2=sk (fa 0 0 body i).2:=by
 induction body with
 |nil=>exactλ_=>⟨rfl,rfl⟩
 |cons r rs ih=>
  intro i
  have ih:=ih (i+1)
  cases r with
  |nil=>exact⟨aQ (· +1) ih.1,ih.2⟩
  |cons c r=>exact⟨rfl,by show(c::r,(fa f ind rs (i+1)).1.length)::sk (fa f ind rs (i+1)).2=(c::r,(fa 0 0 rs (i+1)).1.length)::sk (fa 0 0 rs (i+1)).2;rw[ih.1,ih.2]⟩
def abl (f ind:Nat) (body:List (List Nat)):∀i,(∀s∈(fa f ind body i).1,s<=ind)/\∀it∈(fa f ind body i).2,∀s∈it.2,s<=ind:=by
 induction body with
 |nil=>exactλ_=>⟨λ_ h=>(nomatch h),λ_ h=>(nomatch h)⟩
 |cons r rs ih=>
  intro i
  have ih:=ih (i+1)
  cases r with
  |nil=>exact⟨(e9.mpr ⟨u5 (qe _ (MW _)),ih.1⟩:∀s∈(f+i) % (ind+1)::(fa f ind rs (i+1)).1,s<=ind),ih.2⟩
  |cons c r=>exact⟨λ_ h=>(nomatch h),(e9.mpr ⟨ih.1,ih.2⟩:∀it∈(c::r,(fa f ind rs (i+1)).1)::(fa f ind rs (i+1)).2,∀s∈it.2,s<=ind)⟩
def Ys {P:List Nat->Nat->Bool} {aR eJ:List Item} (h:sk aR=sk eJ) (k:eJ.all (λit=>P it.1 it.2.length)=true):∀it∈aR,P it.1 it.2.length=true:=λit m=>by
 have m1:(it.1,it.2.length)∈sk eJ:=h▸Hw.mpr ⟨it,m,rfl⟩
 exact bx (Hw.mp m1) λit' m' e=>(aQ (λp:List Nat×Nat=>P p.1 p.2) e).symm.trans (gj.mp k it' m')
def Yt {M:List Item->List Item->Prop} (h0:M [] []) (h1:∀r a b aR eJ,a.length=b.length->sk aR=sk eJ->M aR eJ->M ((r,a)::aR) ((r,b)::eJ)) (aR eJ:List Item) (h:sk aR=sk eJ):M aR eJ:=by
 induction aR generalizing eJ with
 |nil=>cases eJ<;>first|exact h0|exact nc h
 |cons it aR ih=>
  cases eJ with
  |nil=>exact cn h
  |cons it' eJ=>
   obtain⟨r,a⟩:=it
   obtain⟨r',b⟩:=it'
   exact a2 (List.cons.inj h) λq h=>j2 q λe1 e2=>(show r=r' from e1)▸h1 r a b aR eJ e2 h (ih eJ h)
def QC (fo:Bool) (c0:Nat) (aR eJ:List Item) (h:sk aR=sk eJ):(∀n,tm fo n aR=tm fo n eJ)/\(∀n,ir n aR=ir n eJ)/\zA aR=zA eJ/\pU c0 aR=pU c0 eJ/\aR.isEmpty=eJ.isEmpty:=by
 refine Yt (M:=λaR eJ=>(∀n,tm fo n aR=tm fo n eJ)/\(∀n,ir n aR=ir n eJ)/\zA aR=zA eJ/\pU c0 aR=pU c0 eJ/\aR.isEmpty=eJ.isEmpty) ⟨λ_=>rfl,λ_=>rfl,rfl,rfl,rfl⟩ (λr a b aR eJ e h m=>⟨λn=>?_,λn=>?_,?_,rfl,rfl⟩) aR eJ h
 ·have eg:gap fo (r,a) aR=gap fo (r,b) eJ:=by
   have ea:a.isEmpty=b.isEmpty:=by cases a<;>cases b<;>first|rfl|exact Nat.noConfusion e
   cases aR<;>cases eJ<;>first|rfl|exact nc h|exact cn h|skip
   exact a2 (List.cons.inj h) λq _=>j2 q λe1 _=>by
    show(if fo&&yn r&&yn _ then(if a.isEmpty then[[32]] else[]) else[[10]])=(if fo&&yn r&&yn _ then(if b.isEmpty then[[32]] else[]) else[[10]])
    rw[e1,ea]
  show List.replicate n [10]++(r::(gap fo (r,a) aR++tm fo a.length aR))=List.replicate n [10]++(r::(gap fo (r,b) eJ++tm fo b.length eJ))
  rw[eg,e,m.1]
 ·show ir a.length aR=ir b.length eJ
  rw[e,m.2.1]
 ·show 2+a.length+zA aR=2+b.length+zA eJ
  rw[e,m.2.2.1]
def iR (k:Nat):List Nat:=[[97],[],[98,32,99],[32,32,100,32,101],[9,117,32,118],[102,32,32,103],[35,32,104,58,32,105],[32],[45,32,106,32,107,32,108],[109,32,110,32,111,32,112],[]].getD k []
def wH (qs:List (List Nat)):List (List Nat):=List.rec (motive:=λ_=>List (List Nat)) [] (λq qs ih=>bif fQ q [] then ih else(q::qs).reverse) qs
def Az (l:List (List Nat)) (r:List Nat):Bool:=l.any λq=>fQ r q
def Py {l:List (List Nat)} {r:List Nat} (h:Az l r=true):r∈l:=bx (List.any_eq_true.mp h) λq h1 h2=>iI.mp (jo ..▸h2)▸h1
def TB (rows:List (List Nat)) (fo:Bool) (I:List Nat×List Item):Bool:=
 fQ (tm fo I.1.length I.2).flatten (gV [10] rows)&&(Nat.beq (ir I.1.length I.2) 0&&(I.2.all (λit=>Az dm it.1&&Nat.ble it.2.length 97)&&(Nat.ble I.1.length 97&&(Nat.ble (zA I.2) 997&&(I.2.isEmpty==mA (br rows)&&(mA (br rows)||(Nat.beq (pU 0 I.2) (((br rows).headD []).headD 0)&&(!bc (pU 0 I.2) cz||Nat.beq (pU 0 I.2) 32))))))))
def aan (rows body:List (List Nat)) (st f:Nat):Bool:=Nat.ble body.length 300&&(body.all (λb=>Nat.ble b.length 60&&b.all kU)&&(rows.all (λr=>Nat.ble r.length 60&&(r.all kU&&Nat.ble (i6 r f).length 100))&&(Nat.ble rows.length 3&&Nat.ble (gV [10] rows).length 500)))
def aao (rows:List (List Nat)):Bool:=[124,62].all λst=>[0,1].all λf=>aan rows (fg st f rows [] []) st f&&TB rows (fQ [st] [62]) (fa 0 0 (fg st f rows [] []) 0)
def NZ:((List.range 10).all λc=>(List.range 10).all λb=>(List.range 10).all λa=>aao (wH [iR c,iR b,iR a]))=true:=KK
def uh (r:List Nat) (f:Nat):i6 r f=i6 r (f % 2):=by
 have e:∀i c,lh r f i c=lh r (f % 2) i c:=λi c=>by unfold lh;rw[show(i+f % 2) % 2=(i+f) % 2 by omega]
 have s:∀(cs:List Nat) (i:Nat) (init:List (List Nat)) (last:List Nat),lj r f cs i init last=lj r (f % 2) cs i init last:=λcs=>by
  induction cs with
  |nil=>exactλ_ _ _=>rfl
  |cons c cs ih=>
   intro i init last
   show(bif lh r f i c then lj r f cs (i+1) (init++[last]) [] else lj r f cs (i+1) init (last++[c]))=bif lh r (f % 2) i c then lj r (f % 2) cs (i+1) (init++[last]) [] else lj r (f % 2) cs (i+1) init (last++[c])
   rw[e,ih,ih]
 exact s r 0 [] []
def H7 (st f:Nat) (rs:List (List Nat)):∀B bf,fg st f rs B bf=fg st (f % 2) rs B bf:=by
 induction rs with
 |nil=>exactλ_ _=>rfl
 |cons r rs ih=>
  intro B bf
  show(bif fQ r [] then fg st f rs (B++[[]]) bf else bif fQ [st] [124] then fg st f rs (B++[r]) bf else fg st f rs ((bif qj bf r then B++[[]] else B)++i6 r f) r)=bif fQ r [] then fg st (f % 2) rs (B++[[]]) bf else bif fQ [st] [124] then fg st (f % 2) rs (B++[r]) bf else fg st (f % 2) rs ((bif qj bf r then B++[[]] else B)++i6 r (f % 2)) r
  rw[ih,ih,ih,<-uh]
structure Dr where
 pl:Nat
 fr:Nat
 a:Nat
 b:Nat
 c:Nat
def Dr.of (l:List Nat):Dr:=⟨l.getD 0 0,l.getD 1 0,l.getD 2 0,l.getD 3 0,l.getD 4 0⟩
section
variable (x:Dr)
abbrev Dr.p:Nat:=x.pl % 4
abbrev Dr.f:Nat:=x.fr*1733 % 5040
abbrev Dr.st:Nat:=[124,62].getD (x.pl / 4 % 2) 0
abbrev Dr.ot:Nat:=[124,62].getD ((x.pl / 4+1) % 2) 0
abbrev Dr.cl:Nat:=x.f / 252 % 4
def Dr.rows:List (List Nat):=wH [iR (x.c % 11),iR (x.b % 11),iR (x.a % 11)]
def Dr.P:Pv:=Ps.getD (x.f / 1008) P0
def Dr.val:List Nat:=gV [10] x.rows++List.replicate x.cl 10
abbrev Dr.w (st le fr:Nat) (nl:List Nat):List Nat:=kq x.rows x.cl st le fr nl
def Dr.rt:x.cl<=3:=u5 (qe _ (by decide))
def Dr.xe:aao x.rows=true:=by
 have t:∀k,∃j∈List.range 10,iR j=iR (k % 11):=λk=>by
  by_cases h:k % 11<10
  ·exact⟨k % 11,List.mem_range.mpr h,rfl⟩
  ·exact⟨1,List.mem_range.mpr (by decide),by rw[show k % 11=10 by omega];rfl⟩
 exact bx (t x.c) λi hi ei=>bx (t x.b) λj hj ej=>bx (t x.a) λk hk ek=>by
  unfold Dr.rows
  rw[<-ei,<-ej,<-ek]
  exact gj.mp (gj.mp (gj.mp NZ i hi) j hj) k hk
variable {st:Nat} (jA:st∈[124,62]) (f:Nat)
include jA
theorem Dr.good:aan x.rows (fg st f x.rows [] []) st (f % 2)=true/\TB x.rows (fQ [st] [62]) (fa 0 0 (fg st f x.rows [] []) 0)=true:=by
 rw[H7]
 have m:f % 2∈[0,1]:=by rcases Nat.mod_two_eq_zero_or_one f with h|h<;>rw[h]<;>simp
 exact a2 (aw (gj.mp (gj.mp x.xe st jA) (f % 2) m)) λh1 h2=>⟨h1,h2⟩
structure Dr.GB (x:Dr) (st f:Nat):Prop where
 len:(fg st f x.rows [] []).length<=300
 b:∀b∈fg st f x.rows [] [],b.length<=60/\b.all kU=true
 r:∀r∈x.rows,r.length<=60/\r.all kU=true/\(i6 r f).length<=100
 n:x.rows.length<=3
 j:(gV [10] x.rows).length<=500
theorem Dr.gb:x.GB st f:=a2 (aw (x.good jA f).1) λh1 h=>a2 (aw h) λh2 h=>a2 (aw h) λh3 h=>a2 (aw h) λh4 h5=>
 ⟨eP h1,λb m=>a2 (aw (gj.mp h2 b m)) λa c=>⟨eP a,c⟩,λr m=>a2 (aw (gj.mp h3 r m)) λa c=>a2 (aw c) λc e=>⟨eP a,c,uh r f▸eP e⟩,eP h4,eP h5⟩
end
def FA (t:List Nat):dO:=bif fQ t [45] then .strip else bif fQ t [43] then .keep else .clip
def JA (t:List Nat):DV:=List.casesOn (motive:=λ_=>DV) t .none λd _=>.int ((d - 48:Nat):Int)
def IF (d:Nat):List Nat:=[[],[49],[50],[51]].getD d []
def HB (c:Nat):List Nat:=[[],[45],[43]].getD c []
def F0 (d c:Nat) (o:Bool):Hd:=⟨bif o then IF d++HB c else HB c++IF d,(FA (HB c)).dv,JA (IF d)⟩
def Ub:([0,1,2,3].map λd=>[0,1,2].map λc=>[true,false].map λo=>vC[bif Nat.beq d 0 then c else 3+5*(d - 1)+bif Nat.beq c 0 then 0 else 2*c - 1+bif o then 0 else 1]?)=[0,1,2,3].map λd=>[0,1,2].map λc=>[true,false].map λo=>some (F0 d c o):=KK
def aaW {d c:Nat} (hd:d<=3) (hc:c<=2) (o:Bool):F0 d c o∈vC:=List.mem_of_getElem? (aW (SF (P:=λc=>([true,false].map λo=>vC[_]?)=[true,false].map λo=>some (F0 d c o)) hc (aW (four (P:=λd=>([0,1,2].map λc=>[true,false].map λo=>vC[_]?)=[0,1,2].map λc=>[true,false].map λo=>some (F0 d c o)) hd (aW Ub)))) o (by cases o<;>simp))
def RG (full:List (List Nat)) (fr:Nat):∃d,d<=3/\qh full fr=IF d/\(rD full fr=true->d=fr % 3+1)/\(rD full fr=false->d=0):=by
 unfold qh
 cases rD full fr with
 |true=>exact⟨fr % 3+1,qe fr (by decide),SF (P:=λn=>(bif true then[[49,50,51].getD n 0] else[])=IF (n+1)) (u5 (qe _ (by decide))) (by decide),λ_=>rfl,λh=>tf h⟩
 |false=>exact⟨0,ju _,rfl,λh=>ft h,λ_=>rfl⟩
def aap (e:Bool) (cl a b:Nat):Nat:=bif Nat.ble 2 cl then 2 else bif Nat.beq cl 1 then bif e then 2 else bif Nat.beq a 0 then 0 else 2 else bif e then b else 1
def TC (e:Bool) (cl a b:Nat):List Nat:=bif Nat.ble 2 cl then[43] else bif Nat.beq cl 1 then bif e then[43] else[[],[43]].getD a [] else bif e then[[],[45],[43]].getD b [] else[45]
def aaf (e:Bool) (cl a b c:Nat):Nat:=bif fQ (TC e cl a b) [43] then bif e then cl else cl - 1 else c
def af9 (e:Bool) (cl a b c:Nat):Bool:=fQ (TC e cl a b) (HB (aap e cl a b))&&(Nat.ble (aap e cl a b) 2&&(Nat.ble (aaf e cl a b c) 3&&fQ (tG (FA (TC e cl a b)) (bif e then[] else[10]) (aaf e cl a b c)).flatten (List.replicate cl 10)))
def Od:([true,false].all λe=>[0,1,2,3].all λcl=>[0,1].all λa=>[0,1,2].all λb=>[0,1,2].all λc=>af9 e cl a b c)=true:=KK
def z5 (e:Bool) {cl:Nat} (h:cl<=3) (fr:Nat):∃c,c<=2/\jn e cl fr=HB c/\tr e cl fr<=3/\(tG (FA (jn e cl fr)) (bif e then[] else[10]) (tr e cl fr)).flatten=List.replicate cl 10:=by
 have m3:∀n,n % 3∈[0,1,2]:=λn=>SF (P:=λk=>k∈[0,1,2]) (u5 (qe _ (by decide))) λ_ h=>h
 have q:=gj.mp (gj.mp (gj.mp (gj.mp (gj.mp Od e (by cases e<;>simp)) cl (four (P:=λk=>k∈[0,1,2,3]) h λ_ h=>h)) (fr / 48 % 2) (by rcases Nat.mod_two_eq_zero_or_one (fr / 48) with h|h<;>rw[h]<;>simp)) (fr / 48 % 3) (m3 _)) (fr / 84 % 3) (m3 _)
 exact a2 (aw q) λq1 q=>a2 (aw q) λq2 q=>a2 (aw q) λq3 q4=>⟨_,eP q2,iI.mp (jo ..▸q1),eP q3,iI.mp (jo ..▸q4)⟩
structure SY (m:Nat) (rows:List (List Nat)) (fo:Bool) (k:Nat) (I:List Nat×List Item):Prop where
 v:(tm fo I.1.length I.2).flatten=gV [10] rows
 k:ir I.1.length I.2=k
 aR:I.2.all (λit=>Az dm it.1&&Nat.ble it.2.length m)=true
 n:I.1.length<=m
 w:zA I.2<=900+m
 e:I.2.isEmpty=mA (br rows)
 h:mA (br rows)=true\/pU 0 I.2=((br rows).headD []).headD 0/\(bc (pU 0 I.2) cz=false\/pU 0 I.2=32)
def NX {rows:List (List Nat)} {fo:Bool} {I:List Nat×List Item} (h:TB rows fo I=true):SY 97 rows fo 0 I:=a2 (aw h) λh1 h=>a2 (aw h) λh2 h=>a2 (aw h) λh3 h=>a2 (aw h) λh4 h=>a2 (aw h) λh5 h=>a2 (aw h) λh6 h7=>
 ⟨iI.mp (jo ..▸h1),iT h2,h3,eP h4,eP h5,iI.mp h6,(Bool.or_eq_true_iff.mp h7).imp_right λq=>a2 (aw q) λq1 q2=>⟨iT q1,(Bool.or_eq_true_iff.mp q2).imp iA iT⟩⟩
def Pd (k:Nat):∀i,∃p:List Nat,p.length=k/\fa 0 0 (List.replicate k []) i=(p,[]):=by
 induction k with
 |zero=>exactλ_=>⟨[],rfl,rfl⟩
 |succ k ih=>exactλi=>bx (ih (i+1)) λp h e=>⟨(0+i) % (0+1)::p,aQ (· +1) h,by show((0+i) % (0+1)::(fa 0 0 (List.replicate k []) (i+1)).1,(fa 0 0 (List.replicate k []) (i+1)).2)=_;rw[e]⟩
def Pc (k:Nat) (body:List (List Nat)):∀i,((fa 0 0 body i).2=[]/\(fa 0 0 (body++List.replicate k []) i).2=[]/\(fa 0 0 (body++List.replicate k []) i).1.length=(fa 0 0 body i).1.length+k)\/
    ((fa 0 0 (body++List.replicate k []) i).1=(fa 0 0 body i).1/\∃pre r a b,(fa 0 0 body i).2=pre++[(r,a)]/\(fa 0 0 (body++List.replicate k []) i).2=pre++[(r,b)]/\b.length=a.length+k):=by
 induction body with
 |nil=>exactλi=>bx (Pd k i) λp h e=>.inl ⟨rfl,by rw[Ro,e],by rw[Ro,e];exact h.trans (zQ k).symm⟩
 |cons r rs ih=>
  intro i
  have ih:=ih (i+1)
  cases r with
  |nil=>exact ih.imp (λh=>⟨h.1,h.2.1,(aQ (· +1) h.2.2).trans (Nb ..)⟩) λh=>⟨aQ ((0+i) % (0+1)::·) h.1,h.2⟩
  |cons c r=>
   refine .inr ⟨rfl,ih.elim (λh=>⟨[],c::r,(fa 0 0 rs (i+1)).1,(fa 0 0 (rs++List.replicate k []) (i+1)).1,aQ ((c::r,(fa 0 0 rs (i+1)).1)::·) h.1,by show(c::r,(fa 0 0 (rs++List.replicate k []) (i+1)).1)::(fa 0 0 (rs++List.replicate k []) (i+1)).2=_;rw[h.2.1];rfl,h.2.2⟩) λh=>cV h.2 λpre r' q=>xf q λa b e1 e2 e3=>⟨(c::r,(fa 0 0 rs (i+1)).1)::pre,r',a,b,aQ ((c::r,(fa 0 0 rs (i+1)).1)::·) e1,?_,e3⟩⟩
   show(c::r,(fa 0 0 (rs++List.replicate k []) (i+1)).1)::(fa 0 0 (rs++List.replicate k []) (i+1)).2=_
   rw[h.1,e2];rfl
section
variable (fo:Bool) (r a b:List Nat) (pre:List Item)
def adO:∀n,tm fo n (pre++[(r,b)])=tm fo n (pre++[(r,a)]):=by
 induction pre with
 |nil=>exactλ_=>rfl
 |cons p pre ih=>
  intro n
  have eg:gap fo p (pre++[(r,b)])=gap fo p (pre++[(r,a)]):=by cases pre<;>rfl
  show List.replicate n [10]++(p.1::(gap fo p (pre++[(r,b)])++tm fo p.2.length (pre++[(r,b)])))=List.replicate n [10]++(p.1::(gap fo p (pre++[(r,a)])++tm fo p.2.length (pre++[(r,a)])))
  rw[eg,ih]
def Fg:∀n,ir n (pre++[(r,a)])=a.length:=by
 induction pre with
 |nil=>exactλ_=>rfl
 |cons p pre ih=>exactλ_=>ih _
def adP:zA (pre++[(r,a)])=zA pre+(2+a.length):=by
 induction pre with
 |nil=>exact Nat.add_comm ..
 |cons p pre ih=>show 2+p.2.length+zA (pre++[(r,a)])=2+p.2.length+zA pre+_;rw[ih];exact(xc ..).symm
end
def NY {rows body:List (List Nat)} {fo:Bool} {k:Nat} (hk:k<=3) (h:SY 97 rows fo 0 (fa 0 0 body 0)):SY 100 rows fo k (fa 0 0 (body++List.replicate k []) 0):=by
 have E:=Pc k body 0
 generalize fa 0 0 (body++List.replicate k []) 0=J at E ⊢
 generalize fa 0 0 body 0=I at E h
 refine E.elim (λq=>a3 q λe1 e2 e3=>?_) λq=>a2 q λe0 q=>cV q λpre r q=>xf q λa b e1 e2 e3=>?_
 ·have k0:I.1.length=0:=by have:=h.k;rw[e1] at this;exact this
  exact⟨by rw[e2];have:=h.v;rw[e1] at this;exact this,by rw[e2];show J.1.length=k;rw[e3,k0,zQ],by rw[e2];rfl,by rw[e3];exact u4 h.n hk,by rw[e2];exact ju _,by rw[e2];have:=h.e;rw[e1] at this;exact this,by rw[e2];have:=h.h;rw[e1] at this;exact this⟩
 ·have k0:a.length=0:=by have:=h.k;rw[e1,Fg] at this;exact this
  have t:∀it∈pre++[(r,a)],Az dm it.1=true/\it.2.length<=97:=λit m=>a2 (aw (gj.mp (e1▸h.aR) it m)) λx y=>⟨x,eP y⟩
  have mk:∀{it:Item},Az dm it.1=true->it.2.length<=100->(Az dm it.1&&Nat.ble it.2.length 100)=true:=λx y=>SR.mpr ⟨x,Nat.ble_eq_true_of_le y⟩
  exact⟨by rw[e2,e0,adO fo r a b pre,<-e1];exact h.v,by rw[e2,Fg,e3,k0,zQ],
   by rw[e2];exact gj.mpr λit m=>(List.mem_append.mp m).elim (λm=>mk (t it (List.mem_append_left _ m)).1 (bw (t it (List.mem_append_left _ m)).2 (by decide))) λm=>(List.mem_singleton.mp m).symm▸mk (it:=(r,b)) (t (r,a) (List.mem_append_right _ (.head _))).1 (by show b.length<=100;rw[e3,k0,zQ];exact bw hk (by decide)),
   by rw[e0];exact bw h.n (by decide),by have w:=h.w;rw[e1,adP] at w;rw[e2,adP,e3];exact bw (iU (by rw[<-xc 2,<-xc])) (bw (u4 w hk) (by decide)),
   by rw[e2];have:=h.e;rw[e1] at this;rw[<-this];cases pre<;>rfl,by rw[e2,show pU 0 (pre++[(r,b)])=pU 0 (pre++[(r,a)]) by cases pre<;>rfl,<-e1];exact h.h⟩
def I2 (l:List (List Nat)):c9 l=l.flatten.length:=by
 induction l with
 |nil=>rfl
 |cons a l ih=>show a.length+c9 l=_;rw[ih,Rm,da]
def Ua {c c':Nat} {aR:List Item} (h:aR.isEmpty=false):pU c aR=pU c' aR:=by cases aR<;>first|exact tf h|rfl
def Dr.blk (x:Dr) {st le fr:Nat} {nl:List Nat} (e c0:Nat) (jA:st∈[124,62]) (qm:nl∈iJ) (he:e<le) (xh:bc c0 cz=false) (xi:nl=[13]->e=0->c0∈after):
    ∃B ch,fY.Ok B ch le/\B.core=x.w st le fr nl++aS e/\(B.cm ch).flatten=x.val/\B.st=st/\B.e=e/\B.c0=c0:=
 Oc (z5 (mA (br x.rows)) x.rt fr) λc hc ec hbe OM=>Oc (RG (br x.rows) fr) λd hd ed d1 d0=>by
 have I:=NY hbe (NX (x.good jA (fr / 7)).2)
 have gb:=x.gb jA (fr / 7)
 have hj:(gV [10] x.rows).length+x.cl<=lim:=bw (u4 gb.j x.rt) (by decide)
 generalize hb:fg st (fr / 7) x.rows [] []++List.replicate (tr (mA (br x.rows)) x.cl fr) []=body at I
 have S:=Uv (fr / 5) (le+fr % 3) body 0
 have W:=abl (fr / 5) (le+fr % 3) body 0
 have Q:=QC (fQ [st] [62]) 0 _ _ S.2
 have tx:=JK (fr / 5) ⟨st,F0 d c (((fr / 6 % 2:Nat):Int)==(0:Int)),je (fr / 12 % 4),nl,(fa (fr / 5) (le+fr % 3) body 0).1,(fa (fr / 5) (le+fr % 3) body 0).2,le+fr % 3,e,c0⟩ body 0
 have aR:=Ys (P:=λt n=>Az dm t&&Nat.ble n 100) S.2 I.aR
 have val:(tm (fQ [st] [62]) (fa (fr / 5) (le+fr % 3) body 0).1.length (fa (fr / 5) (le+fr % 3) body 0).2++tG (FA (HB c)) (if(fa (fr / 5) (le+fr % 3) body 0).2.isEmpty then[] else[10]) (ir (fa (fr / 5) (le+fr % 3) body 0).1.length (fa (fr / 5) (le+fr % 3) body 0).2)).flatten=x.val:=by
  rw[Q.1,Q.2.1,Q.2.2.2.2,S.1,List.flatten_append,I.v,I.k,I.e,<-ec]
  have:(if mA (br x.rows)=true then([]:List Nat) else[10])=bif mA (br x.rows) then[] else[10]:=by cases mA (br x.rows)<;>rfl
  rw[this,OM];rfl
 have f3:fr % 3<=2:=u5 (qe _ (by decide))
 refine⟨⟨st,F0 d c (((fr / 6 % 2:Nat):Int)==(0:Int)),je (fr / 12 % 4),nl,(fa (fr / 5) (le+fr % 3) body 0).1,(fa (fr / 5) (le+fr % 3) body 0).2,le+fr % 3,e,c0⟩,FA (HB c),⟨jA,aaW hd hc _,rfl,four (P:=λk=>je k∈qb) (u5 (qe _ (by decide))) (by unfold qb je;simp),qm,⟨W.1,by show(fa (fr / 5) (le+fr % 3) body 0).1.length<=1000;rw[S.1];exact bw I.n (by decide)⟩,
  λit m=>a2 (aw (aR it m)) λa b=>⟨Py a,W.2 it m,bw (eP b) (by decide)⟩,he,Hx ..,xh,xi,?_,?_,?_⟩,?_,val,rfl,rfl,rfl⟩
 ·cases hdb:rD (br x.rows) fr with
  |true=>
   refine .inl (Eq.trans (show JA (IF d)=.int ((fr % 3+1:Nat):Int) from d1 hdb▸SF (P:=λn=>JA (IF (n+1))=.int ((n+1:Nat):Int)) f3 λm h=>?_) (aQ DV.int (by show((fr % 3+1:Nat):Int)=((le+fr % 3:Nat):Int) - le+1;omega)))
   revert m
   exact e9.mpr ⟨rfl,e9.mpr ⟨rfl,e9.mpr ⟨rfl,qT _⟩⟩⟩
  |false=>
   refine .inr ⟨by rw[d0 hdb];rfl,?_⟩
   show bc (pU c0 (fa (fr / 5) (le+fr % 3) body 0).2) cz=false
   have q:=Q.2.2.2.2.trans I.e
   cases he:mA (br x.rows) with
   |true=>rw[he] at q;rw[List.isEmpty_iff.mp q];exact xh
   |false=>
    rw[Ua (c':=0) (q.trans he),Q.2.2.2.1]
    exact I.h.elim (λh=>ft (he.symm.trans h)) λh=>h.2.elim id λD6=>by
     have e32:=h.1.symm.trans D6
     cases hf:br x.rows with
     |nil=>rw[hf] at he;exact tf he
     |cons q qs=>
      rw[hf] at e32 hdb
      have k:(fQ [q.headD 0] [32]&&true||(((fr / 3 % 2:Nat):Int)==(1:Int)||false))=false:=hdb
      rw[show q.headD 0=32 from e32] at k
      exact tf k
 ·show(fa (fr / 5) (le+fr % 3) body 0).1.length+zA (fa (fr / 5) (le+fr % 3) body 0).2<=100000
  rw[S.1,Q.2.2.1]
  exact bw (u4 I.n I.w) (by decide)
 ·show c9 (tm (fQ [st] [62]) (fa (fr / 5) (le+fr % 3) body 0).1.length (fa (fr / 5) (le+fr % 3) body 0).2++tG (FA (HB c)) (if(fa (fr / 5) (le+fr % 3) body 0).2.isEmpty then[] else[10]) (ir (fa (fr / 5) (le+fr % 3) body 0).1.length (fa (fr / 5) (le+fr % 3) body 0).2))<=lim
  rw[I2,val]
  unfold Dr.val
  rw[da,tj]
  exact hj
 ·show st::((bif ((fr / 6 % 2:Nat):Int)==(0:Int) then IF d++HB c else HB c++IF d)++(je (fr / 12 % 4)++(nl++(jY nl (fa (fr / 5) (le+fr % 3) body 0).1++(aS (lead (le+fr % 3) e (fa (fr / 5) (le+fr % 3) body 0).2)++fY.rest _ (fa (fr / 5) (le+fr % 3) body 0).2)))))=kq x.rows x.cl st le fr nl++aS e
  unfold kq Jk xA
  rw[hb,<-ed,<-ec,fc _ _ (aS e),show jI (fr / 5) (le+fr % 3) nl body 0++aS e=_ from tx]
  simp only[fc,Dh,Ro]
section
variable (x:Dr)
def Dr.bd (p sh:Nat) (nl:List Nat):List Nat:=
 bif (sh:Int)==(2:Int) then[45,45,45,32]++(x.P.txt++x.w x.st 1 x.f nl) else bif (p:Int)==(0:Int) then[45,32]++(x.P.txt++x.w x.st 1 x.f nl) else bif (p:Int)==(1:Int) then[45,32,107,58,32]++(x.P.txt++x.w x.st 3 x.f nl)
 else bif (p:Int)==(2:Int) then[45,32,45,32]++(x.P.txt++x.w x.st 3 x.f nl) else[45,32,63,32]++(x.P.txt++(x.w x.st 3 x.f nl++([32,32,58,32]++x.w x.ot 3 ((x.f+1733) % 5040) nl)))
def Dr.du (p sh:Nat) (su:Bool):List DV:=
 bif (sh:Int)==(2:Int) then[kL true,tS x.P x.val x.st,eI su] else bif (p:Int)==(0:Int) then[tS x.P x.val x.st] else bif (p:Int)==(1:Int) then[sW,Zz,tS x.P x.val x.st,kH] else bif (p:Int)==(2:Int) then[sY,tS x.P x.val x.st,gg] else[sW,tS x.P x.val x.st,tS P0 x.val x.ot,kH]
def Dr.rem (nl:List Nat):List Nat:=bif ((x.f / 5 % 2:Nat):Int)==(1:Int) then[35,32,114,58,32,115]++nl else[]
def tD (sh:Nat) (su:Bool) (nl:List Nat):List Nat:=bif ((sh:Int)==(2:Int))&&(su&&true) then[46,46,46]++nl else[]
def Dr.all (sh:Nat) (su:Bool) (nl:List Nat):List Nat:=x.bd x.p sh nl++(x.rem nl++tD sh su nl)
def HA:List Nat:=[35,45,46,0]
def NW:(HA.all λc=>!bc c cz&&bc c after)=true:=KK
def Ic {c:Nat} (h:c∈HA):bc c cz=false/\c∈after:=a2 (aw (gj.mp NW c h)) λa b=>⟨iA a,fJ b⟩
def HD (nl:List Nat):Option (List Nat):=bif ((x.f / 5 % 2:Nat):Int)==(1:Int) then some nl else none
def D2 (nl:List Nat):bC (HD x nl)=x.rem nl:=by
 unfold HD Dr.rem
 cases((x.f / 5 % 2:Nat):Int)==(1:Int)<;>rfl
def gJ (k:Nat):[124,62].getD (k % 2) 0∈[124,62]:=by rcases Nat.mod_two_eq_zero_or_one k with h|h<;>rw[h]<;>simp
def Dr.xo:x.P∈Ps:=by
 unfold Dr.P
 rw[Zd]
 cases h:Ps[x.f / 1008]? with
 |none=>exact .head _
 |some P=>exact List.mem_of_getElem? h
variable {nl:List Nat} (qm:nl∈iJ)
include qm
theorem Jc:∀l,HD x nl=some l->l∈iJ:=λl e=>by
 unfold HD at e
 cases h:((x.f / 5 % 2:Nat):Int)==(1:Int) with
 |true=>rw[h] at e;exact eN e▸qm
 |false=>rw[h] at e;exact ns e
theorem Dr.tn {sh:Nat} (Ju:((sh:Int)==(2:Int))=false) (su:Bool) {c0:Nat} (hc:c0∈HA):∃t:Tn,t.Ok/\45::t.txt=x.bd x.p sh nl/\t.told=x.du x.p sh su/\t.g=HD x nl/\t.c0=c0:=a2 (Ic hc) λh1 h2=>by
 have jA:=gJ (x.pl / 4)
 have hot:=gJ (x.pl / 4+1)
 have hP:=x.xo
 have hg:=Jc x qm
 have b1:=x.blk (st:=x.st) (le:=1) (fr:=x.f) 0 c0 jA qm (by decide) h1 λ_ _=>h2
 have b3:=x.blk (st:=x.st) (le:=3) (fr:=x.f) 0 c0 jA qm (by decide) h1 λ_ _=>h2
 have b4:=x.blk (st:=x.st) (le:=3) (fr:=x.f) 2 58 jA qm (by decide) KK λ_ h=>absurd h (by decide)
 have b5:=x.blk (st:=x.ot) (le:=3) (fr:=(x.f+1733) % 5040) 0 c0 hot qm (by decide) h1 λ_ _=>h2
 unfold Dr.bd Dr.du
 rw[Ju]
 refine four (P:=λp=>∃t:Tn,t.Ok/\45::t.txt=(bif (p:Int)==(0:Int) then[45,32]++(x.P.txt++x.w x.st 1 x.f nl) else bif (p:Int)==(1:Int) then[45,32,107,58,32]++(x.P.txt++x.w x.st 3 x.f nl) else bif (p:Int)==(2:Int) then[45,32,45,32]++(x.P.txt++x.w x.st 3 x.f nl) else[45,32,63,32]++(x.P.txt++(x.w x.st 3 x.f nl++([32,32,58,32]++x.w x.ot 3 ((x.f+1733) % 5040) nl))))/\
  t.told=(bif (p:Int)==(0:Int) then[tS x.P x.val x.st] else bif (p:Int)==(1:Int) then[sW,Zz,tS x.P x.val x.st,kH] else bif (p:Int)==(2:Int) then[sY,tS x.P x.val x.st,gg] else[sW,tS x.P x.val x.st,tS P0 x.val x.ot,kH])/\t.g=HD x nl/\t.c0=c0) (u5 (qe _ (by decide))) ?_
 refine e9.mpr ⟨?_,e9.mpr ⟨?_,e9.mpr ⟨?_,e9.mpr ⟨?_,qT _⟩⟩⟩⟩
 ·exact cV b1 λB ch q=>a6 q λO q1 q2 q3 q4 q5=>⟨⟨_,_,_,HD x nl⟩,⟨.a hP O q4,hg⟩,aQ ([45,32]++x.P.txt++·) (q1.trans (ti _)) |>.trans (fc ..),by rw[q2,q3];rfl,rfl,q5⟩
 ·exact cV b3 λB ch q=>a6 q λO q1 q2 q3 q4 q5=>⟨⟨_,_,_,HD x nl⟩,⟨.b hP O q4,hg⟩,by rw[q1.trans (ti _)];rfl,by rw[q2,q3];rfl,rfl,q5⟩
 ·exact cV b3 λB ch q=>a6 q λO q1 q2 q3 q4 q5=>⟨⟨_,_,_,HD x nl⟩,⟨.c hP O q4,hg⟩,by rw[q1.trans (ti _)];rfl,by rw[q2,q3];rfl,rfl,q5⟩
 ·exact cV b4 λB ch q=>a6 q λO q1 q2 q3 q4 q5=>cV b5 λB2 ch2 r=>a6 r λO2 r1 r2 r3 r4 r5=>⟨⟨_,_,_,HD x nl⟩,⟨.d hP O q4 q5 O2 r4,hg⟩,by rw[q1,r1.trans (ti _),fc];rfl,by rw[q2,q3,r2,r3];rfl,rfl,r5⟩
theorem Dr.dn (su:Bool) {c0:Nat} (hc:c0∈HA):∃t:Tn,t.DocOk/\45::45::45::t.txt=x.bd x.p 2 nl/\t.mO su=x.du x.p 2 su/\t.g=HD x nl/\t.c0=c0:=a2 (Ic hc) λh1 h2=>
 cV (x.blk (st:=x.st) (le:=1) (fr:=x.f) 0 c0 (gJ (x.pl / 4)) qm (by decide) h1 λ_ _=>h2) λB ch q=>a6 q λO q1 q2 q3 q4 q5=>⟨⟨_,B.c0,_,HD x nl⟩,⟨⟨x.P,B,ch,x.xo,O,q4,rfl,rfl,rfl⟩,Jc x qm⟩,(aQ ([45,45,45,32]++x.P.txt++·) (q1.trans (ti _))).trans (fc ..),by unfold Dr.du;show[kL true]++[tS x.P (B.cm ch).flatten B.st]++[eI su]=_;rw[q2,q3];rfl,rfl,q5⟩
omit qm in
theorem LJ {r:List Nat} (h:∃c l,r=c::l/\c∈HA):∃c l,x.rem nl++r=c::l/\c∈HA:=by
 unfold Dr.rem
 cases((x.f / 5 % 2:Nat):Int)==(1:Int) with
 |true=>exact⟨35,_,rfl,.head _⟩
 |false=>exact h
omit qm in
theorem tZ:(45∈HA)/\(46∈HA)/\0∈HA:=⟨.tail _ (.head _),.tail _ (.tail _ (.head _)),.tail _ (.tail _ (.tail _ (.head _)))⟩
theorem yS {sh:Nat} (Ju:((sh:Int)==(2:Int))=false) (su:Bool) (xs:List Dr):∃ts:List Tn,ts.length=xs.length/\wt nl su ts/\jN nl su ts=(xs.map λx=>x.all sh su nl).flatten++IP nl su/\(ts.map Tn.told).flatten=(xs.map λx=>x.du x.p sh su).flatten/\∃c l,jN nl su ts=c::l/\c∈HA:=by
 induction xs with
 |nil=>exact⟨[],rfl,trivial,rfl,rfl,by cases su;exact⟨0,[],rfl,tZ.2.2⟩;exact⟨46,_,rfl,tZ.2.1⟩⟩
 |cons x xs ih=>
  obtain⟨ts,e1,e2,e3,e4,e5⟩:=ih
  obtain⟨c',l',f1,f2⟩:=LJ x (nl:=nl) e5
  obtain⟨t,g1,g2,g3,g4,g5⟩:=x.tn qm Ju su f2
  refine⟨t::ts,aQ (· +1) e1,⟨g1,⟨l',by rw[g4,D2,g5];exact f1⟩,e2⟩,?_,?_,45,_,rfl,tZ.1⟩
  ·show 45::(t.txt++(bC t.g++jN nl su ts))=((x.bd x.p sh nl++(x.rem nl++tD sh su nl))++(xs.map λx=>x.all sh su nl).flatten)++IP nl su
   rw[<-Dh,g2,g4,D2,e3,show tD sh su nl=[] by unfold tD;rw[Ju];rfl]
   simp only[ti,fc]
  ·show(t.told::ts.map Tn.told).flatten=(x.du x.p sh su::xs.map λx=>x.du x.p sh su).flatten
   rw[Rm,Rm,g3,e4]
theorem IG (su:Bool) (xs:List Dr):∃ts:List Tn,ts.length=xs.length/\vp nl su ts/\jf nl su ts=(xs.map λx=>x.all 2 su nl).flatten++[0]/\(ts.map λt=>t.mO su).flatten=(xs.map λx=>x.du x.p 2 su).flatten/\∃c l,jf nl su ts=c::l/\c∈HA:=by
 induction xs with
 |nil=>exact⟨[],rfl,trivial,rfl,rfl,0,[],rfl,tZ.2.2⟩
 |cons x xs ih=>
  obtain⟨ts,e1,e2,e3,e4,e5⟩:=ih
  have e7:∃c l,jK nl su++jf nl su ts=c::l/\c∈HA:=by cases su;exact e5;exact⟨46,_,rfl,tZ.2.1⟩
  obtain⟨c',l',f1,f2⟩:=LJ x (nl:=nl) e7
  obtain⟨t,h1,g2,g3,g4,g5⟩:=x.dn qm su f2
  refine⟨t::ts,aQ (· +1) e1,⟨h1,⟨l',by rw[g4,D2,g5];exact f1⟩,e2⟩,?_,?_,45,_,rfl,tZ.1⟩
  ·show 45::45::45::(t.txt++(bC t.g++(jK nl su++jf nl su ts)))=((x.bd x.p 2 nl++(x.rem nl++tD 2 su nl))++(xs.map λx=>x.all 2 su nl).flatten)++[0]
   rw[<-Dh,<-Dh,<-Dh,g2,g4,D2,e3,show tD 2 su nl=jK nl su by cases su<;>rfl]
   simp only[fc]
  ·show(t.mO su::ts.map λt=>t.mO su).flatten=(x.du x.p 2 su::xs.map λx=>x.du x.p 2 su).flatten
   rw[Rm,Rm,g3,e4]
end
def zr (xs:List Dr) (sh:Nat) (su:Bool) (nl:List Nat):List Nat:=E6 sh nl++((xs.map λx=>x.all sh su nl).flatten++(bif Nat.blt sh 2&&su then[46,46,46]++nl else[]))
def IM (xs:List Dr) (sh:Nat) (su:Bool):List DV:=Ob sh++((xs.map λx=>x.du x.p sh su).flatten++((bif Nat.blt sh 2 then[gg,eI su] else[])++[gK]))
def Ay {U:Program} {w:World} {B0:Base} (T0:cQ (KF (HH w)) B0) (hl:bz B0) (cg:B0.V.β 17=0) {xs:List Dr} (hx:xs≠[]) {sh:Nat} (Ju:sh<=2) (su:Bool) {nl:List Nat} (qm:nl∈iJ) (h:B0.V.ς 0=zr xs sh su nl++[0]):∃p l c k,eQ U w B0 (k0 (.md [])) (IM xs sh su) (kF p l c k true):=by
 have ee:IP nl su=(bif su then[46,46,46]++nl else[])++[0]:=by cases su<;>rfl
 revert h
 refine SF (P:=λsh=>B0.V.ς 0=zr xs sh su nl++[0]->∃p l c k,eQ U w B0 (k0 (.md [])) (IM xs sh su) (kF p l c k true)) Ju (e9.mpr ⟨λh=>?_,e9.mpr ⟨λh=>?_,e9.mpr ⟨λh=>?_,qT _⟩⟩⟩)
 ·obtain⟨ts,e1,e2,e3,e4,_⟩:=yS qm (sh:=0) rfl su xs
  cases ts with
  |nil=>exact absurd (List.eq_nil_of_length_eq_zero e1.symm) hx
  |cons t ts=>
   have ev:=ZW (U:=U) T0 hl cg qm su e2 (by
    rw[h,e3,ee];show([]++((xs.map λx=>x.all 0 su nl).flatten++(bif true&&su then[46,46,46]++nl else[])))++[0]=_
    rw[Bool.true_and,Ro,fc])
   rw[e4] at ev
   exact ev
 ·obtain⟨ts,e1,e2,e3,e4,_⟩:=yS qm (sh:=1) rfl su xs
  cases ts with
  |nil=>exact absurd (List.eq_nil_of_length_eq_zero e1.symm) hx
  |cons t ts=>
   have ev:=ZX (U:=U) T0 hl cg qm su e2 (by
    rw[h,e3,ee];show(([45,45,45]++nl)++((xs.map λx=>x.all 1 su nl).flatten++(bif true&&su then[46,46,46]++nl else[])))++[0]=_
    rw[Bool.true_and];simp only[fc,Dh,Ro])
   rw[e4] at ev
   exact ev
 ·obtain⟨ts,e1,e2,e3,e4,_⟩:=IG qm su xs
  cases ts with
  |nil=>exact absurd (List.eq_nil_of_length_eq_zero e1.symm) hx
  |cons t ts=>
   have ev:=ZY (U:=U) T0 hl cg qm su e2 (by
    rw[h,e3];show([]++((xs.map λx=>x.all 2 su nl).flatten++[]))++[0]=_
    rw[Ro,ti])
   rw[e4] at ev
   exact ev
def Si (xs:List Str):List DV->List (Str×ae)->List (Str×ae):=List.rec (motive:=λ_=>List DV->List (Str×ae)->List (Str×ae)) (λ_ l=>l) (λx _ ih vs l=>List.casesOn (motive:=λ_=>List (Str×ae)) vs l λv vs=>ih vs (bS l x (.pv v))) xs
def yO (xs:List Str):∀(l:List (Str×ae)) (vs:List DV),putAll l xs vs=Si xs vs l:=by
 induction xs with
 |nil=>exactλ_ _=>rfl
 |cons x xs ih=>
  intro l vs
  cases vs with
  |nil=>rfl
  |cons v vs=>exact(ih (put l x (.pv v)) vs).trans (aQ (Si xs vs) (bk ..).symm)
section
variable (H:Array Nat->Int) (u:LU) (e:Bool) (o x:TU)
def afB (l:List DV):aT (LT {u with D:=.ml l} e o x 0).loc gQ=some (.ml l)/\Ao (LT {u with D:=.ml l} e o x 0) gQ l=LT {u with D:=.pv (.lst l)} e o x 0:=by cases e<;>exact⟨KK,KK⟩
def afz (pl fr a b c:Nat):putAll (LT u e o x 0).loc [lK,hE,Rh,Ri,xa] [iD pl,iD fr,iD a,iD b,iD c]=(LT u e o {x with pl:=pl,fr:=fr,a:=a,b:=b,c:=c} 5).loc:=(yO ..).trans (by cases e<;>kernel_rfl)
def afR (P:Pv):putAll (LT u e o x 10).loc [w6,ke,mC] [.str P.txt,P.ZZ,P.tag]=(LT u e o {x with P:=P} 13).loc:=(yO ..).trans (by cases e<;>kernel_rfl)
end
def aie (l:List Nat):((l.map iD).take 5++zz5).take 5=[iD (Dr.of l).pl,iD (Dr.of l).fr,iD (Dr.of l).a,iD (Dr.of l).b,iD (Dr.of l).c]:=by
 match l with
 |[]=>rfl
 |[_]=>rfl
 |[_,_]=>rfl
 |[_,_,_]=>rfl
 |[_,_,_,_]=>rfl
 |_::_::_::_::_::_=>rfl
def Iz (l:List DV) (v:DV):cutD (l++[v]) none (some (-1))=l:=by
 unfold cutD
 show((l++[v]).drop 0).take (clipAt (l++[v]).length (-1) - 0)=l
 have:clipAt (l++[v]).length (-1)=l.length:=by unfold clipAt;simp;omega
 rw[this,List.drop_zero,Nat.sub_zero,List.take_left]
section
variable {U:Program} {w:World} {Y:Base} (T0:cQ (KF (HH w)) Y) (hl:bz Y) (u:LU) (e:Bool) (o x:TU)
def Qm (T0:cQ (KF (HH w)) Y) {G:Gh} (h:∀b o,Y.hp.get? b=some o->G.g b=some o):DR w.params G (.lst ((List.range 11).map λk=>.str (iR k))) (.ref 1524):=by
 have h1:Y.hp.get? 1524=some (bG [vS WR 2421,vS Cy 2422,vS aca 2423,vS acb 2424,vS acd 2425,vS ace 2426,vS acf 2427,vS PG 2428,vS acg 2429,vS ach 2430,vS Cy 2431] 0):=T0.Jz 1524 _ KK
 have z:∀k∈List.range 11,(iR k).length<=lim:=λk m=>bw (eP (gj.mp (by kernel_rfl:((List.range 11).all λk=>Nat.ble (iR k).length 20)=true) k m)) (by decide)
 have s:∀k (t:Tok),k<11->DR w.params G (.str (iR k)) (.str ⟨⟨iR k⟩⟩ t):=λk t h=>.str _ _ (z k (List.mem_range.mpr h))
 exact .lst (h _ _ h1) (by decide:11<=lim) (.cons (s 0 _ (by decide)) (.cons (s 1 _ (by decide)) (.cons (s 2 _ (by decide)) (.cons (s 3 _ (by decide)) (.cons (s 4 _ (by decide)) (.cons (s 5 _ (by decide)) (.cons (s 6 _ (by decide)) (.cons (s 7 _ (by decide)) (.cons (s 8 _ (by decide)) (.cons (s 9 _ (by decide)) (.cons (s 10 _ (by decide)) .nil)))))))))))
include T0 hl
abbrev sX (U:Program) (w:World) (Y:Base) (st:Stmt) (Z ba:aj):Prop:=aU U w 1521 Y (FI (HH w) 1569).sc 40 st Z .next ba
theorem QZ (ds:List Nat) (hz:ds.length<=10) (hi:x.i<=1):sX U w Y (tb (HH w) 0) (LT {u with D:=.pv (.lst (ds.map iD))} e o x 0) (LT {u with D:=.pv (.lst (ds.map iD))} e o {x with pl:=(Dr.of (ds.drop (5*x.i))).pl,fr:=(Dr.of (ds.drop (5*x.i))).fr,a:=(Dr.of (ds.drop (5*x.i))).a,b:=(Dr.of (ds.drop (5*x.i))).b,c:=(Dr.of (ds.drop (5*x.i))).c} 5):=j2 (afA (HH w)) λs0 s1=>by
 have B:fV [(gQ,10),(jP,1)] (LT {u with D:=.pv (.lst (ds.map iD))} e o x 0).loc:=Eq.mpr (by cases e<;>kernel_rfl:fV [(gQ,10),(jP,1)] (LT {u with D:=.pv (.lst (ds.map iD))} e o x 0).loc=((ds.map iD).length<=10/\x.i<=1/\True)) ⟨by rw[mG];exact hz,hi,trivial⟩
 have v:=rW (U:=U) T0 hl B (afy (HH w) u e o x (ds.map iD))
 have ev:cutD (cutD (ds.map iD) (some (5*x.i:Nat)) (some (5*x.i+5:Nat))++zz5) none (some 5)=[iD (Dr.of (ds.drop (5*x.i))).pl,iD (Dr.of (ds.drop (5*x.i))).fr,iD (Dr.of (ds.drop (5*x.i))).a,iD (Dr.of (ds.drop (5*x.i))).b,iD (Dr.of (ds.drop (5*x.i))).c]:=by
  rw[Iy,<-List.map_drop,Nat.add_sub_cancel_left];exact(RE _ 5).trans (aie _)
 rw[ev] at v
 have k:=C5 s0 v s1 rfl
 rw[show(⟨(LT {u with D:=.pv (.lst (ds.map iD))} e o x 0).aq,putAll (LT {u with D:=.pv (.lst (ds.map iD))} e o x 0).loc [lK,hE,Rh,Ri,xa] _⟩:aj)=_ from aQ (aj.mk none) (afz ..)] at k
 exact k
theorem YQ:sX U w Y (tb (HH w) 6) (LT u e o x 8) (LT u e o {x with R:=.ml ([iR (x.a % 11),iR (x.b % 11),iR (x.c % 11)].map .str)} 9):=j4 (afH (HH w)) λs0 s1 s2 s3=>j5 (afF (HH w)) λm0 m1 m2 m3 m4=>a3 (afE (HH w)) λg0 g1 g2=>by
 have S:=rz s0
 have k:=ry (d:=40) (l:=[iD x.a,iD x.b,iD x.c]) s0 (λ_=>true) (λv=>Option.rec (motive:=λ_=>DV) v (λn=>.str (iR (n % 11))) (sg v)) (by decide:3<=lim) (e9.mpr ⟨rfl,e9.mpr ⟨rfl,e9.mpr ⟨rfl,qT _⟩⟩⟩) (rW (U:=U) T0 hl (β:=[]) trivial (afD (HH w) u e o x)) (.inl ⟨s2,λ_=>rfl⟩) λv m _=>by
  have one:∀n:Nat,f6 U w Y (Du (HH w)).2.sc (Du (HH w)).2.x (Du (HH w)).2.elt (iD n) (.str (iR (n % 11))):=λn=>a2 ((wI _).get s3) λe1 e2=>e1▸abH e2 ((dp _).get m0▸UH T0 S.kd g0 g1 g2 λG h=>Qm T0 h) (show f6 U w Y _ _ _ (iD n) (.int ((n % 11:Nat):Int)) from JV (i:=(n:Int)) S (by decide) m1 m2 m3 m4)
   (EG (lT (by rw[mG,List.length_range];exact qe _ (by decide))) (by rw[Rn,List.getElem?_range (qe _ (by decide))];rfl))
  exact(e9.mpr ⟨one x.a,e9.mpr ⟨one x.b,e9.mpr ⟨one x.c,qT _⟩⟩⟩:∀v∈[iD x.a,iD x.b,iD x.c],f6 U w Y (Du (HH w)).2.sc (Du (HH w)).2.x (Du (HH w)).2.elt v (Option.rec (motive:=λ_=>DV) v (λn=>.str (iR (n % 11))) (sg v))) v m
 rw[s1,afG] at k
 exact k
theorem Q1 (qs:List (List Nat)):qs.length<=3->∃n,cI U w 1521 Y (FI (HH w) 1569).sc 40 (Hz (HH w)).1 (Hz (HH w)).2 n (LT u e o {x with R:=.ml (qs.reverse.map .str)} 9) .next (LT u e o {x with R:=.ml ((wH qs).map .str)} 9):=by
 induction qs with
 |nil=>exactλ_=>⟨0,.stop (p4 (U:=U) T0 hl (β:=[]) trivial (afI (HH w) u e o x))⟩
 |cons p qs ih=>
  intro h
  have t:uA (HH w) 40 1569 (Hz (HH w)).1 (LT u e o {x with R:=.ml ((p::qs).reverse.map .str)} 9) []=some (fQ p []&&true):=by
   match qs,h with
   |[],_=>exact(j3 (Tb (HH w) u e o x p p p) λa _ _=>a)
   |[q],_=>exact(j3 (Tb (HH w) u e o x p q p) λ_ a _=>a)
   |[q,r],_=>exact(j3 (Tb (HH w) u e o x p q r) λ_ _ a=>a)
  have t:=p4 (U:=U) T0 hl (β:=[]) trivial t
  show ∃n,cI U w 1521 Y (FI (HH w) 1569).sc 40 (Hz (HH w)).1 (Hz (HH w)).2 n _ .next (LT u e o {x with R:=.ml ((bif fQ p [] then wH qs else(p::qs).reverse).map .str)} 9)
  cases c:fQ p [] with
  |false=>rw[c] at t;exact⟨0,.stop t⟩
  |true=>
   rw[c] at t
   have z:=afL u e o x ((p::qs).reverse.map .str)
   have B:fV [(jk,3)] (LT u e o {x with R:=.pv (.lst ((p::qs).reverse.map .str))} 9).loc:=Eq.mpr (by cases e<;>kernel_rfl:fV [(jk,3)] (LT u e o {x with R:=.pv (.lst ((p::qs).reverse.map .str))} 9).loc=(((p::qs).reverse.map DV.str).length<=3/\True)) ⟨by rw[mG,List.length_reverse];exact h,trivial⟩
   have k:=pZ (U:=U) T0 hl B (afK (HH w) u e o x ((p::qs).reverse.map .str))
   rw[show cutD ((p::qs).reverse.map DV.str) none (some (-1))=qs.reverse.map .str by rw[List.reverse_cons,Na];exact Iz _ _] at k
   exact fk (ih (Zf h)) λn g=>⟨n+1,.next t (De z.2 (z.1▸k)) g⟩
theorem Q2 (ss:List (List Nat)) (hs:c9 ss+ss.length<=1000) (hc:x.cl<=3):sX U w Y (tb (HH w) 8) (LT u e o {x with R:=.ml (ss.map .str)} 9) (LT u e o {x with R:=.ml (ss.map .str),v:=gV [10] ss++List.replicate x.cl 10} 10):=j4 (afO (HH w)) λs0 s1 s2 s3=>j3 (afM (HH w) u e o x (ss.map .str)) λe0 e1 e2=>by
 have B:fV [(zClose,3)] (LT u e o {x with R:=.ml (ss.map .str)} 9).loc:=Eq.mpr (by cases e<;>kernel_rfl:fV [(zClose,3)] (LT u e o {x with R:=.ml (ss.map .str)} 9).loc=(x.cl<=3/\True)) ⟨hc,trivial⟩
 have j:=yH (U:=U) eA (ew (HH w)) T0 hl e0 ((cw ..).symm.trans e2) (bw (by show c9 ss+ss.length*1<=1000;rw[Nat.mul_one];exact hs) (by decide))
 have k:=Eb (U:=U) s0 (lE s2 j (rW (U:=U) T0 hl B e1) (by rw[s3];exact lN (bw (u4 (bw (ur [10] ss) (by show c9 ss+ss.length*1<=1000;rw[Nat.mul_one];exact hs)) (bw (iU tj) hc)) (by decide:1003<=lim)))).plain
 rw[s1] at k
 exact Eq.subst (motive:=λZ=>sX U w Y (tb (HH w) 8) _ Z) (afN u e o {x with R:=.ml (ss.map .str)} (gV [10] ss++List.replicate x.cl 10)) k
theorem Q0 (hf:x.fr<5040):sX U w Y (tb (HH w) 9) (LT u e o x 10) (LT u e o {x with P:=Ps.getD (x.fr / 1008) P0} 13):=j3 (afS (HH w)) λs0 s1 s2=>j2 (afQ (HH w) u e o x) λe0 e1=>by
 have B:fV [(hE,5039)] (LT u e o x 10).loc:=Eq.mpr (by cases e<;>kernel_rfl:fV [(hE,5039)] (LT u e o x 10).loc=(x.fr<=5039/\True)) ⟨u5 hf,trivial⟩
 have h5:x.fr / 1008<Ps.length:=by show x.fr / 1008<5;omega
 have v:=y5 (z:=prD (Ps.getD (x.fr / 1008) P0)) s2 (rW (U:=U) T0 hl B e0) (rW (U:=U) T0 hl B e1) (EG (lT (by rw[mG];exact h5)) (by rw[Rn,Zd,zO h5];rfl))
 have k:=C6 s0 v s1 rfl
 exact Eq.subst (motive:=λZ=>sX U w Y (tb (HH w) 9) _ Z) (aQ (aj.mk none) (afR u e o x (Ps.getD (x.fr / 1008) P0))) k
omit T0 hl in
theorem sumLen_le (k:Nat) (ss:List (List Nat)) (h:∀s∈ss,s.length<=k):c9 ss<=k*ss.length:=by
 induction ss with
 |nil=>exact ju _
 |cons s ss ih=>
  have h1:=h s (.head _)
  have h2:=ih λs m=>h s (.tail _ m)
  show s.length+c9 ss<=k*(ss.length+1)
  rw[Nat.mul_add];omega
abbrev Dr.tu (X:Dr) (i:Nat):TU:=⟨i,X.p,X.f,X.a,X.b,X.c,X.st,X.ot,X.cl,.pv (.lst (X.rows.map .str)),X.val,X.P,tS X.P X.val X.st⟩
theorem YP (ds:List Nat) (hz:ds.length<=10) (RL:∀n∈ds,n<5040) (hi:x.i<=1) (X:Dr) (hX:X=Dr.of (ds.drop (5*x.i))) {l:List Stmt} {f:au} {ba:aj} (k:lX U w Y l (LE {u with D:=.pv (.lst (ds.map iD))} (X.tu x.i)) f ba):
 lX U w Y (tb (HH w) 0::tb (HH w) 1::tb (HH w) 2::tb (HH w) 3::tb (HH w) 4::tb (HH w) 5::tb (HH w) 6::tb (HH w) 7::tb (HH w) 8::tb (HH w) 9::tb (HH w) 10::l) (LT {u with D:=.pv (.lst (ds.map iD))} e o x 0) f ba:=by
 have gl:∀i,(ds.drop (5*x.i)).getD i 0<5040:=λi=>by
  rw[Zd]
  cases q:(ds.drop (5*x.i))[i]? with
  |none=>exact MW _
  |some n=>exact RL n (List.mem_of_mem_drop (List.mem_of_getElem? q))
 have g0:X.pl<=5039:=hX▸u5 (gl 0)
 have g1:X.fr<=5039:=hX▸u5 (gl 1)
 have n0:=QZ (U:=U) T0 hl u e o x ds hz hi
 rw[<-hX] at n0
 generalize ({u with D:=.pv (.lst (ds.map iD))}:LU)=u at n0 k ⊢
 have gb:=X.gb (st:=124) (.head _) 0
 have ff:X.f<5040:=qe _ (by decide)
 have B:fV [(lK,5039),(hE,5039)] (LT u e o {x with pl:=X.pl,fr:=X.fr,a:=X.a,b:=X.b,c:=X.c} 5).loc:=Eq.mpr (by cases e<;>kernel_rfl:fV [(lK,5039),(hE,5039)] (LT u e o {x with pl:=X.pl,fr:=X.fr,a:=X.a,b:=X.b,c:=X.c} 5).loc=(X.pl<=5039/\X.fr<=5039/\True)) ⟨g0,g1,trivial⟩
 refine ao n0 (rY (U:=U) T0 hl B (afC (HH w) u e o {x with pl:=X.pl,fr:=X.fr,a:=X.a,b:=X.b,c:=X.c}) (ao (YQ (U:=U) T0 hl u e o _) ?_))
 have ws:=Q1 (U:=U) T0 hl u e o ⟨x.i,X.p,X.f,X.a,X.b,X.c,X.st,X.ot,X.cl,x.R,x.v,x.P,x.told⟩ [iR (X.c % 11),iR (X.b % 11),iR (X.a % 11)] (fy 3)
 refine fk ws λn tu=>ao (lJ (afJ (HH w)) tu) (ao (Q2 T0 hl u e o ⟨x.i,X.p,X.f,X.a,X.b,X.c,X.st,X.ot,X.cl,x.R,x.v,x.P,x.told⟩ X.rows (bw (u4 (bw (sumLen_le 60 _ λr m=>(gb.r r m).1) (Nat.mul_le_mul_left 60 gb.n)) gb.n) (by decide)) X.rt) (ao (Q0 T0 hl u e o ⟨x.i,X.p,X.f,X.a,X.b,X.c,X.st,X.ot,X.cl,.ml (X.rows.map .str),X.val,x.P,x.told⟩ ff) ?_))
 have r10:=aW (Z4 (HH w) u e o ⟨x.i,X.p,X.f,X.a,X.b,X.c,X.st,X.ot,X.cl,.ml (X.rows.map .str),X.val,x.P,x.told⟩) X.P X.xo
 have z:=Z5 u e o ⟨x.i,X.p,X.f,X.a,X.b,X.c,X.st,X.ot,X.cl,.ml (X.rows.map .str),X.val,X.P,tS X.P X.val X.st⟩ (X.rows.map .str)
 exact rY (U:=U) T0 hl (β:=[]) trivial r10 (De z.1 (z.2▸k))
end
def Dr.Fh (X:Dr) {st le fr:Nat} {nl:List Nat} (jA:st∈[124,62]) (hle:le<=40) (hn:nl.length<=50):(X.w st le fr nl).length<=61000:=by
 have gb:=X.gb jA (fr / 7)
 have hb:∀b∈xA X.rows X.cl st fr,b.length<=60:=λb m=>(List.mem_append.mp m).elim (λm=>(gb.b b m).1) λm=>by rw[List.eq_of_mem_replicate m];exact ju _
 have hB:(xA X.rows X.cl st fr).length<=303:=by
  unfold xA
  rw[da,tj]
  exact Oc (z5 (mA (br X.rows)) X.rt fr) λ_ _ _ h _=>u4 gb.len h
 have r:=uG (fr / 5) (le+fr % 3) nl OO hn _ 0 hb
 have d:(qh (br X.rows) fr).length<=1:=by unfold qh;cases rD (br X.rows) fr;exact ju _;exact fy _
 have c:(jn (mA (br X.rows)) X.cl fr).length<=1:=by
  rcases z4 (mA (br X.rows)) X.cl fr with h|h|h
  ·rw[h];exact ju _
  ·rw[h];exact fy _
  ·rw[h.1];exact fy _
 have t:=E5 (fr / 12)
 unfold Dr.w kq
 have h1:(Jk (qh (br X.rows) fr) (jn (mA (br X.rows)) X.cl fr) fr).length<=2:=by
  unfold Jk
  cases((fr / 6 % 2:Nat):Int)==0
  ·exact bw (iU da) (u4 c d)
  ·exact bw (iU da) (u4 d c)
 simp only[da,ZG]
 omega
def eM {α:Type} {c:Bool} {a b:List α} {n:Nat} (ha:a.length<=n) (hb:b.length<=n):(bif c then a else b).length<=n:=by cases c;exact hb;exact ha
def Dr.HU (X:Dr) (sh:Nat) {nl:List Nat} (h:nl.length<=50):(X.bd X.p sh nl).length<=130000:=by
 have wl:=λst le fr jA (hle:le<=40)=>X.Fh (st:=st) (fr:=fr) jA hle h
 have pl:X.P.txt.length<=6:=eP (gj.mp (by kernel_rfl:(Ps.all λP=>Nat.ble P.txt.length 6)=true) _ X.xo)
 have t:∀(l:List Nat) le,l.length<=10->le<=40->(l++(X.P.txt++X.w X.st le X.f nl)).length<=130000:=λl le h1 h2=>by
  have:=wl X.st le X.f (gJ _) h2
  rw[da,da];omega
 refine eM (t _ _ (by decide) (by decide)) (eM (t _ _ (by decide) (by decide)) (eM (t _ _ (by decide) (by decide)) (eM (t _ _ (by decide) (by decide)) ?_)))
 have a:=wl X.st 3 X.f (gJ _) (by decide)
 have b:=wl X.ot 3 ((X.f+1733) % 5040) (gJ _) (by decide)
 simp only[da,M9,List.length_nil];omega
def Dr.Dk (X:Dr) (sh:Nat) (su:Bool) {nl:List Nat} (h:nl.length<=50):(X.all sh su nl).length<=130112:=by
 have a:(X.rem nl).length<=56:=eM (bw (iU da) (xl h 6)) (ju _)
 have b:(tD sh su nl).length<=56:=eM (bw (iU da) (by show 3+nl.length<=56;omega)) (ju _)
 have c:=X.HU sh h
 unfold Dr.all
 rw[da,da];omega
def Dr.Af (X:Dr) (sh:Nat) (su:Bool):(X.du X.p sh su).length<=4:=eM (eP rfl) (eM (eP rfl) (eM (eP rfl) (eM (eP rfl) (eP rfl))))
def xv (e:Expr):Option (Str×List Expr):=(gS e).bind λc=>bif c.2.2.1.isEmpty then(dY c.1).bind λx=>some (x,c.2.1) else none
def xw (e:Expr):On (λq=>∃p pos,.Call (.Name q.1 p) q.2 [] pos=e) (xv e):=(ic e).b λc h=>ak λh1=>(dp c.1).b λx hx=>⟨c.1.pos,c.2.2.2,by rw[hx,bT h1];exact h⟩
def HC (ds:List Nat):List Dr:=bif Nat.ble ds.length 5 then[Dr.of ds] else[Dr.of ds,Dr.of (ds.drop 5)]
section
variable (H:Array Nat->Int) (u:LU) (o x:TU)
def UD:Str×List Expr:=(xv (lF H).2.1).getD default
def lN2:Str×List Expr:=(xv ((UD H).2.headD default)).getD default
abbrev lP1:Expr:=(lN2 H).2.headD default
abbrev lP2:Expr:=(lN2 H).2.getD 1 default
def ahJ:(xv (lF H).2.1,(UD H).2,bB (KF H) (FI H 1569).sc (UD H).1 (.type "range"),noStar ((UD H).2.headD default))=(some (UD H),[(UD H).2.headD default],true,true):=KK
def ahI:(xv ((UD H).2.headD default),(lN2 H).2,bB (KF H) (FI H 1569).sc (lN2 H).1 (.builtin "max"),noStar (lP1 H),noStar (lP2 H))=(some (lN2 H),[lP1 H,lP2 H],true,true,true):=KK
def ahH (D:List DV):(oK H 40 1569 (lP1 H) (LA {u with D:=.ml D} []) [(gQ,10)],oK H 40 1569 (lP2 H) (LA {u with D:=.ml D} []) [(gQ,10)])=(some (.pv (.int (1:Nat))),some (.pv (.int ((D.length+4) / 5:Nat)))):=KK
def aiX:bS (LA u []).loc jP (.pv (.int x.i))=(LT u false o x 0).loc:=KK
def aiY:bS (LE u o).loc jP (.pv (.int x.i))=(LT u true o x 0).loc:=KK
end
section
variable {U:Program} {w:World} {Y:Base} (T0:cQ (KF (HH w)) Y) (hl:bz Y) (u:LU) (i:Nat) (X:Dr)
def rd:(u.sh<=2/\u.nl.length<=50)->u.t.length<=700000->u.fW.length<=60->fV kP (LE u (X.tu i)).loc:=λh ht hd=>Eq.mpr (by kernel_rfl:fV kP (LE u (X.tu i)).loc=(u.sh<=2/\X.p<=3/\X.f<=5039/\u.t.length<=700000/\u.nl.length<=50/\X.P.txt.length<=6/\u.fW.length<=60/\X.cl<=3/\True))
 ⟨h.1,u5 (qe _ (by decide)),u5 (qe _ (by decide)),ht,h.2,eP (gj.mp (by kernel_rfl:(Ps.all λP=>Nat.ble P.txt.length 6)=true) _ X.xo),hd,X.rt,trivial⟩
include T0 hl
theorem MM {st le fr:Nat} {nl:List Nat} (jA:st∈[124,62]) (hle:le<=40) (hf:fr<=90000) (hn:nl.length<=50):af U w 1521 Y 11 (.ref 1550) [.lst (X.rows.map .str),.int X.cl,.str [st],.int le,.int fr,.str nl] [] none (.str (X.w st le fr nl)) none:=by
 have gb:=X.gb jA (fr / 7)
 exact aec T0 hl X.rows X.cl st le fr nl (by revert jA;simp) (bw gb.n (by decide)) (λr m=>⟨(gb.r r m).1,(gb.r r m).2.2⟩) (bw gb.len (by decide)) (λb m=>(gb.b b m).1) X.rt hle hf hn
theorem YY {b:List Stmt×List Nat×Nat} (hb:b∈brs (HH w)) (hle:b.2.2<=40) (h:u.sh<=2/\u.nl.length<=50) (ht:u.t.length<=600000) (hd:u.fW.length<=50):sX U w Y (ai b.1 0) (LE u (X.tu i)) (LE {u with t:=u.t++(b.2.1++(X.P.txt++X.w X.st b.2.2 X.f u.nl))} (X.tu i)):=by
 have k:=yL (U:=U) eA (ew (HH w)) T0 hl (n:=40) (rd u i X h (bw ht (by decide)) (bw hd (by decide))) (aW (aab (HH w) u (X.tu i) (X.rows.map .str)) b hb) (MM T0 hl X (gJ (X.pl / 4)) hle (bw (Rp (qe _ (by decide))) (by decide)) h.2) (bw (X.Fh (gJ (X.pl / 4)) hle h.2) (by decide))
 rw[fc,fc] at k
 exact Eq.subst (motive:=λZ=>sX U w Y (ai b.1 0) _ Z) (Rz u (X.tu i) (u.t++(b.2.1++(X.P.txt++X.w X.st b.2.2 X.f u.nl)))) k
theorem Mw (h:u.sh<=2/\u.nl.length<=50) (ht:u.t.length<=400000) (hd:u.fW.length<=50):sX U w Y (tb (HH w) 11) (LE u (X.tu i)) (LE {u with t:=u.t++X.bd X.p u.sh u.nl,fW:=u.fW++X.du X.p u.sh u.su} (X.tu i)):=by
 have B:=rd u i X h (bw ht (by decide)) (bw hd (by decide))
 have wl:=λst le fr jA (hle:le<=40)=>X.Fh (st:=st) (fr:=fr) jA hle h.2
 have pl:X.P.txt.length<=6:=eP (gj.mp (by kernel_rfl:(Ps.all λP=>Nat.ble P.txt.length 6)=true) _ X.xo)
 have tl:∀(lit:List Nat) (le:Nat),lit.length<=10->le<=40->(u.t++(lit++(X.P.txt++X.w X.st le X.f u.nl))).length<=600000:=λlit le h1 h2=>by
  have:=wl X.st le X.f (gJ _) h2
  rw[da,da,da];omega
 have Bt:=λlit le h1 h2=>rd {u with t:=u.t++(lit++(X.P.txt++X.w X.st le X.f u.nl))} i X h (bw (tl lit le h1 h2) (by decide)) (bw hd (by decide))
 have go:=λ{b:List Stmt×List Nat×Nat} (hb:b∈brs (HH w)) (hle:b.2.2<=40)=>YY (U:=U) T0 hl u i X hb hle h (bw ht (by decide)) hd
 have es:=λlit le=>Ry (HH w) {u with t:=u.t++(lit++(X.P.txt++X.w X.st le X.f u.nl))} (X.tu i)
 have tl2:(u.t++([45,32,63,32]++(X.P.txt++(X.w X.st 3 X.f u.nl++([32,32,58,32]++X.w X.ot 3 ((X.f+1733) % 5040) u.nl))))).length<=700000:=by
  have:=wl X.st 3 X.f (gJ _) (by decide)
  have:=wl X.ot 3 ((X.f+1733) % 5040) (gJ _) (by decide)
  simp only[da,M9,List.length_nil];omega
 have y2:=yL (U:=U) eA (ew (HH w)) T0 hl (n:=40) (Bt [45,32,63,32] 3 (by decide) (by decide)) (aac (HH w) {u with t:=_} (X.tu i) (X.rows.map .str)) (MM (le:=3) T0 hl X (gJ (X.pl / 4+1)) (by decide) (bw (Rp (qe _ (by decide))) (by decide)) h.2) (bw (X.Fh (gJ _) (by decide) h.2) (by decide))
 rw[show(u.t++([45,32,63,32]++(X.P.txt++X.w X.st 3 X.f u.nl))++[32,32,58,32])++X.w X.ot 3 ((X.f+1733) % 5040) u.nl=u.t++([45,32,63,32]++(X.P.txt++(X.w X.st 3 X.f u.nl++([32,32,58,32]++X.w X.ot 3 ((X.f+1733) % 5040) u.nl)))) by simp only[fc]] at y2
 have y2:=Eq.subst (motive:=λZ=>sX U w Y (ai (CL (HH w)).2.2 1) _ Z) (Rz {u with t:=u.t++([45,32,63,32]++(X.P.txt++X.w X.st 3 X.f u.nl))} (X.tu i) (u.t++([45,32,63,32]++(X.P.txt++(X.w X.st 3 X.f u.nl++([32,32,58,32]++X.w X.ot 3 ((X.f+1733) % 5040) u.nl)))))) y2
 unfold Dr.bd Dr.du
 exact j3 (Z9 (HH w)) λs0 s1 s2=>j4 (Z8 (HH w)) λr0 r1 r2 r3=>j4 (aaa (HH w) u (X.tu i)) λt0 t1 t2 t3=>j4 (Z7 (HH w)) λl0 l2 l3 l4=>j2 l0 λl0 l1=>kl s0 (p4 (U:=U) T0 hl B t0) (by
  cases(u.sh:Int)==(2:Int) with
  |true=>exact .at l0 (ao (go (.head _) (by decide:1<=40)) (pZ T0 hl (Bt [45,45,45,32] 1 (by decide) (by decide)) (Z6 (HH w) {u with t:=_} (X.tu i))))
  |false=>exact .at s1 (ao (kl s2 (p4 (U:=U) T0 hl B t1) (by
   cases(X.p:Int)==(0:Int) with
   |true=>exact .at l1 (ao (go (.tail _ (.head _)) (by decide:1<=40)) (pZ T0 hl (Bt [45,32] 1 (by decide) (by decide)) (es _ _).1))
   |false=>exact .at r0 (ao (kl r1 (p4 (U:=U) T0 hl B t2) (by
    cases(X.p:Int)==(1:Int) with
    |true=>exact .at l2 (ao (go (.tail _ (.tail _ (.head _))) (by decide:3<=40)) (pZ T0 hl (Bt [45,32,107,58,32] 3 (by decide) (by decide)) (es _ _).2.1))
    |false=>exact .at r2 (ao (kl r3 (p4 (U:=U) T0 hl B t3) (by
     cases(X.p:Int)==(2:Int) with
     |true=>exact .at l3 (ao (go (.tail _ (.tail _ (.tail _ (.head _)))) (by decide:3<=40)) (pZ T0 hl (Bt [45,32,45,32] 3 (by decide) (by decide)) (es _ _).2.2.1))
     |false=>exact .at l4 (ao (go (.tail _ (.tail _ (.tail _ (.tail _ (.head _))))) (by decide:3<=40)) (ao y2 (pZ T0 hl (rd {u with t:=u.t++([45,32,63,32]++(X.P.txt++(X.w X.st 3 X.f u.nl++([32,32,58,32]++X.w X.ot 3 ((X.f+1733) % 5040) u.nl))))} i X h tl2 (bw hd (by decide))) (Ry (HH w) {u with t:=u.t++([45,32,63,32]++(X.P.txt++(X.w X.st 3 X.f u.nl++([32,32,58,32]++X.w X.ot 3 ((X.f+1733) % 5040) u.nl))))} (X.tu i)).2.2.2))))) bA))) bA))) bA))
theorem YR (h:u.sh<=2/\u.nl.length<=50) (ht:u.t.length<=600000) (hd:u.fW.length<=60):lX U w Y [tb (HH w) 12,tb (HH w) 13] (LE u (X.tu i)) .next (LE {u with t:=u.t++(X.rem u.nl++tD u.sh u.su u.nl)} (X.tu i)):=j4 (aad (HH w)) λs0 s1 s2 s3=>by
 have x:=λu=>aae (HH w) u (X.tu i)
 have B:=rd u i X h (bw ht (by decide)) hd
 have rl:(X.rem u.nl).length<=56:=by
  have:=h.2
  unfold Dr.rem
  cases((X.f / 5 % 2:Nat):Int)==(1:Int)
  ·exact ju _
  ·exact bw (iU da) (xl this 6)
 have B2:=rd {u with t:=u.t++X.rem u.nl} i X h (by show(u.t++X.rem u.nl).length<=700000;rw[da];omega) hd
 rw[<-fc]
 refine ao (aa:=LE {u with t:=u.t++X.rem u.nl} (X.tu i)) (kl s0 (p4 (U:=U) T0 hl B (j2 (RA (HH w) u (X.tu i)) λa _=>a)) ?_) (ao (kl s1 (p4 (U:=U) T0 hl B2 (j2 (RA (HH w) {u with t:=u.t++X.rem u.nl} (X.tu i)) λ_ a=>a)) ?_) bA)
 ·unfold Dr.rem
  cases((X.f / 5 % 2:Nat):Int)==(1:Int) with
  |true=>have k:=pZ (U:=U) T0 hl B (x u).1;rw[fc] at k;exact k
  |false=>exact(show lX U w Y (q15 (HH w)).2.2 _ .next (LE {u with t:=u.t++[]} (X.tu i)) by rw[s2,ti];exact bA)
 ·unfold tD
  cases((u.sh:Int)==(2:Int))&&(u.su&&true) with
  |true=>have k:=pZ (U:=U) T0 hl B2 (x {u with t:=u.t++X.rem u.nl}).2;rw[fc _ [46,46,46]] at k;exact k
  |false=>exact(show lX U w Y (q16 (HH w)).2.2 _ .next (LE {u with t:=u.t++X.rem u.nl++[]} (X.tu i)) by rw[s3,ti];exact bA)
abbrev YT (H:Array Nat->Int):List Stmt:=[tb H 0,tb H 1,tb H 2,tb H 3,tb H 4,tb H 5,tb H 6,tb H 7,tb H 8,tb H 9,tb H 10,tb H 11,tb H 12,tb H 13]
theorem Mx (e:Bool) (o x:TU) (ds:List Nat) (hz:ds.length<=10) (RL:∀n∈ds,n<5040) (hi:x.i<=1) (hX:X=Dr.of (ds.drop (5*x.i))) (h:u.sh<=2/\u.nl.length<=50) (ht:u.t.length<=400000) (hd:u.fW.length<=50):
 lX U w Y (YT (HH w)) (LT {u with D:=.pv (.lst (ds.map iD))} e o x 0) .next (LE {u with D:=.pv (.lst (ds.map iD)),t:=u.t++X.all u.sh u.su u.nl,fW:=u.fW++X.du X.p u.sh u.su} (X.tu x.i)):=
 YP T0 hl u e o x ds hz RL hi X hX (ao (Mw (U:=U) T0 hl {u with D:=.pv (.lst (ds.map iD))} x.i X h ht hd) (by
  have k:=YR (U:=U) T0 hl {u with D:=.pv (.lst (ds.map iD)),t:=u.t++X.bd X.p u.sh u.nl,fW:=u.fW++X.du X.p u.sh u.su} x.i X h (by
   have:=Dr.HU X u.sh h.2
   show(u.t++X.bd X.p u.sh u.nl).length<=600000
   rw[da];omega) (by
   have:=Dr.Af X u.sh u.su
   show(u.fW++X.du X.p u.sh u.su).length<=60
   rw[da];omega)
  rw[fc u.t] at k
  exact k))
theorem MJ (ds:List Nat) (hu:u.D=.ml (ds.map iD)) (hz:ds.length<=10) (RL:∀n∈ds,n<5040) (h:u.sh<=2/\u.nl.length<=50) (ht:u.t.length<=100) (hd:u.fW.length<=10):
 ∃z:Dr,∃i,sX U w Y (lw (HH w) 8) (LA u []) (LE {u with D:=.pv (.lst (ds.map iD)),t:=u.t++((HC ds).map λX=>X.all u.sh u.su u.nl).flatten,fW:=u.fW++((HC ds).map λX=>X.du X.p u.sh u.su).flatten} (z.tu i)):=by
 have eu:u={u with D:=.ml (ds.map iD)}:=by rw[<-hu]
 have loop:∀n,n=max 1 ((ds.length+4) / 5)->∀ba,gk U w 1521 Y (FI (HH w) 1569).sc 40 jP (YT (HH w)) ((List.range n).map λ(i:Nat)=>DV.int (i:Int)) (LA u []) .next ba->sX U w Y (lw (HH w) 8) (LA u []) ba:=λn hn ba hB=>
  j4 (ahK (HH w)) λf0 f1 f2 f3=>j4 (ahJ (HH w)) λr0 r1 r2 r3=>j5 (ahI (HH w)) λm0 m1 m2 m3 m4=>Ja (P:=λst=>sX U w Y st (LA u []) ba) f0 f1 (aQ Prod.snd f3) λp pos=>cV ((xw _).get r0) λpr pos' er=>cV ((xw _).get m0) λpm X7 em=>by
   have B:fV [(gQ,10)] (LA {u with D:=.ml (ds.map iD)} []).loc:=Eq.mpr (by kernel_rfl:fV [(gQ,10)] (LA {u with D:=.ml (ds.map iD)} []).loc=((ds.map iD).length<=10/\True)) ⟨by rw[mG];exact hz,trivial⟩
   have e:=ahH (HH w) u (ds.map iD)
   rw[mG] at e
   have mx:=pG (p:=pm) (pos:=X7) T0 m2 (.cons m3 (rW (U:=U) T0 hl B (kS e).1) (.cons m4 (rW (U:=U) T0 hl B (kS e).2) .nil)) (R5 (c:=(n:Int)) (by rw[hn];show((max 1 ((ds.length+4) / 5):Nat):Int)=if(((ds.length+4) / 5:Nat):Int)>((1:Nat):Int) then(((ds.length+4) / 5:Nat):Int) else((1:Nat):Int);split<;>omega))
   rw[<-m1,em,<-eu] at mx
   rw[<-er,r1,show(lF (HH w)).2.2.1=YT (HH w) from aQ Prod.fst f3]
   exact zp T0 (aP f2) r2 (.cons r3 mx.rest .nil) OO hB
 have t1:=Mx (U:=U) T0 hl u (Dr.of ds) false ((Dr.of ds).tu 0) ((Dr.of ds).tu 0) ds hz RL (ju _) rfl h OO OO
 have z:=afB u false ((Dr.of ds).tu 0) ((Dr.of ds).tu 0) (ds.map iD)
 have s1:∀{ba:aj},lX U w Y (YT (HH w)) (LT {u with D:=.pv (.lst (ds.map iD))} false ((Dr.of ds).tu 0) ((Dr.of ds).tu 0) 0) .next ba->lX U w Y (YT (HH w)) ⟨none,put (LA u []).loc jP (.pv (.int ((0:Nat):Int)))⟩ .next ba:=λk=>by
  rw[<-bk,aiX u ((Dr.of ds).tu 0) ((Dr.of ds).tu 0),eu]
  exact De z.1 (z.2▸k)
 have t1:=s1 t1
 have rl:=(Dr.of ds).Dk u.sh u.su h.2
 have dl:=Dr.Af (Dr.of ds) u.sh u.su
 unfold HC
 cases hs:Nat.ble ds.length 5 with
 |true=>
  have hs:=eP hs
  refine⟨Dr.of ds,0,?_⟩
  simp only[cond_true,xb,List.map_nil,Rm,List.flatten_nil,ti]
  exact loop 1 OO _ (.turn (v:=.int ((0:Nat):Int)) (vs:=[]) t1 (.inl rfl) .done)
 |false=>
  have hs:¬ds.length<=5:=λq=>tf ((Nat.ble_eq_true_of_le q).symm.trans hs)
  have t2:=Mx (U:=U) T0 hl {u with D:=.pv (.lst (ds.map iD)),t:=u.t++(Dr.of ds).all u.sh u.su u.nl,fW:=u.fW++(Dr.of ds).du (Dr.of ds).p u.sh u.su} (Dr.of (ds.drop 5)) true ((Dr.of ds).tu 0) {(Dr.of ds).tu 0 with i:=1} ds hz RL (fy _) rfl h (by show(u.t++(Dr.of ds).all u.sh u.su u.nl).length<=400000;rw[da];omega) (by show(u.fW++(Dr.of ds).du (Dr.of ds).p u.sh u.su).length<=50;rw[da];omega)
  have s2:∀{u:LU} {ba:aj},lX U w Y (YT (HH w)) (LT u true ((Dr.of ds).tu 0) {(Dr.of ds).tu 0 with i:=1} 0) .next ba->lX U w Y (YT (HH w)) ⟨none,put (LE u ((Dr.of ds).tu 0)).loc jP (.pv (.int ((1:Nat):Int)))⟩ .next ba:=λk=>by
   rw[<-bk,aiY _ ((Dr.of ds).tu 0) {(Dr.of ds).tu 0 with i:=1}]
   exact k
  have t2:=s2 t2
  refine⟨Dr.of (ds.drop 5),1,?_⟩
  simp only[cond_false,xb,List.map_nil,Rm,List.flatten_nil,ti]
  rw[fc,fc] at t2
  exact loop 2 OO _ (.turn (v:=.int ((0:Nat):Int)) (vs:=[.int ((1:Nat):Int)]) t1 (.inl rfl) (.turn (v:=.int ((1:Nat):Int)) (vs:=[]) t2 (.inl rfl) .done))
end
def fl0 (d:DV):Bool:=qp d||gY (iG d) λl=>l.all λc=>Nat.ble c 0x10ffff
def ue (d:DV):Bool:=gY (zv d) λl=>l.all fl0
def Qg (d:DV):PyData:=Option.rec (motive:=λ_=>PyData) .none (λl=>.str ⟨⟨l⟩⟩) (iG d)
def EB (d:DV):PyData:=Option.rec (motive:=λ_=>PyData) .none (λl=>.tuple (l.map Qg)) (zv d)
def aaz {M:DV->Prop} {d:DV} (h:fl0 d=true) (h0:M .none) (h1:∀l:List Nat,(∀c∈l,c<0x110000)->M (.str l)):M d:=by
 cases d<;>first|exact h0|exact ft h|exact h1 _ λc m=>Nat.lt_succ_of_le (eP (gj.mp h c m))
def aaA {M:DV->Prop} {d:DV} (h:ue d=true) (h1:∀l:List DV,l.all fl0=true->M (.tup l)):M d:=by
 cases d<;>first|exact ft h|exact h1 _ h
section
variable {P:Params} {G:Gh} {h:Heap}
def rds {f:DV->Bool} {py:DV->PyData} (one:∀d u,DR P G d u->f d=true->Reads h u (py d) []) {l:List DV} {us:List Value} (hd:eC P G l us):l.all f=true->ReadsAll h us (l.map py) []:=by
 induction hd with
 |nil=>exactλ_=>.nil
 |cons x _ ih=>exactλhf=>a2 (aw hf) λa b=>ReadsAll.cons (as:=[]) (bs:=[]) (one _ _ x a) (ih b)
def rd1 (hp:∀a o,G.g a=some o->h.get? a=some o) (d:DV) (u:Value) (hd:DR P G d u) (hf:ue d=true):Reads h u (EB d) []:=by
 revert hd
 exact aaA (M:=λd=>DR P G d u->Reads h u (EB d) []) hf λl hl hd=>hd.mF λa vs n hg _ hs=>reads_tuple_at (hp _ _ hg) rfl rfl (rds (λd u hd h0=>by
  revert hd
  exact aaz (M:=λd=>DR P G d u->Reads h u (Qg d) []) h0 (λe=>by rw[show u=.none from e];exact .none) λl _ hd=>hd.gi λt _=>.str _ _) hs hl)
def Sk (hp:∀a o,G.g a=some o->h.get? a=some o) {l:List DV} {u:Value} (hd:DR P G (.lst l) u) (hf:l.all ue=true):∃as,Reads h u (.list (l.map EB)) as:=hd.lu λa vs n hg _ hs=>⟨_,reads_list_at (hp _ _ hg) rfl rfl (rds (rd1 hp) hs hf)⟩
end
def abI {f:DV->Bool} {py:DV->PyData} {n:Nat} (one:∀d,f d=true->(py d).canLay0=true/\(py d).depth<=n) (l:List DV):l.all f=true->PyData.canLayAll0 (l.map py)=true/\PyData.depthAll (l.map py)<=n:=by
 induction l with
 |nil=>exactλ_=>⟨rfl,ju _⟩
 |cons d l ih=>exactλhf=>a2 (aw hf) λa b=>⟨SR.mpr ⟨(one d a).1,(ih b).1⟩,Nat.max_le.mpr ⟨(one d a).2,(ih b).2⟩⟩
def ahP (d:DV) (hf:ue d=true):(EB d).canLay0=true/\(EB d).depth<=2:=aaA (M:=λd=>(EB d).canLay0=true/\(EB d).depth<=2) hf λl hl=>by
 have q:=abI (f:=fl0) (py:=Qg) (n:=0) (λd h=>aaz (M:=λd=>(Qg d).canLay0=true/\(Qg d).depth<=0) h ⟨rfl,fy _⟩ λl h=>⟨by show(PyData.str ⟨⟨l⟩⟩).canLay0=true;simpa [PyData.canLay0,PyData.strOk] using h,fy _⟩) l hl
 refine⟨q.1,?_⟩
 show PyData.depth (.tuple (l.map Qg))<=2
 rw[PyData.depth]
 omega
def EN {l:List DV} (hf:l.all ue=true):SeqAt.shaped (.list (l.map EB))=true:=by
 have q:=abI ahP l hf
 unfold SeqAt.shaped
 rw[show PyData.canLay0 (.list (l.map EB))=true from q.1,Bool.true_and,PyData.depth]
 exact HI OO
def aaw {py:DV->PyData} (one:∀d,PyData.eqv (py d) (py d)=true) (l:List DV):PyData.eqvAll (l.map py) (l.map py)=true:=by
 induction l with
 |nil=>simp[PyData.eqvAll]
 |cons d l ih=>simp[PyData.eqvAll,one,ih]
def aga (d:DV):PyData.eqv (EB d) (EB d)=true:=by
 unfold EB
 cases zv d with
 |none=>simp[PyData.eqv]
 |some l=>
  show PyData.eqv (.tuple (l.map Qg)) (.tuple (l.map Qg))=true
  rw[PyData.eqv]
  refine aaw (λd=>?_) l
  unfold Qg
  cases iG d<;>simp[PyData.eqv]
def Qw {U:Program} {w:World} {C:Nat} {Y:Base} {sc:Scope} {d:Nat} {Z aa ah:aj} {dE cv:Expr} {pos:Pos} {l:List DV} (hd:1<=d) (cf:aC U w C Y sc d dE Z (.lst l) aa) (cP:aC U w C Y sc d cv aa (.lst l) ah) (hf:l.all ue=true) (hm:behindInMarks .Eq cv=false):
    aC U w C Y sc d (.Compare dE [.Eq] [cv] pos) Z (.bool true) ah:=λA G L s env ro eo R Q k=>
 wpAny_Compare1 (cf A G L s env ro eo R _ λaz u ax aB aH aV=>cP A az L ax env ro eo aB _ λaD v ay aE aJ cA=>fk (Sk aE.pins (aV.mono aJ.sub) hf) λas ra=>fk (Sk aE.pins cA hf) λbs rb=>eq_dataH ra rb (EN hf) (EN hf) (by have:=ro.units;omega) (by
  rw[show PyData.eqv (.list (l.map EB)) (.list (l.map EB))=true by rw[PyData.eqv];exact aaw aga l]
  exact k aD _ _ aE (aH.aO aJ) rfl)) hm
section
variable (H:Array Nat->Int) (u:LU) (y:TU) (a:bU) (g:List DV) (p l c:DV) (r:Rs) (ev sT:DV)
abbrev LZ (a:bU) (s:ae) (tl:List (Str×ae)):aj:=⟨a,(L5 u ((mP,.pv (.str u.t))::(Rg,s)::(jP,.pv (.int y.i))::(tE y++tl))).loc⟩
abbrev LG (a:bU) (g:List DV):aj:=LZ u y a (.ml u.fW) [(hR,.pv .self),(zC,.ml g)]
abbrev fZ (H:Array Nat->Int):HO:=fR H bY 40 1569
def Pk:Str×Expr:=(q8 (eT H bY 40 1569) (lw H 11)).getD default
def JN:Expr×List Expr×List Keyword×Pos:=(gS (Pk H).2).getD default
def abq:(q8 (eT H bY 40 1569) (lw H 11),(Pk H).1,gS (Pk H).2,(JN H).2.2.1.isEmpty,keepIn (KF H) (.ref 1521)&&(dY (JN H).1).isSome)=(some (Pk H),hR,some (JN H),true,true):=KK
def abo:((fZ H).E (JN H).1 (LE u y),vr (fZ H) (JN H).2.1 (LE u y))=(some (.pv (.cls 1521),LE u y),some ([.str u.t],LE u y)):=KK
def abp:(⟨a,bS (LE u y).loc hR (.pv .self)⟩:aj)=LZ u y a (.ml u.fW) [(hR,.pv .self)]:=KK
def abr:cj (fZ H) [lw H 12] (LZ u y a (.ml u.fW) [(hR,.pv .self)])=some (.next,LG u y a []):=KK
def nV:Expr×List Stmt:=(whS (lw H 13)).getD default
def Pm:Expr×CmpOp×Expr:=(nG (nV H).1).getD default
def UA:Expr:=Option.rec (motive:=λ_=>Expr) default (·.2) (jw (eT H bY 40 1569) (ai (nV H).2 0) (LG ⟨[],[],.ml [],[],0,false,[],[]⟩ ⟨0,0,0,0,0,0,0,0,0,.ml [],[],P0,.none⟩ none []))
def yi:Expr×List Expr×List Keyword×Pos:=(gS (UA H)).getD default
def abw:lw H 13=.While (nV H).1 (nV H).2 [] (lw H 13).pos:=KK
def RV:(nG (nV H).1,(Pm H).2.1,(nV H).2,gS (UA H),(yi H).2.2.1.isEmpty)=(some (Pm H),.IsNot,[ai (nV H).2 0],some (yi H),true):=KK
def abt:((yi H).2.1,noStar ((yi H).2.1.headD default),keepIn (KF H) (.ref 1564),(dY (yi H).1).isSome)=([(yi H).2.1.headD default],true,true,true):=KK
def RW:nB (eT H bY 40 1569) (fZ H) (Pm H).1 (LG u y (some (iB p l c (r.to ev sT))) g)=some (1326,[.self],LG u y (some (iB p l c (r.to ev sT))) g):=KK
def abv:nB (eT H bY 40 1569) (fZ H) ((yi H).2.1.headD default) (LG u y (some (iB p l c (r.to ev sT))) g)=some (1333,[.self],LG u y (some (iB p l c (r.to ev sT))) g):=KK
def JO:((fZ H).E (Pm H).2.2 (LG u y a g),jw (eT H bY 40 1569) (ai (nV H).2 0) (LG u y a g),(fZ H).E (yi H).1 (LG u y a g),g9 (LG u y a g) (.loc zC))=(some (.pv .none,LG u y a g),some (.loc zC,UA H),some (.pv (.fn 1564),LG u y a g),some (.ml g)):=KK
def abu (g':List DV):wy (LG u y a g) (.ml g') (.loc zC)=LG u y a g':=KK
def UB:Expr:=(wm (lw H 14)).getD default
def Pn:Expr×CmpOp×Expr:=(nG (UB H)).getD default
def aby:(wm (lw H 14),nG (UB H),(Pn H).2.1)=(some (UB H),some (Pn H),.Eq):=KK
def abx:((fZ H).E (Pn H).1 (LG u y a g),(fZ H).E (Pn H).2.2 (LZ u y a (.ml u.fW) [(hR,.pv .self),(zC,.pv (.lst g))]))=(some (.pv (.lst g),LZ u y a (.ml u.fW) [(hR,.pv .self),(zC,.pv (.lst g))]),some (.pv (.lst u.fW),LZ u y a (.pv (.lst u.fW)) [(hR,.pv .self),(zC,.pv (.lst g))])):=KK
end
section
variable {U:Program} {w:World} {Y:Base} (T0:cQ (KF (HH w)) Y) (hl:bz Y)
include T0 hl
theorem Ld {e:Expr} {cq:Expr×List Expr×List Keyword×Pos} {Z aa:aj} {g n:Nat} {fv r:DV} {vs:List DV} {aX:bU} (h:gS e=some cq) (he:cq.2.2.1.isEmpty=true) (hx:(dY cq.1).isSome=true) (hk:keepIn (KF (HH w)) (.ref g)=true) (hfv:∀P G u,DR P G fv u->u=.ref g) (h0:(fZ (HH w)).E cq.1 Z=some (.pv fv,Z)) (ha:dJ U w 1521 Y (FI (HH w) 1569).sc 40 cq.2.1 Z vs aa) (hc:af U w 1521 Y n (.ref g) vs [] aa.aq r aX) (le:n<=40):
 aC U w 1521 Y (FI (HH w) 1569).sc 40 e Z r ⟨aX,aa.loc⟩:=fk (Zg.mp hx) λx hx=>by
 have h0:=gW (U:=U) eA (ew (HH w)) T0 hl h0
 rw[<-(dp _).get hx] at h0
 have k:=mf (pos:=cq.2.2.2) T0 hk hfv h0 ha .nil (hc.up le)
 rw[(dp _).get hx,bT he,(ic e).get h] at k
 exact k
theorem TX (u:LU) (y:TU) {a a':bU} {t:DV} (s:Step U w Y a t a') (g:List DV) (hz:g.length+1<=lim):
 ∃aa,bu U w 1521 Y (FI (HH w) 1569).sc 40 (nV (HH w)).1 (LG u y a g) true aa/\lX U w Y (nV (HH w)).2 aa .next (LG u y a' (g++[t])):=by
 obtain⟨p,l,c,p',l',c',zJ,r,r',f,cc,fs,e1,e2,hf,hc,ht⟩:=s
 rw[e1,e2] at*
 have ht:=ht (iB p' l' c' (r'.to .none zJ))
 unfold TD at ht
 have cd:=λn g vs r aX as (h:fO (tabs (HH w) bY eZ) n 1521 g vs [] as=some (r,aX))=>gF (tabs_ok (U:=U) T0 (mY hl) λ_ _ _ _ _ _ _ _ h=>ns h) n 1521 g vs [] as r aX h
 refine⟨LG u y (some (iB p' l' c' (r'.to (.inst cc fs) zJ))) g,?_⟩
 exact j5 (RV (HH w)) λs0 s1 s2 s3 s4=>j4 (abt (HH w)) λa0 a1 a2 a3=>j4 (JO (HH w) u y (some (iB p' l' c' (r'.to (.inst cc fs) zJ))) g) λe0 e1 e2 _=>j4 (JO (HH w) u y (some (iB p' l' c' (r'.to .none zJ))) g) λ_ _ _ e3=>by
  have pk:=(P8 T0 hl hf (n:=33) hc).up (eP rfl:34<=40)
  have tst:=tc s0 (e6 eA (ew (HH w)) T0 hl (RW (HH w) u y g p l c r .none (.bj f)) pk) (gW eA (ew (HH w)) T0 hl e0) (s1▸oU (b:=false) (.inr ⟨rfl,rfl⟩) (qI rfl))
  have arg:=dJ.cons a1 (e6 eA (ew (HH w)) T0 hl (abv (HH w) u y g p' l' c' r' (.inst cc fs) zJ) ((cd _ _ _ _ _ _ (T8 (HH w) p' l' c' r' zJ cc fs)).up (eP rfl:4<=40))) (.nil (U:=U))
  rw[<-a0] at arg
  have k:=Ld T0 hl s3 s4 a3 a2 DW e2 arg (cd _ _ _ _ _ _ ht) (eP rfl:8<=40)
  have ap:=qJ eA (ew (HH w)) T0 hl e1 k ((cw ..).symm.trans e3) hz
  rw[<-jc,abu u y _ g (g++[t])] at ap
  rw[s2]
  exact⟨tst,ao ap bA⟩
theorem IU (u:LU) (y:TU) {a a':bU} {l:List DV} (h:eQ U w Y a l a') (OM:∀g,bu U w 1521 Y (FI (HH w) 1569).sc 40 (nV (HH w)).1 (LG u y a' g) false (LG u y a' g)):
 ∀g:List DV,g.length+l.length<=lim->cI U w 1521 Y (FI (HH w) 1569).sc 40 (nV (HH w)).1 (nV (HH w)).2 l.length (LG u y a g) .next (LG u y a' (g++l)):=by
 induction h with
 |nil=>exactλg _=>(ti g).symm▸.stop (OM g)
 |@cons _ _ _ t l s _ ih=>exactλg hz=>bx (TX T0 hl u y s g (bw (xl (MW _) _) hz)) λ_ x b=>.next x b (List.append_cons g t l▸ih OM (g++[t]) (bw (by rw[da];exact iU (Nb g.length 1 _)) hz))
theorem TV (u:LU) (y:TU) (p ln:Nat) (c:Int) (k:Nat) (dn:Bool) (g:List DV):bu U w 1521 Y (FI (HH w) 1569).sc 40 (nV (HH w)).1 (LG u y (kF p ln c k dn) g) false (LG u y (kF p ln c k dn) g):=
 j5 (RV (HH w)) λs0 s1 _ _ _=>j4 (JO (HH w) u y (kF p ln c k dn) g) λe0 _ _ _=>
  tc s0 (e6 eA (ew (HH w)) T0 hl (RW (HH w) u y g (.sint 17 p) (.sint 17 ln) (.int c) (rr [] (-1) [] false dn .none [] 0 TG (.sint 17 k)) .none .none) (af.up (gF (tabs_ok T0 (mY hl) λ_ _ _ _ _ _ _ _ h=>ns h) 4 1521 1326 [.self] [] _ _ _ (acP (HH w) (.sint 17 p) (.sint 17 ln) (.int c) (rr [] (-1) [] false dn .none [] 0 TG (.sint 17 k)))) (eP rfl:4<=40))) (gW eA (ew (HH w)) T0 hl e0) (s1▸oU (b:=true) (.inr ⟨rfl,rfl⟩) (qI (x:=.none) rfl))
abbrev uZ (u:LU):LU:={u with t:=bif Nat.blt u.sh 2&&u.su then u.t++[46,46,46]++u.nl else u.t,fW:=(bif Nat.blt u.sh 2 then u.fW++[gg,eI u.su] else u.fW)++[gK]}
theorem TQ (PW:Ng U Y) (u:LU) (y:TU) (B:fV kP (LE u y).loc) (h2:u.sh<=2) (hz:(uZ u).t.length+1<=lim) (dz:(uZ u).fW.length<=lim) (cg:Y.V.β 17=0) (hT:(uZ u).t.all kU=true) (h0:Y.V.ς 0=(uZ u).t++[0]) (hf:(uZ u).fW.all ue=true)
 {p l k:Nat} {c:Int} (hev:eQ U w Y (k0 (.md [])) (uZ u).fW (kF p l c k true)):∃ba,lX U w Y [lw (HH w) 9,lw (HH w) 10,lw (HH w) 11,lw (HH w) 12,lw (HH w) 13,lw (HH w) 14] (LE u y) (.ret (.bool true)) ba:=by
 have s9:lR (HH w) [lw (HH w) 9,lw (HH w) 10] (LE u y) kP .next (LE (uZ u) y):=SF (P:=λn=>lR (HH w) [lw (HH w) 9,lw (HH w) 10] (LE {u with sh:=n} y) kP .next (LE (uZ {u with sh:=n}) y)) h2 (aW (ahL (HH w) u y))
 refine⟨LZ (uZ u) y (kF p l c k true) (.pv (.lst (uZ u).fW)) [(hR,.pv .self),(zC,.pv (.lst (uZ u).fW))],rY (U:=U) T0 hl B s9 ?_⟩
 exact j5 (abq (HH w)) λs0 s1 s2 s3 s4=>j2 (abo (HH w) (uZ u) y) λe0 e1=>j3 (aby (HH w)) λr0 r1 r2=>j2 (abx (HH w) (uZ u) y (kF p l c k true) (uZ u).fW) λq0 q1=>a2 (aw s4) λz0 z1=>by
  have mk:=Ld T0 hl s2 s3 z1 z0 ru e0 (lZ eA (ew (HH w)) T0 hl e1) (Pw T0 hl PW hT h0 hz cg) (eP rfl:15<=40)
  have s:=Eb (U:=U) s0 (r:=.pv .self) mk.plain
  rw[s1] at s
  have s:sX U w Y (lw (HH w) 11) (LE (uZ u) y) _:=Eq.subst (motive:=λZ=>aU U w 1521 Y (FI (HH w) 1569).sc 40 (lw (HH w) 11) (LE (uZ u) y) .next Z) (abp (uZ u) y (k0 (.md []))) s
  have tu:=IU T0 hl (uZ u) y hev (λg=>TV T0 hl (uZ u) y p l c k true g) [] (bw (iU (zQ _)) dz)
  refine ao s (eH (zS eA (ew (HH w)) T0 hl) ?_ [lw (HH w) 12] _ (abr (HH w) (uZ u) y (k0 (.md []))))
  refine ao (aa:=LG (uZ u) y (kF p l c k true) ([]++(uZ u).fW)) ?_ (jd ?_ rfl)
  ·exact Eq.subst (motive:=λst=>sX U w Y st _ _) (abw (HH w)).symm (oG tu)
  ·exact fk ((CN _).get r0) λpos er=>a2 ((qC _).get r1) λer1 m=>er▸sV (er1▸r2▸Qw (eP rfl:1<=40) (gW eA (ew (HH w)) T0 hl q0) (gW eA (ew (HH w)) T0 hl q1) hf (r2▸m))
end
def cy {α:Type} {f:α->Bool} {a b:List α} (ha:a.all f=true) (hb:b.all f=true):(a++b).all f=true:=by rw[List.all_append,ha,hb];rfl
def Rw {α:Type} {f:α->Bool} {n:Nat} {c:α} (h:f c=true):(List.replicate n c).all f=true:=gj.mpr λ_ m=>List.eq_of_mem_replicate m▸h
def ib {α:Type} {f:α->Bool} {c:Bool} {a b:List α} (ha:a.all f=true) (hb:b.all f=true):(bif c then a else b).all f=true:=by cases c;exact hb;exact ha
def Rv {α β:Type} {f:β->Bool} {g:α->List β} {l:List α} (h:∀x,(g x).all f=true):(l.map g).flatten.all f=true:=by
 induction l with
 |nil=>rfl
 |cons x l ih=>exact cy (h x) ih
def eE {α:Type} {f:α->Bool} {a:α} {l:List α} (ha:f a=true) (hl:l.all f=true):(a::l).all f=true:=by rw[List.all_cons,ha,hl];rfl
def LP (f ind:Nat) {nl:List Nat} (hn:nl.all kU=true) (rs:List (List Nat)):∀i,(∀r∈rs,r.all kU=true)->(jI f ind nl rs i).all kU=true:=by
 induction rs with
 |nil=>exactλ_ _=>rfl
 |cons r rs ih=>exactλi h=>cy (cy (Rw rfl) (cy (h r (.head _)) hn)) (ih (i+1) λr m=>h r (.tail _ m))
def Ml {st:Nat} (h:st∈[124,62]):kU st=true:=gj.mp (by kernel_rfl:([124,62]:List Nat).all kU=true) st h
def Dr.adQ (X:Dr) {st le fr:Nat} {nl:List Nat} (hs:st∈[124,62]) (hn:nl.all kU=true):(X.w st le fr nl).all kU=true:=
 Oc (RG (br X.rows) fr) λd hd ed _ _=>Oc (z5 (mA (br X.rows)) X.rt fr) λc hc ec _ _=>by
  have h1:(IF d).all kU=true:=four (P:=λd=>(IF d).all kU=true) hd (by decide)
  have h2:(HB c).all kU=true:=SF (P:=λd=>(HB d).all kU=true) hc (by decide)
  have h3:(je (fr / 12 % 4)).all kU=true:=four (P:=λn=>(je n).all kU=true) (u5 (qe _ (by decide))) (by decide)
  unfold Dr.w kq Jk
  rw[ed,ec]
  exact cy (cy (cy (eE (Ml hs) (ib (cy h1 h2) (cy h2 h1))) h3) hn) (LP _ _ hn _ _ λb m=>(List.mem_append.mp m).elim (λm=>((X.gb hs _).b b m).2) λm=>List.eq_of_mem_replicate m▸rfl)
def Dr.S6 (X:Dr) {sh:Nat} {su:Bool} {nl:List Nat} (hn:nl.all kU=true):(X.all sh su nl).all kU=true:=by
 have hP:X.P.txt.all kU=true:=gj.mp (by kernel_rfl:(Ps.all λP=>P.txt.all kU)=true) _ X.xo
 have h1:=λle fr=>X.adQ (st:=X.st) (le:=le) (fr:=fr) (gJ _) hn
 have h2:=λle fr=>X.adQ (st:=X.ot) (le:=le) (fr:=fr) (gJ _) hn
 unfold Dr.all Dr.bd Dr.rem tD
 exact cy (ib (cy (by decide) (cy hP (h1 _ _))) (ib (cy (by decide) (cy hP (h1 _ _))) (ib (cy (by decide) (cy hP (h1 _ _))) (ib (cy (by decide) (cy hP (h1 _ _))) (cy (by decide) (cy hP (cy (h1 _ _) (cy (by decide) (h2 _ _)))))))))
  (cy (ib (cy (by decide) hn) rfl) (ib (cy (by decide) hn) rfl))
def Q6 (xs:List Dr) (sh:Nat) (su:Bool) {nl:List Nat} (hn:nl.all kU=true):(zr xs sh su nl).all kU=true:=cy (ib (cy (by decide) hn) rfl) (cy (Rv λx=>x.S6 hn) (ib (cy (by decide) hn) rfl))
def Sg {l:List Nat} (h:l.all kU=true):(l.all λc=>Nat.ble c 0x10ffff)=true:=gj.mpr λc m=>gj.mp (by kernel_rfl:(okL.all λc=>Nat.ble c 0x10ffff)=true) c (Er (gj.mp h c m))
def YO (v:List Nat) (st:Nat):(Ps.map λP=>ue (tS P v st))=Ps.map λ_=>(v.all λc=>Nat.ble c 0x10ffff)&&((Nat.ble st 0x10ffff&&true)&&true):=KK
def Pg (rs:List (List Nat)) (h:∀r∈rs,r.all kU=true):(gV [10] rs).all kU=true:=by
 have t:∀(l:List (List Nat)),(∀r∈l,r.all kU=true)->(pX [10] l).all kU=true:=λl=>by
  induction l with
  |nil=>exactλ_=>rfl
  |cons r l ih=>exactλh=>eE rfl (cy (h r (.head _)) (ih λr m=>h r (.tail _ m)))
 cases rs with
 |nil=>rfl
 |cons r l=>exact cy (h r (.head _)) (t l λr m=>h r (.tail _ m))
def Sw (X:Dr) {P:Pv} (hP:P∈Ps) {st:Nat} (hs:st∈[124,62]):ue (tS P X.val st)=true:=by
 have v:X.val.all kU=true:=cy (Pg _ λr m=>((X.gb hs 0).r r m).2.1) (Rw rfl)
 have s:=Sg (eE (Ml hs) (l:=[]) rfl)
 rw[aW (YO X.val st) P hP,Sg v]
 rw[List.all_cons] at s
 rw[show(Nat.ble st 0x10ffff&&true)=true from s];rfl
def Ol (b:Bool):ue (kL b)=true/\ue (eI b)=true:=by cases b<;>exact⟨KK,KK⟩
def TZ:(ue sW,ue Zz,ue kH,ue sY,ue gg)=(true,true,true,true,true)/\(ue tQ,ue gK)=(true,true):=⟨KK,KK⟩
def Dr.aat (X:Dr) (sh:Nat) (su:Bool):(X.du X.p sh su).all ue=true:=by
 have h1:=Sw X X.xo (gJ (X.pl / 4))
 have h2:=Sw X (P:=P0) (.head _) (gJ (X.pl / 4+1))
 unfold Dr.du
 exact j5 TZ.1 λm k e r s=>ib (eE (Ol _).1 (eE h1 (eE (Ol _).2 rfl))) (ib (eE h1 rfl) (ib (eE m (eE k (eE h1 (eE e rfl)))) (ib (eE r (eE h1 (eE s rfl))) (eE m (eE h1 (eE h2 (eE e rfl)))))))
def TN (xs:List Dr) (sh:Nat) (su:Bool):(IM xs sh su).all ue=true:=j5 TZ.1 λ_ _ _ r s=>j2 TZ.2 λt e=>cy (ib (eE t (eE (Ol _).1 (eE r rfl))) (eE t rfl)) (cy (Rv λx=>x.aat sh su) (cy (ib (eE s (eE (Ol _).2 rfl)) rfl) (eE e rfl)))
def acn (k:Nat):pC (k % 4)∈iJ:=four (P:=λn=>pC n∈iJ) (u5 (qe _ (by decide))) (by decide)
def XF {nl:List Nat} (h:nl∈iJ):nl.all kU=true:=gj.mp (by kernel_rfl:(iJ.all λl=>l.all kU)=true) nl h
def IL (ds:List Nat):HC ds≠[]/\(HC ds).length<=2:=by unfold HC;cases Nat.ble ds.length 5<;>exact⟨List.cons_ne_nil _ _,eP rfl⟩
def DT {α β:Type} (k:Nat) {g:β->List α} (h:∀x,(g x).length<=k) (ls:List β):(ls.map g).flatten.length<=k*ls.length:=by
 induction ls with
 |nil=>exact ju _
 |cons l ls ih=>
  rw[xb,Rm,da,M9,Nat.mul_add,Nat.mul_one,Nat.add_comm]
  exact u4 ih (h l)
def dT (ns:List Int):List Nat:=zr (HC (fL ns)) (uH ns).sh (uH ns).su (uH ns).nl
abbrev uL (ns:List Int):LU:={uH ns with D:=.pv (.lst ((fL ns).map iD)),t:=(uH ns).t++((HC (fL ns)).map λX=>X.all (uH ns).sh (uH ns).su (uH ns).nl).flatten,fW:=(uH ns).fW++((HC (fL ns)).map λX=>X.du X.p (uH ns).sh (uH ns).su).flatten}
def adL (ns:List Int):(uZ (uL ns)).t=dT ns:=by
 show(bif Nat.blt (uH ns).sh 2&&(uH ns).su then(uL ns).t++[46,46,46]++(uH ns).nl else(uL ns).t)=_
 unfold dT zr
 cases Nat.blt (uH ns).sh 2&&(uH ns).su
 ·exact(aQ ((uH ns).t++·) (ti _)).symm
 ·exact(fc ..).trans (fc ..)
def adK (ns:List Int):(uZ (uL ns)).fW=IM (HC (fL ns)) (uH ns).sh (uH ns).su:=by
 show(bif Nat.blt (uH ns).sh 2 then(uL ns).fW++[gg,eI (uH ns).su] else(uL ns).fW)++[gK]=_
 unfold IM
 cases Nat.blt (uH ns).sh 2
 ·exact fc ..
 ·exact(fc ..).trans (fc ..)
def law_code {U:Program} {w:World} {Y:Base} (T0:cQ (KF (HH w)) Y) (hl:bz Y) (PW:Ng U Y) (ns:List Int) (hn:ns.length<=63) (cg:Y.V.β 17=0) (h0:Y.V.ς 0=dT ns++[0]):∃aX,af U w 1521 Y 41 (.ref 1569) [.lst (ns.map .int)] [] none (.bool true) aX:=by
 have Ju:(uH ns).sh<=2:=u5 (qe _ (by decide))
 have qm:=acn (dA ns)
 have hz:(uH ns).nl.length<=2:=K9 (dA ns)
 have rK:=bw hz (by decide:2<=50)
 have t0:(uH ns).t.length<=5:=eM (bw (iU da) (xl hz 3)) (ju _)
 have d0:(uH ns).fW.length<=3:=eM (fy 3) (by decide)
 have dz:(fL ns).length<=10:=by unfold fL mods;rw[mG,ZH];exact Nat.min_le_left ..
 have n2:=(IL (fL ns)).2
 have f1:(uL ns).t.length<=700000:=by
  have:=DT 130112 (λX=>Dr.Dk X (uH ns).sh (uH ns).su rK) (HC (fL ns))
  rw[da];omega
 have f2:(uL ns).fW.length<=60:=by
  have:=DT 4 (λX=>Dr.Af X (uH ns).sh (uH ns).su) (HC (fL ns))
  rw[da];omega
 have tz:(uZ (uL ns)).t.length<=800000:=eM (bw (iU (da.trans (aQ (· +_) da))) (bw (u4 (u4 f1 (fy 3)) rK) (by decide))) (bw f1 (by decide))
 have ez:(uZ (uL ns)).fW.length<=100:=bw (iU da) (bw (u4 (eM (n:=62) (bw (iU da) (u4 f2 (fy 2))) (bw f2 (by decide))) (fy 1)) (by decide))
 exact cV (MJ (U:=U) T0 hl {uH ns with D:=.ml ((fL ns).map iD)} (fL ns) rfl dz (Eg _) ⟨Ju,rK⟩ (bw t0 (by decide)) (bw d0 (by decide))) λz i loop=>cV (Ay (U:=U) T0 hl cg (IL (fL ns)).1 Ju (uH ns).su qm h0) λp l q=>cV q λc k ev=>
  fk (TQ (U:=U) T0 hl PW (uL ns) (z.tu i) (rd (uL ns) i z ⟨Ju,rK⟩ f1 f2) Ju (bw (Rr tz) (by decide)) (bw ez (by decide)) cg (adL ns▸Q6 _ _ _ (XF qm)) (adL ns▸h0) (adK ns▸TN _ _ _) (adK ns▸ev)) λba run=>
   ⟨ba.aq,gd (fl:=.ret (.bool true)) eA (ew (HH w)) T0 hl (bl:=[(gA,.lst (ns.map .int))]) KK (.at (ahU (HH w)) (OK T0 hl ns hn (ao loop run))) rfl⟩
def yG (o:Obj):Bool:=match o.data with| .freed=>false|_=>true
def vD {t:BT} {n a:Nat} {o:Obj} (h1:Nat.blt a n=true) (h2:t.get a=some o) (h3:yG o=true):(absHeap t n {}).get? a=some o:=by
 unfold Heap.get?
 rw[absHeap_at,d8 (show a<n from eP h1),h2]
 obtain⟨c,d,x,s⟩:=o
 show(match some (⟨c,d,x,s⟩:Obj) with|some ⟨_,_,.freed,_⟩=>none|o=>o)=_
 cases x<;>first|rfl|cases h3
def Ux (H:Array Nat->Int):((KF H).all λp=>Nat.blt p.1 1570&&yG p.2)=true:=KK
def Ph (H:Array Nat->Int):(KF H).map (λp=>(zL H).get p.1)=(KF H).map λp=>some p.2:=KK
def kf_in (P:Params):(KF P.strHash).In (jq P):=by
 refine Frag.in_of (as:=(KF P.strHash).map (·.1)) rfl ?_
 have h1:=Ux P.strHash
 have h2:=Ph P.strHash
 generalize KF P.strHash=K at h1 h2 ⊢
 induction K with
 |nil=>rfl
 |cons p r ih=>
  rw[List.all_cons,Bool.and_eq_true] at h1
  obtain⟨h3,h4⟩:=aw h1.1
  rw[xb,xb,List.cons.injEq] at h2
  rw[xb,xb,xb,ih h1.2 h2.2]
  rw[show(jq P).get? p.1=some p.2 from vD h3 h2.1 h4]
def Uw (H:Array Nat->Int):nsIn (KF H) mainGlobals (Str.ofString "law")=some (some (.ref 1569)):=KK
def Uy (P:Params):∃o,(jq P).get? sysModules=some o:=⟨((zL P.strHash).get sysModules).getD default,vD KK KK KK⟩
def ahs (P:Params):∀q∈Hj,∃o,(jq P).get? q.2.2.2.1=some o/\o.data=.cell (some (.ref q.2.2.2.2.1)):=e9.mpr ⟨⟨((zL P.strHash).get 771).getD default,vD KK KK KK,KK⟩,e9.mpr ⟨⟨((zL P.strHash).get 1299).getD default,vD KK KK KK,KK⟩,qT _⟩⟩
def Qf:(((yU.prog).main.file:Str)==sa)=true:=KK
def Yb:((yU.prog).main.scope.names.lookup ("super":Str)).isSome=false:=KK
theorem rE {P:Params} {G:Gh}:∀{us:List Value} {ns:List Int},IntsAre us ns->eC P G (ns.map .int) us
 |_,_,.nil=>.nil
 |_,_,.cons n t h=>.cons (.int n t) (rE h)
def call_of:WalkO qv lo (λ_ _=>True) (λw h=>∀b o,(jq w.params).get? b=some o->h.get? b=some o) yU.toRowW pa.1 pa.2 λf vs=>PySem.call f vs:=by
 intro w eL ax mg mb G Yk a o pm cd doc dV kV ho hd hcr hdf hm aaY args vals as ag5 ag0 hrd hwl hlo
 clear hd hcr hdf ho
 have X:(KF (HH w)).In ax.heap:=(kf_in w.params).keeps Yk
 have ea:a=1569:=by
  have:=mg_of X G.T.g (Uw _)
  rw[Gd] at hm
  rw[this] at hm
  cases hm;rfl
 subst ea
 wrow_args ag5 ag0 hrd hwl hlo
 rename_i ns _ _ _ _ _ as4 as3 l us as0 hL ra wl r0 hI hr hc _
 have hn:ns.length<=63:=by lia
 obtain⟨os,hos⟩:=Uy w.params
 let V:Val:=⟨λt=>if t=0 then((dT ns++[0]).length:Int) else 0,λ_=>dT ns++[0]⟩
 let Y:Base:=⟨ax.heap,V,by rw[Yk _ _ hos];rfl⟩
 have T0:cQ (KF (HH w)) Y:=⟨X,G.T.nolimit,⟨mg,G.T.g⟩,⟨mb,G.T.b,G.T.builtins⟩⟩
 have hl:bz Y:=by show(if(0:Nat)=0 then((dT ns++[0]).length:Int) else 0)=_;rw[d8 rfl]
 have cg:Y.V.β 17=0:=rfl
 have PW:Ng yU.prog Y:=⟨Qf,Yb,λq m=>bx (ahs w.params q m) λo a b=>⟨o,Yk _ _ a,b⟩⟩
 obtain⟨aX,code⟩:=law_code T0 hl PW ns hn cg rfl
 let Gh0:Gh:=⟨V,λb=>ax.heap.get? b,none,λ_=>False,λ_=>False⟩
 have R:cu w.params 1521 Y Gh0 none ax:=⟨λ_ _ h=>h,λ_ _ h=>h,rfl,λ_ h=>h.elim,λ_ h=>h.elim,λ_ h=>h.elim,rfl⟩
 have ag1:eC w.params Gh0 [.lst (ns.map .int)] [.ref l]:=by
  obtain⟨o',ho',_,n,Ar⟩:=hL
  rw[show ofPy (.list (ns.map PyData.int))=WData.list (ofPys (ns.map PyData.int)) by simp[ofPy]] at wl
  cases wl with
  |list hg hw=>
   rw[hg] at ho'
   cases ho'
   cases Ar
   have hz:us.length<=lim:=by
    have:us.length=ns.length:=by
     have:=(rE (P:=w.params) (G:=Gh0) hI).length
     rw[mG] at this
     exact this.symm
    rw[this];exact bw hn (by decide)
   exact .cons (.lst (n:=0) hg hz (rE hI)) .nil
 refine enter_call (codeAny_mono (code callerA Gh0 ax [.ref l] [] ⟨by decide,by decide,rfl⟩ R ag1 .nil (λv s'=>v=.bool true/\(∀b o,ax.heap.get? b=some o->s'.heap.get? b=some o)/\s'.os=ax.os/\s'.gens=ax.gens) λG' v s' R' lat _ dv=>⟨dv,λb o h=>lat.kept b o h (λq=>q.elim),lat.os,lat.gens⟩) λx s' q=>?_)
 rcases x with e|fl
 ·exact q.elim
 cases fl<;>first|exact q.elim|skip
 obtain⟨rfl,kept,os,gens⟩:=q
 refine⟨.inl ⟨_,.bool true,[],rfl,?_,.bool true,?_,?_⟩,.of_keep kept,os,.of_eq (gens.trans aaY)⟩
 ·intro cls;rfl
 ·kernel_rfl
 ·exactλ_=>⟨.nil,λ_ h=>nomatch h⟩
end
end Mine
theorem PySem.Challenge.cw_te0007_01_holds : PySem.Challenge.rw_te0007_01.Holds :=
  ⟨Mine.adh, Mine.aiw (PySem.W.row_said Mine.adh) Mine.call_of⟩
