import PyProof.Rows.All
import Wide.All
import OpenK.AllK
import Wide.FinOn
import PyProof.CompFree
import KE.KIsAll
import KE.KUnpack
import PyProof.RangeFor
import KE.KPar
import KE.KSuper
import KE.KTurns
import PySem.Challenge.RW_te0007_01
set_option Elab.async false
set_option maxRecDepth 1000000
set_option maxHeartbeats 8000000
set_option genInjectivity false
set_option genSizeOf false
set_option genSizeOfSpec false
set_option linter.all false
namespace Mine
open PySem PySem.W PySem.Calls PyProof.Rows
universe u v w
theorem KK {α : Sort u} {a b : α} (h : a = b := by kernel_rfl) : a = b := h
theorem OO {p : Prop} (h : p := by omega) : p := h
def aT:=@congrArg
def bB:=@Nat.le_trans
def c9:=@List.length_append
def dX:=@if_neg
def d7:=@if_pos
def eN:=@Option.some.inj
def eO:=@wpAny_bind
def e8:=@List.forall_mem_cons
def e9:=@Nat.le_of_ble_eq_true
def fa:=@Eq.symm
def fb:=@List.append_assoc
def fu:=@Nat.le_refl
def gk:=@List.all_eq_true
def iG:=@beq_iff_eq
def iS:=@Nat.eq_of_beq_eq_true
def jk:=@Nat.le_of_eq
def jP:=@Nat.zero_le
def kS:=@Prod.mk.inj
def k5:=@wpAny_pure
def mG:=@List.length_map
def mQ:=@of_decide_eq_true
def oJ:=@Nat.le_add_left
def qd:=@Nat.mod_lt
def qt:=@Nat.lt_of_lt_of_le
def qT:=@List.forall_mem_nil
def ti:=@List.append_nil
def tj:=@List.length_replicate
def uY:=@Heap.lt_size
def u0:=@Nat.le_of_lt_succ
def w6:=@List.map_cons
def xi:=@Nat.add_le_add
def xj:=@Nat.add_le_add_left
def xk:=@Nat.not_lt
def xl:=@Option.map_eq_some_iff
def zA:=@Int.add_zero
def zK:=@Int.ofNat_le
def zL:=@Int.zero_add
def zM:=@List.getElem?_eq_getElem
def zN:=@Nat.add_assoc
def zO:=@Nat.le_add_right_of_le
def De:=@List.cons_append
def Fi:=@List.forall_mem_singleton
def Fj:=@Nat.ne_of_lt
def Hr:=@Heap.get?_push_size
def Hs:=@Int.add_assoc
def Ht:=@List.mem_map
def Hu:=@Nat.le_add_right
def Hv:=@decide_eq_false
def HD:=@Nat.zero_add
def HE:=@beq_eq_false_iff_ne
def HF:=@decide_eq_true
def MR:=@Heap.get?_push_of_some
def MS:=@Int.natCast_nonneg
def MT:=@Nat.lt_succ_self
def MU:=@Nat.succ_pos
def M5:=@Heap.size_push
def M6:=@List.getElem?_eq_some_iff
def M7:=@List.length_cons
def M8:=@List.map_append
def M9:=@wpAny_holding
def Rc:=@Bool.not_eq_true'
def Rd:=@List.flatten_cons
def Rf:=@List.getElem?_map
def Rg:=@Nat.add_right_comm
def Rh:=@Nat.le_of_lt
def Ri:=@Nat.lt_of_le_of_lt
def Rj:=@Nat.succ_le_succ
def Rl:=@wpAny_standAt
def SI:=@Nat.le_add_left_of_le
def SK:=@Option.isNone_iff_eq_none
def SM:=@wpAny_assign_Name
def Y4:=@Bool.and_eq_true_iff
def Y5:=@List.getD_eq_getElem?_getD
def Y6:=@List.nil_append
def Y7:=@List.size_toArray
def Y8:=@Nat.le_of_succ_le
def Y9:=@Option.isSome_iff_exists
def Za:=@wpAny_truthy_bool
def Zx:=@List.length_drop
def Zy:=@List.length_singleton
def Zz:=@List.length_take
def ZA:=@Nat.add_le_add_right
def ZC:=@decide_eq_false_iff_not
def ad9:=@Int.toNat_of_nonneg
abbrev l0:=PySem.Challenge.rw_te0007_01
abbrev p0:=l0.row.prog
abbrev lk0:Look:={strict:=false,foot:=none,bare:=[]}
def LK (lk:Look) (a b:List Stmt):noRoadLSs lk (a++b)=(noRoadLSs lk a&&noRoadLSs lk b):=by
 induction a with
 |nil=>rfl
 |cons s r ih=>show(noRoadLS lk s&&noRoadLSs lk (r++b))=(noRoadLS lk s&&noRoadLSs lk r&&noRoadLSs lk b);rw[ih,Bool.and_assoc]
def ahJ:({strict:=!(importedModules p0.main.body).all cThrough.contains,foot:=none,bare:=(["vars","dir","locals"]:List Str).filter (readsOut p0 p0.main.body)}:Look)=lk0:=KK
def sB1:noRoadLSs lk0 (p0.main.body.take 52)=true:=KK
def sB2:noRoadLSs lk0 (p0.main.body.drop 52)=true:=KK
def sA:namesResolve p0=true:=KK
def sB:noRoadLSs {strict:=!(importedModules p0.main.body).all cThrough.contains,foot:=none,bare:=(["vars","dir","locals"]:List Str).filter (readsOut p0 p0.main.body)} p0.main.body=true:=by
 rw[ahJ,<-List.take_append_drop 52 p0.main.body,LK,sB1,sB2];rfl
def sC:(namesMeet p0 p0.main.body λ_ n=>attrL n)=true:=KK
def sD:noRoadLSs {strict:=true,foot:=some l0.bound',writes:=l0.writes,may:=l0.may} l0.footing=true:=KK
def ac8:l0.wellSaid=true:=by
 unfold OpenLaw.wellSaid OpenRow.wellSaid OpenRow.partSaid looksOpen
 with_reducible repeat' refine look_both ?_ ?_
 all_goals first|with_reducible (first|exact sA|exact sB|exact sC|exact sD) |kernel_rfl
section
variable (H:Array Nat->Int)
abbrev pw:Program:=PySem.Challenge.pw_te0007_01
noncomputable def eS (H:Array Nat->Int) (n:Str) (t:Nat) (v:Value):DictEntry:=⟨if n.cps.isEmpty then 0 else reduceHash (H n.cps),.str n t,v⟩
noncomputable def eV (h:Int) (k v:Value):DictEntry:=⟨h,k,v⟩
noncomputable def vN:Value:=.none
noncomputable def vT:Value:=.bool true
noncomputable def vF:Value:=.bool false
noncomputable def vI (i:Int) (t:Nat):Value:=.int i t
noncomputable def vS (s:Str) (t:Nat):Value:=.str s t
noncomputable def vY (s:String):Value:=.type s
noncomputable def vB (s:String):Value:=.builtin s
noncomputable def vR (a:Nat):Value:=.ref a
noncomputable def dP:Data:=.plain
noncomputable def dV (v:Value):Data:=.prim v
noncomputable def dS (l:List Value) (n:Nat):Data:=.seq ⟨l⟩ n
noncomputable def dD (l:List DictEntry) (n:Nat):Data:=.dict ⟨l⟩ n
noncomputable def dF (l:List Value):Data:=.fields ⟨l⟩
noncomputable def adp:List Nat->List Stmt->Stmt
 |[],_=>.Pass default
 |[i],b=>(b[i]?).getD (.Pass default)
 |i::r,b=>match b[i]? with
  |some (.ClassDef _ _ _ b' _ _ _ _ _ _ _)=>adp r b'
  |_=>.Pass default
noncomputable def fParams:Stmt->Arguments
 | .FunctionDef _ a _ _ _ _ _ _ _ _=>a
 |_=>default
noncomputable def fBody:Stmt->List Stmt
 | .FunctionDef _ _ b _ _ _ _ _ _ _=>b
 |_=>[]
noncomputable def fScope:Stmt->Scope
 | .FunctionDef _ _ _ _ _ _ sc _ _ _=>sc
 |_=>default
noncomputable def aar (p:List Nat) (nm ql:Str) (g:Nat) (cl:List (Str×Nat)) (df kw dc pm cd ct:Value) (b:Nat):FuncData:=
 let st:=adp p pw.main.body
 {name:=nm,qualname:=ql,params:=fParams st,body:=.stmts (fBody st),scope:=fScope st,globals:=g,closure:=cl,defaults:=df,kwdefaults:=kw,doc:=dc,pyModule:=pm,annotations:=none,code:=cd,closureTuple:=ct,builtins:=b}
noncomputable def dK (p:List Nat) (nm ql:Str) (g:Nat) (df pm cd:Value) (b:Nat):Data:=.func (aar p nm ql g [] df .none .none pm cd .none b)
noncomputable def dL (p:List Nat) (nm ql:Str) (g:Nat) (cl:List (Str×Nat)) (df kw dc pm cd ct:Value) (b:Nat):Data:=.func (aar p nm ql g cl df kw dc pm cd ct b)
noncomputable def dC (nm:Str) (bs mr:List Value) (ns:Nat) (ql:Str) (hd:Bool) (sb:List Value) (ab:Bool) (co:Option Bool) (de:Bool):Data:=
 .cls {name:=nm,bases:=bs,mro:=mr,ns:=ns,qualname:=ql,hasDict:=hd,slotNames:=[],subclasses:=sb,abstract:=ab,collection:=co,hasDel:=de}
noncomputable def nd (o:Obj) (l r:BT):BT:=.node o l r
noncomputable def lf (o:Obj):BT:=.node o .nil .nil
noncomputable def e:BT:=.nil
noncomputable def tA:BT->Nat->BT
 | .nil,_=>.nil
 | .node v l r,n=>bif Nat.beq n 0 then .nil else .node v (tA l (n / 2)) (tA r ((n - 1) / 2))
noncomputable def unp (x:Nat):List Nat:=Nat.rec (motive:=λ_=>Nat->List Nat) (λ_=>[]) (λ_ ih x=>bif Nat.beq x 0 then[] else(x%96+31)::ih (x/96)) 99 x
noncomputable def S (x:Nat):Str:=⟨⟨unp x⟩⟩
noncomputable def SL (l:List Nat):Str:=⟨⟨l⟩⟩
noncomputable def SJ (a b:Str):Str:=⟨⟨a.cps.1++46::b.cps.1⟩⟩
noncomputable def n0:=S 4859937803351104
noncomputable def n1:=S 6374607345551491
noncomputable def n2:=S 50624184044608
noncomputable def n3:=S 0xe9172d6e4e23c67c40
noncomputable def n4:=S 0x26d969ae1d062ec40
noncomputable def n5:=S 4859920829737024
noncomputable def Zm:=S 6698
noncomputable def n30:=S 0x2a7a64ac78b7507ca
noncomputable def n34:=S 734861
noncomputable def n36:=S 826638
noncomputable def n62:=S 0x718e6d3788935e6
noncomputable def n67:=S 791018
noncomputable def n68:=S 75983885
noncomputable def n71:=S 6009861395
noncomputable def n76:=S 773172
noncomputable def J7:=S 4860010847146048
noncomputable def ahN:=S 0x49c0c78199d8810ccb423e040
noncomputable def ahO:=S 0x5769384c2d86e9328440
noncomputable def ahP:=S 4859937725420608
noncomputable def sa:=S 0x2e0ade1eb629598e25ed90
noncomputable def ahQ:=S 0x26d92de1971c4a840
noncomputable def abH:=S 0x87911650edd5d
noncomputable def eU:=S 0x131bc2829b5ae0a911a
noncomputable def Gi:=S 6608709952
noncomputable def yr:=S 68011246
noncomputable def qp:=S 0x864ca3514c604fa
noncomputable def m9:=S 0x5f9c0f44a09f90b7ee46dc4ee
noncomputable def ph:=S 6772477493
noncomputable def Gj:=S 0xf279e51f9b9553939fcc7e5
noncomputable def J8:=S 0x4cb8917f07ceec94ff7dfc3372ae25
noncomputable def J9:=S 0x2219243871a24da6ffc3372ae25
noncomputable def Px:=S 76
noncomputable def jD:=S 0x26d932785e5931040
noncomputable def nZ:=S 0x325cbd423f40a911a
noncomputable def vU:=S 0x5768b1a3258140b4a040
noncomputable def jE:=S 0x49c0a70f98216f59c60211440
noncomputable def aM:=S 4860059780972608
noncomputable def Gk:=S 0x1350168061e26ac0e88
noncomputable def lz:=S 50625462626368
noncomputable def gF:=S 0x34817d7e48af303b5c434bf5cb130a76840
noncomputable def ag:=S 63532692
noncomputable def iu:=S 62656783
noncomputable def iM:=S 7621759466
noncomputable def pj:=S 62666765
noncomputable def mB:=S 650846138948
noncomputable def n6:=S 682768243843
noncomputable def n7:=S 65546947462737
noncomputable def UM:=SJ yr aM
noncomputable def gG:=S 699839205866
noncomputable def vV:=S 7293495348
noncomputable def abI:=S 67112125072884
noncomputable def UN:=SJ yr Gk
noncomputable def UO:=SJ yr lz
noncomputable def Ka:=S 4860059266894912
noncomputable def Gl:=S 0xe9174692b859dd7840
noncomputable def abJ:=S 67266115189316
noncomputable def abK:=S 0x67e4e75d212d9ce6ba44
noncomputable def abL:=S 61632468475761
noncomputable def abM:=S 0x67e4e75d1c0ded63df71
noncomputable def abN:=S 62722639
noncomputable def UP:=SJ m9 aM
noncomputable def UQ:=SJ m9 lz
noncomputable def aK:=S 0x2e2cd89b2b2b9e834
noncomputable def bg:=S 5776514558317030
noncomputable def UR:=SJ ph aM
noncomputable def US:=S 0x726367f575becb01fd
noncomputable def dU:=S 6022229271
noncomputable def UT:=SJ Gj aM
noncomputable def UU:=S 0xda399fb5641b841e934b0159fd
noncomputable def UW:=S 0x607b15ae58c1e934b0159fd
noncomputable def cG:=S 0x131f6b77d84f40a911a
noncomputable def Gm:=S 0x22192438753f85978d265dccc14
noncomputable def Kb:=S 0xf279e51f99d77cae5dccc14
noncomputable def Kc:=S 0x91a6643728d2d522d5603d18106c69bc615d03
noncomputable def Kd:=S 0x18466609317878db23bdc1401802d58615d03
noncomputable def Ke:=S 0x2869a62feef93f68615d03
noncomputable def Kf:=S 0x18466609317878db23900a2ead6766fef5d07
noncomputable def Kg:=S 0x40bbbac32e96979db4a4ae00400798f5d07
noncomputable def Kh:=S 0xac9f475dbf45a7d69c2ead6766fef5d07
noncomputable def Ki:=S 0x1cc5368f9fe0f1560de00400798f5d07
noncomputable def Kj:=S 5991854648083052
noncomputable def Kk:=S 0x2fe58297a04f3ecf7
noncomputable def Kl:=S 0x5aedb5ebe6553dcbf68615d03
noncomputable def Km:=S 0xf279e51fbb8dfa1ff0f5d07
noncomputable def Gn:=S 0x2fe58297a4ac58502
noncomputable def Gp:=S 0x11f610f8dda6ae32dc2
noncomputable def Gq:=S 5991854647916789
noncomputable def Gr:=S 0x11f610f8dda2438e1b4
noncomputable def UX:=S 0x60fd2a8981d305e32cc939d
noncomputable def kK:=S 5472869015465446
noncomputable def UY:=SJ Gm aM
noncomputable def UZ:=S 0x2ae15ef8225e32cc939d
noncomputable def U0:=S 0x9b5b85f2e283830d0f624f473427e482ed3d
noncomputable def U1:=S 0x19e4965325c09c45410360eb617e482ed3d
noncomputable def U2:=S 0x7258fd4057e482ed3d
noncomputable def U3:=S 60
noncomputable def U4:=S 92
noncomputable def U5:=S 62
noncomputable def U6:=S 94
noncomputable def U7:=S 32
noncomputable def U8:=S 27
noncomputable def U9:=S 14
noncomputable def Va:=S 13
noncomputable def Vb:=S 24956076420317
noncomputable def Vc:=SJ Gn aM
noncomputable def Vd:=S 0x88258153134dd
noncomputable def Ve:=SJ Gp aM
noncomputable def Vf:=S 2697291773
noncomputable def Vg:=SJ Gq aM
noncomputable def Vh:=S 0x8823d9554af9d
noncomputable def Az:=S 6775924017
noncomputable def fD:=S 6014388276
noncomputable def Vi:=SJ Gr aM
noncomputable def lA:=S 0x12dcae87623620a911a
noncomputable def tI:=S 7289993414
noncomputable def vW:=S 0x897bea36e1ad22f
noncomputable def vX:=S 0xb9d022d874bfe1cf3b427ee75be7a7224
noncomputable def yt:=S 0x529564d1f2de347e2fee75be7a7224
noncomputable def Gs:=S 0x24b42ccf1a38dd978d265dccc14
noncomputable def Ko:=S 0x105013ea42efd7cae5dccc14
noncomputable def Gu:=S 0x529564d1fafff294ff7dfc3372ae25
noncomputable def Gv:=S 0x24b42ccf169ba5a6ffc3372ae25
noncomputable def Kp:=S 0x338e77d4990c58502
noncomputable def Gw:=S 0x13556cefb946438e1b4
noncomputable def Kq:=S 0x529564d1fafff294fb751060f4a274
noncomputable def Kr:=S 0x24b42ccf169ba56671060f4a274
noncomputable def Ks:=S 0xdc390cda9d55318d4ab974f0fcee
noncomputable def Kt:=S 0x61e0777d919f0e7e974f0fcee
noncomputable def Gx:=S 4860044060181568
noncomputable def Vj:=SJ tI aM
noncomputable def Vk:=SJ tI Gx
noncomputable def ke:=S 683619331554
noncomputable def Vl:=SJ vW aM
noncomputable def mC:=S 669973
noncomputable def pz:=S 6445788447834506
noncomputable def AA:=S 0x2a88ff11400af5d27
noncomputable def Vm:=SJ vX aM
noncomputable def Vn:=SJ Gs aM
noncomputable def n8:=S 6445788447835558
noncomputable def yu:=S 62496523798167
noncomputable def yw:=S 74987797
noncomputable def Vo:=SJ Gu aM
noncomputable def Vp:=SJ Gv aM
noncomputable def Vq:=SJ Gw aM
noncomputable def bo:=S 0x712c78941eb8c80a911a
noncomputable def AB:=S 0x12e2c6f7734780ce273
noncomputable def Gy:=S 0x23e3439b548175af7bec00
noncomputable def kf:=S 682766426739
noncomputable def Ku:=S 0x7150a9ccb3ad3823e1b4
noncomputable def Gz:=S 0x91569e96e2093f4
noncomputable def Vr:=S 5999666361724497
noncomputable def tJ:=S 0x8622015aa89e3a4
noncomputable def abO:=S 651014136467
noncomputable def Vs:=SJ AB aM
noncomputable def Vt:=SJ AB lz
noncomputable def iN:=S 7076
noncomputable def AD:=S 67891857
noncomputable def sd:=S 732030334833
noncomputable def AE:=S 54692731144775
noncomputable def AF:=S 5776514558463624
noncomputable def AG:=S 0x50bf581d7e2348cad445ff3a4
noncomputable def AH:=S 578039370422
noncomputable def nf:=S 641659096116
noncomputable def Vu:=SJ kf aM
noncomputable def Vv:=SJ kf AD
noncomputable def gN:=S 602505950861
noncomputable def Vw:=SJ kf sd
noncomputable def Vx:=SJ kf AE
noncomputable def Vy:=SJ kf AF
noncomputable def Kv:=S 59182341
noncomputable def Vz:=SJ kf AG
noncomputable def VA:=SJ kf AH
noncomputable def Kw:=S 662086
noncomputable def Kx:=S 0x324c84d985a9c7913
noncomputable def Kz:=S 0x2a7c0316f44bc7913
noncomputable def KA:=S 0xfea49111367ddfd65dccc34
noncomputable def KC:=S 0x712c052b5c48d3abce55
noncomputable def KG:=S 5240463765578387
noncomputable def pA:=S 68011278
noncomputable def VB:=SJ Gz aM
noncomputable def bq:=S 65546437779892
noncomputable def AI:=S 0x11f610fa47e445ff3a4
noncomputable def AJ:=S 0x2fe5829b6a60bf291
noncomputable def AK:=S 0x7fb95c491bc0e88
noncomputable def AL:=S 0x2446b343f30bea468115bad728f
noncomputable def AM:=S 0xd9a83397b2477da7068275320e87
noncomputable def AN:=S 0x3e274d66feefb76919b429c3e81f3a6f0e881e8f
noncomputable def AP:=S 0x82eb145c64f19e4c769a38fa9770bb5e9a52678e834
noncomputable def AQ:=S 0x3e274d66feefb76919b429c3e81f3a6f0dbd5514
noncomputable def AR:=S 0x8bd86e27bd9b5cac79d55df8ca464379deea0b31293
noncomputable def AS:=S 0x2b8034727a7e8491e37df6
noncomputable def AU:=S 0x338e770c6b409ce22
noncomputable def AV:=S 0x529f8cb4e757d7c470607ff5320e87
noncomputable def AW:=S 0x1ddc98bff43c470607ff5320e87
noncomputable def AX:=S 0x50ddfb3fd8835660a35320e87
noncomputable def AY:=S 0xb9e6fc97089b583cba064911a35320e87
noncomputable def AZ:=S 0x433057b140b3cba064911a35320e87
noncomputable def A0:=S 0x396e40b90cb2e7a5778e13cba064911a35320e87
noncomputable def A1:=S 0x160ec8386b9ffa939061b1595b8cd8117eb5320e87
noncomputable def A2:=S 0x3ad215ebc9aca4ed6e11ab5d5bd8117eb5320e87
noncomputable def A3:=S 0x31a1427ef22f5c1f86f4f4b223eb454d8117eb5320e87
noncomputable def A4:=S 0x7f8dc6750cd0b061b1595b8cd8117eb5320e87
noncomputable def A5:=S 0x15424bbe4d5906e11ab5d5bd8117eb5320e87
noncomputable def A6:=S 0x11efefe8ec5290ef4f4b223eb454d8117eb5320e87
noncomputable def A7:=S 0x26dc47f12593fd8117eb5320e87
noncomputable def A8:=S 0xe929afa6e14c3e508ea5b5320e87
noncomputable def A9:=S 0x91580a5f5320e87
noncomputable def Ba:=S 0xff8b278a1ab5320e87
noncomputable def Bb:=S 0x1313f9e07ef75320e87
noncomputable def Bc:=S 0x7150483b6a9f75320e87
noncomputable def Bd:=S 0x74723ae35320e87
noncomputable def Be:=S 0x2760d8f784adbc35320e87
noncomputable def Bf:=S 0x5e403b48db86b5320e87
noncomputable def Bg:=S 0x508796de8036dd1e508ea5b5320e87
noncomputable def Bh:=S 0x5fb3904bacb7f5320e87
noncomputable def Bi:=S 0x5fb360f2c31a35320e87
noncomputable def Bj:=S 0xd6bee7a6ab3d6cd8117eb5320e87
noncomputable def Bk:=S 0x11f86800a9d35320e87
noncomputable def Bl:=S 0x50ddfb3fd8835660a445ff3a4
noncomputable def Bm:=S 0xb9e6fc97089b583cba064911a445ff3a4
noncomputable def Bn:=S 0x433057b140b3cba064911a445ff3a4
noncomputable def Bo:=S 0xe929afa6e14c3e508ea5c45ff3a4
noncomputable def Bp:=S 0x91580a6045ff3a4
noncomputable def Bq:=S 0xff8b278a1ac45ff3a4
noncomputable def Br:=S 0x11f86800a9d445ff3a4
noncomputable def Bs:=S 0x4cb8918512220697403e96a633e1d4
noncomputable def Bu:=S 0xd7a548aa415e3bac633e1d4
noncomputable def Bv:=S 0x198d7ef8a7ac0c8aa415e3bac633e1d4
noncomputable def Bw:=S 0x12368a55d865d8284f33818e5494166f78a433e1d4
noncomputable def Bx:=S 0x810e346c47a5a3497cf33818e5494166f78a433e1d4
noncomputable def By:=S 0x309170e4ebba406b7ddeaed0e189885f2633e1d4
noncomputable def Bz:=S 0x123051c4803013e16e7ddeaed0e189885f2633e1d4
noncomputable def BA:=S 0x170faf5194c0bfe4ea7ddeaed0e189885f2633e1d4
noncomputable def BB:=S 0x28efe189fb0b2bcb573a01db1548aa415e3bac633e1d4
noncomputable def BC:=S 0x12e2b6b491c5433e1d4
noncomputable def BD:=S 5462782429618644
noncomputable def BE:=S 0xd6bee7a6ab3cf850d6d1ba33e1d4
noncomputable def BF:=S 0x126512ba4b6d96f3739c883e7a6ab3cf850d6d1ba33e1d4
noncomputable def BG:=S 0x228a664c6bd16cf39198f1b1a567a6ab3cf850d6d1ba33e1d4
noncomputable def BH:=S 0x67d350357504d4381870f083e7a6ab3cf850d6d1ba33e1d4
noncomputable def BI:=S 0x3a15f0e4dcb92565eba6ab3cf850d6d1ba33e1d4
noncomputable def BJ:=S 0x23ca7bf11c8a3ccead95233e1d4
noncomputable def abP:=S 0x12f69e604f454f99f49e11611de023a6
noncomputable def abQ:=S 0x46d1dac9da391de023a6
noncomputable def BK:=S 0x30f94c0147cf172f0db411d9f11c8a3ccead95233e1d4
noncomputable def BL:=S 0x9ac80ca864884a5b7f11c8a3ccead95233e1d4
noncomputable def BM:=S 0x9ae52d0cf7430e651f11c8a3ccead95233e1d4
noncomputable def BN:=S 0x2febc001c4e33e1d4
noncomputable def BO:=S 0xd96a7905d1b0e5bc001c4e33e1d4
noncomputable def BP:=S 0x50bf696a32cdb085f2633e1d4
noncomputable def BQ:=S 0x6531ab2fe85f2633e1d4
noncomputable def BR:=S 0x243c9108160db0e7d2b4c33e1d4
noncomputable def BS:=S 0x577591f2b779b5269f633e1d4
noncomputable def abR:=S 0x20c75bce7149cdca392840
noncomputable def VC:=S 0x679926dca392840
noncomputable def VD:=SJ bq aM
noncomputable def abS:=S 66328256994212
noncomputable def VE:=SJ bq AI
noncomputable def VF:=SJ bq AJ
noncomputable def VG:=SJ bq AK
noncomputable def VH:=SJ bq AL
noncomputable def VI:=SJ bq AM
noncomputable def abT:=S 6602708621
noncomputable def GA:=S 836236
noncomputable def VJ:=SJ bq AN
noncomputable def VK:=SJ bq AP
noncomputable def VL:=SJ bq AQ
noncomputable def VM:=SJ bq AR
noncomputable def VN:=SJ bq AS
noncomputable def VO:=SJ bq AU
noncomputable def VP:=SJ bq AV
noncomputable def VQ:=SJ bq AW
noncomputable def VR:=SJ bq AX
noncomputable def VS:=SJ bq AY
noncomputable def VT:=SJ bq AZ
noncomputable def yx:=S 0x32fca29c72babce35
noncomputable def VU:=SJ bq A0
noncomputable def VV:=SJ bq A1
noncomputable def VW:=SJ bq A2
noncomputable def VX:=SJ bq A3
noncomputable def VY:=SJ bq A4
noncomputable def VZ:=SJ bq A5
noncomputable def V0:=SJ bq A6
noncomputable def V1:=SJ bq A7
noncomputable def V2:=SJ bq A8
noncomputable def V3:=SJ bq A9
noncomputable def V4:=SJ bq Ba
noncomputable def V5:=SJ bq Bb
noncomputable def V6:=SJ bq Bc
noncomputable def V7:=SJ bq Bd
noncomputable def V8:=SJ bq Be
noncomputable def V9:=SJ bq Bf
noncomputable def Wa:=SJ bq Bg
noncomputable def Wb:=SJ bq Bh
noncomputable def Wc:=SJ bq Bi
noncomputable def Wd:=SJ bq Bj
noncomputable def We:=SJ bq Bk
noncomputable def Wf:=SJ bq Bl
noncomputable def Wg:=SJ bq Bm
noncomputable def Wh:=SJ bq Bn
noncomputable def Wi:=SJ bq Bo
noncomputable def Wj:=SJ bq Bp
noncomputable def Wk:=SJ bq Bq
noncomputable def Wl:=SJ bq Br
noncomputable def Wm:=SJ bq Bs
noncomputable def Wn:=SJ bq Bu
noncomputable def Wo:=SJ bq Bv
noncomputable def abU:=S 7121052942
noncomputable def abV:=S 7121090574
noncomputable def Wq:=SJ bq Bw
noncomputable def Wr:=SJ bq Bx
noncomputable def Py:=S 577362638089
noncomputable def Ws:=SJ bq By
noncomputable def Wt:=SJ bq Bz
noncomputable def Wu:=SJ bq BA
noncomputable def Wv:=SJ bq BB
noncomputable def Ww:=SJ bq BC
noncomputable def abW:=S 732030344340
noncomputable def Wx:=SJ bq BD
noncomputable def Wy:=S 568614351431
noncomputable def eA:=S 691438793636
noncomputable def KH:=S 5472870033021860
noncomputable def KI:=S 0x897be92faca2dea
noncomputable def Wz:=S 0x338e770c6b40b380e
noncomputable def GC:=S 691427145571
noncomputable def yy:=S 0x338e770c6b40c9d0e
noncomputable def yz:=S 0x2e11aeda739bc380d
noncomputable def yA:=S 0xb570e2aea2566173f8d9744ce28d
noncomputable def WA:=SJ bq BE
noncomputable def WB:=SJ bq BF
noncomputable def WC:=SJ bq BG
noncomputable def WD:=SJ bq BH
noncomputable def WE:=SJ bq BI
noncomputable def BU:=S 577360934469
noncomputable def WG:=SJ bq BJ
noncomputable def WH:=S 66
noncomputable def WI:=SL [9]
noncomputable def Pz:=S 1
noncomputable def abX:=S 3
noncomputable def abY:=S 61
noncomputable def abZ:=S 16
noncomputable def ab0:=S 49
noncomputable def ab1:=SL [8233]
noncomputable def WJ:=SJ bq BK
noncomputable def ab2:=S 0x1316572dcfb1ee603b8
noncomputable def WK:=SJ bq BL
noncomputable def WL:=SJ bq BM
noncomputable def WM:=SJ bq BN
noncomputable def WN:=SJ bq BO
noncomputable def WO:=SJ bq BP
noncomputable def WQ:=SJ bq BQ
noncomputable def WR:=SJ bq BR
noncomputable def WT:=SJ bq BS
noncomputable def KJ:=S 0x26cd5904a3fe6b16bb841c2f122
noncomputable def KL:=S 62667333
noncomputable def KN:=S 0x2eb225250f6af5d27
noncomputable def KO:=S 66451493540330
noncomputable def KP:=S 0xb7e56c509ea5eaa5b2e32a761ed19ee51
noncomputable def KQ:=S 691685543509
noncomputable def GD:=S 0x6bc46476e1690babce55
noncomputable def eF:=S 0x12dcc6d6c1e960a911a
noncomputable def KR:=S 0x12e2c6f773478d9c4f1
noncomputable def eW:=S 682779854065
noncomputable def WU:=S 0x46d8f3c45111c1308a65
noncomputable def BV:=S 55484825562117
noncomputable def BW:=S 0x338e77d85ec0bf291
noncomputable def BY:=S 0x897bea40fcc0e88
noncomputable def BZ:=S 0x529f8cb4e757d7c470607fe6d9c511
noncomputable def B1:=S 0x6faad59da0f57fe28a25a288108bd04d95a1d8f966d9c511
noncomputable def B3:=S 0xb9e6fc97089b583cba064911a26d9c511
noncomputable def B5:=S 0x433057b140b3cba064911a26d9c511
noncomputable def B6:=S 0x1a2144dd5afd8011b03cba064911a26d9c511
noncomputable def B7:=S 0x51886ff4cfa7278259776dde015f71
noncomputable def B8:=S 0x1e3ec98bca9ce508ea5a6d9c511
noncomputable def B9:=S 0x50a76eca23958117ea6d9c511
noncomputable def Ca:=S 0x14b6e0d285ed3093f1afb609d605e84fbe1dfe3be06d8bca9ce508ea5a6d9c511
noncomputable def Cb:=S 0x2a7c03938a6d9c511
noncomputable def Cc:=S 0x63b525384a11747be626bfc246824a28182291e508ea5a6d9c511
noncomputable def Cd:=S 0x8c0e403897abd4e4224a28182291e508ea5a6d9c511
noncomputable def Ce:=S 0x109e30deb6ff036291918c81dd51ee2f1edc5bdbf15166d9c511
noncomputable def Cf:=S 0x75fe9cf56729d55e760e513946a042d6be508ea5a6d9c511
noncomputable def Cg:=S 0xa5be23be0d168946a042d6be508ea5a6d9c511
noncomputable def Ci:=S 0x12368a55d86689323946a042d6be508ea5a6d9c511
noncomputable def Cj:=S 0x109e30deb702e8bf5106754b0bc061b1595b8cd8117ea6d9c511
noncomputable def Ck:=S 0x1757b55ec3f1f8d0b061b1595b8cd8117ea6d9c511
noncomputable def Cm:=S 0xbd01274577a7ff9070d178e57c2d3f1f8d0b061b1595b8cd8117ea6d9c511
noncomputable def Cn:=S 0x14c4ebf639aa599c6ccb099178e57c2d3f1f8d0b061b1595b8cd8117ea6d9c511
noncomputable def Co:=S 0x9174b072eb5bc2c33b5178e57c2d3f1f8d0b061b1595b8cd8117ea6d9c511
noncomputable def Cp:=S 0x13aa6f7e3bdc4e3a690262dee11ab5d5bd8117ea6d9c511
noncomputable def Cq:=S 0x1b9fb09facd916e11ab5d5bd8117ea6d9c511
noncomputable def Cr:=S 0x309170e4ebbc1885ee11ab5d5bd8117ea6d9c511
noncomputable def Cs:=S 0x22938a9ef8df07f25b316724806e11ab5d5bd8117ea6d9c511
noncomputable def Ct:=S 0xb5311374a07be47b3ae1c986dde015f71
noncomputable def GF:=S 2
noncomputable def WV:=S 194
noncomputable def WW:=S 0x1a2bb8f68c04c3419f357e9516b915
noncomputable def WX:=SJ eW aM
noncomputable def WY:=SJ eW BV
noncomputable def WZ:=SJ eW BW
noncomputable def W0:=SJ eW BY
noncomputable def jF:=S 6772477525
noncomputable def pB:=S 7289993446
noncomputable def W2:=SJ eW BZ
noncomputable def W3:=SJ eW B1
noncomputable def W4:=SJ eW B3
noncomputable def W5:=SJ eW B5
noncomputable def W6:=SJ eW B6
noncomputable def W7:=SJ eW B7
noncomputable def W8:=SJ eW B8
noncomputable def W9:=SJ eW B9
noncomputable def Xa:=SJ eW Ca
noncomputable def GG:=S 6515940643
noncomputable def KS:=S 0x198400f061b1595b66cb3b8431aad1ea
noncomputable def Xb:=SJ eW Cb
noncomputable def Xc:=SJ eW Cc
noncomputable def Xd:=SJ eW Cd
noncomputable def Xe:=SJ eW Ce
noncomputable def Xf:=SJ eW Cf
noncomputable def Xg:=SJ eW Cg
noncomputable def Xh:=SJ eW Ci
noncomputable def Xi:=SJ eW Cj
noncomputable def yB:=S 7294535687
noncomputable def Xj:=SJ eW Ck
noncomputable def Xk:=SJ eW Cm
noncomputable def Xl:=SJ eW Cn
noncomputable def Xm:=SJ eW Co
noncomputable def Xn:=SJ eW Cp
noncomputable def Xo:=SJ eW Cq
noncomputable def Xp:=SJ eW Cr
noncomputable def Xq:=SJ eW Cs
noncomputable def Xr:=SJ eW Ct
noncomputable def KU:=S 0x2b80351e8ff91aa0cc4c84
noncomputable def KV:=S 7202522382
noncomputable def GH:=S 6021244980
noncomputable def KW:=S 690934310964
noncomputable def tK:=S 0x131665a517480fa3915
noncomputable def KX:=S 0x6be85d72ef03f21a911a
noncomputable def yC:=S 0x9375086e14778d5bc790d
noncomputable def KY:=S 0x543c9ce1aad6520
noncomputable def GI:=S 0x1f8501c0a66ad6520
noncomputable def GJ:=S 0x1f8b8462d0ead6520
noncomputable def GK:=S 0x6fd2cf412ad6520
noncomputable def KZ:=S 0x2a958b22f18ad6520
noncomputable def GL:=S 0x7186c6240ad6520
noncomputable def GN:=S 0x6fd2d0ea6ad6520
noncomputable def K0:=S 817421
noncomputable def Cu:=SL []
noncomputable def ab3:=S 626851
noncomputable def ab4:=S 5946946657
noncomputable def ab5:=SL [9,117,32,118]
noncomputable def ab6:=S 63710375
noncomputable def ab7:=S 603485291620
noncomputable def ab8:=S 60286960143470
noncomputable def ab9:=S 63418331077806
noncomputable def fm:=S 818771
noncomputable def hA:=S 62584679
noncomputable def vZ:=S 690919306257
noncomputable def iw:=S 8226
noncomputable def se:=S 70564884
noncomputable def aca:=S 64316711
noncomputable def y1:="builtins.__package__:str#opaque"
noncomputable def y2:="builtins.__loader__:shared#opaque"
noncomputable def kN:=PySem.W.SL.s14018661285674007319x4
noncomputable def y61:=PySem.W.SL.s9222952809800978799x4
noncomputable def pP:=PySem.W.SL.s2742458400755230247x6
noncomputable def y70:=PySem.W.SL.s4290257624100764138x5
noncomputable def oM:=PySem.W.SL.s2766695959194262286x5
noncomputable def tR:=PySem.W.SL.s17162191345867700912x4
noncomputable def Y2:=PySem.W.SL.s4278001404047624695x13
noncomputable def M4:=PySem.W.SL.s5946037652744460706x9
noncomputable def y89:=PySem.W.SL.s10852414792293593619x7
noncomputable def ai9:=PySem.W.SL.s7097527257260152453x26
noncomputable def ad4:=PySem.W.SL.s6658869562736209489x6
noncomputable def Y1:=PySem.W.SL.s5856160107412720595x4
noncomputable def aja:=PySem.W.SL.s658472552662922059x5
noncomputable def Q7:=PySem.W.SL.s7174869446012820540x8
noncomputable def ad5:=PySem.W.SL.s11030030927630378310x26
noncomputable def pO:=PySem.W.SL.s11443829558043349243x14
noncomputable def ajb:=PySem.W.SL.s6511155373996960695x17
noncomputable def ajc:=PySem.W.SL.s12411053484034534018x21
noncomputable def ad6:=PySem.W.SL.s14755015743595814543x17
noncomputable def ajd:=PySem.W.SL.s10220274742760427390x26
noncomputable def aje:=PySem.W.SL.s4860613602091757760x24
noncomputable def Hp:=PySem.W.SL.s5160863994218179198x17
noncomputable def ad7:=PySem.W.SL.s15660640913423913556x4
noncomputable def ik (s0:Str) (i1:Int) (i2:Int) (i3:Int) (a4:Nat) (a5:Nat):Obj:=⟨vY Y1,none,dF [vS s0 a4,vS s0 (a4+1),vS sa (a4+2),vI (i1) 0,vI 0 0,vI 0 0,vI 0 0,vI 0 0,vR a5,vF,vI (i2) 0,vR (a5+1),vN,vN,vN,vN,vI (i3) 0,vI (i1) 0,vS sa (a4+4)],#[]⟩
noncomputable def il (s0:Str) (a1:Nat) (a2:Nat) (a3:Nat):Obj:=⟨vY aja,none,dP,#[some (vR a1),some (vR 3),some (vR a2),none,some (vS s0 a3),none,some (vR 0)]⟩
noncomputable def j8 (s0:Str) (a1:Nat):Obj:=⟨vY oM,none,dS [vS s0 a1] 0,#[]⟩
noncomputable def OH (s0:Str) (a1:Nat):Obj:=⟨vN,none,dK [a1] s0 s0 0 (vN) (vN) (vN) 0,#[]⟩
noncomputable def bM (s0:Str) (s1:Str) (i2:Int) (i3:Int) (i4:Int) (a5:Nat) (a6:Nat) (a7:Nat):Obj:=⟨vY Y1,none,dF [vS s0 a5,vS s1 (a5+1),vS sa (a5+2),vI (i2) 0,vI (i3) 0,vI 0 0,vI 0 0,vI 3 0,vR a6,vT,vI 181 0,vR (a6+1),vN,vR (a6+2),vR (a6+3),vR (a6+4),vI (i4) 0,vI (i2) 0,vS sa a7],#[]⟩
noncomputable def OI (s0:Str) (s1:Str) (a2:Nat) (a3:Nat) (a4:Nat):Obj:=⟨vY Q7,none,dK [a2] s0 s0 3 (vN) (vS s1 a3) (vR a4) 0,#[]⟩
noncomputable def T7 (s0:Str) (s1:Str) (s2:Str) (s3:Str) (s4:Str) (s5:Str) (s6:Str) (a7:Nat):Obj:=⟨vY oM,none,dS [vS s0 a7,vS s1 (a7+1),vS s2 (a7+2),vS s3 (a7+3),vS s4 (a7+4),vS s5 (a7+5),vS s6 (a7+6)] 0,#[]⟩
noncomputable def bR (s0:Str) (s1:Str) (a2:Nat) (a3:Nat):Obj:=⟨vN,none,dK [a2,a3] s0 s1 0 (vN) (vN) (vN) 0,#[]⟩
noncomputable def cm (s0:Str) (s1:Str) (s2:Str) (a3:Nat) (a4:Nat) (a5:Nat) (a6:Nat):Obj:=⟨vY Q7,none,dK [a3,a4] s0 s1 3 (vN) (vS s2 a5) (vR a6) 0,#[]⟩
noncomputable def Zi (s0:Str) (s1:Str) (s2:Str) (s3:Str) (s4:Str) (s5:Str) (s6:Str) (s7:Str) (a8:Nat):Obj:=⟨vY oM,none,dS [vS s0 a8,vS s1 (a8+1),vS s2 (a8+2),vS s3 (a8+3),vS s4 (a8+4),vS s5 (a8+5),vS s6 (a8+6),vS s7 (a8+7)] 0,#[]⟩
noncomputable def kJ (s0:Str) (s1:Str) (s2:Str) (a3:Nat) (a4:Nat) (a5:Nat) (a6:Nat):Obj:=⟨vY Q7,none,dK [a3,a4] s0 s1 3 (vR a5) (vS s2 a6) (vR (a5+6)) 0,#[]⟩
noncomputable def jy (s0:Str) (s1:Str) (s2:Str) (a3:Nat):Obj:=⟨vY oM,none,dS [vS s0 a3,vS s1 (a3+1),vS s2 (a3+2)] 0,#[]⟩
noncomputable def rJ (s0:Str) (s1:Str) (s2:Str) (s3:Str) (s4:Str) (s5:Str) (a6:Nat):Obj:=⟨vY oM,none,dS [vS s0 a6,vS s1 (a6+1),vS s2 (a6+2),vS s3 (a6+3),vS s4 (a6+4),vS s5 (a6+5)] 0,#[]⟩
noncomputable def aaX (s0:Str) (a1:Nat) (a2:Nat):Obj:=⟨vY tR,none,dC s0 [vY pP] [vR (a1+1),vY pP] a1 s0 true [] false (none) false,#[none,none,some (vS s0 a2),some (vS s0 (a2+8)),some (vB pO),some (vT)]⟩
noncomputable def Jm (a0:Nat) (a1:Nat):Obj:=⟨vY ad6,none,dF [vS Ka a0,vR a1,vB ajb,vB ajc],#[]⟩
noncomputable def FY (a0:Nat) (a1:Nat):Obj:=⟨vY ad6,none,dF [vS Gl a0,vR a1,vB ajd,vN],#[]⟩
noncomputable def cV (a0:Nat):Obj:=⟨vY y70,none,dF [vR a0,vR a0,vR a0],#[]⟩
noncomputable def cW (a0:Nat):Obj:=⟨vY ad5,none,dF [vB aje,vR a0],#[]⟩
noncomputable def tH (H:Array Nat->Int) (s0:Str) (s1:Str) (i2:Int) (a3:Nat) (a4:Nat) (a5:Nat):Obj:=⟨vY kN,none,dD [eS H jD a3 (vS s0 a4),eS H vU (a3+2) (vS s1 (a3+1)),eS H jE (a3+4) (vI (i2) (a3+3)),eS H gF (a3+5) (vR a5)] 4,#[]⟩
noncomputable def Ar (H:Array Nat->Int) (s0:Str) (s1:Str) (s2:Str) (i3:Int) (a4:Nat) (a5:Nat) (a6:Nat) (a7:Nat) (a8:Nat) (a9:Nat) (a10:Nat):Obj:=⟨vY kN,none,dD [eS H jD a4 (vS s0 a5),eS H jE (a4+4) (vI (i3) (a4+3)),eS H s1 a6 (vR a7),eS H s2 a8 (vR a9),eS H n2 (a8+1) (vN)] a10,#[]⟩
noncomputable def qn (a0:Nat):Obj:=⟨vY oM,none,dS [vR a0] 0,#[]⟩
noncomputable def T4 (H:Array Nat->Int) (s0:Str) (s1:Str) (s2:Str) (i3:Int) (a4:Nat) (a5:Nat) (a6:Nat) (a7:Nat) (a8:Nat) (a9:Nat):Obj:=⟨vY kN,none,dD [eS H jD a4 (vS s0 a5),eS H vU (a4+2) (vS s1 (a4+1)),eS H jE (a4+4) (vI (i3) (a4+3)),eS H aM a6 (vR a7),eS H s2 a8 (vR (a7+7)),eS H gF a9 (vR (a7+8))] 6,#[]⟩
noncomputable def T5 (i0:Int) (i1:Int) (a2:Nat):Obj:=⟨vN,none,dF [vI (i0) 0,vI 4 0,vR a2,vI (i1) 0,vI 4 0,vR (a2+7)],#[]⟩
noncomputable def fB (s0:Str) (s1:Str) (a2:Nat):Obj:=⟨vY oM,none,dS [vS s0 a2,vS s1 (a2+1)] 0,#[]⟩
noncomputable def nM (s0:Str) (s1:Str) (s2:Str) (s3:Str) (s4:Str) (a5:Nat):Obj:=⟨vY oM,none,dS [vS s0 a5,vS s1 (a5+1),vS s2 (a5+2),vS s3 (a5+3),vS s4 (a5+4)] 0,#[]⟩
noncomputable def aaY (H:Array Nat->Int) (s0:Str) (i1:Int) (a2:Nat) (a3:Nat) (a4:Nat) (a5:Nat):Obj:=⟨vY kN,none,dD [eS H jD a2 (vS s0 a3),eS H jE (a2+4) (vI (i1) (a2+3)),eS H aM (a2+16) (vR a4),eS H lz a5 (vR (a4+7)),eS H gF (a5+6) (vR (a4+8)),eS H n2 (a5+7) (vN)] 2,#[]⟩
noncomputable def aaZ (s0:Str) (a1:Nat) (a2:Nat) (a3:Nat):Obj:=⟨vY tR,none,dC s0 [vR 67] [vR (a1+1),vR 67,vY M4,vY Y2,vY pP] a1 s0 true [] false (none) false,#[some (vR a2),none,some (vS s0 a3),some (vS s0 (a3+8)),some (vB Hp),some (vT)]⟩
noncomputable def x9 (H:Array Nat->Int) (s0:Str) (s1:Str) (i2:Int) (a3:Nat) (a4:Nat) (a5:Nat) (a6:Nat) (a7:Nat):Obj:=⟨vY kN,none,dD [eS H jD a3 (vS s0 a4),eS H vU (a3+2) (vS s1 (a3+1)),eS H jE (a3+4) (vI (i2) (a3+3)),eS H aM a5 (vR a6),eS H gF a7 (vR (a6+1))] 5,#[]⟩
noncomputable def nN (i0:Int) (a1:Nat):Obj:=⟨vN,none,dF [vI (i0) 0,vI 4 0,vR a1],#[]⟩
noncomputable def aa0 (H:Array Nat->Int) (s0:Str) (i1:Int) (a2:Nat) (a3:Nat) (a4:Nat) (a5:Nat) (a6:Nat):Obj:=⟨vY kN,none,dD [eS H jD a2 (vS s0 a3),eS H jE (a2+4) (vI (i1) (a2+3)),eS H aM a4 (vR a5),eS H gF a6 (vR (a5+1)),eS H Ka (a6+2) (vR (a5+4)),eS H Gl (a6+4) (vR (a5+5)),eS H n2 (a6+5) (vN)] 4,#[]⟩
noncomputable def FZ (H:Array Nat->Int) (s0:Str) (s1:Str) (i2:Int) (a3:Nat) (a4:Nat) (a5:Nat) (a6:Nat):Obj:=⟨vY kN,none,dD [eS H jD a3 (vS eU 321),eS H vU (a3+2) (vS s0 (a3+1)),eS H jE (a3+4) (vI (i2) (a3+3)),eS H Zm (a3+6) (vS s1 (a3+5)),eS H aM a4 (vR a5),eS H gF a6 (vR (a5+1))] 6,#[]⟩
noncomputable def ip (s0:Str) (s1:Str) (s2:Str) (s3:Str) (a4:Nat):Obj:=⟨vY oM,none,dS [vS s0 a4,vS s1 (a4+1),vS s2 (a4+2),vS s3 (a4+3)] 0,#[]⟩
noncomputable def F0 (H:Array Nat->Int) (s0:Str) (i1:Int) (a2:Nat) (a3:Nat) (a4:Nat) (a5:Nat):Obj:=⟨vY kN,none,dD [eS H jD a2 (vS eU 321),eS H jE (a2+4) (vI (i1) (a2+3)),eS H Zm (a2+6) (vS s0 (a2+5)),eS H aM a3 (vR a4),eS H gF a5 (vR (a4+1)),eS H n2 (a5+1) (vN)] 2,#[]⟩
noncomputable def gM (s0:Str) (a1:Nat) (a2:Nat) (a3:Nat) (a4:Nat):Obj:=⟨vY tR,none,dC s0 [vR a1] [vR (a2+1),vR a1,vY pP] a2 s0 true [] false (none) false,#[some (vR a3),none,some (vS s0 a4),some (vS s0 (a4+8)),some (vB pO),some (vT)]⟩
noncomputable def nP (H:Array Nat->Int) (s0:Str) (s1:Str) (i2:Int) (a3:Nat) (a4:Nat):Obj:=⟨vY kN,none,dD [eS H jD a3 (vS eU 321),eS H vU (a3+2) (vS s0 (a3+1)),eS H jE (a3+4) (vI (i2) (a3+3)),eS H Zm (a3+6) (vS s1 (a3+5)),eS H gF (a3+7) (vR a4)] 5,#[]⟩
noncomputable def nQ (H:Array Nat->Int) (s0:Str) (i1:Int) (a2:Nat) (a3:Nat):Obj:=⟨vY kN,none,dD [eS H jD a2 (vS eU 321),eS H jE (a2+4) (vI (i1) (a2+3)),eS H Zm (a2+6) (vS s0 (a2+5)),eS H gF (a2+7) (vR a3),eS H n2 (a2+8) (vN)] 2,#[]⟩
noncomputable def vC (H:Array Nat->Int) (s0:Str) (i1:Int) (a2:Nat) (a3:Nat) (a4:Nat):Obj:=⟨vY kN,none,dD [eS H jD a2 (vS s0 a3),eS H jE (a2+4) (vI (i1) (a2+3)),eS H gF (a2+5) (vR a4),eS H n2 (a2+6) (vN)] 2,#[]⟩
noncomputable def Jn (s0:Str) (a1:Nat) (a2:Nat) (a3:Nat) (a4:Nat) (a5:Nat):Obj:=⟨vY tR,none,dC s0 [vR a1] [vR (a2+1),vR a1,vR a3,vY pP] a2 s0 true [] false (none) false,#[some (vR a4),none,some (vS s0 a5),some (vS s0 (a5+8)),some (vB pO),some (vT)]⟩
noncomputable def aa1 (s0:Str) (a1:Nat) (a2:Nat):Obj:=⟨vY tR,none,dC s0 [vR 469] [vR (a1+9),vR 469,vR 449,vR 427,vY pP] (a1+8) s0 true [] false (none) false,#[some (vR a1),none,some (vS s0 a2),some (vS s0 (a2+8)),some (vB pO),some (vT)]⟩
noncomputable def aa2 (s0:Str) (a1:Nat) (a2:Nat):Obj:=⟨vY tR,none,dC s0 [vR 95] [vR (a1+9),vR 95,vR 67,vY M4,vY Y2,vY pP] (a1+8) s0 true [] false (none) false,#[some (vR a1),none,some (vS s0 a2),some (vS s0 (a2+8)),some (vB Hp),some (vT)]⟩
noncomputable def aa3 (s0:Str) (s1:Str) (a2:Nat) (a3:Nat) (a4:Nat) (a5:Nat) (a6:Nat):Obj:=⟨vY Q7,none,dL [a2,a3] aM s0 3 [(VC,a4)] (vN) (vN) (vN) (vS s1 a5) (vR (a6+6)) (vR a6) 0,#[]⟩
noncomputable def T6 (s0:Str) (s1:Str) (s2:Str) (s3:Str) (s4:Str) (s5:Str) (s6:Str) (s7:Str) (a8:Nat):Obj:=⟨vY oM,none,dS [vS ag a8,vS s0 (a8+1),vS s1 (a8+2),vS s2 (a8+3),vS s3 (a8+4),vS s4 (a8+5),vS s5 (a8+6),vS s6 (a8+7),vS s7 (a8+8)] 0,#[]⟩
noncomputable def aa4 (s0:Str) (i1:Int) (i2:Int) (i3:Int) (a4:Nat) (a5:Nat):Obj:=⟨vY Y1,none,dF [vS s0 a4,vS s0 (a4+1),vS sa (a4+2),vI (i1) 0,vI (i2) 0,vI 0 0,vI 0 0,vI 3 0,vR a5,vT,vI 181 0,vR (a5+1),vN,vN,vN,vR (a5+2),vI (i3) 0,vI (i1) 0,vS sa (a4+4)],#[]⟩
noncomputable def Qa (H:Array Nat->Int):List DictEntry:=[eS H n2 166 (vN),eS H n3 167 (vN),eS H n4 168 (vB ai9),eS H n5 169 (vN),eS H ahN 170 (vR 6),eS H ahO 171 (vR 4),eS H ahP 173 (vS sa 172),eS H ahQ 174 (vN),eS H Gi 193 (vR 21),eS H yr 259 (vR 53),eS H qp 279 (vR 67),eS H m9 320 (vR 95),eS H ph 353 (vR 114),eS H Gj 386 (vR 135),eS H J8 404 (vR 147),eS H J9 422 (vR 159),eS H Gm 453 (vR 179),eS H Kb 471 (vR 191),eS H Kc 489 (vR 203),eS H Kd 507 (vR 215),eS H Ke 525 (vR 227),eS H Kf 543 (vR 239),eS H Kg 561 (vR 251),eS H Kh 579 (vR 263),eS H Ki 597 (vR 275),eS H Kj 615 (vR 287),eS H Kk 633 (vR 299),eS H Kl 651 (vR 311),eS H Km 669 (vR 323),eS H Gn 700 (vR 342),eS H Gp 731 (vR 361),eS H Gq 762 (vR 380),eS H Gr 797 (vR 400),eS H tI 837 (vR 427),eS H vW 866 (vR 449),eS H vX 901 (vR 469),eS H yt 917 (vR 481),eS H Gs 946 (vR 501),eS H Ko 962 (vR 513),eS H Gu 995 (vR 533),eS H Gv 1024 (vR 553),eS H Kp 1040 (vR 565),eS H Gw 1077 (vR 585),eS H Kq 1093 (vR 597),eS H Kr 1109 (vR 609),eS H Ks 1125 (vR 621),eS H Kt 1141 (vR 633),eS H AB 1183 (vR 659),eS H Gy 1190 (vR 668),eS H kf 1284 (vR 730),eS H Ku 1302 (vR 744),eS H Gz 1341 (vR 763),eS H bq 2097 (vR 1281),eS H KR 2115 (vR 1293),eS H eW 2418 (vR 1521),eS H KY 2432 (vR 1524),eS H GI 2438 (vR 1531),eS H GJ 2444 (vR 1538),eS H GK 2455 (vR 1545),eS H KZ 2461 (vR 1550),eS H GL 2468 (vR 1557),eS H GN 2475 (vR 1564),eS H K0 2481 (vR 1569)]
noncomputable def yN:List Value:=[vI 1 0,vI 0 0,vR 20,vI 5 0,vI 0 0,vR 27,vI 43 0,vI 0 0,vR 63,vI 45 0,vI 0 0,vR 76,vI 68 0,vI 0 0,vR 103,vI 73 0,vI 0 0,vR 124,vI 81 0,vI 0 0,vR 143,vI 83 0,vI 0 0,vR 155,vI 85 0,vI 0 0,vR 167,vI 92 0,vI 0 0,vR 187,vI 94 0,vI 0 0,vR 199,vI 96 0,vI 0 0,vR 211,vI 98 0,vI 0 0,vR 223,vI 100 0,vI 0 0,vR 235,vI 102 0,vI 0 0,vR 247,vI 104 0,vI 0 0,vR 259,vI 106 0,vI 0 0,vR 271,vI 108 0,vI 0 0,vR 283,vI 110 0,vI 0 0,vR 295,vI 112 0,vI 0 0,vR 307,vI 114 0,vI 0 0,vR 319,vI 116 0,vI 0 0,vR 331,vI 123 0,vI 0 0,vR 350,vI 130 0,vI 0 0,vR 369,vI 137 0,vI 0 0,vR 388,vI 147 0,vI 0 0,vR 408,vI 155 0,vI 0 0,vR 437,vI 161 0,vI 0 0,vR 457,vI 170 0,vI 0 0,vR 477,vI 172 0,vI 0 0,vR 489,vI 178 0,vI 0 0,vR 509,vI 180 0,vI 0 0,vR 521,vI 188 0,vI 0 0,vR 541,vI 194 0,vI 0 0,vR 561,vI 196 0,vI 0 0,vR 573,vI 206 0,vI 0 0,vR 593,vI 208 0,vI 0 0,vR 605,vI 210 0,vI 0 0,vR 617,vI 212 0,vI 0 0,vR 629,vI 215 0,vI 0 0,vR 641,vI 229 0,vI 0 0,vR 667,vI 231 0,vI 0 0,vR 674,vI 293 0,vI 0 0,vR 740,vI 295 0,vI 0 0,vR 752,vI 304 0,vI 0 0,vR 774,vI 1146 0,vI 0 0,vR 1289,vI 1148 0,vI 0 0,vR 1302,vI 1536 0,vI 0 0,vR 1530,vI 1538 0,vI 0 0,vR 1537,vI 1540 0,vI 0 0,vR 1544,vI 1548 0,vI 0 0,vR 1549,vI 1583 0,vI 0 0,vR 1556,vI 1585 0,vI 0 0,vR 1563,vI 1605 0,vI 0 0,vR 1568]
noncomputable def o0:Obj:=⟨vY kN,none,dD [eS H n0 1 (vS n1 160),eS H n2 2 (vB "builtins.__doc__:str#opaque"),eS H n3 3 (vB y1),eS H n4 4 (vB y2),eS H n5 5 (vB PySem.W.SL.s11665532747177232413x24),eS H (S 0x49c0c7ea93730ebb2e9328440) 6 (vB PySem.W.SL.s15183661809925369436x15),eS H (S 0x26d972ce83e378040) 7 (vB PySem.W.SL.s13915890719876406383x10),eS H (S 780642) 8 (vB PySem.W.SL.s13459172003223722735x3),eS H (S 717090) 9 (vB PySem.W.SL.s10557405761357834076x3),eS H (S 837090) 10 (vB PySem.W.SL.s4233737765568776869x3),eS H (S 6351269826) 11 (vB PySem.W.SL.s2508922471967985374x5),eS H (S 735235) 12 (vB PySem.W.SL.s15574269061696679450x3),eS H (S 0x338e889ff4a44f763) 13 (vB PySem.W.SL.s6016482663378992977x10),eS H (S 5320956670799108) 14 (vB PySem.W.SL.s5596568736180474577x8),eS H (S 772004) 15 (vB PySem.W.SL.s2839554839881490554x3),eS H (S 55427239810628) 16 (vB PySem.W.SL.s725004073602090463x7),eS H (S 65669241892485) 17 (vB PySem.W.SL.s9436932552931045734x7),eS H (S 772101) 18 (vB PySem.W.SL.s2754603736356183583x3),eS H (S 569471752197) 19 (vB PySem.W.SL.s15185746759980889043x6),eS H (S 68741350) 20 (vB PySem.W.SL.s8192189862530294059x4),eS H (S 60815782) 21 (vB PySem.W.SL.s7038307821325472102x4),eS H (S 698742262343) 22 (vB PySem.W.SL.s5662562618415449548x6),eS H (S 65669241966216) 23 (vB PySem.W.SL.s15281542589158584767x7),eS H (S 66385157020968) 24 (vB PySem.W.SL.s17651547275483570877x7),eS H (S 65669241956617) 25 (vB PySem.W.SL.s4036449017235975746x7),eS H (S 65366281) 26 (vB PySem.W.SL.s8879979712987360175x4),eS H (S 827017) 27 (vB PySem.W.SL.s1801250619170735830x3),eS H Zm 28 (vB PySem.W.SL.s17659931425627118568x2),eS H (S 7296287210) 29 (vB PySem.W.SL.s6063217899685152688x5),eS H n30 30 (vB PySem.W.SL.s8008927332132565319x10),eS H (S 0x32fca2a03afc4efca) 31 (vB PySem.W.SL.s3544116645089599534x10),eS H (S 74086442) 32 (vB PySem.W.SL.s13761710972054866084x4),eS H (S 7112298498) 33 (vB PySem.W.SL.s12896375587409280029x5),eS H n34 34 (vB PySem.W.SL.s13014049009108672802x3),eS H (S 691512061517) 35 (vB PySem.W.SL.s13935586738268321596x6),eS H n36 36 (vB PySem.W.SL.s8200498257699607233x3),eS H (S 735246) 37 (vB PySem.W.SL.s14114244577727609259x3),eS H (S 76029583) 38 (vB PySem.W.SL.s1499430450269397089x4),eS H (S 7298840034) 39 (vB PySem.W.SL.s8755793994789770505x5),eS H (S 789968) 40 (vB PySem.W.SL.s15725212667919936108x3),eS H (S 643952) 41 (vB PySem.W.SL.s15791221867095933363x3),eS H (S 818769) 42 (vB PySem.W.SL.s81309575031448614x3),eS H (S 7290029937) 43 (vB PySem.W.SL.s8069831620301644142x5),eS H (S 74186387) 44 (vB PySem.W.SL.s10061844253413749634x4),eS H (S 5931185747) 45 (vB PySem.W.SL.s9496514870978017513x5),eS H (S 65669241966228) 46 (vB PySem.W.SL.s8899691144933366716x7),eS H (S 568628562516) 47 (vB PySem.W.SL.s15201008993051130160x6),eS H (S 727188) 48 (vB PySem.W.SL.s741896355592496720x3),eS H (S 75089175) 49 (vB PySem.W.SL.s17925004256654032244x4),eS H (S 62667311) 50 (vN),eS H (S 6370774751506694) 51 (.ellipsis),eS H (S 0xd411dfcecc0357c9323122f) 52 (.notImplemented),eS H (S 6020459751) 53 (vF),eS H (S 62732117) 54 (vT),eS H (S 68869699) 55 (vY PySem.W.SL.s11695548795398191787x4),eS H (S 0x354d7060c4473128e) 56 (vY PySem.W.SL.s4156966113859768872x10),eS H (S 0x9147465a3dd1603) 57 (vY PySem.W.SL.s9501651726347032510x9),eS H (S 7197234691) 58 (vY PySem.W.SL.s15722918466584999320x5),eS H (S 0xfbb677cca341b76524) 59 (vY PySem.W.SL.s591115383303110208x11),eS H (S 70242816529988) 60 (vY PySem.W.SL.s15721156781594690315x7),eS H (S 75836421) 61 (vY kN),eS H n62 62 (vY PySem.W.SL.s14340494229221121180x9),eS H (S 682780684295) 63 (vY PySem.W.SL.s13429844117177748173x6),eS H (S 7278583079) 64 (vY PySem.W.SL.s16463266125957815391x5),eS H (S 0x89561746137df67) 65 (vY PySem.W.SL.s4922535414793169389x9),eS H (S 6830244492271473) 66 (vY PySem.W.SL.s8101838861749082086x8),eS H n67 67 (vY PySem.W.SL.s7066276694103001551x3),eS H n68 68 (vY y61),eS H (S 752910) 69 (vY PySem.W.SL.s462964344163437139x3),eS H (S 698904978800) 70 (vY pP),eS H n71 71 (vY PySem.W.SL.s1438033511350832697x5),eS H (S 5240472669607571) 72 (vY PySem.W.SL.s14365286008749172514x8),eS H (S 790164) 73 (vY PySem.W.SL.s3642769012341782148x3),eS H (S 6006277428) 74 (vY PySem.W.SL.s4674234679698826739x5),eS H (S 0x5e646cecbd1a1324e834) 75 (vY PySem.W.SL.s16656946322747308186x12),eS H n76 76 (vY PySem.W.SL.s10796804682411823810x3),eS H (S 7112262804) 77 (vY y70),eS H (S 6014305429) 78 (vY oM),eS H (S 62686741) 79 (vY tR),eS H (S 753691) 80 (vY PySem.W.SL.s14339709457334898076x3),eS H (S 0x67989e69aeacc40) 81 (vT),eS H (S 0x2877231482b222ba1ce8e3) 82 (vY Y2),eS H (S 0x4ece5bf66637d31482b222ba1ce8e3) 83 (vY PySem.W.SL.s6585700554429387442x18),eS H (S 0x7fe3fd17bcab186) 84 (vY M4),eS H (S 0x2b79b5cf9f0b8233ec3668) 85 (vY PySem.W.SL.s7410770068591931388x13),eS H (S 0xdc47df434d14d4fcb14da495426c) 86 (vY PySem.W.SL.s11817881795495490833x17),eS H (S 0x3386c483afae771f4) 87 (vY PySem.W.SL.s15679963881808890155x10),eS H (S 0x5f9c0f44ae9e0eda30a160742) 88 (vY PySem.W.SL.s3871700062485845797x15),eS H (S 0xfef57e0c8e07fd185ecefa2) 89 (vY PySem.W.SL.s7689518266570723881x14),eS H (S 0xfef57e0c7fb34f22d0c9402) 90 (vY PySem.W.SL.s9001593270443806431x14),eS H (S 0x12e2c6f773478289c63) 91 (vY PySem.W.SL.s6882542574934516792x11),eS H (S 6300318534372902) 92 (vY PySem.W.SL.s14403400214490484960x8),eS H (S 0x12e2c6f77388673816a) 93 (vY PySem.W.SL.s14457978657717015782x11),eS H (S 0x12e2c6f7730fd6d5e2d) 94 (vY PySem.W.SL.s1753610191782819921x11),eS H (S 0x12e2c6f77420473126e) 95 (vY PySem.W.SL.s14119380538032626715x11),eS H (S 0x864ca35161c10ef) 96 (vY PySem.W.SL.s11437920000406562045x9),eS H (S 65628318067632) 97 (vY y89),eS H (S 0xfef57e0c7f6a6244beb1673) 98 (vY PySem.W.SL.s14816307405966870543x14),eS H (S 0x7150a9ccaa7b0f26bc73) 99 (vY PySem.W.SL.s8682627914449686677x12),eS H (S 0x4cd22c961ce4cd73ffdbdaa870e014) 100 (vY PySem.W.SL.s4428170145600203450x18),eS H (S 0x2877231305bcffb6f0e014) 101 (vY PySem.W.SL.s5991306692159431302x13),eS H (S 0x12e2c6f773fc8a6bdf4) 102 (vY PySem.W.SL.s16067994140765818257x11),eS H (S 0x12e2c6f772afae771f4) 103 (vY PySem.W.SL.s2327743974964600596x11),eS H (S 0x864ca35161c85f5) 104 (vY PySem.W.SL.s2804747833354056582x9),eS H (S 0x325cbd3e84af3ecf7) 105 (vY PySem.W.SL.s6070975301684473832x10),eS H (S 57009061119224) 106 (vY PySem.W.SL.s14270485950484850486x7),eS H (S 0x50abace1fbf9a743c1428bedd65d07) 107 (vY PySem.W.SL.s12041534306414923332x18),eS H (S 0x2a7e3facc4bdc799da78d0) 108 (vY PySem.W.SL.s2531307568338490285x13),eS H (S 0xd71f225a97d6bd7093ecfb93c67b) 109 (vY PySem.W.SL.s631175304937289666x17),eS H (S 0x626ed3cec6f07cfd15e3) 110 (vY PySem.W.SL.s5144983644357021410x12),eS H (S 0x46136649f520a354f96ab6fecbfe65) 111 (vY PySem.W.SL.s18039099521571816885x18),eS H (S 0x530d82b677dab698b9d91adc6) 112 (vY PySem.W.SL.s6011586214260557989x15),eS H (S 0x24e98f6d8a9a148cc51467) 113 (vY PySem.W.SL.s5430567037509283100x13),eS H (S 0x24e98f6d8a9a310673816a) 114 (vY PySem.W.SL.s8117915138073963741x13),eS H (S 0x12b53dd6ce88ee9ab776154a95c5b27a91744eb671) 115 (vY PySem.W.SL.s3423317712779056401x25),eS H (S 0x530d82b677daad91849a3ea73) 116 (vY PySem.W.SL.s2007317383269046180x15),eS H (S 0xdd795c913f9c7ab0f26bc73) 117 (vY PySem.W.SL.s17481586968713580700x14),eS H (S 0x24e98f6d8a9a3848a6bdf4) 118 (vY PySem.W.SL.s2450899226349176912x13),eS H (S 0xdd795c913f9c79a16a085d6) 119 (vY PySem.W.SL.s16626165730633575011x14),eS H (S 0x1067cdf7cbd2bea77b6) 120 (vY PySem.W.SL.s14288496050688921416x11),eS H (S 0x5f9c0f44a2671db8bc0615d03) 121 (vY PySem.W.SL.s5735081916595925998x15),eS H (S 0xd71f225a9ea6f3769af5276a0384) 122 (vY PySem.W.SL.s3865607918536308442x17),eS H (S 0x5f9c0f44b542fee75be95ba24) 123 (vY PySem.W.SL.s13337502604062700212x15),eS H (S 0x5f9c0f44b84c097383a1befe7) 124 (vY PySem.W.SL.s13114017843053701147x15),eS H (S 0xd71f225a8a4faeb1368411abefe7) 125 (vY PySem.W.SL.s17467278006356818441x17),eS H (S 0x23da85b9c1b288e92b0b9ed11ca) 126 (vY PySem.W.SL.s17722149559621369488x16),eS H (S 0xd71f225aa6bfab9eced48a9867aa) 127 (vY PySem.W.SL.s7855274175708717672x17),eS H (S 0x50abace1fe87e05b8d8fb3f927122f) 128 (vY PySem.W.SL.s13351283678309829046x18),eS H (S 0x5f9c0f44b542fedddf2c8c671) 129 (vY PySem.W.SL.s6668348653404991179x15),eS H (S 0x50abace1f9fc282a9c8fe5de015f51) 130 (vY PySem.W.SL.s12913350958174193794x18),eS H (S 0x7150a9ccb5381cbc13f5) 131 (vY PySem.W.SL.s16115879512475548326x12),eS H (S 0x23da85b9c3f91f96ad771aad1ca) 132 (vY PySem.W.SL.s15920661018069861047x16),eS H (S 0x4410d9deaca2b5e30bf07daaeb7eca12c00) 133 (vY PySem.W.SL.s10779130036587390575x21),eS H (S 0x325cbd3e8aa4ad1ca) 134 (vY PySem.W.SL.s7801419657504700863x10),eS H (S 6300318534845036) 135 (vY PySem.W.SL.s1688129525768580628x8),eS H (S 0x1e4060d4bb733490ebaa927c2e62d22e) 136 (vY PySem.W.SL.s1031832959479892071x19),eS H (S 0x1e4060d4bb6ea37cecc0357c9323122f) 137 (vY PySem.W.SL.s8991790508128307865x19),eS H (S 0x9925ea34fe98a06e20f811fca14ccb52e595f1) 138 (vY PySem.W.SL.s14539662485746970245x23),eS H (S 0xfef57e0c8e07fcfa0c2aa73) 139 (vY PySem.W.SL.s11643622729373238714x14),eS H (S 0xd71f225a94f01360052ef1a189d6) 140 (vY PySem.W.SL.s3386828779285465597x17),eS H (S 0x7150a9ccaa6a16a085d6) 141 (vY PySem.W.SL.s13042696260734638735x12),eS H (S 0x5f9c0f44afdca15e9a06d5f43) 142 (vY PySem.W.SL.s18239426817015966623x15),eS H (S 0x198651b37e2559fde1cd1e19fee75be95ba24) 143 (vY PySem.W.SL.s1270395311379034370x22),eS H (S 0x198651b37e2558e2caa178f03ee75be95ba24) 144 (vY PySem.W.SL.s10696252587037064777x22),eS H (S 0xb58244fc76d6aa4ab5f03ee75be95ba24) 145 (vY PySem.W.SL.s7852717498200857586x20),eS H (S 6300318534632693) 146 (vY PySem.W.SL.s6377248116197321094x8),eS H (S 0x50abace1f452069b55991216a085d6) 147 (vY PySem.W.SL.s3834378056692298002x18),eS H (S 0x50abace1f452069c3c866a16a085d6) 148 (vY PySem.W.SL.s17586630440231065808x18),eS H (S 0x4410d9dea6374a28d2a394a4b9216a085d6) 149 (vY PySem.W.SL.s15234114252648025395x21),eS H (S 0xf910f0143993fd17bcab186) 150 (vY PySem.W.SL.s8496462677383758984x14),eS H (S 0x23da85b9c5527ccb1a7482359c6) 151 (vY y89),eS H (S 65628318067242) 152 (vY y89),eS H (S 70547120) 153 (vB PySem.W.SL.s16789243406116112673x4),eS H (S 75892882) 154 (vB PySem.W.SL.s14400166428656793546x20),eS H (S 75893158) 155 (vB PySem.W.SL.s5857708277339239366x20),eS H (S 0x89625e824fa8244) 156 (vB "builtins.copyright#opaque"),eS H (S 66451067991908) 157 (vB "builtins.credits#opaque"),eS H (S 55484730747917) 158 (vB "builtins.license#opaque"),eS H (S 72380041) 159 (vB PySem.W.SL.s7804999707787243718x20)] 159,#[]⟩
noncomputable def o1:Obj:=⟨vY kN,none,dD [eS H n1 162 (vR 4),eS H J7 163 (vR 5)] 2,#[]⟩
noncomputable def o2:Obj:=⟨vN,none,dD [] 0,#[]⟩
noncomputable def o3:Obj:=⟨vY kN,none,dD (eS H n0 165 (vS J7 164)::(Qa H).take 8) 9,#[]⟩
noncomputable def o7:Obj:=⟨vY oM,none,dS [] 0,#[]⟩
noncomputable def o8:Obj:=⟨vN,none,dF [],#[]⟩
noncomputable def acg:Obj:=⟨vY kN,none,dD (eS H n0 165 (vS eU 321)::(Qa H).take 16) 17,#[]⟩
noncomputable def XC:Obj:=⟨vN,none,dF (yN.take 24),#[]⟩
noncomputable def iO:Obj:=⟨vY ad5,none,dF [vB PySem.W.SL.s10062305145149207511x16,vY tR],#[]⟩
noncomputable def o67:Obj:=⟨vY tR,none,dC qp [vY M4] [vR 67,vY M4,vY Y2,vY pP] 66 qp true [vR 95] false (none) false,#[some (vR 58),none,some (vS qp 260),some (vS qp 268),some (vB Hp),some (vT)]⟩
noncomputable def o71:=qn 67
noncomputable def o78:Obj:=⟨vY oM,none,dS [vN,vN,vN,vN,vN] 0,#[]⟩
noncomputable def o95:=aaZ m9 94 71 280
noncomputable def o98:Obj:=⟨vY oM,none,dS [vY pP] 0,#[]⟩
noncomputable def ahV:Obj:=⟨vY tR,none,dC ph [vY pP] [vR 114,vY pP] 113 ph true [vR 135,vR 147,vR 159] false (none) false,#[some (vR 98),none,some (vS ph 323),some (vS ph 331),some (vB pO),some (vT)]⟩
noncomputable def jG:=qn 114
noncomputable def ach:Obj:=⟨vY kN,none,dD (eS H n0 165 (vS cG 798)::(Qa H).take 33) 34,#[]⟩
noncomputable def XD:Obj:=⟨vN,none,dF (yN.take 75),#[]⟩
noncomputable def Ld:Obj:=⟨vY oM,none,dS [vN,vN,vN] 0,#[]⟩
noncomputable def aci:Obj:=⟨vY kN,none,dD (eS H n0 165 (vS lA 1142)::(Qa H).take 47) 48,#[]⟩
noncomputable def XE:Obj:=⟨vN,none,dF (yN.take 117),#[]⟩
noncomputable def aco:Obj:=⟨vY oM,none,dS [vN,vN] 0,#[]⟩
noncomputable def GQ:=qn 427
noncomputable def XJ:=qn 449
noncomputable def acp:=qn 469
noncomputable def acq:=qn 481
noncomputable def acj:Obj:=⟨vY kN,none,dD (eS H n0 165 (vS bo 1285)::(Qa H).take 52) 53,#[]⟩
noncomputable def XF:Obj:=⟨vN,none,dF (yN.take 132),#[]⟩
noncomputable def Le:Obj:=⟨vY tR,none,dC m9 [vR 67] [vR 95,vR 67,vY M4,vY Y2,vY pP] 94 m9 true [vR 744] false (none) false,#[some (vR 71),none,some (vS m9 280),some (vS m9 288),some (vB Hp),some (vT)]⟩
noncomputable def ahX:Obj:=⟨vY tR,none,dC kf [vY pP] [vR 730,vY pP] 729 kf true [] false (none) false,#[some (vR 669),none,some (vS kf 1191),some (vS kf 1199),some (vB pO),some (vT)]⟩
noncomputable def acr:=qn 95
noncomputable def ack:Obj:=⟨vY kN,none,dD (eS H n0 165 (vS bo 1285)::(Qa H).take 53) 54,#[]⟩
noncomputable def XG:Obj:=⟨vN,none,dF (yN.take 135),#[]⟩
noncomputable def R0:=gM bq 730 1280 768 1342
noncomputable def acm:Obj:=⟨vY kN,none,dD (eS H n0 165 (vS eF 2098)::(Qa H).take 54) 55,#[]⟩
noncomputable def XH:Obj:=⟨vN,none,dF (yN.take 138),#[]⟩
noncomputable def acn:Obj:=⟨vY kN,none,dD (eS H n0 165 (vS eF 2098)::(Qa H).take 55) 56,#[]⟩
noncomputable def XI:Obj:=⟨vN,none,dF (yN.take 141),#[]⟩
noncomputable def R3:Obj:=⟨vY oM,none,dS [vF] 0,#[]⟩
noncomputable def zJ:BT:=(nd (o0 H) (nd (o1 H) (nd ⟨vY kN,none,dD (eS H n0 165 (vS yC 2419)::(Qa H).take 63) 64,#[]⟩ (nd o7 (nd o7 (nd (T7 ag iu iM pj mB n6 n7 211) (nd (ik qp 43 181 265 262 61) (nd o8 (nd iO (nd o7 (lf (cm Bh Wb bo 49 34 1285 1022)) (lf o7)) (nd (cW 763) (lf (Zi KJ KL KN gG KO KP KQ GD 2085)) e)) (nd jG (nd o7 (lf o8) e) (nd (bR AZ VT 49 16) (lf (fB ag jF 2277)) e))) (nd (gM Kb 114 190 182 454) (nd (ik Km 114 181 657 654 317) (nd Ld (lf o7) e) (nd o7 (lf (nM ag jF aK bg pB 2178)) e)) (nd (jy ke bg aK 860) (nd o7 (lf ⟨vY kN,none,dD [eS H (S 89) 1960 (vI 2 1961),eS H (S 86) 1962 (vI 4 1963),eS H (S 54) 1964 (vI 8 1965)] 3,#[]⟩) e) (nd (bM A8 V2 517 1 1565 1558 954 1566) (lf (fB ag jF 2354)) e)))) (nd ⟨vY tR,none,dC m9 [vR 67] [vR 95,vR 67,vY M4,vY Y2,vY pP] 94 m9 true [vR 744,vR 1293] false (none) false,#[some (vR 71),none,some (vS m9 280),some (vS m9 288),some (vB Hp),some (vT)]⟩ (nd (gM J9 114 158 150 405) (nd (gM Kj 114 286 278 598) (nd Ld (lf o7) (lf (OH K0 61))) (nd (cm AJ VF bo 49 2 1285 798) (lf (bM aM WX 1151 2 2141 2135 1306 2142)) e)) (nd (bR aM Vj 28 0) (nd ⟨vY kN,none,dD [eS H jD 1198 (vS lA 1142),eS H vU 1200 (vS kf 1199),eS H jE 1202 (vI 231 1201),eS H aM 1210 (vR 682),eS H AD 1219 (vR 690),eS H sd 1228 (vR 698),eS H AE 1238 (vR 706),eS H AF 1245 (vR 713),eS H AG 1256 (vR 720),eS H AH 1264 (vR 727),eS H gF 1277 (vR 728)] 11,#[]⟩ (lf (bM BF WB 856 2 1860 1852 1178 1861)) e) (nd o8 (lf (cm Cg Xg eF 52 19 2098 1438)) e))) (nd (ik Ke 98 181 513 510 221) (nd (il eU 350 347 321) (nd o7 (lf (bR Bw Wq 49 48)) e) (nd o7 (lf (cm B7 W7 eF 52 10 2098 1374)) e)) (nd o7 (nd acr (lf o7) e) (nd (j8 ag 1606) (lf (bM Cr Xp 1514 1 2390 2385 1498 2391)) e))))) (nd o7 (nd o7 (nd (ik J8 81 181 392 389 141) (nd (ik Ki 106 181 585 582 269) (nd o7 (lf o8) (lf o7)) (nd (aa3 VD bo 49 0 771 1285 776) (lf (cW 1293)) e)) (nd (F0 H Vh 137 770 788 397 794) (nd (bM lz Vt 224 1 1172 1168 650 1173) (lf o7) e) (nd (cm A1 VV bo 49 18 1285 910) (lf (bR Ce Xe 52 17)) e))) (nd iO (nd (ip ag dU aK bg 687) (nd o7 (lf (nM ag aK iu dU bg 1722)) e) (nd (bM AR VM 423 1 1434 1429 842 1435) (lf (bR B5 W5 52 8)) e)) (nd o7 (nd (bM AG Vz 283 2 1254 1246 714 1255) (lf o8) e) (nd o7 (lf (bR Cp Xn 52 26)) e)))) (nd (cm aM UR eU 6 0 321 110) (nd (bM aM UY 88 4 444 437 170 445) (nd iO (nd o7 (lf (bM Bo Wi 627 1 1686 1682 1066 1687)) e) (nd o8 (lf o7) e)) (nd (cW 427) (nd o7 (lf o7) e) (nd o7 (lf o7) e))) (nd (gM Kf 114 238 230 526) (nd o7 (nd (cW 621) (lf (cm By Ws bo 49 50 1285 1134)) e) (nd (j8 ag 1473) (lf o8) e)) (nd o7 (nd (nN 297 759) (lf (bM BQ WQ 1096 3 2061 2052 1258 2062)) e) (nd (bR Bf V9 49 32) (lf (rJ KU KV GH KW tK KX 2408)) e)))))) (nd iO (nd (Zi ag gG (S 0x2c62d46842d3c9d0e) (S 61661833) vV (S 68813077) (S 643558) abI 226) (nd o71 (nd (gM Gj 114 134 119 354) (nd (gM Kh 114 262 254 562) (nd o7 (lf o7) (lf (OH GK 57))) (nd (il bo 774 770 1285) (lf o7) e)) (nd o7 (nd (bR aM Vs 43 0) (lf (T6 yx aK (S 0x864cb81e830d1ea) iu gN iN dU bg 1804)) e) (nd (bM A0 VU 470 2 1498 1491 898 1499) (lf o7) e))) (nd (ik Kc 94 181 477 474 197) (nd iO (nd (T7 ke bg pz aK fD mC dU 1067) (lf o8) e) (nd (bR AQ VL 49 8) (lf o7) e)) (nd o7 (nd (bR AF Vy 45 4) (lf o7) e) (nd (cm A9 V3 bo 49 26 1285 966) (lf o7) e)))) (nd (ik ph 68 181 328 325 101) (nd (ik Gm 85 181 428 425 165) (nd (ik Kk 110 181 621 618 293) (nd (jy bg n8 aK 1018) (lf (bR Bn Wh 49 40)) e) (nd o7 (lf (cm BV WY eF 52 2 2098 1318)) e)) (nd (bM Gx Vk 153 1 825 821 418 826) (nd o7 (lf (cm BG WC bo 49 58 1285 1190)) e) (nd (j8 ag 1535) (lf o7) e))) (nd iO (nd (jy bg aK dU 725) (nd o7 (lf (bM Bx Wr 707 2 1759 1751 1122 1760)) e) (nd o8 (lf o7) e)) (nd o7 (nd (vC H bo 293 1294 1285 742) (lf (bR BP WO 49 69)) e) (nd o7 (lf (cm Cs Xq eF 52 29 2098 1510)) e))))) (nd (FY 255 53) (nd o8 (nd iO (nd iO (nd (cW 533) (lf (j8 ag 1664)) (lf o8)) (nd (bM AI VE 318 2 1368 1363 786 1369) (lf (il eF 1302 1298 2098)) e)) (nd (T5 149 153 416) (nd o8 (lf (bR BE WA 49 56)) e) (nd o7 (lf (bM Cf Xf 1392 1 2305 2300 1426 2306)) e))) (nd (gM Kd 114 214 206 490) (nd (cV 342) (nd (cW 597) (lf o7) e) (nd (cm AS VN bo 49 10 1285 854) (lf (bM B6 W6 1229 1 2216 2211 1362 2217)) e)) (nd (cW 469) (nd (cm AH VA lA 45 6 1142 726) (lf (Zi ag eA aK bg gG (S 690919270068) gN iN 2013)) e) (nd o8 (lf (bR Cq Xo 52 27)) e)))) (nd jG (nd iO (nd (gM Kl 114 310 302 634) (nd (cW 565) (lf (cm Bp Wj bo 49 42 1285 1078)) e) (nd (ip ag (S 0x23ceeda2b8330af95c491bb380e) abT GA 1403) (lf o8) e)) (nd aco (nd o7 (lf o8) e) (nd (bR A7 V1 49 24) (lf o8) e))) (nd (ik Kg 102 181 549 546 245) (nd (bR aM Vg 25 1) (nd o7 (lf o7) e) (nd o7 (lf o8) e)) (nd (cW 501) (nd (bM aM VB 297 7 1325 1315 754 1326) (lf (cm BR WR bo 49 71 1285 1270)) e) (nd (bM Bg Wa 592 2 1629 1624 1010 1630) (lf o7) e))))))) (nd o7 (nd (OH Gi 0) (nd (cm aM UM nZ 2 0 194 34) (nd ⟨vY tR,none,dC qp [vY M4] [vR 67,vY M4,vY Y2,vY pP] 66 qp true [vR 95,vR 659] false (none) false,#[some (vR 58),none,some (vS qp 260),some (vS qp 268),some (vB Hp),some (vT)]⟩ (nd (bM aM UT 76 5 376 368 126 377) (nd (ik Kh 104 181 567 564 257) (nd (cW 513) (lf o7) (lf o7)) (nd ⟨vY ad7,none,(.cell (some (vR 1281))),#[]⟩ (lf (cW 1281)) e)) (nd (nN 140 396) (nd o7 (lf (bM BB Wv 741 2 1798 1792 1150 1799)) e) (nd o8 (lf (cm Cc Xc eF 52 15 2098 1410)) e))) (nd iO (nd (gM Km 114 322 314 652) (nd o7 (lf (bR Br Wl 49 44)) e) (nd o7 (lf (cm B1 W3 eF 52 6 2098 1346)) e)) (nd (cW 449) (nd o7 (lf o7) e) (nd (ip ag pA aK bg 1571) (lf (cm Cn Xl eF 52 24 2098 1474)) e)))) (nd iO (nd iO (nd iO (nd o7 (lf o7) e) (nd o7 (lf (j8 ag 2147)) e)) (nd o8 (nd (il lA 674 671 1142) (lf (jy ag aK iN 1866)) e) (nd (bM A4 VY 494 1 1529 1525 926 1530) (lf o7) e))) (nd (gM Ke 114 226 218 508) (nd o7 (nd (cW 609) (lf o8) e) (nd (bR AV VP 49 12) (lf o7) e)) (nd (cW 481) (nd o8 (lf o7) e) (nd (cm Bd V7 bo 49 30 1285 994) (lf (j8 ag 2396)) e))))) (nd (rJ n6 mB iM pj iu n7 246) (nd (bR aM UP 4 0) (nd (gM J8 114 146 138 387) (nd (gM Ki 114 274 266 580) (nd (nM bg n8 aK yw yu 987) (lf (bM Bk We 608 1 1658 1654 1038 1659)) (lf (OH GL 59))) (nd o8 (lf ⟨vY ad7,none,(.cell (some (vR 1521))),#[]⟩) e)) (nd o98 (nd (aaZ AB 658 636 1144) (lf o7) e) (nd o7 (lf o8) e))) (nd (ik Kd 96 181 495 492 209) (nd (cm aM Vc eU 23 1 321 338) (nd o7 (lf (cm Bu Wn bo 49 46 1285 1106)) e) (nd (jy ag mB pA 1440) (lf o8) e)) (nd (rJ ke bg AA pz aK mC 892) (nd (fB ag gN 1260) (lf (bM BM WL 1006 3 2007 1999 1230 2008)) e) (nd (bR Bb V5 49 28) (lf o7) e)))) (nd (Jm 347 114) (nd (gM Gm 114 178 162 423) (nd (ik Kl 112 181 639 636 305) (nd o7 (lf (j8 ag 1692)) e) (nd (bM AM VI 352 1 1397 1392 814 1398) (lf (bR BY W0 52 4)) e)) (nd o7 (nd ⟨vY oM,none,dS [vI 1 1220] 0,#[]⟩ (lf (bR BI WE 49 60)) e) (nd o7 (lf (bR Ck Xj 52 22)) e))) (nd iO (nd o7 (nd o7 (lf o7) e) (nd (cm AX VR bo 49 14 1285 882) (lf (bM Ca Xa 1269 1 2251 2247 1390 2252)) e)) (nd (jy kK bg aK 940) (nd o8 (lf (T7 ag iu aK (S 7197086276) pA Px dU 2067)) e) (nd o8 (lf (cW 1521)) e)))))) (nd (ik yr 5 181 201 198 25) (nd (kJ Gk UN nZ 2 1 36 194) (nd (T5 47 54 84) (nd iO (nd iO (nd o78 (lf (bR Bj Wd 49 36)) (lf o8)) (nd (fB ag nf 1358) (lf o7) e)) (nd (bR aM Vi 26 1) (nd o8 (lf (cm BC Ww bo 49 54 1285 1162)) e) (nd (j8 ag 1504) (lf o7) e))) (nd (gM Kc 114 202 194 472) (nd (ik Gn 116 181 675 672 329) (nd (cW 585) (lf (bM Bs Wm 646 1 1716 1711 1094 1717)) e) (nd o8 (lf o7) e)) (nd Ld (nd o8 (lf (bR BL WK 49 65)) e) (nd o7 (lf o7) e)))) (nd (jy ag aK bg 338) (nd o8 (nd (gM Kk 114 298 290 616) (nd (cW 553) (lf o8) e) (nd (bR AL VH 49 4) (lf o7) e)) (nd ⟨vY tR,none,dC tI [vY pP] [vR 427,vY pP] 426 tI true [vR 449,vR 481,vR 501,vR 513,vR 533,vR 553] false (none) false,#[some (vR 403),none,some (vS tI 800),some (vS tI 808),some (vB pO),some (vT)]⟩ (nd ⟨vY oM,none,dS [vI 0 1211] 0,#[]⟩ (lf o7) e) (nd (cm A5 VZ bo 49 22 1285 938) (lf (bR Cj Xi 52 21)) e))) (nd (ik Kf 100 181 531 528 233) (nd (cW 361) (nd o7 (lf (ip ag aK Py sd 1765)) e) (nd (bM AW VQ 449 1 1467 1462 870 1468) (lf (bR B9 W9 52 12)) e)) (nd Ld (nd o7 (lf o8) e) (nd o7 (lf o7) e))))) (nd iO (nd (bM lz UQ 54 1 309 304 86 310) (nd (ik J9 83 181 410 407 153) (nd (ik Kj 108 181 603 600 281) (nd o7 (lf (cm Bl Wf bo 49 38 1285 1050)) (lf (bM GN GN 1585 1 2473 2469 1558 2474))) (nd (j8 ag 1374) (lf o8) e)) (nd o7 (nd (bM Gy Gy 229 1 1188 1184 662 1189) (lf o8) e) (nd (bR A3 VX 49 20) (lf (jy ag jF pB 2311)) e))) (nd iO (nd (FZ H Gp Vd 123 708 724 358 728) (nd o7 (lf o7) e) (nd o7 (lf (Zi ag jF abU abV Py sd dU GA 2222)) e)) (nd o7 (nd (Jm 1278 730) (lf (cm BN WM bo 49 67 1285 1242)) e) (nd (bM Bc V6 576 1 1600 1596 982 1601) (lf o8) e)))) (nd (nN 76 131) (nd (ik Kb 92 181 459 456 185) (nd iO (nd o7 (lf o7) e) (nd (cm AN VJ bo 49 6 1285 826) (lf (bM BZ W2 1177 1 2172 2166 1334 2173)) e)) (nd o7 (nd ⟨vY oM,none,dS [vI 1 1229] 0,#[]⟩ (lf (bM BJ WG 926 2 1902 1892 1206 1903)) e) (nd o8 (lf (bM Cm Xk 1456 1 2348 2343 1462 2349)) e))) (nd (gM Kg 114 250 242 544) (nd (F0 H Vf 130 739 755 377 759) (nd (cW 633) (lf (bR BA Wu 49 52)) e) (nd o7 (lf (bM Cb Xb 1272 3 2271 2254 1398 2272)) e)) (nd o7 (nd (aaX Gz 762 1303) (lf o7) e) (nd (j8 ag 1635) (lf (OI GI yC 55 2419 1530)) e)))))))) (nd ⟨vY ad4,(some 3),dP,#[]⟩ (nd (ik abH 1 175 179 176 7) (nd (j8 Px 190) (nd (bR aM UM 2 0) (nd o7 (nd o7 (nd o7 (nd (gM Ko 427 512 504 947) (lf o8) (lf (bM GJ GJ 1538 0 2442 2439 1532 2443))) (nd iO (lf ⟨vY tR,none,dC bq [vR 730] [vR 1281,vR 730,vY pP] 1280 bq true [vR 1521] false (none) false,#[some (vR 768),none,some (vS bq 1342),some (vS bq 1350),some (vB pO),some (vT)]⟩) e)) (nd (FZ H Gr Vh 137 770 788 397 794) (nd (ik AB 215 181 1149 1146 639) (lf o7) e) (nd (cm AZ VT bo 49 16 1285 896) (lf (bR Cc Xc 52 15)) e))) (nd (cW 191) (nd o7 (nd o8 (lf (fB ag iN 1706)) e) (nd (bM AP VK 407 1 1416 1410 828 1417) (lf (bR B1 W3 52 6)) e)) (nd ⟨vY tR,none,dC vW [vR 427] [vR 449,vR 427,vY pP] 448 vW true [vR 469,vR 565,vR 585] false (none) false,#[some (vR 432),none,some (vS vW 838),some (vS vW 846),some (vB pO),some (vT)]⟩ (nd (bM AE Vx 263 2 1236 1230 700 1237) (lf o8) e) (nd o7 (lf (bR Cn Xl 52 24)) e)))) (nd (cW 95) (nd (cW 159) (nd (cW 287) (nd o8 (lf (bM Bm Wg 617 1 1672 1668 1052 1673)) (lf (OI K0 yC 61 2419 1568))) (nd o8 (lf o7) e)) (nd (kJ aM Vj cG 28 0 410 798) (nd ⟨vN,none,dF [vI 233 0,vI 4 0,vR 681,vI 251 0,vI 4 0,vR 689,vI 258 0,vI 4 0,vR 697,vI 263 0,vI 4 0,vR 705,vI 277 0,vI 4 0,vR 712,vI 283 0,vI 4 0,vR 719,vI 289 0,vI 4 0,vR 726],#[]⟩ (lf o7) e) (nd o7 (lf o8) e))) (nd o7 (nd o8 (nd (Jn Kr 481 608 427 600 1094) (lf (cm Bw Wq bo 49 48 1285 1120)) e) (nd (fB ag pA 1457) (lf o8) e)) (nd ⟨vY tR,none,dC yt [vR 427] [vR 481,vR 427,vY pP] 480 yt true [vR 609,vR 633] false (none) false,#[some (vR 472),none,some (vS yt 902),some (vS yt 910),some (vB pO),some (vT)]⟩ (nd (tH H bo Ku 293 1294 1285 742) (lf (bM BO WN 1046 3 2037 2024 1244 2038)) e) (nd (bR Bd V7 49 30) (lf o7) e))))) (nd (bM lz UO 37 1 243 237 44 244) (nd (rJ ag abJ abK abL abM abN 295) (nd o7 (nd o7 (nd (bM aM Vo 182 6 984 975 524 985) (lf o7) (lf (j8 aca 2465))) (nd (qn 784) (lf iO) e)) (nd (cV 400) (nd (nM tJ kK iu Vr abO 1175) (lf (bM BD Wx 775 1 1828 1816 1164 1829)) e) (nd o8 (lf (cm Ce Xe eF 52 17 2098 1424)) e))) (nd o7 (nd (bR aM Vc 23 1) (nd (ik Kq 206 181 1083 1080 591) (lf (bR Bu Wn 49 46)) e) (nd o7 (lf (cm B5 W5 eF 52 8 2098 1360)) e)) (nd (bM aM Vm 163 7 889 879 460 890) (nd o7 (lf o7) e) (nd (j8 ag 1592) (lf (cm Cp Xn eF 52 26 2098 1488)) e)))) (nd (aa0 H eU 68 330 321 343 111 346) (nd (jy kK bg aK 447) (nd o7 (nd (ik Kp 194 181 1030 1027 559) (lf o7) e) (nd o7 (lf (fB ag dU 2161)) e)) (nd iO (nd (bM AD Vv 251 2 1217 1212 684 1218) (lf (ip ag gG eA bg 1885)) e) (nd (bM A6 V0 500 2 1546 1539 940 1547) (lf (ip ag yB jF pB 2336)) e))) (nd (cW 239) (nd (ik Gq 130 181 737 734 367) (nd iO (lf o8) e) (nd (bR AX VR 49 14) (lf o7) e)) (nd (bM aM Vn 174 4 937 930 492 938) (nd (il bo 752 749 1285) (lf o7) e) (nd (cm Bf V9 bo 49 32 1285 1008) (lf (Jn eW 1281 1520 730 1296 2116)) e)))))) (nd o7 (nd (bR Gk UN 2 1) (nd (T4 H nZ m9 lz 45 287 194 303 85 311 317) (nd (cW 135) (nd (cW 263) (nd (ik Gu 180 181 968 965 519) (lf (fB ag fD 1649)) (lf (OI GK yC 57 2419 1544))) (nd (j8 VC 1357) (lf (ik KR 1146 181 2105 2102 1287)) e)) (nd (rJ ag dU Az aK bg fD 780) (nd (cm aM Vs lA 43 0 1142 648) (lf (bR BC Ww 49 54)) e) (nd o7 (lf (bM Cd Xd 1360 1 2288 2282 1412 2289)) e))) (nd o7 (nd o7 (nd (Jn Gw 449 584 427 568 1041) (lf o7) e) (nd (cm AQ VL bo 49 8 1285 840) (lf (bM B3 W4 1195 1 2196 2186 1348 2197)) e)) (nd (ik vX 161 181 872 869 455) (nd (cm AF Vy lA 45 4 1142 712) (lf (T6 BU aK eA gN ab2 iN yz GC 1987)) e) (nd o8 (lf (bM Co Xm 1479 1 2364 2359 1476 2365)) e)))) (nd o7 (nd Ld (nd o7 (nd (gM Gv 427 552 536 996) (lf (cm Bn Wh bo 49 40 1285 1064)) e) (nd (j8 ag 1388) (lf o8) e)) (nd (fB bg aK 828) (nd (bM aM Vu 233 2 1208 1203 676 1209) (lf o8) e) (nd (bR A5 VZ 49 22) (lf (fB ag jF 2328)) e))) (nd o7 (nd (gM Gp 114 360 345 701) (nd (ik Ks 210 181 1115 1112 615) (lf o7) e) (nd o7 (lf (j8 ag 2243)) e)) (nd (ik Gs 172 181 923 920 487) (nd (cV 744) (lf (cm BP WO bo 49 69 1285 1256)) e) (nd (bM Be V8 586 1 1614 1610 996 1615) (lf o8) e))))) (nd (cW 53) (nd o7 (nd o7 (nd o7 (nd iO (lf (bR Bl Wf 49 38)) (lf o7)) (nd o7 (lf (qn 1299)) e)) (nd (il cG 408 405 798) (nd o7 (lf (cm BE WA bo 49 56 1285 1176)) e) (nd (ip ag yx aK bg 1518) (lf o7) e))) (nd (cW 215) (nd jG (nd iO (lf (bM Bv Wo 680 2 1738 1730 1108 1739)) e) (nd o8 (lf o7) e)) (nd iO (nd ⟨vY kN,none,dD [eS H jD 1198 (vS lA 1142),eS H jE 1202 (vI 231 1201),eS H aM 1210 (vR 682),eS H AD 1219 (vR 690),eS H sd 1228 (vR 698),eS H AE 1238 (vR 706),eS H AF 1245 (vR 713),eS H AG 1256 (vR 720),eS H AH 1264 (vR 727),eS H gF 1277 (vR 728),eS H Ka 1279 (vR 731),eS H Gl 1281 (vR 732),eS H n2 1282 (vN)] 4,#[]⟩ (lf (bR BN WM 49 67)) e) (nd o7 (lf (kJ Cq Xo eF 52 27 1490 2098)) e)))) (nd (FZ H Gj US 73 361 378 132 383) (nd o7 (nd (cW 311) (nd iO (lf o8) e) (nd (bR AN VJ 49 6) (lf o7) e)) (nd o8 (nd (bM sd Vw 258 2 1226 1221 692 1227) (lf o7) e) (nd (cm A7 V1 bo 49 24 1285 952) (lf o7) e))) (nd o7 (nd (cm aM Vg eU 25 1 321 376) (nd (Jn Kt 481 632 427 624 1126) (lf (ip ag aK dU iN 1785)) e) (nd (bM AY VS 464 1 1481 1477 884 1482) (lf o7) e)) (nd iO (nd (rJ mB iM pj pA KG KC 1328) (lf o8) e) (nd o7 (lf (OH GI 55)) e))))))) (nd (ik abH 1 181 185 182 11) (nd (OI Gi J7 0 164 20) (nd o7 (nd (cV 67) (nd (ip bg iu aK dU 379) (nd o7 (nd iO (lf (bM Bi Wc 600 1 1643 1639 1024 1644)) (lf (nM fm hA vZ iw se 2448))) (nd ⟨vN,none,dF [vI 306 0,vI 4 0,vR 782,vI 318 0,vI 4 0,vR 791,vI 328 0,vI 4 0,vR 798,vI 336 0,vI 4 0,vR 805,vI 343 0,vI 4 0,vR 812,vI 352 0,vI 4 0,vR 819,vI 399 0,vI 4 0,vR 826,vI 407 0,vI 4 0,vR 833,vI 415 0,vI 4 0,vR 840,vI 423 0,vI 4 0,vR 847,vI 430 0,vI 4 0,vR 854,vI 438 0,vI 4 0,vR 861,vI 445 0,vI 4 0,vR 868,vI 449 0,vI 4 0,vR 875,vI 458 0,vI 4 0,vR 882,vI 464 0,vI 4 0,vR 889,vI 467 0,vI 4 0,vR 896,vI 470 0,vI 4 0,vR 903,vI 479 0,vI 4 0,vR 910,vI 482 0,vI 4 0,vR 917,vI 485 0,vI 4 0,vR 924,vI 494 0,vI 4 0,vR 931,vI 497 0,vI 4 0,vR 938,vI 500 0,vI 4 0,vR 945,vI 509 0,vI 4 0,vR 952,vI 517 0,vI 4 0,vR 959,vI 533 0,vI 4 0,vR 966,vI 547 0,vI 4 0,vR 973,vI 571 0,vI 4 0,vR 980,vI 576 0,vI 4 0,vR 987,vI 581 0,vI 4 0,vR 994,vI 586 0,vI 4 0,vR 1001,vI 589 0,vI 4 0,vR 1008,vI 592 0,vI 4 0,vR 1015,vI 597 0,vI 4 0,vR 1022,vI 600 0,vI 4 0,vR 1029,vI 603 0,vI 4 0,vR 1036,vI 608 0,vI 4 0,vR 1043,vI 613 0,vI 4 0,vR 1050,vI 617 0,vI 4 0,vR 1057,vI 622 0,vI 4 0,vR 1064,vI 627 0,vI 4 0,vR 1071,vI 630 0,vI 4 0,vR 1078,vI 636 0,vI 4 0,vR 1085,vI 642 0,vI 4 0,vR 1092,vI 646 0,vI 4 0,vR 1099,vI 662 0,vI 4 0,vR 1106,vI 680 0,vI 4 0,vR 1113,vI 695 0,vI 4 0,vR 1120,vI 707 0,vI 4 0,vR 1127,vI 718 0,vI 4 0,vR 1134,vI 727 0,vI 4 0,vR 1141,vI 734 0,vI 4 0,vR 1148,vI 741 0,vI 4 0,vR 1155,vI 752 0,vI 4 0,vR 1162,vI 775 0,vI 4 0,vR 1169,vI 812 0,vI 4 0,vR 1176,vI 856 0,vI 4 0,vR 1183,vI 889 0,vI 4 0,vR 1190,vI 900 0,vI 4 0,vR 1197,vI 914 0,vI 4 0,vR 1204,vI 926 0,vI 4 0,vR 1211,vI 945 0,vI 4 0,vR 1221,vI 984 0,vI 4 0,vR 1228,vI 1006 0,vI 4 0,vR 1235,vI 1019 0,vI 4 0,vR 1242,vI 1046 0,vI 4 0,vR 1249,vI 1078 0,vI 4 0,vR 1256,vI 1096 0,vI 4 0,vR 1263,vI 1117 0,vI 4 0,vR 1270,vI 1133 0,vI 4 0,vR 1277],#[]⟩ (lf iO) e)) (nd (il eU 388 385 321) (nd (rJ ag iu Vr tJ kK abO 1159) (lf o7) e) (nd o7 (lf o8) e))) (nd o7 (nd (cW 323) (nd (bM aM Vq 198 8 1064 1053 576 1065) (lf (cm Br Wl bo 49 44 1285 1092)) e) (nd (ip ag KG KC GA 1422) (lf o8) e)) (nd iO (nd (j8 ag 1242) (lf (bM BK WJ 945 3 1981 1970 1216 1982)) e) (nd (bR A9 V3 49 26) (lf o8) e)))) (nd o7 (nd o7 (nd o7 (nd (bM aM Vp 190 4 1015 1008 544 1016) (lf (j8 ag 1678)) e) (nd (bM AK VG 336 1 1382 1378 800 1383) (lf (bR BV WY 52 2)) e)) (nd o7 (nd o8 (lf (bR BG WC 49 58)) e) (nd o7 (lf (bM Ci Xh 1415 1 2322 2317 1440 2323)) e))) (nd (cW 227) (nd (bM aM Ve 126 4 722 715 352 723) (nd iO (lf o7) e) (nd (cm AV VP bo 49 12 1285 868) (lf (bM B8 W8 1263 1 2237 2233 1376 2238)) e)) (nd iO (nd (il bo 740 737 1285) (lf (rJ ag iu aK iN gN dU 2043)) e) (nd o8 (lf (bR Cs Xq 52 29)) e))))) (nd (aaX yr 52 196) (nd (kJ aM UP nZ 4 0 78 194) (nd (cW 147) (nd (cW 275) (nd (gM Gu 427 532 516 963) (lf o7) (lf (OI GL yC 59 2419 1556))) (nd o7 (lf ⟨vN,none,dF [vI 1151 0,vI 4 0,vR 1311,vI 1160 0,vI 4 0,vR 1318,vI 1163 0,vI 4 0,vR 1325,vI 1169 0,vI 4 0,vR 1332,vI 1177 0,vI 4 0,vR 1339,vI 1183 0,vI 4 0,vR 1346,vI 1195 0,vI 4 0,vR 1353,vI 1217 0,vI 4 0,vR 1360,vI 1229 0,vI 4 0,vR 1367,vI 1237 0,vI 4 0,vR 1374,vI 1263 0,vI 4 0,vR 1381,vI 1266 0,vI 4 0,vR 1388,vI 1269 0,vI 4 0,vR 1395,vI 1272 0,vI 4 0,vR 1403,vI 1355 0,vI 4 0,vR 1410,vI 1360 0,vI 4 0,vR 1417,vI 1378 0,vI 4 0,vR 1424,vI 1392 0,vI 4 0,vR 1431,vI 1397 0,vI 4 0,vR 1438,vI 1415 0,vI 4 0,vR 1445,vI 1429 0,vI 4 0,vR 1452,vI 1434 0,vI 4 0,vR 1460,vI 1456 0,vI 4 0,vR 1467,vI 1465 0,vI 4 0,vR 1474,vI 1479 0,vI 4 0,vR 1481,vI 1484 0,vI 4 0,vR 1488,vI 1489 0,vI 4 0,vR 1496,vI 1514 0,vI 4 0,vR 1503,vI 1528 0,vI 4 0,vR 1510,vI 1532 0,vI 4 0,vR 1517],#[]⟩) e)) (nd (T4 H cG tI Gx 147 807 798 820 417 827 830) (nd (cW 659) (lf ⟨vY oM,none,dS [vS ag 1834,vS fD 1835,vS Wy 1836,vS eA 1837,vS aK 1838,vS KH 1839,vS KI 1840,vS Wz 1841,vS GC 1842,vS yy 1843,vS bg 1844,vS gG 1845,vS yz 1846,vS yA 1847,vS gN 1848] 0,#[]⟩) e) (nd (bM A2 VW 482 1 1512 1508 912 1513) (lf o7) e))) (nd o7 (nd (F0 H Vb 116 677 693 339 697) (nd (aa1 Kq 588 1078) (lf o8) e) (nd (bR AS VN 49 10) (lf o7) e)) (nd ⟨vY tR,none,dC vX [vR 449] [vR 469,vR 449,vR 427,vY pP] 468 vX true [vR 597,vR 621] false (none) false,#[some (vR 452),none,some (vS vX 867),some (vS vX 875),some (vB pO),some (vT)]⟩ (nd (bR AH VA 45 6) (lf o7) e) (nd (cm Bb V5 bo 49 28 1285 980) (lf (ip ag yB jF pB 2378)) e)))) (nd (cV 114) (nd (cW 179) (nd o7 (nd (Jn Kp 449 564 427 556 1025) (lf (bR Bp Wj 49 42)) e) (nd o7 (lf (cm BY W0 eF 52 4 2098 1332)) e)) (nd (ik vW 155 181 843 840 435) (nd o8 (lf (cm BI WE bo 49 60 1285 1204)) e) (nd (jy ag aK bg 1552) (lf (kJ Ck Xj eF 52 22 1454 2098)) e))) (nd o7 (nd (ip ag dU aK bg 749) (nd (ik Kt 212 181 1131 1128 627) (lf (bM Bz Wt 727 2 1779 1772 1136 1780)) e) (nd o8 (lf ⟨vY oM,none,dS [vF,vF] 0,#[]⟩) e)) (nd (gM Gs 427 500 484 918) (nd o7 (lf (bR BR WR 49 71)) e) (nd o7 (lf o7) e)))))) (nd o7 (nd o8 (nd (il nZ 76 73 194) (nd o7 (nd o7 (nd o8 (lf (cm Bj Wd bo 49 36 1285 1036)) (lf (aa4 KZ 1548 6 2459 2456 1546))) (nd (bR aM VD 49 0) (lf (aa2 KR 1284 2100)) e)) (nd (kJ aM Vi eU 26 1 390 321) (nd o7 (lf o8) e) (nd (bR A1 VV 49 18) (lf (jy ag jF pB 2294)) e))) (nd (cW 203) (nd o7 (nd iO (lf o7) e) (nd o7 (lf (rJ ag jF aK bg n8 pB 2202)) e)) (nd o8 (nd o7 (lf (cm BL WK bo 49 65 1285 1228)) e) (nd (bM Ba V4 547 1 1586 1578 968 1587) (lf (fB ag jF 2370)) e)))) (nd (bR aM UR 6 0) (nd o7 (nd (cW 299) (nd iO (lf o7) e) (nd (cm AL VH bo 49 4 1285 812) (lf (bM BW WZ 1163 1 2155 2151 1320 2156)) e)) (nd (FY 833 427) (nd o8 (lf (bM BH WD 900 1 1879 1872 1192 1880)) e) (nd o8 (lf (cm Cj Xi eF 52 21 2098 1452)) e))) (nd o7 (nd iO (nd (aa1 Ks 612 1110) (lf (bR By Ws 49 50)) e) (nd o7 (lf (cm B9 W9 eF 52 12 2098 1388)) e)) (nd o8 (nd (x9 H bo Gz 295 1310 1285 1327 760 1334) (lf o7) e) (nd (j8 ag 1620) (lf (bM Ct Xr 1532 2 2405 2400 1512 2406)) e))))) (nd o7 (nd (nM abJ abK abN abL abM 312) (nd o7 (nd o7 (nd (ik Gv 188 181 1001 998 539) (lf o8) (lf o7)) (nd (bR AJ VF 49 2) (lf o7) e)) (nd (jy ag aK bg 815) (nd o98 (lf o7) e) (nd (cm A3 VX bo 49 20 1285 924) (lf (bR Cg Xg 52 19)) e))) (nd o7 (nd (nN 126 357) (nd (ik Kr 208 181 1099 1096 603) (lf (ip ag aK abU abV 1744)) e) (nd (bM AU VO 438 2 1451 1446 856 1452) (lf (bR B7 W7 52 10)) e)) (nd (ik yt 170 181 907 904 475) (nd (cV 730) (lf o8) e) (nd o7 (lf o7) e)))) (nd (il eU 124 121 321) (nd o7 (nd o7 (nd (ik Gw 196 181 1046 1043 571) (lf (bM Bq Wk 636 1 1700 1696 1080 1701)) e) (nd o8 (lf o7) e)) (nd (bM aM Vl 157 4 857 850 440 858) (nd o8 (lf ⟨vY kN,none,dD [eS H (S 17) 1905 (vS (SL [0]) 1906),eS H WH 1908 (vS (SL [7]) 1909),eS H (S 67) 1911 (vS (SL [8]) 1912),eS H (S 85) 1914 (vS WI 1915),eS H WI 1917 (vS WI 1918),eS H (S 79) 1920 (vS (SL [10]) 1921),eS H (S 87) 1923 (vS (SL [11]) 1924),eS H (S 71) 1926 (vS (SL [12]) 1927),eS H (S 83) 1929 (vS (SL [13]) 1930),eS H (S 70) 1932 (vS (SL [27]) 1933),eS H Pz 1935 (vS Pz 1936),eS H abX 1938 (vS abX 1939),eS H abY 1941 (vS abY 1942),eS H abZ 1944 (vS abZ 1945),eS H (S 47) 1947 (vS (SL [133]) 1948),eS H (S 64) 1950 (vS (SL [160]) 1951),eS H (S 45) 1953 (vS (SL [8232]) 1954),eS H ab0 1956 (vS ab1 1957)] 18,#[]⟩) e) (nd o7 (lf o7) e))) (nd (cW 251) (nd (cV 380) (nd iO (lf (cm BA Wu bo 49 52 1285 1148)) e) (nd (j8 ag 1487) (lf o7) e)) (nd (ik Ko 178 181 952 949 507) (nd (FY 1337 763) (lf (bM BS WT 1133 1 2082 2077 1272 2083)) e) (nd (bR Bh Wb 49 34) (lf o8) e))))))))) (nd ⟨vN,none,dD [eS H (S 0x3238fe512a30e8471bfd6e3322d3857dbc2ffafd0e9cfac8615) 276 (vI 67 0),eS H (S 0xe7a0b3fd4f2420471bfd6e3322d3857dbc2ffafd0e9cfac8615) 277 (vI 1 0)] 2,#[]⟩ (nd ⟨vY ad4,(some 0),dP,#[]⟩ (nd o8 (nd o8 (nd o7 (nd (il nZ 63 60 194) (nd (nM ag iu dU aK bg 371) (nd (nP H Kh U5 104 569 261) (nd (vC H cG 178 954 798 511) (lf o7) (lf (OH GJ 56))) (nd (qn 730) (lf ⟨vY kN,none,dD [eS H jD 1349 (vS bo 1285),eS H jE 1353 (vI 304 1352),eS H aM 1362 (vR 783),eS H AI 1370 (vR 792),eS H AJ 1377 (vR 799),eS H AK 1384 (vR 806),eS H AL 1391 (vR 813),eS H AM 1399 (vR 820),eS H AN 1409 (vR 827),eS H AP 1418 (vR 834),eS H AQ 1428 (vR 841),eS H AR 1436 (vR 848),eS H AS 1445 (vR 855),eS H AU 1453 (vR 862),eS H AV 1461 (vR 869),eS H AW 1469 (vR 876),eS H AX 1476 (vR 883),eS H AY 1483 (vR 890),eS H AZ 1490 (vR 897),eS H A0 1500 (vR 904),eS H A1 1507 (vR 911),eS H A2 1514 (vR 918),eS H A3 1524 (vR 925),eS H A4 1531 (vR 932),eS H A5 1538 (vR 939),eS H A6 1548 (vR 946),eS H A7 1557 (vR 953),eS H A8 1567 (vR 960),eS H A9 1577 (vR 967),eS H Ba 1588 (vR 974),eS H Bb 1595 (vR 981),eS H Bc 1602 (vR 988),eS H Bd 1609 (vR 995),eS H Be 1616 (vR 1002),eS H Bf 1623 (vR 1009),eS H Bg 1631 (vR 1016),eS H Bh 1638 (vR 1023),eS H Bi 1645 (vR 1030),eS H Bj 1653 (vR 1037),eS H Bk 1660 (vR 1044),eS H Bl 1667 (vR 1051),eS H Bm 1674 (vR 1058),eS H Bn 1681 (vR 1065),eS H Bo 1688 (vR 1072),eS H Bp 1695 (vR 1079),eS H Bq 1702 (vR 1086),eS H Br 1710 (vR 1093),eS H Bs 1718 (vR 1100),eS H Bu 1729 (vR 1107),eS H Bv 1740 (vR 1114),eS H Bw 1750 (vR 1121),eS H Bx 1761 (vR 1128),eS H By 1771 (vR 1135),eS H Bz 1781 (vR 1142),eS H BA 1791 (vR 1149),eS H BB 1800 (vR 1156),eS H BC 1815 (vR 1163),eS H BD 1830 (vR 1170),eS H BE 1851 (vR 1177),eS H BF 1862 (vR 1184),eS H BG 1871 (vR 1191),eS H BH 1881 (vR 1198),eS H BI 1891 (vR 1205),eS H BJ 1904 (vR 1212),eS H abP 1959 (vR 1213),eS H abQ 1969 (vR 1215),eS H BK 1983 (vR 1222),eS H BL 1998 (vR 1229),eS H BM 2009 (vR 1236),eS H BN 2023 (vR 1243),eS H BO 2039 (vR 1250),eS H BP 2051 (vR 1257),eS H BQ 2063 (vR 1264),eS H BR 2076 (vR 1271),eS H BS 2084 (vR 1278),eS H gF 2093 (vR 1279),eS H n2 2095 (vN)] 3,#[]⟩) e)) (nd iO (nd (T5 217 224 648) (lf (jy ag aK iN 1795)) e) (nd (bM AZ VT 467 1 1488 1484 891 1489) (lf o7) e))) (nd (cV 191) (nd (il eU 319 316 321) (nd o7 (lf o8) e) (nd (bR AP VK 49 7) (lf o7) e)) (nd (Ar H cG aM gF 155 845 798 859 446 863 447 2) (nd (bR AE Vx 45 3) (lf o7) e) (nd (cm A8 V2 bo 49 25 1285 959) (lf o7) e)))) (nd (cV 95) (nd (cV 159) (nd (cV 287) (nd o7 (lf (bR Bm Wg 49 39)) (lf (aa4 K0 1605 1 2479 2476 1565))) (nd o7 (lf (aa3 WX eF 52 1 1299 2098 1305)) e)) (nd (bM aM Vj 149 3 818 812 411 819) (nd o7 (lf (cm BF WB bo 49 57 1285 1183)) e) (nd (j8 ag 1528) (lf o7) e))) (nd (il eU 223 220 321) (nd o7 (nd (vC H cG 208 1101 798 607) (lf (bM Bw Wq 695 2 1748 1741 1115 1749)) e) (nd o8 (lf o7) e)) (nd (vC H cG 170 909 798 479) (nd iO (lf (bR BO WN 49 68)) e) (nd o7 (lf (cm Cr Xp eF 52 28 2098 1503)) e))))) (nd (bR lz UO 2 2) (nd o8 (nd (il eU 143 140 321) (nd (il eU 271 268 321) (nd (bR aM Vo 34 0) (lf (j8 ag 1657)) (lf o8)) (nd o7 (lf (qn 1281)) e)) (nd (gM Gr 114 399 383 763) (nd (cm lz Vt lA 43 1 1142 655) (lf (bR BD Wx 49 55)) e) (nd o7 (lf (bM Ce Xe 1378 1 2297 2291 1419 2298)) e))) (nd (nP H Kd U1 96 497 213) (nd o7 (nd o8 (lf o7) e) (nd (cm AR VM bo 49 9 1285 847) (lf (bM B5 W5 1217 1 2208 2199 1355 2209)) e)) (nd (bR aM Vm 30 0) (nd (cm AG Vz lA 45 5 1142 719) (lf (nM ag BU aK eA sd 2002)) e) (nd o8 (lf (bM Cp Xn 1484 1 2372 2367 1483 2373)) e)))) (nd (fB bg aK 344) (nd (kJ aM UY eU 10 1 169 321) (nd (nP H Kl U9 112 641 309) (nd o8 (lf (cm Bo Wi bo 49 41 1285 1071)) e) (nd (fB ag iN 1395) (lf o8) e)) (nd GQ (nd (bR AD Vv 45 1) (lf o8) e) (nd (bR A6 V0 49 23) (lf o8) e))) (nd (cV 239) (nd (nN 133 376) (nd acq (lf o7) e) (nd o7 (lf (j8 ag 2250)) e)) (nd (bR aM Vn 32 0) (nd (ik Gz 295 181 1308 1305 750) (lf (cm BQ WQ bo 49 70 1285 1263)) e) (nd (bM Bf V9 589 1 1621 1617 1003 1622) (lf ⟨vY kN,none,dD [eS H jD 2123 (vS eF 2098),eS H jE 2127 (vI 1148 2126),eS H WU 2134 (vR 1304),eS H aM 2143 (vR 1312),eS H BV 2150 (vR 1319),eS H BW 2157 (vR 1326),eS H BY 2165 (vR 1333),eS H BZ 2174 (vR 1340),eS H B1 2185 (vR 1347),eS H B3 2198 (vR 1354),eS H B5 2210 (vR 1361),eS H B6 2218 (vR 1368),eS H B7 2232 (vR 1375),eS H B8 2239 (vR 1382),eS H B9 2246 (vR 1389),eS H Ca 2253 (vR 1396),eS H Cb 2273 (vR 1404),eS H Cc 2281 (vR 1411),eS H Cd 2290 (vR 1418),eS H Ce 2299 (vR 1425),eS H Cf 2307 (vR 1432),eS H Cg 2316 (vR 1439),eS H Ci 2324 (vR 1446),eS H Cj 2332 (vR 1453),eS H Ck 2342 (vR 1461),eS H Cm 2350 (vR 1468),eS H Cn 2358 (vR 1475),eS H Co 2366 (vR 1482),eS H Cp 2374 (vR 1489),eS H Cq 2384 (vR 1497),eS H Cr 2392 (vR 1504),eS H Cs 2399 (vR 1511),eS H Ct 2407 (vR 1518),eS H gF 2414 (vR 1519),eS H n2 2416 (vN)] 3,#[]⟩) e)))))) (nd ⟨vY kN,none,dD [eS H jD 203 (vS nZ 194),eS H vU 205 (vS yr 204),eS H jE 207 (vI 5 206),eS H aM 220 (vR 35),eS H Gk 236 (vR 43),eS H lz 245 (vR 50),eS H gF 252 (vR 51)] 7,#[]⟩ (nd o7 (nd iO (nd (cV 135) (nd (cV 263) (nd (nN 182 529) (lf o8) (lf (bM GK GK 1540 2 2453 2445 1539 2454))) (nd (qn 771) (lf o8) e)) (nd o8 (nd (bM aM Vs 217 6 1165 1156 643 1166) (lf o7) e) (nd (cm A0 VU bo 49 17 1285 903) (lf (bR Cd Xd 52 16)) e))) (nd (il eU 199 196 321) (nd (FZ H Gn Vb 116 677 693 339 697) (nd (Ar H cG aM gF 196 1048 798 1066 582 1074 583 2) (lf (fB ag (S 5931185735) 1714)) e) (nd (bM AQ VL 415 1 1426 1419 835 1427) (lf (bR B3 W4 52 7)) e)) (nd (nN 163 465) (nd (bM AF Vy 277 1 1243 1239 707 1244) (lf o8) e) (nd o7 (lf (bR Co Xm 52 25)) e)))) (nd (il eU 103 100 321) (nd (il eU 167 164 321) (nd (il eU 295 292 321) (nd (Ar H cG aM gF 188 1003 798 1017 550 1021 551 2) (lf (bM Bn Wh 622 1 1679 1675 1059 1680)) e) (nd o8 (lf o7) e)) (nd (cm Gx Vk cG 28 1 798 423) (nd (bR aM Vu 45 0) (lf o7) e) (nd o7 (lf o8) e))) (nd (nP H Kf U3 100 533 237) (nd (F0 H Vd 123 708 724 358 728) (nd o8 (lf (cm Bx Wr bo 49 49 1285 1127)) e) (nd (fB ag pA 1465) (lf o8) e)) (nd (nN 174 497) (nd (aa2 Ku 735 1287) (lf (bM BP WO 1078 3 2049 2040 1251 2050)) e) (nd (bR Be V8 49 31) (lf o7) e))))) (nd (cV 53) (nd (fB ag (S 7197177869) 307) (nd (nP H J9 UW 83 412 157) (nd (nP H Kj U7 108 605 285) (nd GQ (lf o7) (lf (j8 pB 2472))) (nd (kJ AI VE bo 49 1 785 1285) (lf ⟨vY kN,none,dD [eS H GF 2128 (vS GF 2129),eS H WV 2130 (vS WW 2131)] 2,#[]⟩) e)) (nd (ik tI 147 181 805 802 406) (nd (j8 iN 1187) (lf (bM BE WA 812 2 1849 1831 1171 1850)) e) (nd o8 (lf (cm Cf Xf eF 52 18 2098 1431)) e))) (nd (cV 215) (nd (cW 342) (nd acq (lf (bR Bv Wo 49 47)) e) (nd o7 (lf (cm B6 W6 eF 52 9 2098 1367)) e)) (nd GQ (nd ⟨vY oM,none,dS [vS n6 1265,vS mB 1266,vS kK 1267,vS Kw 1268,vS iM 1269,vS pj 1270,vS iu 1271,vS n7 1272,vS Kx 1273,vS Kz 1274,vS nf 1275,vS KA 1276] 0,#[]⟩ (lf o7) e) (nd (j8 ag 1599) (lf (bM Cq Xo 1489 2 2382 2375 1491 2383)) e)))) (nd iO (nd (nP H Kb UZ 92 461 189) (nd (cV 311) (nd XJ (lf o7) e) (nd o7 (lf (jy ag jF pB 2169)) e)) (nd o7 (nd (bR sd Vw 45 2) (lf (T7 ag fD BU eA aK (S 6021374098) bg 1895)) e) (nd (bM A7 V1 509 1 1555 1549 947 1556) (lf (fB ag jF 2346)) e))) (nd (il eU 247 244 321) (nd (bM aM Vg 133 4 753 746 371 754) (nd (vC H cG 212 1133 798 631) (lf o8) e) (nd (bR AY VS 49 15) (lf ⟨vY oM,none,dS [vS ag 2257,vS GG 2258,vS KS 2259,vS jF 2260,vS pB 2261,vS ke 2262,vS mC 2263,vS aK 2264,vS bg 2265,vS (S 5776514558343445) 2266,vS Py 2267,vS abW 2268,vS pz 2269,vS (S 62575183) 2270] 0,#[]⟩) e)) (nd GQ (nd (cm aM VB bo 48 0 1285 759) (lf o7) e) (nd (cm Bg Wa bo 49 33 1285 1015) (lf o7) e))))))) (nd ⟨vN,none,dF (yN.take 162),#[]⟩ (nd (bM Gi Gi 1 1 191 187 15 192) (nd ⟨vY oM,none,dS [vI 4 221,vI 75 222] 0,#[]⟩ (nd (FY 273 67) (nd (cm aM UT eU 7 1 321 131) (nd (il eU 259 256 321) (nd GQ (lf (bR Bi Wc 49 35)) (lf o8)) (nd o7 (lf acr) e)) (nd (ik Gr 137 181 768 765 386) (nd o8 (lf (cm BB Wv bo 49 53 1285 1155)) e) (nd (ip ag yx aK bg 1494) (lf o7) e))) (nd (nP H Kc U0 94 479 201) (nd (cV 323) (nd (bR aM Vq 37 0) (lf (bM Br Wl 642 1 1708 1703 1087 1709)) e) (nd o8 (lf o7) e)) (nd XJ (nd o8 (lf (bR BK WJ 49 64)) e) (nd o7 (lf o7) e)))) (nd (x9 H eU ph 68 330 321 343 111 346) (nd (FZ H Gm UX 85 430 446 176 450) (nd (nP H Kk U8 110 623 297) (nd (bR aM Vp 35 0) (lf o8) e) (nd (bR AK VG 49 3) (lf o7) e)) (nd (j8 ag 824) (nd o7 (lf o7) e) (nd (cm A4 VY bo 49 21 1285 931) (lf (bR Ci Xh 52 20)) e))) (nd (cV 227) (nd (bR aM Ve 24 1) (nd acp (lf (nM ag aK iN gN dU 1754)) e) (nd (bM AV VP 445 1 1459 1454 863 1460) (lf (bR B8 W8 52 11)) e)) (nd GQ (nd (ik Ku 293 181 1292 1289 738) (lf o8) e) (nd o7 (lf o7) e))))) (nd ⟨vY kN,none,dD [eS H jD 203 (vS nZ 194),eS H jE 207 (vI 5 206),eS H aM 220 (vR 35),eS H Gk 236 (vR 43),eS H lz 245 (vR 50),eS H gF 252 (vR 51),eS H Ka 254 (vR 54),eS H Gl 256 (vR 55),eS H n2 257 (vN)] 4,#[]⟩ (nd (bM aM UP 47 6 301 292 79 302) (nd (cV 147) (nd (cV 275) (nd (Ar H cG aM gF 180 970 798 986 530 992 531 2) (lf (cm Bk We bo 49 37 1285 1043)) (lf (bM GL GL 1583 1 2466 2462 1551 2467))) (nd (fB ag abS 1366) (lf o7) e)) (nd iO (nd (cV 659) (lf o8) e) (nd (bR A2 VW 49 19) (lf (fB ag jF 2303)) e))) (nd (il eU 211 208 321) (nd (jy bg aK dU 694) (nd (vC H cG 206 1085 798 595) (lf o7) e) (nd o7 (lf (fB ag pB 2214)) e)) (nd (Ar H cG aM gF 161 874 798 891 466 898 467 2) (nd o7 (lf (cm BM WL bo 49 66 1285 1235)) e) (nd (bM Bb V5 571 1 1593 1589 975 1594) (lf o8) e)))) (nd (FY 349 114) (nd (cV 179) (nd (il eU 307 304 321) (nd (vC H cG 194 1032 798 563) (lf o7) e) (nd (cm AM VI bo 49 5 1285 819) (lf (bM BY W0 1169 1 2163 2158 1327 2164)) e)) (nd (nN 157 445) (nd o7 (lf (bM BI WE 914 2 1889 1882 1199 1890)) e) (nd o8 (lf (bM Ck Xj 1434 2 2340 2333 1455 2341)) e))) (nd (nP H Kg U4 102 551 249) (nd o8 (nd o8 (lf (bR Bz Wt 49 51)) e) (nd o7 (lf (cm Ca Xa eF 52 13 2098 1395)) e)) (nd (Ar H cG aM gF 172 925 798 939 498 943 499 2) (nd (T7 ag KC KG iM pj mB pA 1318) (lf o7) e) (nd (fB ag fD 1627) (lf ⟨vY y61,none,dS [vS WH 2421,vS Cu 2422,vS ab3 2423,vS ab4 2424,vS ab5 2425,vS ab6 2426,vS ab7 2427,vS Pz 2428,vS ab8 2429,vS ab9 2430,vS Cu 2431] 0,#[]⟩) e)))))) (nd (il nZ 27 24 194) (nd o7 (nd (ik m9 45 181 285 282 74) (nd (nP H J8 UU 81 394 145) (nd (nP H Ki U6 106 587 273) (nd o7 (lf (bM Bj Wd 603 2 1651 1646 1031 1652)) (lf (OH KZ 58))) (nd o7 (lf (vC H eF 1146 2107 2098 1291)) e)) (nd (bM aM Vi 140 6 786 777 391 787) (nd (j8 ag 1171) (lf o7) e) (nd o7 (lf o8) e))) (nd (cV 203) (nd (il eU 331 328 321) (nd acp (lf (cm Bs Wm bo 49 45 1285 1099)) e) (nd (fB ag GA 1432) (lf o8) e)) (nd o7 (nd (nM ag Kv vV tJ Vr 1249) (lf (bM BL WK 984 3 1996 1984 1223 1997)) e) (nd (bR Ba V4 49 27) (lf o8) e)))) (nd o7 (nd (ip ag aK bg kK 440) (nd (cV 299) (nd XJ (lf (j8 ag 1685)) e) (nd (bM AL VH 343 1 1389 1385 807 1390) (lf (bR BW WZ 52 3)) e)) (nd (Jm 831 427) (nd o7 (lf (bR BH WD 49 59)) e) (nd o7 (lf (bM Cj Xi 1429 1 2330 2325 1447 2331)) e))) (nd (il eU 235 232 321) (nd jG (nd (vC H cG 210 1117 798 619) (lf o7) e) (nd (cm AW VQ bo 49 13 1285 875) (lf (bM B9 W9 1266 1 2244 2240 1383 2245)) e)) (nd o7 (nd iO (lf (rJ ag iu aK eA gN iN 2055)) e) (nd o8 (lf (bR Ct Xr 52 30)) e))))) (nd (tH H nZ qp 43 267 194 65) (nd (cm lz UQ nZ 4 1 194 91) (nd (il eU 155 152 321) (nd (il eU 283 280 321) (nd (nN 190 549) (lf o7) (lf (OI GN yC 60 2419 1563))) (nd o7 (lf (fB ag nf 2139)) e)) (nd o8 (nd (OI Gy lA 44 1142 667) (lf (nM ag aK KH KI iN 1855)) e) (nd (bM A3 VX 485 2 1522 1515 919 1523) (lf o7) e))) (nd (nP H Ke U2 98 515 225) (nd o7 (nd o8 (lf o8) e) (nd (bR AU VO 49 11) (lf o7) e)) (nd o8 (nd (FY 1280 730) (lf o7) e) (nd (cm Bc V6 bo 49 29 1285 987) (lf (fB ag jF 2388)) e)))) (nd (ik Gj 73 181 359 356 122) (nd (il eU 187 184 321) (nd (nP H Km Va 114 659 321) (nd (nN 198 581) (lf (bR Bq Wk 49 43)) e) (nd o7 (lf (cm BZ W2 eF 52 5 2098 1339)) e)) (nd (bR aM Vl 29 0) (nd o7 (lf (cm BJ WG bo 49 61 1285 1211)) e) (nd (ip ag pA aK bg 1561) (lf (cm Cm Xk eF 52 23 2098 1467)) e))) (nd (cV 251) (nd (gM Gq 114 379 364 732) (nd o71 (lf (bM BA Wu 734 2 1789 1782 1143 1790)) e) (nd o8 (lf (kJ Cb Xb eF 52 14 1397 2098)) e)) (nd o8 (nd (Jm 1335 763) (lf (bR BS WT 49 72)) e) (nd o7 (lf o7) e)))))))) (nd ⟨vY kN,none,dD [] 0,#[]⟩ (nd (il J7 9 3 164) (nd o7 (nd (bM aM UM 7 7 218 208 29 219) (nd (Ar H nZ gF Gl 43 267 194 272 65 274 68 3) (nd (bR aM UT 7 1) (nd o8 (nd (cV 513) (lf (j8 ag 1642)) (lf (OI GJ yC 56 2419 1537))) (nd ⟨vY kN,none,dD [eS H jD 1349 (vS bo 1285),eS H vU 1351 (vS bq 1350),eS H jE 1353 (vI 304 1352),eS H aM 1362 (vR 783),eS H AI 1370 (vR 792),eS H AJ 1377 (vR 799),eS H AK 1384 (vR 806),eS H AL 1391 (vR 813),eS H AM 1399 (vR 820),eS H AN 1409 (vR 827),eS H AP 1418 (vR 834),eS H AQ 1428 (vR 841),eS H AR 1436 (vR 848),eS H AS 1445 (vR 855),eS H AU 1453 (vR 862),eS H AV 1461 (vR 869),eS H AW 1469 (vR 876),eS H AX 1476 (vR 883),eS H AY 1483 (vR 890),eS H AZ 1490 (vR 897),eS H A0 1500 (vR 904),eS H A1 1507 (vR 911),eS H A2 1514 (vR 918),eS H A3 1524 (vR 925),eS H A4 1531 (vR 932),eS H A5 1538 (vR 939),eS H A6 1548 (vR 946),eS H A7 1557 (vR 953),eS H A8 1567 (vR 960),eS H A9 1577 (vR 967),eS H Ba 1588 (vR 974),eS H Bb 1595 (vR 981),eS H Bc 1602 (vR 988),eS H Bd 1609 (vR 995),eS H Be 1616 (vR 1002),eS H Bf 1623 (vR 1009),eS H Bg 1631 (vR 1016),eS H Bh 1638 (vR 1023),eS H Bi 1645 (vR 1030),eS H Bj 1653 (vR 1037),eS H Bk 1660 (vR 1044),eS H Bl 1667 (vR 1051),eS H Bm 1674 (vR 1058),eS H Bn 1681 (vR 1065),eS H Bo 1688 (vR 1072),eS H Bp 1695 (vR 1079),eS H Bq 1702 (vR 1086),eS H Br 1710 (vR 1093),eS H Bs 1718 (vR 1100),eS H Bu 1729 (vR 1107),eS H Bv 1740 (vR 1114),eS H Bw 1750 (vR 1121),eS H Bx 1761 (vR 1128),eS H By 1771 (vR 1135),eS H Bz 1781 (vR 1142),eS H BA 1791 (vR 1149),eS H BB 1800 (vR 1156),eS H BC 1815 (vR 1163),eS H BD 1830 (vR 1170),eS H BE 1851 (vR 1177),eS H BF 1862 (vR 1184),eS H BG 1871 (vR 1191),eS H BH 1881 (vR 1198),eS H BI 1891 (vR 1205),eS H BJ 1904 (vR 1212),eS H abP 1959 (vR 1213),eS H abQ 1969 (vR 1215),eS H BK 1983 (vR 1222),eS H BL 1998 (vR 1229),eS H BM 2009 (vR 1236),eS H BN 2023 (vR 1243),eS H BO 2039 (vR 1250),eS H BP 2051 (vR 1257),eS H BQ 2063 (vR 1264),eS H BR 2076 (vR 1271),eS H BS 2084 (vR 1278),eS H gF 2093 (vR 1279),eS H abR 2094 (vR 771)] 78,#[]⟩ (lf (cV 1281)) e)) (nd o7 (nd (il lA 641 638 1142) (lf (bR BB Wv 49 53)) e) (nd o7 (lf (bM Cc Xc 1355 1 2279 2274 1405 2280)) e))) (nd jG (nd (nQ H Va 114 659 321) (nd (Zi ag ke mC pz dU aK bg fD 1056) (lf o7) e) (nd (cm AP VK bo 49 7 1285 833) (lf (bM B1 W3 1183 1 2183 2175 1341 2184)) e)) (nd (cV 449) (nd (kJ AE Vx lA 45 3 699 1142) (lf (Zi ag BU aK eA gN iN Px (S 62575172) 1973)) e) (nd o8 (lf (bM Cn Xl 1465 1 2356 2351 1469 2357)) e)))) (nd o98 (nd jG (nd jG (nd (ip ag aK bg n8 1011) (lf (cm Bm Wg bo 49 39 1285 1057)) e) (nd (j8 ag 1381) (lf o8) e)) (nd o7 (nd (ik kf 231 181 1196 1193 672) (lf o8) e) (nd (bR A4 VY 49 21) (lf (fB ag jF 2320)) e))) (nd (nQ H U2 98 515 225) (nd (ip ag dU aK bg 718) (nd (cV 609) (lf o7) e) (nd o7 (lf (j8 ag 2236)) e)) (nd (cV 481) (nd o7 (lf (cm BO WN bo 49 68 1285 1249)) e) (nd (bM Bd V7 581 1 1607 1603 989 1608) (lf o8) e))))) (nd (cm lz UO nZ 2 2 194 49) (nd o7 (nd (nQ H UU 81 394 145) (nd (nQ H U6 106 587 273) (nd (kJ aM Vo cG 34 0 523 798) (lf (bR Bk We 49 37)) (lf o7)) (nd o7 (lf ⟨vY kN,none,dD [eS H jD 2123 (vS eF 2098),eS H vU 2125 (vS eW 2124),eS H jE 2127 (vI 1148 2126),eS H WU 2134 (vR 1304),eS H aM 2143 (vR 1312),eS H BV 2150 (vR 1319),eS H BW 2157 (vR 1326),eS H BY 2165 (vR 1333),eS H BZ 2174 (vR 1340),eS H B1 2185 (vR 1347),eS H B3 2198 (vR 1354),eS H B5 2210 (vR 1361),eS H B6 2218 (vR 1368),eS H B7 2232 (vR 1375),eS H B8 2239 (vR 1382),eS H B9 2246 (vR 1389),eS H Ca 2253 (vR 1396),eS H Cb 2273 (vR 1404),eS H Cc 2281 (vR 1411),eS H Cd 2290 (vR 1418),eS H Ce 2299 (vR 1425),eS H Cf 2307 (vR 1432),eS H Cg 2316 (vR 1439),eS H Ci 2324 (vR 1446),eS H Cj 2332 (vR 1453),eS H Ck 2342 (vR 1461),eS H Cm 2350 (vR 1468),eS H Cn 2358 (vR 1475),eS H Co 2366 (vR 1482),eS H Cp 2374 (vR 1489),eS H Cq 2384 (vR 1497),eS H Cr 2392 (vR 1504),eS H Cs 2399 (vR 1511),eS H Ct 2407 (vR 1518),eS H gF 2414 (vR 1519),eS H abR 2415 (vR 1299)] 36,#[]⟩) e)) (nd (cW 400) (nd (aaY H lA 215 1151 1142 649 1174) (lf (cm BD Wx bo 49 55 1285 1169)) e) (nd (j8 ag 1511) (lf o7) e))) (nd o8 (nd (bM aM Vc 119 4 691 684 333 692) (nd (il cG 593 590 798) (lf (bM Bu Wn 662 1 1727 1719 1101 1728)) e) (nd o8 (lf o7) e)) (nd (kJ aM Vm cG 30 0 459 798) (nd o8 (lf (bR BM WL 49 66)) e) (nd o7 (lf R3) e)))) (nd ⟨vY tR,none,dC ph [vY pP] [vR 114,vY pP] 113 ph true [vR 135,vR 147,vR 159,vR 179,vR 191,vR 203,vR 215,vR 227,vR 239,vR 251,vR 263,vR 275,vR 287,vR 299,vR 311,vR 323,vR 342,vR 361,vR 380,vR 400] false (none) false,#[some (vR 98),none,some (vS ph 323),some (vS ph 331),some (vB pO),some (vT)]⟩ (nd (F0 H UX 85 430 446 176 450) (nd o8 (nd (il cG 561 558 798) (lf o8) e) (nd (bR AM VI 49 5) (lf o7) e)) (nd (x9 H cG vW 155 845 798 859 446 863) (nd (kJ AD Vv lA 45 1 683 1142) (lf o7) e) (nd (cm A6 V0 bo 49 23 1285 945) (lf o7) e))) (nd jG (nd (il eU 369 366 321) (nd (tH H cG Kt 212 1133 798 631) (lf (ip ag aK dU iN 1775)) e) (nd (bM AX VR 458 1 1474 1470 877 1475) (lf (bR Ca Xa 52 13)) e)) (nd (kJ aM Vn cG 32 0 491 798) (nd o7 (lf o8) e) (nd o7 (lf (cV 1521)) e)))))) (nd ⟨vN,none,dF [vI 7 0,vI 4 0,vR 34,vI 15 0,vI 4 0,vR 42,vI 37 0,vI 4 0,vR 49],#[]⟩ (nd (bM Gk UN 15 3 234 223 37 235) (nd o7 (nd jG (nd jG (nd (il cG 521 518 798) (lf o7) (lf o7)) (nd o8 (lf (il eF 1289 1286 2098)) e)) (nd o7 (nd o7 (lf (bM BC Ww 752 2 1813 1801 1157 1814)) e) (nd o8 (lf (cm Cd Xd eF 52 16 2098 1417)) e))) (nd (nQ H U0 94 479 201) (nd (nN 119 338) (nd (cV 585) (lf (bR Bs Wm 49 45)) e) (nd o7 (lf (cm B3 W4 eF 52 7 2098 1353)) e)) (nd (il cG 457 454 798) (nd o7 (lf o7) e) (nd (nM ag GA pA aK bg 1581) (lf (cm Co Xm eF 52 25 2098 1481)) e)))) (nd o8 (nd o7 (nd (nQ H U8 110 623 297) (nd (cV 553) (lf o7) e) (nd o7 (lf (j8 ag 2154)) e)) (nd ⟨vY kN,none,dD [eS H jD 807 (vS cG 798),eS H jE 811 (vI 147 810),eS H aM 820 (vR 417),eS H Gx 827 (vR 424),eS H gF 830 (vR 425),eS H Ka 832 (vR 428),eS H Gl 834 (vR 429),eS H n2 835 (vN)] 4,#[]⟩ (nd (cm aM Vu lA 45 0 1142 681) (lf (ip ag eA yy bg 1875)) e) (nd (bM A5 VZ 497 1 1536 1532 933 1537) (lf o7) e))) (nd o8 (nd (cV 361) (nd (il cG 617 614 798) (lf o8) e) (nd (bR AW VQ 49 13) (lf o7) e)) (nd (il cG 489 486 798) (nd (cW 744) (lf o7) e) (nd (cm Be V8 bo 49 31 1285 1001) (lf (fB ag pA 2403)) e))))) (nd ⟨vY oM,none,dS [vY M4] 0,#[]⟩ (nd (bR lz UQ 4 1) (nd o8 (nd o8 (nd (x9 H cG Gv 188 1003 798 1017 550 1021) (lf (bM Bl Wf 613 1 1665 1661 1045 1666)) (lf (OH GN 60))) (nd o8 (lf (j8 VC 2138)) e)) (nd aco (nd (OH Gy 44) (lf o7) e) (nd o7 (lf o8) e))) (nd jG (nd iO (nd (tH H cG Kr 208 1101 798 607) (lf (cm Bv Wo bo 49 47 1285 1113)) e) (nd (fB ag mB 1449) (lf o8) e)) (nd (tH H cG yt 170 909 798 479) (nd ⟨vY tR,none,dC kf [vY pP] [vR 730,vY pP] 729 kf true [vR 1281] false (none) false,#[some (vR 669),none,some (vS kf 1191),some (vS kf 1199),some (vB pO),some (vT)]⟩ (lf (bM BN WM 1019 1 2021 2010 1237 2022)) e) (nd (bR Bc V6 49 29) (lf o7) e)))) (nd o7 (nd o8 (nd jG (nd (x9 H cG Gw 196 1048 798 1066 582 1074) (lf (j8 ag 1699)) e) (nd (bM AN VJ 399 1 1407 1400 821 1408) (lf (bR BZ W2 52 5)) e)) (nd (ip ag ke aK bg 853) (nd (kJ sd Vw lA 45 2 691 1142) (lf (bR BJ WG 49 61)) e) (nd o7 (lf (bR Cm Xk 52 23)) e))) (nd (nQ H U4 102 551 249) (nd (jy bg aK dU 756) (nd (cV 633) (lf o7) e) (nd (cm AY VS bo 49 15 1285 889) (lf (bR Cb Xb 52 14)) e)) (nd (tH H cG Ko 178 954 798 511) (nd (aa0 H bo 295 1310 1285 1327 760 1334) (lf (fB ag iN 2080)) e) (nd o8 (lf (bM GI GI 1536 0 2436 2433 1525 2437)) e))))))) (nd (il J7 13 3 164) (nd o7 (nd o8 (nd (cW 67) (nd (F0 H US 73 361 378 132 383) (nd (nQ H U5 104 569 261) (nd (x9 H cG Gu 180 970 798 986 530 992) (lf (cm Bi Wc bo 49 35 1285 1029)) (lf o7)) (nd (ik bq 304 181 1347 1344 772) (lf (tH H eF KR 1146 2107 2098 1291)) e)) (nd ⟨vY oM,none,dS [vN] 0,#[]⟩ (nd o7 (lf o8) e) (nd (bR A0 VU 49 17) (lf (jy ag jF pB 2285)) e))) (nd o8 (nd jG (nd (kJ aM Vq cG 37 0 575 798) (lf o7) e) (nd o7 (lf (T7 ag jF aK yu yw bg pB 2189)) e)) (nd (x9 H cG vX 161 874 798 891 466 898) (nd o7 (lf (cm BK WJ bo 49 64 1285 1221)) e) (nd (bM A9 V3 533 1 1575 1568 961 1576) (lf (fB ag jF 2362)) e)))) (nd (nN 70 110) (nd (nN 88 175) (nd o8 (nd (kJ aM Vp cG 35 0 543 798) (lf o7) e) (nd (cm AK VG bo 49 3 1285 805) (lf (bM BV WY 1160 1 2148 2144 1313 2149)) e)) (nd (bR Gx Vk 28 1) (nd (fB ag nf 1206) (lf (bM BG WC 889 2 1869 1863 1185 1870)) e) (nd o8 (lf (cm Ci Xh eF 52 20 2098 1445)) e))) (nd jG (nd (cm aM Ve eU 24 1 321 357) (nd (tH H cG Ks 210 1117 798 619) (lf (bR Bx Wr 49 49)) e) (nd o7 (lf (cm B8 W8 eF 52 11 2098 1381)) e)) (nd (x9 H cG Gs 172 925 798 939 498 943) (nd o7 (lf o7) e) (nd (j8 ag 1613) (lf (bM Cs Xq 1528 1 2397 2393 1505 2398)) e))))) (nd (Jm 253 53) (nd o7 (nd jG (nd jG (nd (cV 533) (lf o8) (lf o7)) (nd (bR AI VE 49 1) (lf (ik eW 1148 181 2121 2118 1300)) e)) (nd o7 (nd o7 (lf o7) e) (nd (cm A2 VW bo 49 19 1285 917) (lf (bR Cf Xf 52 18)) e))) (nd (nQ H U1 96 497 213) (nd (gM Gn 114 341 326 670) (nd (cV 597) (lf (nM ag aK gN iN dU 1733)) e) (nd (bM AS VN 430 2 1443 1437 849 1444) (lf (bR B6 W6 52 9)) e)) (nd (cV 469) (nd (bM AH VA 289 2 1262 1257 721 1263) (lf o8) e) (nd o7 (lf o7) e)))) (nd (cW 114) (nd jG (nd (nQ H U9 112 641 309) (nd (cV 565) (lf (bM Bp Wj 630 1 1693 1689 1073 1694)) e) (nd o8 (lf o7) e)) (nd (il cG 437 434 798) (nd (fB ag gN 1224) (lf o7) e) (nd o7 (lf o7) e))) (nd o8 (nd o7 (nd (il cG 629 626 798) (lf (cm Bz Wt bo 49 51 1285 1141)) e) (nd (j8 ag 1480) (lf o7) e)) (nd (cV 501) (nd (bR aM VB 48 0) (lf (bM BR WR 1117 3 2074 2064 1265 2075)) e) (nd (bR Bg Wa 49 33) (lf o8) e)))))) (nd o8 (nd (jy ag abI (S 6019511224) 240) (nd o78 (nd o8 (nd o8 (nd (rJ ag aK bg n8 yu yw 978) (lf o7) (lf (OI KZ yC 58 2419 1549))) (nd (bM aM VD 306 2 1360 1354 777 1361) (lf (cV 1293)) e)) (nd (nM bg Az aK fD dU 789) (nd (bR lz Vt 43 1) (lf (T6 aK iN Py abW gN (S 0x2a88a517480f9f7d6) dU bg 1819)) e) (nd (bM A1 VV 479 1 1505 1501 905 1506) (lf o7) e))) (nd jG (nd o8 (nd (tH H cG Kq 206 1085 798 595) (lf o8) e) (nd (bR AR VM 49 9) (lf o7) e)) (nd (T7 ag ke mC pz aK bg AA 882) (nd (bR AG Vz 45 5) (lf o7) e) (nd (cm Ba V4 bo 49 27 1285 973) (lf o7) e)))) (nd (bM aM UR 70 3 341 335 105 342) (nd (bR aM UY 10 1) (nd jG (nd (tH H cG Kp 194 1032 798 563) (lf (bR Bo Wi 49 41)) e) (nd o7 (lf (cm BW WZ eF 52 3 2098 1325)) e)) (nd (cV 427) (nd (fB ag iM 1215) (lf (cm BH WD bo 49 59 1285 1197)) e) (nd (ip ag yx aK bg 1542) (lf R3) e))) (nd (nQ H U3 100 533 237) (nd (FZ H Gq Vf 130 739 755 377 759) (nd (cV 621) (lf (bM By Ws 718 2 1769 1762 1129 1770)) e) (nd o8 (lf o7) e)) (nd (ip ag aK bg kK 933) (nd o7 (lf (bR BQ WQ 49 70)) e) (nd o7 (lf (cm Ct Xr eF 52 30 2098 1517)) e))))) (nd o8 (nd (aaY H nZ 45 287 194 85 311) (nd (nQ H UW 83 412 157) (nd (nQ H U7 108 605 285) (nd (il cG 541 538 798) (lf (j8 ag 1671)) (lf o8)) (nd (bM AJ VF 328 1 1375 1371 793 1376) (lf (bR aM WX 52 1)) e)) (nd o7 (nd iO (lf (bR BF WB 49 57)) e) (nd o7 (lf (bM Cg Xg 1397 1 2314 2308 1433 2315)) e))) (nd o8 (nd (ik Gp 123 181 706 703 348) (nd (il cG 605 602 798) (lf o7) e) (nd (cm AU VO bo 49 11 1285 861) (lf (bM B7 W7 1237 1 2230 2219 1369 2231)) e)) (nd (il cG 477 474 798) (nd (cW 730) (lf ⟨vY oM,none,dS [vS ag 2027,vS gG 2028,vS aK 2029,vS eA 2030,vS gN 2031,vS ab2 2032,vS iN 2033,vS yz 2034,vS sd 2035,vS GC 2036] 0,#[]⟩) e) (nd o8 (lf (bR Cr Xp 52 28)) e)))) (nd o7 (nd (nQ H UZ 92 461 189) (nd o8 (nd (il cG 573 570 798) (lf (cm Bq Wk bo 49 43 1285 1085)) e) (nd (jy ag abT GA 1413) (lf o8) e)) (nd (kJ aM Vl cG 29 0 439 798) (nd (jy ag gN iN 1233) (lf ⟨vY kN,none,dD [eS H ab0 1956 (vS ab1 1957)] 1,#[]⟩) e) (nd (bR A8 V2 49 25) (lf o8) e))) (nd jG (nd (cW 380) (nd (T4 H lA AB lz 215 1151 1142 1167 649 1174 1180) (lf o7) e) (nd o7 (lf o8) e)) (nd (il cG 509 506 798) (nd (cV 763) (lf (cm BS WT bo 49 72 1285 1277)) e) (nd (bM Bh Wb 597 1 1636 1632 1017 1637) (lf o7) e))))))))))
noncomputable def t0:BT:=(((tA (zJ H) 15).set 3 λ_=>o3 H).set 2 λ_=>o2).set 12 λ_=>o8
noncomputable def t10:BT:=(((((tA (zJ H) 162).set 3 λ_=>acg H).set 95 λ_=>o95).set 67 λ_=>o67).set 12 λ_=>XC).set 114 λ_=>ahV
noncomputable def t28:BT:=((((tA (zJ H) 403).set 3 λ_=>ach H).set 95 λ_=>o95).set 67 λ_=>o67).set 12 λ_=>XD
noncomputable def t43:BT:=((((tA (zJ H) 636).set 3 λ_=>aci H).set 95 λ_=>o95).set 67 λ_=>o67).set 12 λ_=>XE
noncomputable def t49:BT:=((((tA (zJ H) 768).set 3 λ_=>acj H).set 95 λ_=>Le).set 12 λ_=>XF).set 730 λ_=>ahX
noncomputable def t50:BT:=((((tA (zJ H) 1284).set 3 λ_=>ack H).set 95 λ_=>Le).set 1281 λ_=>R0).set 12 λ_=>XG
noncomputable def t52:BT:=(((tA (zJ H) 1296).set 3 λ_=>acm H).set 1281 λ_=>R0).set 12 λ_=>XH
noncomputable def t53:BT:=((tA (zJ H) 1524).set 3 λ_=>acn H).set 12 λ_=>XI
noncomputable def ig (p:Program):Env:={scope:=p.main.scope,locals:=mainNs,globals:=mainNs,cells:=[],code:=.ref 13,frame:=some 14}
noncomputable def cE:Code:=.body (behindTheImports pw) (ig pw)
end
def ada (w:World) (os:OsState):PySem.W.Fast.tw10110043849684766642 PySem.W.Fast.tw14364793385576792824 pw w 11 (some (.ref 6)) 1 1769 ⟨t0 w.params.strHash,15,{},#[],{},187,os⟩ ⟨(PySem.W.Fast.tw12563942051412417395 ((pw.main.body.drop 0).take 10) (ig pw)).wrap doneF deadEnd id id,cE,⟨0,0,0,0⟩,[topFrame ⟨0,0,0,0⟩]⟩=
    some (Flow.next,⟨t10 w.params.strHash,162,{},#[],{},423,os⟩,cE,⟨83,0,84,25⟩):=by
 kernel_rfl
def adb (w:World) (os:OsState):PySem.W.Fast.tw10110043849684766642 PySem.W.Fast.tw14364793385576792824 pw w 11 (some (.ref 6)) 1 3975 ⟨t10 w.params.strHash,162,{},#[],{},423,os⟩ ⟨(PySem.W.Fast.tw12563942051412417395 ((pw.main.body.drop 10).take 18) (ig pw)).wrap doneF deadEnd id id,cE,⟨83,0,84,25⟩,[topFrame ⟨0,0,0,0⟩]⟩=
    some (Flow.next,⟨t28 w.params.strHash,403,{},#[],{},800,os⟩,cE,⟨146,0,146,8⟩):=by
 kernel_rfl
def ade (w:World) (os:OsState):PySem.W.Fast.tw10110043849684766642 PySem.W.Fast.tw14364793385576792824 pw w 11 (some (.ref 6)) 1 3405 ⟨t28 w.params.strHash,403,{},#[],{},800,os⟩ ⟨(PySem.W.Fast.tw12563942051412417395 ((pw.main.body.drop 28).take 15) (ig pw)).wrap doneF deadEnd id id,cE,⟨146,0,146,8⟩,[topFrame ⟨0,0,0,0⟩]⟩=
    some (Flow.next,⟨t43 w.params.strHash,636,{},#[],{},1144,os⟩,cE,⟨214,0,214,8⟩):=by
 kernel_rfl
def adf (w:World) (os:OsState):PySem.W.Fast.tw10110043849684766642 PySem.W.Fast.tw14364793385576792824 pw w 11 (some (.ref 6)) 1 1220 ⟨t43 w.params.strHash,636,{},#[],{},1144,os⟩ ⟨(PySem.W.Fast.tw12563942051412417395 ((pw.main.body.drop 43).take 6) (ig pw)).wrap doneF deadEnd id id,cE,⟨214,0,214,8⟩,[topFrame ⟨0,0,0,0⟩]⟩=
    some (Flow.next,⟨t49 w.params.strHash,768,{},#[],{},1342,os⟩,cE,⟨295,0,303,24⟩):=by
 kernel_rfl
def Yb (w:World) (os:OsState):PySem.W.Fast.tw10110043849684766642 PySem.W.Fast.tw14364793385576792824 pw (w.withFollow "special-get-raises" false) 11 (some (.ref 6)) 1 2961 ⟨t49 w.params.strHash,768,{},#[],{},1342,os⟩ ⟨(PySem.W.Fast.tw12563942051412417395 ((pw.main.body.drop 49).take 1) (ig pw)).wrap doneF deadEnd id id,cE,⟨295,0,303,24⟩,[topFrame ⟨0,0,0,0⟩]⟩=
    some (Flow.next,⟨t50 w.params.strHash,1284,{},#[],{},2098,os⟩,cE,⟨304,0,1144,17⟩):=by
 kernel_rfl
def Yc (w:World) (os:OsState):PySem.W.Fast.tw10110043849684766642 PySem.W.Fast.tw14364793385576792824 pw (w.withFollow "special-get-raises" true) 11 (some (.ref 6)) 1 2961 ⟨t49 w.params.strHash,768,{},#[],{},1342,os⟩ ⟨(PySem.W.Fast.tw12563942051412417395 ((pw.main.body.drop 49).take 1) (ig pw)).wrap doneF deadEnd id id,cE,⟨295,0,303,24⟩,[topFrame ⟨0,0,0,0⟩]⟩=
    some (Flow.next,⟨t50 w.params.strHash,1284,{},#[],{},2098,os⟩,cE,⟨304,0,1144,17⟩):=by
 kernel_rfl
def adg (w:World) (os:OsState):PySem.W.Fast.tw10110043849684766642 PySem.W.Fast.tw14364793385576792824 pw w 11 (some (.ref 6)) 1 237 ⟨t50 w.params.strHash,1284,{},#[],{},2098,os⟩ ⟨(PySem.W.Fast.tw12563942051412417395 ((pw.main.body.drop 50).take 2) (ig pw)).wrap doneF deadEnd id id,cE,⟨304,0,1144,17⟩,[topFrame ⟨0,0,0,0⟩]⟩=
    some (Flow.next,⟨t52 w.params.strHash,1296,{},#[],{},2116,os⟩,cE,⟨1146,0,1147,8⟩):=by
 kernel_rfl
def Yd (w:World) (os:OsState):PySem.W.Fast.tw10110043849684766642 PySem.W.Fast.tw14364793385576792824 pw (w.withFollow "special-get-raises" false) 11 (some (.ref 6)) 1 1286 ⟨t52 w.params.strHash,1296,{},#[],{},2116,os⟩ ⟨(PySem.W.Fast.tw12563942051412417395 ((pw.main.body.drop 52).take 1) (ig pw)).wrap doneF deadEnd id id,cE,⟨1146,0,1147,8⟩,[topFrame ⟨0,0,0,0⟩]⟩=
    some (Flow.next,⟨t53 w.params.strHash,1524,{},#[],{},2419,os⟩,cE,⟨1148,0,1533,69⟩):=by
 kernel_rfl
def Ye (w:World) (os:OsState):PySem.W.Fast.tw10110043849684766642 PySem.W.Fast.tw14364793385576792824 pw (w.withFollow "special-get-raises" true) 11 (some (.ref 6)) 1 1286 ⟨t52 w.params.strHash,1296,{},#[],{},2116,os⟩ ⟨(PySem.W.Fast.tw12563942051412417395 ((pw.main.body.drop 52).take 1) (ig pw)).wrap doneF deadEnd id id,cE,⟨1146,0,1147,8⟩,[topFrame ⟨0,0,0,0⟩]⟩=
    some (Flow.next,⟨t53 w.params.strHash,1524,{},#[],{},2419,os⟩,cE,⟨1148,0,1533,69⟩):=by
 kernel_rfl
def adh (w:World) (os:OsState):PySem.W.Fast.tw10110043849684766642 PySem.W.Fast.tw14364793385576792824 pw w 11 (some (.ref 6)) 1 230 ⟨t53 w.params.strHash,1524,{},#[],{},2419,os⟩ ⟨(PySem.W.Fast.tw12563942051412417395 ((pw.main.body.drop 53).take 9) (ig pw)).wrap doneF deadEnd id id,cE,⟨1148,0,1533,69⟩,[topFrame ⟨0,0,0,0⟩]⟩=
    some (Flow.next,⟨zJ w.params.strHash,1570,{},#[],{},2482,os⟩,cE,⟨1605,0,1657,21⟩):=by
 kernel_rfl
noncomputable def bd:List Stmt:=pw.main.body
noncomputable def st0 (w:World) (os:OsState):SharedT:=⟨t0 w.params.strHash,15,{},#[],{},187,os⟩
noncomputable def adm (w:World) (os:OsState):SharedT:=⟨t10 w.params.strHash,162,{},#[],{},423,os⟩
noncomputable def adn (w:World) (os:OsState):SharedT:=⟨t28 w.params.strHash,403,{},#[],{},800,os⟩
noncomputable def ado (w:World) (os:OsState):SharedT:=⟨t43 w.params.strHash,636,{},#[],{},1144,os⟩
noncomputable def Ys (w:World) (os:OsState):SharedT:=⟨t49 w.params.strHash,768,{},#[],{},1342,os⟩
noncomputable def Yt (w:World) (os:OsState):SharedT:=⟨t50 w.params.strHash,1284,{},#[],{},2098,os⟩
noncomputable def Yu (w:World) (os:OsState):SharedT:=⟨t52 w.params.strHash,1296,{},#[],{},2116,os⟩
noncomputable def Yv (w:World) (os:OsState):SharedT:=⟨t53 w.params.strHash,1524,{},#[],{},2419,os⟩
noncomputable def Yw (w:World) (os:OsState):SharedT:=⟨zJ w.params.strHash,1570,{},#[],{},2482,os⟩
def acR (w:World) (os:OsState):segRun treeTable pw w 11 (some (.ref 6)) 1 1769 (st0 w os).abs (piecesOf ((bd.drop 0).take 10) (ig pw) cE ⟨0,0,0,0⟩ [topFrame ⟨0,0,0,0⟩])=some (Flow.next,(adm w os).abs,cE,⟨83,0,84,25⟩):=by
 refine segRun_of ?_
 have h:=ada w os
 rw[<-PySem.W.Fast.te10110043849684766642,<-PySem.W.Fast.te14364793385576792824,<-PySem.W.Fast.te12563942051412417395] at h
 exact h
def acS (w:World) (os:OsState):segRun treeTable pw w 11 (some (.ref 6)) 1 3975 (adm w os).abs (piecesOf ((bd.drop 10).take 18) (ig pw) cE ⟨83,0,84,25⟩ [topFrame ⟨0,0,0,0⟩])=some (Flow.next,(adn w os).abs,cE,⟨146,0,146,8⟩):=by
 refine segRun_of ?_
 have h:=adb w os
 rw[<-PySem.W.Fast.te10110043849684766642,<-PySem.W.Fast.te14364793385576792824,<-PySem.W.Fast.te12563942051412417395] at h
 exact h
def acT (w:World) (os:OsState):segRun treeTable pw w 11 (some (.ref 6)) 1 3405 (adn w os).abs (piecesOf ((bd.drop 28).take 15) (ig pw) cE ⟨146,0,146,8⟩ [topFrame ⟨0,0,0,0⟩])=some (Flow.next,(ado w os).abs,cE,⟨214,0,214,8⟩):=by
 refine segRun_of ?_
 have h:=ade w os
 rw[<-PySem.W.Fast.te10110043849684766642,<-PySem.W.Fast.te14364793385576792824,<-PySem.W.Fast.te12563942051412417395] at h
 exact h
def acU (w:World) (os:OsState):segRun treeTable pw w 11 (some (.ref 6)) 1 1220 (ado w os).abs (piecesOf ((bd.drop 43).take 6) (ig pw) cE ⟨214,0,214,8⟩ [topFrame ⟨0,0,0,0⟩])=some (Flow.next,(Ys w os).abs,cE,⟨295,0,303,24⟩):=by
 refine segRun_of ?_
 have h:=adf w os
 rw[<-PySem.W.Fast.te10110043849684766642,<-PySem.W.Fast.te14364793385576792824,<-PySem.W.Fast.te12563942051412417395] at h
 exact h
def acV (w:World) (os:OsState):segRun treeTable pw w 11 (some (.ref 6)) 1 2961 (Ys w os).abs (piecesOf ((bd.drop 49).take 1) (ig pw) cE ⟨295,0,303,24⟩ [topFrame ⟨0,0,0,0⟩])=some (Flow.next,(Yt w os).abs,cE,⟨304,0,1144,17⟩):=by
 refine segRun_of ?_
 have h:∀v:Bool,_:=λv:Bool=>(by cases v with
  |false=>exact Yb w os
  |true=>exact Yc w os:PySem.W.Fast.tw10110043849684766642 PySem.W.Fast.tw14364793385576792824 pw (w.withFollow "special-get-raises" v) 11 (some (.ref 6)) 1 2961 (Ys w os) ⟨(PySem.W.Fast.tw12563942051412417395 ((pw.main.body.drop 49).take 1) (ig pw)).wrap doneF deadEnd id id,cE,⟨295,0,303,24⟩,[topFrame ⟨0,0,0,0⟩]⟩=
  some (Flow.next,Yt w os,cE,⟨304,0,1144,17⟩))
 replace h:=h (w.params.followText "special-get-raises")
 rw[World.withFollow_self] at h
 rw[<-PySem.W.Fast.te10110043849684766642,<-PySem.W.Fast.te14364793385576792824,<-PySem.W.Fast.te12563942051412417395] at h
 exact h
def acW (w:World) (os:OsState):segRun treeTable pw w 11 (some (.ref 6)) 1 237 (Yt w os).abs (piecesOf ((bd.drop 50).take 2) (ig pw) cE ⟨304,0,1144,17⟩ [topFrame ⟨0,0,0,0⟩])=some (Flow.next,(Yu w os).abs,cE,⟨1146,0,1147,8⟩):=by
 refine segRun_of ?_
 have h:=adg w os
 rw[<-PySem.W.Fast.te10110043849684766642,<-PySem.W.Fast.te14364793385576792824,<-PySem.W.Fast.te12563942051412417395] at h
 exact h
def acX (w:World) (os:OsState):segRun treeTable pw w 11 (some (.ref 6)) 1 1286 (Yu w os).abs (piecesOf ((bd.drop 52).take 1) (ig pw) cE ⟨1146,0,1147,8⟩ [topFrame ⟨0,0,0,0⟩])=some (Flow.next,(Yv w os).abs,cE,⟨1148,0,1533,69⟩):=by
 refine segRun_of ?_
 have h:∀v:Bool,_:=λv:Bool=>(by cases v with
  |false=>exact Yd w os
  |true=>exact Ye w os:PySem.W.Fast.tw10110043849684766642 PySem.W.Fast.tw14364793385576792824 pw (w.withFollow "special-get-raises" v) 11 (some (.ref 6)) 1 1286 (Yu w os) ⟨(PySem.W.Fast.tw12563942051412417395 ((pw.main.body.drop 52).take 1) (ig pw)).wrap doneF deadEnd id id,cE,⟨1146,0,1147,8⟩,[topFrame ⟨0,0,0,0⟩]⟩=
  some (Flow.next,Yv w os,cE,⟨1148,0,1533,69⟩))
 replace h:=h (w.params.followText "special-get-raises")
 rw[World.withFollow_self] at h
 rw[<-PySem.W.Fast.te10110043849684766642,<-PySem.W.Fast.te14364793385576792824,<-PySem.W.Fast.te12563942051412417395] at h
 exact h
def acY (w:World) (os:OsState):segRun treeTable pw w 11 (some (.ref 6)) 1 230 (Yv w os).abs (piecesOf ((bd.drop 53).take 9) (ig pw) cE ⟨1148,0,1533,69⟩ [topFrame ⟨0,0,0,0⟩])=some (Flow.next,(Yw w os).abs,cE,⟨1605,0,1657,21⟩):=by
 refine segRun_of ?_
 have h:=adh w os
 rw[<-PySem.W.Fast.te10110043849684766642,<-PySem.W.Fast.te14364793385576792824,<-PySem.W.Fast.te12563942051412417395] at h
 exact h
def gC (a k:Nat):bd.drop a=(bd.drop a).take k++bd.drop (a+k):=by
 conv=>lhs;rw[<-List.take_append_drop k (bd.drop a)]
 rw[List.drop_drop]
def S4:bd.drop 62=[]:=KK
def S3:behindTheImports pw=bd.drop 0:=KK
def Ob (w:World) (s:Shared):topRun treeTable pw w 11 (some (.ref 6)) 2 s ⟨doneF .next,cE,⟨1605,0,1657,21⟩,[topFrame ⟨0,0,0,0⟩]⟩=some s:=by
 obtain⟨h,g,d,t,os⟩:=s
 kernel_rfl
def P5 (w:World) (os:OsState):topGo treeTable pw w 11 (some (.ref 6)) 12 ⟨boot_heap w.params,#[],boot_drawn,boot_toks,os⟩ (topStub pw)=some ((st0 w os).abs,⟨denote treeTable cE,cE,⟨0,0,0,0⟩,[topFrame ⟨0,0,0,0⟩]⟩):=by
 kernel_rfl
def Fs (w:World) (os:OsState):segRun treeTable pw w 11 (some (.ref 6)) 1 1 (st0 w os).abs (blockOf (behindTheImports pw) (ig pw) cE ⟨0,0,0,0⟩ [topFrame ⟨0,0,0,0⟩])=some (Flow.next,(st0 w os).abs,cE,⟨0,0,0,0⟩):=by
 kernel_rfl
def whole_run (w:World) (os:OsState):topRun treeTable pw w 11 (some (.ref 6)) 15098 ⟨boot_heap w.params,#[],boot_drawn,boot_toks,os⟩ (topStub pw)=some (Yw w os).abs:=by
 have k62:=Ob w (Yw w os).abs
 rw[show(⟨doneF .next,cE,⟨1605,0,1657,21⟩,[topFrame ⟨0,0,0,0⟩]⟩:Thread)=restOf [] (ig pw) cE ⟨1605,0,1657,21⟩ [topFrame ⟨0,0,0,0⟩] from rfl,<-S4] at k62
 have k53:=piece_app (acY w os) k62
 rw[<-gC 53 9] at k53
 have k52:=piece_app (acX w os) k53
 rw[<-gC 52 1] at k52
 have k50:=piece_app (acW w os) k52
 rw[<-gC 50 2] at k50
 have k49:=piece_app (acV w os) k50
 rw[<-gC 49 1] at k49
 have k43:=piece_app (acU w os) k49
 rw[<-gC 43 6] at k43
 have k28:=piece_app (acT w os) k43
 rw[<-gC 28 15] at k28
 have k10:=piece_app (acS w os) k28
 rw[<-gC 10 18] at k10
 have k0:=piece_app (acR w os) k10
 rw[<-gC 0 10] at k0
 rw[<-S3] at k0
 exact go_top (P5 w os) (piece_block (Fs w os) k0)
noncomputable def jq (P:Params):Heap:=absHeap (zJ P.strHash) 1570 {}
def Ls (N:Nat) (hN:Nat.ble 600 N=true):∀w:World,(fencedOpening treeTable pw w N).map (λs=>(s.heap,s.gens,s.drawn,s.toks))=some (boot_heap w.params,Array.mk [],boot_drawn,boot_toks):=
 boot_open KK hN (λs=>KK)
def Mb (w:World):((boot_heap w.params).isNs mainGlobals&&(#[]:Array GenState).size==0,(boot_heap w.params).objs.size,(boot_heap w.params).nsMap mainGlobals "__annotations__")=(true,11,some (.ref 6)):=by
 kernel_rfl
noncomputable def qv:Program:={pw with main:={pw.main with body:=bd.drop 61}}
noncomputable def lo:List Str:=pw.boundNames.filter λn=>n != (Str.ofString "law")
noncomputable def sF (w:World) (os:OsState):Shared:=⟨jq w.params,#[],{},2482,os⟩
def l1 (w:World) (os:OsState):seen ((recsOf qv).map (·.name)) (ownsOf qv) [] {sF w os with gens:=#[]}=expectedOf qv:=KK
def l2 (w:World) (os:OsState):(sF w os).heap.bltView=bltViewBooted:=KK
def l3 (w:World) (os:OsState):(sF w os).heap.keysOk (looseW qv lo) ((recsOf qv).map (·.name)) ((litsOf qv).map (·.1)) ((clssOf qv (looseW qv lo)).map (·.name))=true:=KK
def l4 (w:World) (os:OsState):((sF w os).heap.accountedOkI (importedModules pw.main.body)&&(sF w os).heap.isNs mainGlobals&&(sF w os).heap.isNs builtinsNs&&tablesOk qv (sF w os).heap)=true:=KK
def l5 (w:World) (os:OsState):tabsOk qv (sF w os)=true:=KK
def l6 (w:World) (os:OsState):pinSeenD qv (drecsOf qv) (sF w os)=pinGoodD (drecsOf qv):=KK
def l7 (w:World) (os:OsState):plainSeenE qv (looseW qv lo) (sF w os)=plainGoodE qv (looseW qv lo):=KK
def l8 (w:World) (os:OsState):plainSeenD qv lo (sF w os)=plainGoodD qv lo:=KK
def l9 (w:World) (os:OsState):wideSeen qv (sF w os)=wideGood qv:=KK
def l10 (w:World) (os:OsState):clsSeenW qv lo (sF w os)=clsGoodW qv lo:=KK
def vO (w:World) (os:OsState):(staticsOk (importedModules pw.main.body) (boot_heap w.params) (jq w.params)&&namesBound pw (jq w.params)&&gensDone ⟨jq w.params,#[],{},2482,os⟩&&laidKept (boot_heap w.params) (jq w.params))=true:=by
 kernel_rfl
def aiW {A B C D E F G H I:Type} {a a':A} {b b':B} {c c':C} {d d':D} {e e':E} {f f':F} {g g':G} {h h':H} {i i':I}
    (h1:a=a') (h2:b=b') (h3:c=c') (h4:d=d') (h5:e=e') (h6:f=f') (h7:g=g') (h8:h=h') (h9:i=i'):(a,b,c,d,e,f,g,h,i)=(a',b',c',d',e',f',g',h',i'):=by
 subst h1 h2 h3 h4 h5 h6 h7 h8 h9;rfl
def afn {a b c d e f g:Bool} (h1:a=true) (h2:(b&&c&&d&&e)=true) (h3:f=true) (h4:g=true):(a&&b&&c&&d&&e&&f&&g)=true:=by
 rw[Bool.and_eq_true,Bool.and_eq_true,Bool.and_eq_true] at h2
 obtain⟨⟨⟨hb,hc⟩,hd⟩,he⟩:=h2
 rw[h1,hb,hc,hd,he,h3,h4];rfl
def l3' (w:World) (os:OsState):((sF w os).heap.keysOk (looseW qv lo) ((recsOf qv).map (·.name)) ((litsOf qv).map (·.1)) ((clssOf qv (looseW qv lo)).map (·.name))&&(sF w os).heap.accountedOkI (importedModules pw.main.body)&&(sF w os).heap.isNs mainGlobals&&(sF w os).heap.isNs builtinsNs&&tablesOk qv (sF w os).heap&&(λ_:Shared=>true) (sF w os)&&(if(true:Bool) then(sF w os).gens.size==0 else !leftWithCleanup (sF w os).gens))=true:=
 afn (l3 w os) (l4 w os) rfl rfl
def Gd (w:World) (os:OsState):openSeen qv lo (importedModules pw.main.body) (λ_=>true) true (sF w os)=openGood qv lo:=
 aiW (l1 w os) (l2 w os) (l3' w os) (l5 w os) (l6 w os) (l7 w os) (l8 w os) (l9 w os) (l10 w os)
def aiV {A B C:Type} {a a':A} {b b':B} {c:C} (h1:a=a') (h2:b=b'):(a,b,c)=(a',b',c):=by subst h1 h2;rfl
def JX (w:World):(λos=>((staticsOk (importedModules pw.main.body) (boot_heap w.params) (jq w.params)&&namesBound pw (jq w.params)&&gensDone ⟨jq w.params,#[],{},2482,os⟩&&laidKept (boot_heap w.params) (jq w.params)),
    openSeen qv lo (importedModules pw.main.body) (λ_=>true) true ⟨jq w.params,#[],{},2482,os⟩,(λs:Shared=>s.heap) ⟨jq w.params,#[],{},2482,os⟩))=λ_=>(true,openGood qv lo,jq w.params):=
 funext λos=>aiV (vO w os) (Gd w os)
def JW:LeftO pw qv lo (λ_=>true) (λs=>s.heap) (λw=>jq w.params) 40000 true:=
 LeftO.of_pieces (H₀:=boot_heap) (H₁:=jq) (Ls 40000 rfl) Mb (λw os=>whole_run w os) (by decide) JX
abbrev yS:OpenRow:=PySem.Challenge.rw_te0007_01.row
def ur:(defOf qv yS.name).isSome=true:=KK
noncomputable def pa:DefRec×List (Str×Expr):=(defOf qv yS.name).get ur
def JU:defOf qv yS.name=some (pa.1,pa.2):=(Option.some_get ur).symm
def JV:yS.prog.theDef yS.name=some (pa.1.params,pa.1.body,pa.1.scope):=KK
def Pg:kwWritten? pa.1.params.kwonlyargs pa.1.params.kw_defaults=some pa.2:=KK
def F8:pa.1.name=Str.ofString "law":=KK
def X3:(chainsOk qv&&opensWell yS.prog&&(frees yS.toRowW&&yS.within.isEmpty))=true:=KK
def Qe:yS.toRowW.promised:=⟨[.list []],by decide+kernel,by decide+kernel⟩
def X0:pw.tablesWhole=true:=KK
def LL:yS.prog.bare:=⟨rfl,rfl,rfl,rfl,rfl,X0⟩
def ain (ac8:yS.wellSaid=true)
    (call:WalkO qv lo (λ_ _=>True) (λw h=>∀b o,(jq w.params).get? b=some o->h.get? b=some o) yS.toRowW pa.1 pa.2 λf vs=>PySem.call f vs):yS.Holds:=
 holds_open (q:=qv) (loose:=lo) (Xt:=λ_=>true) (XP:=λ_ _=>True) (Yf:=λs=>s.heap) (Ya:=λw=>jq w.params) (N:=40000)
  JW (λw s e b o h=>by rw[e];exact h) (λw h h' y k b o q=>k b o (y b o q)) (λ_ _=>trivial) (λ_ _ _ _ _=>trivial)
  JU JV Pg (λ_ _=>recFacts_nil rfl) rfl ac8 X3 LL Qe call
noncomputable section
section
variable {α:Sort u} {P:Prop}
def a2 {A B:Prop} (h:A/\B) (k:A->B->P):P:=k h.1 h.2
def a3 {A B C:Prop} (h:A/\B/\C) (k:A->B->C->P):P:=k h.1 h.2.1 h.2.2
def a4 {A B C D:Prop} (h:A/\B/\C/\D) (k:A->B->C->D->P):P:=k h.1 h.2.1 h.2.2.1 h.2.2.2
def a5 {A B C D E:Prop} (h:A/\B/\C/\D/\E) (k:A->B->C->D->E->P):P:=k h.1 h.2.1 h.2.2.1 h.2.2.2.1 h.2.2.2.2
def a6 {A B C D E F:Prop} (h:A/\B/\C/\D/\E/\F) (k:A->B->C->D->E->F->P):P:=a5 h λa b c d e=>k a b c d e.1 e.2
def fi {A:α->Prop} (h:∃x,A x) (k:∀x,A x->P):P:=h.elim k
def bz {A B:α->Prop} (h:∃x,A x/\B x) (k:∀x,A x->B x->P):P:=h.elim λx h=>k x h.1 h.2
def t9 {A B C:α->Prop} (h:∃x,A x/\B x/\C x) (k:∀x,A x->B x->C x->P):P:=h.elim λx h=>a3 h (k x)
def N8 {A B C D:α->Prop} (h:∃x,A x/\B x/\C x/\D x) (k:∀x,A x->B x->C x->D x->P):P:=h.elim λx h=>a4 h (k x)
def e15 {A B C D E:α->Prop} (h:∃x,A x/\B x/\C x/\D x/\E x) (k:∀x,A x->B x->C x->D x->E x->P):P:=h.elim λx h=>a5 h (k x)
variable {β:α->Sort v}
def dk {A:∀x,β x->Prop} (h:∃x y,A x y) (k:∀x y,A x y->P):P:=h.elim λx h=>fi h (k x)
def mw {A B:∀x,β x->Prop} (h:∃x y,A x y/\B x y) (k:∀x y,A x y->B x y->P):P:=h.elim λx h=>bz h (k x)
def zE {A B C:∀x,β x->Prop} (h:∃x y,A x y/\B x y/\C x y) (k:∀x y,A x y->B x y->C x y->P):P:=h.elim λx h=>t9 h (k x)
def Zd {A B C D:∀x,β x->Prop} (h:∃x y,A x y/\B x y/\C x y/\D x y) (k:∀x y,A x y->B x y->C x y->D x y->P):P:=h.elim λx h=>N8 h (k x)
def e25 {A B C D E:∀x,β x->Prop} (h:∃x y,A x y/\B x y/\C x y/\D x y/\E x y) (k:∀x y,A x y->B x y->C x y->D x y->E x y->P):P:=h.elim λx h=>e15 h (k x)
variable {γ:∀x,β x->Sort w}
def gm {A:∀x y,γ x y->Prop} (h:∃x y z,A x y z) (k:∀x y z,A x y z->P):P:=h.elim λx h=>dk h (k x)
def e32 {A B:∀x y,γ x y->Prop} (h:∃x y z,A x y z/\B x y z) (k:∀x y z,A x y z->B x y z->P):P:=h.elim λx h=>mw h (k x)
def e33 {A B C:∀x y,γ x y->Prop} (h:∃x y z,A x y z/\B x y z/\C x y z) (k:∀x y z,A x y z->B x y z->C x y z->P):P:=h.elim λx h=>zE h (k x)
def DL {A B C D:∀x y,γ x y->Prop} (h:∃x y z,A x y z/\B x y z/\C x y z/\D x y z) (k:∀x y z,A x y z->B x y z->C x y z->D x y z->P):P:=h.elim λx h=>Zd h (k x)
def sn {α:Type u} {a:α} (h:some a=none):P:=nomatch h
def ns {α:Type u} {a:α} (h:none=some a):P:=nomatch h
def ft (h:false=true):P:=nomatch h
def tf (h:true=false):P:=nomatch h
def nc {α:Type u} {a:α} {l:List α} (h:[]=a::l):P:=nomatch h
def cn {α:Type u} {a:α} {l:List α} (h:a::l=[]):P:=nomatch h
end
def On {α:Type} (P:α->Prop) (o:Option α):Prop:=Option.rec (motive:=λ_=>Prop) True P o
def aZ {α β:Type} (o:Option α) (g:Option β) (f:α->Option β):Option β:=Option.rec (motive:=λ_=>Option β) g f o
section
variable {α β:Type} {P R:α->Prop} {Q:β->Prop} {o:Option α} {f:α->Option β} {c:Bool} {u v:Option β}
def On.b (h:On P o) (k:∀a,P a->On Q (f a)):On Q (o.bind f):=by cases o;exact trivial;exact k _ h
def On.or (h:On P o) (k:∀a,P a->On Q (f a)) (g:o=none->On Q u):On Q (aZ o u f):=by cases o;exact g rfl;exact k _ h
def On.mk (h:∀a,o=some a->P a):On P o:=by cases o;exact trivial;exact h _ rfl
def On.get {a:α} (h:On P o) (e:o=some a):P a:=by cases e;exact h
def On.up (h:On P o) (k:∀a,P a->R a):On R o:=by cases o;exact trivial;exact k _ h
def aY (o:Option α):On (λa=>o=some a) o:=.mk λ_ e=>e
def ak (k:c=true->On Q u):On Q (bif c then u else none):=by cases c;exact trivial;exact k rfl
def CB (k:c=false->On Q u):On Q (bif c then none else u):=by cases c;exact k rfl;exact trivial
def dY (k:c=true->On Q u) (g:c=false->On Q v):On Q (bif c then u else v):=by cases c;exact g rfl;exact k rfl
end
def iP {T α:Type} (ix:T->Nat) (n:Nat) (el:(t:T)->ix t=n->α) (t:T):Option α:=Bool.rec (motive:=λb=>Nat.beq (ix t) n=b->Option α) (λ_=>none) (λh=>some (el t (iS h))) (Nat.beq (ix t) n) rfl
def Ew {T α:Type} {ix:T->Nat} {n:Nat} {el:(t:T)->ix t=n->α} {t:T} {P:α->Prop} (k:∀h,P (el t h)) (b:Bool):∀h:Nat.beq (ix t) n=b,On P (Bool.rec (motive:=λb=>Nat.beq (ix t) n=b->Option α) (λ_=>none) (λh=>some (el t (iS h))) b h):=by cases b;exactλ_=>trivial;exactλh=>k _
def eK {T α:Type} {ix:T->Nat} {n:Nat} {el:(t:T)->ix t=n->α} {P:T->α->Prop} (k:∀t h,P t (el t h)) (t:T):On (P t) (iP ix n el t):=Ew (k t) _ rfl
def cH {T α:Type} {ix:T->Nat} {n:Nat} {el:(t:T)->ix t=n->α} (c:α->T) (k:∀t h,c (el t h)=t) (t:T):On (λa=>c a=t) (iP ix n el t):=Ew (k t) _ rfl
def aw {a b:Bool} (h:(a&&b)=true):a=true/\b=true:=Y4.mp h
inductive DV where
 |any|rf|none|bool (b:Bool) |int (i:Int) |str (l:List Nat)
 |sint (t:Nat) (k:Int) |gO (k:Nat)
 |tup (l:List DV) |lst (l:List DV) |iI (l:List (DV×DV))
 |inst (c:Nat) (fs:List (Str×DV))
 |self|cls (c:Nat) |fn (a:Nat) |bj (a:Nat)
inductive ae where
 |pv (v:DV) |ml (l:List DV) |md (l:List (DV×DV))
structure aj where
 aq:Option (List (Str×ae))
 loc:List (Str×ae)
def mI:DV->Option (Bool):=iP DV.ctorIdx 3 λv h=>@DV.bool.elim (λ_=>Bool) v h id
def k8:∀v:DV,On (λp=>.bool p=v) (mI v):=cH .bool λv h=>@DV.bool.elim (λv=>∀h,DV.bool (@DV.bool.elim (λ_=>Bool) v h id)=v) v h (λ_ _=>rfl) h
def intD:DV->Option (Int):=iP DV.ctorIdx 4 λv h=>@DV.int.elim (λ_=>Int) v h id
def bQ:∀v:DV,On (λp=>.int p=v) (intD v):=cH .int λv h=>@DV.int.elim (λv=>∀h,DV.int (@DV.int.elim (λ_=>Int) v h id)=v) v h (λ_ _=>rfl) h
def iE:DV->Option (List Nat):=iP DV.ctorIdx 5 λv h=>@DV.str.elim (λ_=>List Nat) v h id
def cT:∀v:DV,On (λp=>.str p=v) (iE v):=cH .str λv h=>@DV.str.elim (λv=>∀h,DV.str (@DV.str.elim (λ_=>List Nat) v h id)=v) v h (λ_ _=>rfl) h
def iC:DV->Option (Nat×Int):=iP DV.ctorIdx 6 λv h=>@DV.sint.elim (λ_=>Nat×Int) v h Prod.mk
def dw:∀v:DV,On (λp=>.sint p.1 p.2=v) (iC v):=cH (λp:Nat×Int=>DV.sint p.1 p.2) λv h=>@DV.sint.elim (λv=>∀h,(λp:Nat×Int=>DV.sint p.1 p.2) (@DV.sint.elim (λ_=>Nat×Int) v h Prod.mk)=v) v h (λ_ _ _=>rfl) h
def sO:DV->Option (Nat):=iP DV.ctorIdx 7 λv h=>@DV.gO.elim (λ_=>Nat) v h id
def jK:∀v:DV,On (λp=>.gO p=v) (sO v):=cH .gO λv h=>@DV.gO.elim (λv=>∀h,DV.gO (@DV.gO.elim (λ_=>Nat) v h id)=v) v h (λ_ _=>rfl) h
def zr:DV->Option (List DV):=iP DV.ctorIdx 8 λv h=>@DV.tup.elim (λ_=>List DV) v h id
def qP:∀v:DV,On (λp=>.tup p=v) (zr v):=cH .tup λv h=>@DV.tup.elim (λv=>∀h,DV.tup (@DV.tup.elim (λ_=>List DV) v h id)=v) v h (λ_ _=>rfl) h
def yn:DV->Option (List DV):=iP DV.ctorIdx 9 λv h=>@DV.lst.elim (λ_=>List DV) v h id
def kc:∀v:DV,On (λp=>.lst p=v) (yn v):=cH .lst λv h=>@DV.lst.elim (λv=>∀h,DV.lst (@DV.lst.elim (λ_=>List DV) v h id)=v) v h (λ_ _=>rfl) h
def IB:DV->Option (List (DV×DV)):=iP DV.ctorIdx 10 λv h=>@DV.iI.elim (λ_=>List (DV×DV)) v h id
def qD:∀v:DV,On (λp=>.iI p=v) (IB v):=cH .iI λv h=>@DV.iI.elim (λv=>∀h,DV.iI (@DV.iI.elim (λ_=>List (DV×DV)) v h id)=v) v h (λ_ _=>rfl) h
def uo:DV->Option (Nat×List (Str×DV)):=iP DV.ctorIdx 11 λv h=>@DV.inst.elim (λ_=>Nat×List (Str×DV)) v h Prod.mk
def nT:∀v:DV,On (λp=>.inst p.1 p.2=v) (uo v):=cH (λp:Nat×List (Str×DV)=>DV.inst p.1 p.2) λv h=>@DV.inst.elim (λv=>∀h,(λp:Nat×List (Str×DV)=>DV.inst p.1 p.2) (@DV.inst.elim (λ_=>Nat×List (Str×DV)) v h Prod.mk)=v) v h (λ_ _ _=>rfl) h
def NX:DV->Option (Nat):=iP DV.ctorIdx 13 λv h=>@DV.cls.elim (λ_=>Nat) v h id
def qA:∀v:DV,On (λp=>.cls p=v) (NX v):=cH .cls λv h=>@DV.cls.elim (λv=>∀h,DV.cls (@DV.cls.elim (λ_=>Nat) v h id)=v) v h (λ_ _=>rfl) h
def fnD:DV->Option (Nat):=iP DV.ctorIdx 14 λv h=>@DV.fn.elim (λ_=>Nat) v h id
def I1:∀v:DV,On (λp=>.fn p=v) (fnD v):=cH .fn λv h=>@DV.fn.elim (λv=>∀h,DV.fn (@DV.fn.elim (λ_=>Nat) v h id)=v) v h (λ_ _=>rfl) h
def J4:DV->Option (Nat):=iP DV.ctorIdx 15 λv h=>@DV.bj.elim (λ_=>Nat) v h id
def yp:∀v:DV,On (λp=>.bj p=v) (J4 v):=cH .bj λv h=>@DV.bj.elim (λv=>∀h,DV.bj (@DV.bj.elim (λ_=>Nat) v h id)=v) v h (λ_ _=>rfl) h
def uE:ae->Option (DV):=iP ae.ctorIdx 0 λv h=>@ae.pv.elim (λ_=>DV) v h id
def iA:∀v:ae,On (λp=>.pv p=v) (uE v):=cH .pv λv h=>@ae.pv.elim (λv=>∀h,ae.pv (@ae.pv.elim (λ_=>DV) v h id)=v) v h (λ_ _=>rfl) h
def vQ:ae->Option (List DV):=iP ae.ctorIdx 1 λv h=>@ae.ml.elim (λ_=>List DV) v h id
def Ax:∀v:ae,On (λp=>.ml p=v) (vQ v):=cH .ml λv h=>@ae.ml.elim (λv=>∀h,ae.ml (@ae.ml.elim (λ_=>List DV) v h id)=v) v h (λ_ _=>rfl) h
def RQ:ae->Option (List (DV×DV)):=iP ae.ctorIdx 2 λv h=>@ae.md.elim (λ_=>List (DV×DV)) v h id
def J2:∀v:ae,On (λp=>.md p=v) (RQ v):=cH .md λv h=>@ae.md.elim (λv=>∀h,ae.md (@ae.md.elim (λ_=>List (DV×DV)) v h id)=v) v h (λ_ _=>rfl) h
def qo (v:DV):Bool:=Nat.beq v.ctorIdx 2
def lW {v:DV} (h:qo v=true):.none=v:=@DV.none.elim (λv=>.none=v) v (iS h) rfl
def o6 (v:DV):Bool:=Nat.beq v.ctorIdx 12
def hU {v:DV} (h:o6 v=true):.self=v:=@DV.self.elim (λv=>.self=v) v (iS h) rfl
abbrev afk:=Addr->Option Obj
structure Val where
 β:Nat->Int
 ς:Nat->List Nat
structure Base where
 hp:Heap
 V:Val
 sys:(hp.get? sysModules).isSome=true
structure Gh where
 V:Val
 g:afk
 par:Option (Addr×Addr)
 OA:Addr->Prop
 OL:Addr->Prop
def lim:Nat:=2 ^ 22
abbrev bG (vs:List Value) (n:Nat):Obj:={cls:=.type "list",data:=.seq ⟨vs⟩ n}
abbrev pN (vs:List Value) (n:Nat):Obj:={cls:=.type "tuple",data:=.seq ⟨vs⟩ n}
def look {α:Type} (l:List (Str×α)) (x:Str):Option α:=List.rec (motive:=λ_=>Option α) none (λp _ ih=>if p.1=x then some p.2 else ih) l
def put {α:Type} (l:List (Str×α)) (x:Str) (v:α):List (Str×α):=List.rec (motive:=λ_=>List (Str×α)) [(x,v)] (λp r ih=>if p.1=x then(x,v)::r else p::ih) l
def dh {α:Type} (p:Str×α) (r:List (Str×α)) (x:Str):look (p::r) x=if p.1=x then some p.2 else look r x:=rfl
def abE {α:Type} {P:List (Str×α)->Prop} (l:List (Str×α)) (h0:P []) (h1:∀n v r,P r->P ((n,v)::r)):P l:=by
 induction l with
 |nil=>exact h0
 |cons p r ih=>exact h1 _ _ _ ih
def abd {α:Type} {c:Prop} [Decidable c] {a b d:α} (h1:c->a=d) (h2:¬c->b=d):(if c then a else b)=d:=by by_cases q:c;rw[d7 q,h1 q];rw[dX q,h2 q]
def r7 {α:Type} (l:List (Str×α)) (x:Str) (v:α) (y:Str):look (put l x v) y=if y=x then some v else look l y:=by
 induction l with
 |nil=>exact abd (λh:x=y=>by rw[d7 h.symm]) λh=>by rw[dX λq=>h q.symm];rfl
 |cons p r ih=>
  show look (if p.1=x then(x,v)::r else p::put r x v) y=if y=x then some v else if p.1=y then some p.2 else look r y
  by_cases h:p.1=x
  ·rw[d7 h,h,dh]
   by_cases q:y=x
   ·rw[d7 q,d7 q.symm]
   ·rw[dX q,dX λz=>q z.symm,dX λz=>q z.symm]
  ·rw[dX h,dh,ih]
   by_cases q:p.1=y
   ·rw[d7 q,d7 q,dX λz=>h (q.trans z)]
   ·rw[dX q,dX q]
def f6 {α β:Type} (f:α->β) (l:List (Str×α)) (x:Str):look (l.map λp=>(p.1,f p.2)) x=(look l x).map f:=by
 induction l with
 |nil=>rfl
 |cons p r ih=>
  rw[w6,dh,dh,ih]
  by_cases q:p.1=x
  ·rw[d7 q,d7 q];rfl
  ·rw[dX q,dX q]
inductive Zip {α β:Type} (R:α->β->Prop):List α->List β->Prop
 |nil:Zip R [] []
 |cons {a:α} {b:β} {l:List α} {m:List β}:R a b->Zip R l m->Zip R (a::l) (b::m)
section
variable {α β γ:Type} {R:α->β->Prop} {l:List α} {m:List β}
def Zip.len (h:Zip R l m):l.length=m.length:=by induction h with|nil=>rfl|cons _ _ ih=>exact aT (· +1) ih
def Zip.mono {R':α->β->Prop} (k:∀a b,R a b->R' a b) (h:Zip R l m):Zip R' l m:=by induction h with|nil=>exact .nil|cons a _ ih=>exact .cons (k _ _ a) ih
@[elab_as_elim] def Zip.jr {Q:List β->Prop} (h:Zip R [] m) (k:Q []):Q m:=by cases h;exact k
@[elab_as_elim] def Zip.fy {a:α} {Q:List β->Prop} (h:Zip R (a::l) m) (k:∀b m',R a b->Zip R l m'->Q (b::m')):Q m:=by cases h with|cons x y=>exact k _ _ x y
def Zip.app {l':List α} {m':List β} (h:Zip R l m) (h':Zip R l' m'):Zip R (l++l') (m++m'):=by induction h with|nil=>exact h'|cons a _ ih=>exact .cons a ih
def Zip.take (h:Zip R l m):∀n,Zip R (l.take n) (m.take n):=by
 induction h with
 |nil=>intro n;rw[List.take_nil,List.take_nil];exact .nil
 |cons a _ ih=>intro n;cases n with|zero=>exact .nil|succ n=>exact .cons a (ih n)
def Zip.drop (h:Zip R l m):∀n,Zip R (l.drop n) (m.drop n):=by
 induction h with
 |nil=>intro n;rw[List.drop_nil,List.drop_nil];exact .nil
 |cons a t ih=>intro n;cases n with|zero=>exact .cons a t|succ n=>exact ih n
def Zip.erase (h:Zip R l m):∀n,Zip R (l.eraseIdx n) (m.eraseIdx n):=by
 induction h with
 |nil=>exactλ_=>.nil
 |cons a t ih=>intro n;cases n with|zero=>exact t|succ n=>exact .cons a (ih n)
def Zip.at (h:Zip R l m):∀(i:Nat) (a:α),l[i]?=some a->∃b,m[i]?=some b/\R a b:=by
 induction h with
 |nil=>exactλ_ _ e=>nomatch e
 |cons x _ ih=>intro i a e;cases i with|zero=>cases e;exact⟨_,rfl,x⟩ |succ i=>exact ih i a e
end
def DV.ind {M:DV->Prop} (any:M .any) (rf:M .rf) (none:M .none) (bool:∀b,M (.bool b)) (int:∀i,M (.int i)) (str:∀l,M (.str l)) (sint:∀t k,M (.sint t k)) (gO:∀k,M (.gO k)) (tup:∀l,(∀d∈l,M d)->M (.tup l)) (lst:∀l,(∀d∈l,M d)->M (.lst l))
    (iI:∀l,(∀p∈l,M p.2)->M (.iI l)) (inst:∀c fs,(∀x d,look fs x=some d->M d)->M (.inst c fs)) (self:M .self) (cls:∀c,M (.cls c)) (fn:∀a,M (.fn a)) (bj:∀a,M (.bj a)) (d:DV):M d:=
 DV.rec (motive_1:=M) (motive_2:=λl=>∀d∈l,M d) (motive_3:=λl=>∀p∈l,M p.2) (motive_4:=λl=>∀x d,look l x=some d->M d) (motive_5:=λp=>M p.2) (motive_6:=λp=>M p.2)
  any rf none bool int str sint gO tup lst iI inst self cls fn bj (λ_ h=>nomatch h) (λ_ _ a b=>e8.mpr ⟨a,b⟩) (λ_ h=>nomatch h) (λ_ _ a b=>e8.mpr ⟨a,b⟩) (λ_ _ h=>nomatch h)
  (λp r a b x d e=>by
    rw[dh] at e
    by_cases q:p.1=x
    ·rw[d7 q] at e;exact eN e▸a
    ·rw[dX q] at e;exact b x d e) (λ_ _ _ h=>h) (λ_ _ h=>h) d
def SR (P:Params) (k:DV) (e:DictEntry):Prop:=@DV.casesOn (λ_=>Prop) k False False False (λ_=>False) (λi=>∃t,e.key=.int i t/\e.hash=PySem.hashInt i) (λx=>x.length<=lim/\∃t,e.key=.str ⟨⟨x⟩⟩ t/\e.hash=PyData.keyHash P ⟨⟨x⟩⟩)
 (λ_ _=>False) (λ_=>False) (λ_=>False) (λ_=>False) (λ_=>False) (λ_ _=>False) False (λ_=>False) (λ_=>False) λ_=>False
def DR (P:Params) (G:Gh) (d:DV):Value->Prop:=DV.rec (motive_1:=λ_=>Value->Prop) (motive_2:=λ_=>List Value->Prop) (motive_3:=λ_=>List DictEntry->Prop) (motive_4:=λ_=>Str->Option (Value->Prop)) (motive_5:=λ_=>DictEntry->Prop) (motive_6:=λ_=>Str×(Value->Prop))
 (λv=>handedIn v=true) (λv=>∃a,v=.ref a) (λv=>v=.none) (λb v=>v=.bool b) (λi v=>∃t,v=.int i t) (λl v=>∃t,v=.str ⟨⟨l⟩⟩ t/\l.length<=lim) (λt k v=>∃tk,v=.int (G.V.β t+k) tk) (λk v=>∃t,v=.str ⟨⟨G.V.ς k⟩⟩ t/\(G.V.ς k).length<=lim)
 (λ_ R v=>∃a vs n,v=.ref a/\G.g a=some (pN vs n)/\vs.length<=lim/\R vs) (λ_ R v=>∃a vs n,v=.ref a/\G.g a=some (bG vs n)/\vs.length<=lim/\R vs)
 (λ_ R v=>∃a es n,v=.ref a/\(a==sysModules)=false/\G.g a=some (dictOf es n)/\R es)
 (λc _ L v=>∃a d es n,v=.ref a/\G.g a=some ⟨.ref c,some d,.plain,#[]⟩/\G.g d=some (dictOf es n)/\∀x,Option.rec (motive:=λ_=>Prop) (getL x es=some none) (λR=>∃u,getL x es=some (some u)/\R u) (L x))
 (λv=>∃p d,v=.ref p/\G.par=some (p,d)) (λc v=>v=.ref c) (λa v=>v=.ref a) (λa v=>∃m p d,v=.ref m/\G.par=some (p,d)/\G.g m=some (methodObj (.ref a) (.ref p)))
 (λvs=>vs=[]) (λ_ _ R T vs=>∃u us,vs=u::us/\R u/\T us) (λes=>es=[]) (λ_ _ R T es=>∃u us,es=u::us/\R u/\T us) (λ_=>none) (λ_ _ p L x=>if p.1=x then some p.2 else L x) (λk _ _ R e=>SR P k e/\R e.val) (λx _ R=>(x,R)) d
def eC (P:Params) (G:Gh):List DV->List Value->Prop:=Zip (DR P G)
def qU (P:Params) (G:Gh):List (DV×DV)->List DictEntry->Prop:=Zip λp e=>SR P p.1 e/\DR P G p.2 e.val
def lL {α β:Type} {R:α->β->Prop} {a:α} {l:List α} {T:List β->Prop} (h:∀m,Zip R l m↔T m) (m:List β):Zip R (a::l) m↔∃u us,m=u::us/\R a u/\T us:=
 ⟨λq=>q.fy (Q:=λm=>∃u us,m=u::us/\R a u/\T us) λb m' x y=>⟨b,m',rfl,x,(h m').mp y⟩,λ⟨_,_,e,x,y⟩=>e▸.cons x ((h _).mpr y)⟩
def oH {α β:Type} {R:α->β->Prop} (m:List β):Zip R ([]:List α) m↔m=[]:=⟨λq=>q.jr (Q:=λm=>m=[]) rfl,λe=>e▸.nil⟩
section
variable {P:Params} {G G':Gh}
def IG (l:List DV) (v:Value):DR P G (.tup l) v↔∃a vs n,v=.ref a/\G.g a=some (pN vs n)/\vs.length<=lim/\eC P G l vs:=by
 have k:∃T:List Value->Prop,(∀vs,eC P G l vs↔T vs)/\DR P G (.tup l)=λv=>∃a vs n,v=.ref a/\G.g a=some (pN vs n)/\vs.length<=lim/\T vs:=by
  refine⟨_,?_,rfl⟩
  induction l with
  |nil=>exact oH
  |cons d l ih=>exact lL ih
 obtain⟨T,h,e⟩:=k
 rw[e,show T=eC P G l from funext λvs=>propext (h vs).symm]
def Ac (l:List DV) (v:Value):DR P G (.lst l) v↔∃a vs n,v=.ref a/\G.g a=some (bG vs n)/\vs.length<=lim/\eC P G l vs:=by
 have k:∃T:List Value->Prop,(∀vs,eC P G l vs↔T vs)/\DR P G (.lst l)=λv=>∃a vs n,v=.ref a/\G.g a=some (bG vs n)/\vs.length<=lim/\T vs:=by
  refine⟨_,?_,rfl⟩
  induction l with
  |nil=>exact oH
  |cons d l ih=>exact lL ih
 obtain⟨T,h,e⟩:=k
 rw[e,show T=eC P G l from funext λvs=>propext (h vs).symm]
def Ab (l:List (DV×DV)) (v:Value):DR P G (.iI l) v↔∃a es n,v=.ref a/\(a==sysModules)=false/\G.g a=some (dictOf es n)/\qU P G l es:=by
 have k:∃T:List DictEntry->Prop,(∀vs,qU P G l vs↔T vs)/\DR P G (.iI l)=λv=>∃a es n,v=.ref a/\(a==sysModules)=false/\G.g a=some (dictOf es n)/\T es:=by
  refine⟨_,?_,rfl⟩
  induction l with
  |nil=>exact oH
  |cons d l ih=>exact lL ih
 obtain⟨T,h,e⟩:=k
 rw[e,show T=qU P G l from funext λvs=>propext (h vs).symm]
def DJ (c:Nat) (fs:List (Str×DV)) (v:Value):DR P G (.inst c fs) v↔∃a d es n,v=.ref a/\G.g a=some ⟨.ref c,some d,.plain,#[]⟩/\G.g d=some (dictOf es n)/\
    ∀x,Option.rec (motive:=λ_=>Prop) (getL x es=some none) (λR=>∃u,getL x es=some (some u)/\R u) ((look fs x).map (DR P G)):=by
 have k:∃L:Str->Option (Value->Prop),(∀x,(look fs x).map (DR P G)=L x)/\DR P G (.inst c fs)=λv=>∃a d es n,v=.ref a/\G.g a=some ⟨.ref c,some d,.plain,#[]⟩/\G.g d=some (dictOf es n)/\∀x,Option.rec (motive:=λ_=>Prop) (getL x es=some none) (λR=>∃u,getL x es=some (some u)/\R u) (L x):=by
  refine⟨_,?_,rfl⟩
  induction fs with
  |nil=>exactλ_=>rfl
  |cons p r ih=>
   intro x
   rw[dh]
   by_cases q:p.1=x
   ·rw[d7 q];exact(d7 q).symm
   ·rw[dX q];exact(ih x).trans (dX q).symm
 obtain⟨L,h,e⟩:=k
 rw[e,show L=λx=>(look fs x).map (DR P G) from funext λx=>(h x).symm]
def DR.int (i:Int) (t:Tok):DR P G (.int i) (.int i t):=⟨t,rfl⟩
def DR.none:DR P G .none .none:=rfl
def DR.bool (b:Bool):DR P G (.bool b) (.bool b):=rfl
def DR.any (v:Value) (h:handedIn v=true):DR P G .any v:=h
def DR.rf (a:Addr):DR P G .rf (.ref a):=⟨a,rfl⟩
def DR.cls (c:Nat):DR P G (.cls c) (.ref c):=rfl
def DR.fn (c:Nat):DR P G (.fn c) (.ref c):=rfl
def DR.str (l:List Nat) (t:Tok) (h:l.length<=lim):DR P G (.str l) (.str ⟨⟨l⟩⟩ t):=⟨t,rfl,h⟩
def DR.self {p d:Addr} (h:G.par=some (p,d)):DR P G .self (.ref p):=⟨p,d,rfl,h⟩
def DR.tup {l:List DV} {a:Addr} {vs:List Value} {n:Nat} (h:G.g a=some (pN vs n)) (z:vs.length<=lim) (r:eC P G l vs):DR P G (.tup l) (.ref a):=(IG l _).mpr ⟨a,vs,n,rfl,h,z,r⟩
def DR.lst {l:List DV} {a:Addr} {vs:List Value} {n:Nat} (h:G.g a=some (bG vs n)) (z:vs.length<=lim) (r:eC P G l vs):DR P G (.lst l) (.ref a):=(Ac l _).mpr ⟨a,vs,n,rfl,h,z,r⟩
def DR.iI {l:List (DV×DV)} {a:Addr} {es:List DictEntry} {n:Nat} (q:(a==sysModules)=false) (h:G.g a=some (dictOf es n)) (r:qU P G l es):DR P G (.iI l) (.ref a):=(Ab l _).mpr ⟨a,es,n,rfl,q,h,r⟩
def DR.inst {c:Nat} {fs:List (Str×DV)} {a d:Addr} {es:List DictEntry} {n:Nat} (h:G.g a=some ⟨.ref c,some d,.plain,#[]⟩) (h':G.g d=some (dictOf es n)) (k2:∀x,look fs x=Option.none->getL x es=some Option.none)
    (k1:∀x dv,look fs x=some dv->∃v,getL x es=some (some v)/\DR P G dv v):DR P G (.inst c fs) (.ref a):=(DJ c fs _).mpr ⟨a,d,es,n,rfl,h,h',λx=>by
 cases e:look fs x with
 |none=>exact k2 x e
 |some dv=>exact k1 x dv e⟩
def DR.bj {a m p d:Addr} (h:G.par=some (p,d)) (h':G.g m=some (methodObj (.ref a) (.ref p))):DR P G (.bj a) (.ref m):=⟨m,p,d,rfl,h,h'⟩
section
variable {Q:Value->Prop} {u:Value}
@[elab_as_elim] def DR.uy (h:DR P G .none u) (k:Q .none):Q u:=fa (show u=.none from h)▸k
@[elab_as_elim] def DR.k9 {b:Bool} (h:DR P G (.bool b) u) (k:Q (.bool b)):Q u:=fa (show u=.bool b from h)▸k
@[elab_as_elim] def DR.fQ {i:Int} (h:DR P G (.int i) u) (k:∀t,Q (.int i t)):Q u:=Exists.elim h λt e=>fa e▸k t
@[elab_as_elim] def DR.uN {i:Nat} {j:Int} (h:DR P G (.sint i j) u) (k:∀t,Q (.int (G.V.β i+j) t)):Q u:=Exists.elim h λt e=>fa e▸k t
@[elab_as_elim] def DR.gg {l:List Nat} (h:DR P G (.str l) u) (k:∀t,l.length<=lim->Q (.str ⟨⟨l⟩⟩ t)):Q u:=Exists.elim h λt e=>fa e.1▸k t e.2
@[elab_as_elim] def DR.sP {i:Nat} (h:DR P G (.gO i) u) (k:∀t,(G.V.ς i).length<=lim->Q (.str ⟨⟨G.V.ς i⟩⟩ t)):Q u:=Exists.elim h λt e=>fa e.1▸k t e.2
@[elab_as_elim] def DR.rfE (h:DR P G .rf u) (k:∀a,Q (.ref a)):Q u:=Exists.elim h λt e=>fa e▸k t
@[elab_as_elim] def DR.NY {c:Nat} (h:DR P G (.cls c) u) (k:Q (.ref c)):Q u:=fa (show u=.ref c from h)▸k
@[elab_as_elim] def DR.fnE {c:Nat} (h:DR P G (.fn c) u) (k:Q (.ref c)):Q u:=fa (show u=.ref c from h)▸k
@[elab_as_elim] def DR.yU (h:DR P G .self u) (k:∀p d,G.par=some (p,d)->Q (.ref p)):Q u:=mw h λp d e h=>fa e▸k p d h
@[elab_as_elim] def DR.Ec {a:Nat} (h:DR P G (.bj a) u) (k:∀m p d,G.par=some (p,d)->G.g m=some (methodObj (.ref a) (.ref p))->Q (.ref m)):Q u:=e33 h λm p d e h h'=>fa e▸k m p d h h'
@[elab_as_elim] def DR.mF {l:List DV} (h:DR P G (.tup l) u) (k:∀a vs n,G.g a=some (pN vs n)->vs.length<=lim->eC P G l vs->Q (.ref a)):Q u:=DL ((IG l u).mp h) λa vs n e h z r=>fa e▸k a vs n h z r
@[elab_as_elim] def DR.lu {l:List DV} (h:DR P G (.lst l) u) (k:∀a vs n,G.g a=some (bG vs n)->vs.length<=lim->eC P G l vs->Q (.ref a)):Q u:=DL ((Ac l u).mp h) λa vs n e h z r=>fa e▸k a vs n h z r
@[elab_as_elim] def DR.vm {l:List (DV×DV)} (h:DR P G (.iI l) u) (k:∀a es n,(a==sysModules)=false->G.g a=some (dictOf es n)->qU P G l es->Q (.ref a)):Q u:=DL ((Ab l u).mp h) λa vs n e h z r=>fa e▸k a vs n h z r
@[elab_as_elim] def DR.nU {c:Nat} {fs:List (Str×DV)} (h:DR P G (.inst c fs) u) (k:∀a d es n,G.g a=some ⟨.ref c,some d,.plain,#[]⟩->G.g d=some (dictOf es n)->(∀x,look fs x=Option.none->getL x es=some Option.none)->
 (∀x dv,look fs x=some dv->∃v,getL x es=some (some v)/\DR P G dv v)->Q (.ref a)):Q u:=
  gm ((DJ c fs u).mp h) λa d es q=>N8 q λn e h h' r=>fa e▸k a d es n h h' (λx q=>by have:=r x;rw[q] at this;exact this) λx dv q=>by have:=r x;rw[q] at this;exact this
end
def DR.handed {d:DV} {u:Value} (h:DR P G d u):handedIn u=true:=by
 cases d with
 |any=>exact h
 |rf=>exact Exists.elim h λa e=>e▸rfl
 |none=>exact h.uy rfl
 |bool=>exact h.k9 rfl
 |int=>exact h.fQ λ_=>rfl
 |str=>exact h.gg λ_ _=>rfl
 |sint=>exact h.uN λ_=>rfl
 |gO=>exact h.sP λ_ _=>rfl
 |tup=>exact h.mF λ_ _ _ _ _ _=>rfl
 |lst=>exact h.lu λ_ _ _ _ _ _=>rfl
 |iI=>exact h.vm λ_ _ _ _ _ _=>rfl
 |inst=>exact h.nU λ_ _ _ _ _ _ _ _=>rfl
 |self=>exact h.yU λ_ _ _=>rfl
 |cls=>exact h.NY rfl
 |fn=>exact h.fnE rfl
 |bj=>exact h.Ec λ_ _ _ _ _=>rfl
def DV.free (d:DV):Bool:=DV.rec (motive_1:=λ_=>Bool) (motive_2:=λ_=>Bool) (motive_3:=λ_=>Bool) (motive_4:=λ_=>Bool) (motive_5:=λ_=>Bool) (motive_6:=λ_=>Bool)
 true true true (λ_=>true) (λ_=>true) (λ_=>true) (λ_ _=>true) (λ_=>true) (λ_ b=>b) (λ_ b=>b) (λ_ b=>b) (λ_ _ b=>b) false (λ_=>true) (λ_=>true) (λ_=>false)
 true (λ_ _ a b=>a&&b) true (λ_ _ a b=>a&&b) true (λ_ _ a b=>a&&b) (λ_ _ _ b=>b) (λ_ _ b=>b) d
def gT (l:List DV):Bool:=(DV.tup l).free
def DX (l:List (DV×DV)):Bool:=(DV.iI l).free
def DY (l:List (Str×DV)):Bool:=(DV.inst 0 l).free
def o4 {l:List DV} (h:gT l=true):∀d∈l,d.free=true:=by
 induction l with
 |nil=>exactλ_ h=>nomatch h
 |cons d l ih=>have⟨a,b⟩:=aw (show(d.free&&gT l)=true from h);exact e8.mpr ⟨a,ih b⟩
def uh {l:List (DV×DV)} (h:DX l=true):∀p∈l,p.2.free=true:=by
 induction l with
 |nil=>exactλ_ h=>nomatch h
 |cons d l ih=>have⟨a,b⟩:=aw (show(d.2.free&&DX l)=true from h);exact e8.mpr ⟨a,ih b⟩
def rI {fs:List (Str×DV)} {x:Str} {d:DV} (h:DY fs=true):look fs x=some d->d.free=true:=by
 induction fs with
 |nil=>exactλh=>nomatch h
 |cons p r ih=>
  have⟨h1,h2⟩:=aw (show(p.2.free&&DY r)=true from h)
  intro e
  rw[dh] at e
  by_cases q:p.1=x
  ·rw[d7 q] at e;exact eN e▸h1
  ·rw[dX q] at e;exact ih h2 e
def part {a b:Bool} (k:b=true->a=true) (q:a=false):b=false:=by cases b;rfl;rw[k rfl] at q;exact tf q
def Zip.imp {α β:Type} {R R':α->β->Prop} {l:List α} {m:List β} (h:Zip R l m) (k:∀a∈l,∀b,R a b->R' a b):Zip R' l m:=by
 induction h with
 |nil=>exact .nil
 |cons a _ ih=>have k:=e8.mp k;exact .cons (k.1 _ a) (ih k.2)
def DR.move (kv:G'.V=G.V) (kg:∀b o,G.g b=some o->G'.g b=some o) (d:DV):(d.free=false->∀x,G.par=some x->G'.par=some x)->∀v,DR P G d v->DR P G' d v:=by
 refine DV.ind (M:=λd=>(d.free=false->∀x,G.par=some x->G'.par=some x)->∀v,DR P G d v->DR P G' d v)
  (λ_ _ h=>h) (λ_ _ h=>h) (λ_ _ h=>h) (λ_ _ _ h=>h) (λ_ _ _ h=>h) (λ_ _ _ h=>h) (λt j _ v h=>?_) (λj _ v h=>?_)
  (λl ih k v h=>h.mF λ_ _ _ h z r=>.tup (kg _ _ h) z (r.imp λd m=>ih d m λq=>k (part (λf=>o4 f d m) q)))
  (λl ih k v h=>h.lu λ_ _ _ h z r=>.lst (kg _ _ h) z (r.imp λd m=>ih d m λq=>k (part (λf=>o4 f d m) q)))
  (λl ih k v h=>h.vm λ_ _ _ s h r=>.iI s (kg _ _ h) (r.imp λd m _ h=>⟨h.1,ih d m (λq=>k (part (λf=>uh f d m) q)) _ h.2⟩))
  (λc fs ih k v h=>h.nU λ_ _ _ _ h h' k2 k1=>.inst (kg _ _ h) (kg _ _ h') k2 λx dv e=>(k1 x dv e).elim λu h=>⟨u,h.1,ih x dv e (λq=>k (part (λf=>rI f e) q)) u h.2⟩)
  (λk v h=>h.yU λ_ _ h=>.self (k rfl _ h)) (λ_ _ _ h=>h) (λ_ _ _ h=>h) (λa k v h=>h.Ec λ_ _ _ h h'=>.bj (k rfl _ h) (kg _ _ h')) d
 ·exact h.uN λtk=>⟨tk,by rw[kv]⟩
 ·exact h.sP λtk z=>⟨tk,by rw[kv],by rw[kv];exact z⟩
structure Sub (G G':Gh):Prop where
 V:G'.V=G.V
 g:∀b o,G.g b=some o->G'.g b=some o
 par:∀x,G.par=some x->G'.par=some x
def Sub.refl (G:Gh):Sub G G:=⟨rfl,λ_ _ h=>h,λ_ h=>h⟩
def Sub.trans {xa:Gh} (a:Sub G G') (b:Sub G' xa):Sub G xa:=⟨b.V.trans a.V,λx o h=>b.g x o (a.g x o h),λx h=>b.par x (a.par x h)⟩
def DR.mono (k:Sub G G') {d:DV} {v:Value} (h:DR P G d v):DR P G' d v:=DR.move k.V k.g d (λ_=>k.par) v h
def DR.free (kv:G'.V=G.V) (kg:∀b o,G.g b=some o->G'.g b=some o) {d:DV} {v:Value} (h:DR P G d v) (f:d.free=true):DR P G' d v:=DR.move kv kg d (λq=>by rw[f] at q;exact tf q) v h
def eC.mono (k:Sub G G') {l:List DV} {vs:List Value} (h:eC P G l vs):eC P G' l vs:=Zip.mono (λ_ _=>DR.mono k) h
def qU.mono (k:Sub G G') {l:List (DV×DV)} {es:List DictEntry} (h:qU P G l es):qU P G' l es:=Zip.mono (λ_ _ x=>⟨x.1,x.2.mono k⟩) h
def eC.free (kv:G'.V=G.V) (kg:∀b o,G.g b=some o->G'.g b=some o) {l:List DV} {vs:List Value} (h:eC P G l vs) (f:gT l=true):eC P G' l vs:=Zip.imp h λd m _ h=>DR.free kv kg h (o4 f d m)
def qU.free (kv:G'.V=G.V) (kg:∀b o,G.g b=some o->G'.g b=some o) {l:List (DV×DV)} {es:List DictEntry} (h:qU P G l es) (f:DX l=true):qU P G' l es:=Zip.imp h λd m _ h=>⟨h.1,DR.free kv kg h.2 (uh f d m)⟩
def eC.length {l:List DV} {vs:List Value} (h:eC P G l vs):l.length=vs.length:=Zip.len h
end
def ae.mut (k:ae):Bool:=ae.rec (motive:=λ_=>Bool) (λ_=>false) (λ_=>true) (λ_=>true) k
def bD (P:Params) (G:Gh) (h:Heap) (O:Addr->Prop) (k:ae):Value->Prop:=ae.rec (motive:=λ_=>Value->Prop) (λd=>DR P G d) (λl v=>∃a vs n,v=.ref a/\h.get? a=some (bG vs n)/\eC P G l vs/\vs.length<=lim/\O a)
 (λl v=>∃a es n,v=.ref a/\h.get? a=some (dictOf es n)/\qU P G l es/\O a) k
structure cj (P:Params) (G:Gh) (h:Heap) (O:Addr->Prop) (sl:List (Str×ae)) (m:Str->Option Value):Prop where
 miss:∀x,look sl x=none->m x=none
 hit:∀x k,look sl x=some k->∃v,m x=some v/\bD P G h O k v
 once:∀x y kx ky,look sl x=some kx->look sl y=some ky->kx.mut=true->ky.mut=true->m x=m y->x=y
def wd (d:Addr) (C:Nat):Obj:=⟨.ref C,some d,.plain,#[]⟩
def jS (es:List DictEntry) (x:Str):Option Value:=(getL x es).join
def qY (es:List DictEntry):Prop:=∀e∈es,∃n t,e.key=.str n t
structure mH (P:Params) (C:Nat) (G:Gh) (h:Heap) (as:List (Str×ae)) (p d:Addr) (es:List DictEntry) (n:Nat):Prop where
 par:G.par=some (p,d)
 inst:G.g p=some (wd d C)
 own:G.OA d
 dict:h.get? d=some (dictOf es n)
 len:es.length<=as.length
 str:qY es
 sl:cj P G h (λa=>G.OA a/\a≠d) as (jS es)
def Fl (P:Params) (C:Nat) (G:Gh) (h:Heap) (aq:Option (List (Str×ae))):Prop:=Option.rec (motive:=λ_=>Prop) (G.par=none) (λas=>∃p d es n,mH P C G h as p d es n) aq
structure cp (P:Params) (C:Nat) (Y:Base) (G:Gh) (aq:Option (List (Str×ae))) (s:Shared):Prop where
 pins:∀b o,G.g b=some o->s.heap.get? b=some o
 dQ:∀b o,Y.hp.get? b=some o->G.g b=some o
 val:G.V=Y.V
 fL:∀b,G.OA b->G.g b=none/\b<s.heap.objs.size
 fF:∀b,G.OL b->G.g b=none/\b<s.heap.objs.size
 apart:∀b,G.OA b->¬G.OL b
 attr:Fl P C G s.heap aq
structure Rep (P:Params) (C:Nat) (Y:Base) (G:Gh) (L:Addr) (Z:aj) (s:Shared):Prop extends cp P C Y G Z.aq s where
 fz:G.OL L
 locs:∃m,s.heap.Ns L m/\cj P G s.heap (λa=>G.OL a/\a≠L) Z.loc m
def Gh.O (G:Gh) (b:Addr):Prop:=G.OA b\/G.OL b
def AttAt (G:Gh) (s:Shared) (x:Str) (v:Value):Prop:=∃p dd es n,G.par=some (p,dd)/\s.heap.get? dd=some (dictOf es n)/\jS es x=some v
def fq:List Str:=["tokens","indents","states","marks"]
structure Later (O:Addr->Prop) (G:Gh) (s:Shared) (G':Gh) (s':Shared):Prop where
 sub:Sub G G'
 qj:∀b o,b<s.heap.objs.size->¬G.O b->G'.g b=some o->G.g b=some o
 anew:∀b,b<s.heap.objs.size->G'.OA b->G.OA b
 pe:∀b,b<s.heap.objs.size->G'.OL b->G.OL b
 kept:∀b o,s.heap.get? b=some o->¬O b->s'.heap.get? b=some o
 tM:∀x∈fq,∀v,AttAt G s x v->AttAt G' s' x v
 size:s.heap.objs.size<=s'.heap.objs.size
 gens:s'.gens=s.gens
 os:s'.os=s.os
def Later.trans {O O':Addr->Prop} {G G' xa:Gh} {s s' CN:Shared} (a:Later O G s G' s') (b:Later O' G' s' xa CN) (k:∀x,x<s.heap.objs.size->O' x->O x):Later O G s xa CN:=
 ⟨a.sub.trans b.sub,λx o t n h=>a.qj x o t n (b.qj x o (qt t a.size) (λq=>n (q.imp (a.anew x t) (a.pe x t))) h),λx t h=>a.anew x t (b.anew x (qt t a.size) h),λx t h=>a.pe x t (b.pe x (qt t a.size) h),
   λx o h n=>b.kept x o (a.kept x o h n) λq=>n (k x (uY h) q),λx hx v h=>b.tM x hx v (a.tM x hx v h),bB a.size b.size,b.gens.trans a.gens,b.os.trans a.os⟩
section
variable {G G' xa:Gh} {s s' CN:Shared}
def Later.trans' (a:Later G.O G s G' s') (b:Later G'.O G' s' xa CN):Later G.O G s xa CN:=a.trans b λx t q=>q.imp (a.anew x t) (a.pe x t)
def Later.aO (a:Later G.OA G s G' s') (b:Later G'.OA G' s' xa CN):Later G.OA G s xa CN:=a.trans b a.anew
def Later.up (a:Later G.OA G s G' s'):Later G.O G s G' s':={a with kept:=λb o h n=>a.kept b o h λq=>n (.inl q)}
variable {O:Addr->Prop}
def Later.same (k:∀b o,s.heap.get? b=some o->¬O b->s'.heap.get? b=some o) (st:∀x∈fq,∀v,AttAt G s x v->AttAt G s' x v) (z:s.heap.objs.size<=s'.heap.objs.size) (g:s'.gens=s.gens) (os:s'.os=s.os):Later O G s G s':=
 ⟨.refl G,λ_ _ _ _ h=>h,λ_ _ h=>h,λ_ _ h=>h,k,st,z,g,os⟩
def Later.keep (k:∀b o,s.heap.get? b=some o->s'.heap.get? b=some o) (z:s.heap.objs.size<=s'.heap.objs.size) (g:s'.gens=s.gens) (os:s'.os=s.os):Later O G s G s':=
 .same (λb o h _=>k b o h) (λ_ _ _ ⟨p,dd,es,n,a,b,c⟩=>⟨p,dd,es,n,a,k dd _ b,c⟩) z g os
def Later.refl (O:Addr->Prop) (G:Gh) (s:Shared):Later O G s G s:=.keep (λ_ _ h=>h) (fu _) rfl rfl
def bb {t:Nat}:Later O G s G {s with toks:=t}:=.keep (λ_ _ h=>h) (fu _) rfl rfl
def size_push (h:Heap) (o:Obj):h.objs.size<=(h.push o).objs.size:=M5 h o▸Nat.le_succ _
def eT (o:Obj) {t:Nat}:Later O G s G {s with heap:=s.heap.push o,toks:=t}:=.keep (λ_ _ h=>MR o h) (size_push s.heap o) rfl rfl
def Later.gh (S:Sub G G') (gn:∀b o,b<s.heap.objs.size->¬G.O b->G'.g b=some o->G.g b=some o) (an:∀b,b<s.heap.objs.size->G'.OA b->G.OA b) (ln:∀b,b<s.heap.objs.size->G'.OL b->G.OL b):Later O G s G' s:=
 ⟨S,gn,an,ln,λ_ _ h _=>h,λ_ _ _ ⟨p,dd,es,n,a,b,c⟩=>⟨p,dd,es,n,S.par _ a,b,c⟩,fu _,rfl,rfl⟩
end
section
variable {P:Params} {G G':Gh} {h h':Heap} {O O':Addr->Prop}
def bD.mono (k:Sub G G') {sl:ae} {v:Value} (kp:∀a o,O a->h.get? a=some o->h'.get? a=some o) (ko:∀a,O a->O' a) (x:bD P G h O sl v):bD P G' h' O' sl v:=by
 cases sl with
 |pv d=>exact DR.mono k x
 |ml l=>exact gm x λa vs n q=>a5 q λe g r z o=>⟨a,vs,n,e,kp a _ o g,r.mono k,z,ko a o⟩
 |md l=>exact DL x λa es n e g r o=>⟨a,es,n,e,kp a _ o g,r.mono k,ko a o⟩
@[elab_as_elim] def bD.Ay {Q:Value->Prop} {sl:ae} {v:Value} (x:bD P G h O sl v) (m:sl.mut=true) (k:∀a,O a->a<h.objs.size->(∀G' h' (O':Addr->Prop),Sub G G'->(∀o,h.get? a=some o->h'.get? a=some o)->O' a->bD P G' h' O' sl (.ref a))->Q (.ref a)):Q v:=by
  cases sl with
  |pv d=>exact ft m
  |ml l=>exact gm x λa vs n q=>a5 q λe g r z o=>fa e▸k a o (uY g) λG' h' O' S kp o'=>⟨a,vs,n,rfl,kp _ g,r.mono S,z,o'⟩
  |md l=>exact DL x λa es n e g r o=>fa e▸k a o (uY g) λG' h' O' S kp o'=>⟨a,es,n,rfl,kp _ g,r.mono S,o'⟩
def bD.at {sl:ae} {a:Addr} (x:bD P G h O sl (.ref a)) (m:sl.mut=true):O a:=(x.Ay (Q:=λv=>∀a,v=.ref a->O a) m λb o _ _ a e=>by cases e;exact o) a rfl
def bD.handed {sl:ae} {v:Value} (x:bD P G h O sl v):handedIn v=true:=by
 cases q:sl.mut with
 |true=>exact x.Ay q λ_ _ _ _=>rfl
 |false=>cases sl with|pv d=>exact DR.handed x|ml l=>exact tf q|md l=>exact tf q
def bD.keep {a:Addr} {sl:ae} {v:Value} (x:bD P G h O sl v) (S:Sub G G') (n:sl.mut=true->v≠.ref a) (kp:∀b o,O b->b≠a->h.get? b=some o->h'.get? b=some o) (ko:∀b,O b->b≠a->O' b):bD P G' h' O' sl v:=by
 cases q:sl.mut with
 |false=>cases sl with|pv d=>exact DR.mono S x|ml l=>exact tf q|md l=>exact tf q
 |true=>
  have n:=n q
  revert n
  exact x.Ay q λb o _ k n=>k G' h' O' S (λx g=>kp b x o (λz=>n (aT _ z)) g) (ko b o λz=>n (aT _ z))
variable {sl:List (Str×ae)} {m:Str->Option Value}
def cj.mono (k:Sub G G') (kp:∀a o,O a->h.get? a=some o->h'.get? a=some o) (ko:∀a,O a->O' a) (x:cj P G h O sl m):cj P G' h' O' sl m:=
 ⟨x.miss,λy s e=>bz (x.hit y s e) λv a b=>⟨v,a,b.mono k kp ko⟩,x.once⟩
def cj.Cy (S:cj P G h O sl m) {a:Addr} (n:¬O a) (y:Str) (ky:ae) (e:look sl y=some ky) (km:ky.mut=true) (q:m y=some (.ref a)):False:=
 bz (S.hit y ky e) λv hv ok=>n ((eN (hv.symm.trans q)▸ok:bD P G h O ky (.ref a)).at km)
def cj.GW {m':Str->Option Value} (S:cj P G h O sl m) (x:Str) (k:ae) (v:Value) (h1:m' x=some v) (h2:∀y,y≠x->m' y=m y) (hk:bD P G' h' O' k v)
    (hit:∀y ky u,y≠x->look sl y=some ky->m y=some u->bD P G h O ky u->bD P G' h' O' ky u) (one:k.mut=true->∀y ky,y≠x->look sl y=some ky->ky.mut=true->m y≠some v):cj P G' h' O' (put sl x k) m':=by
 have lk:∀y,y≠x->look (put sl x k) y=look sl y:=λy q=>(r7 ..).trans (dX q)
 have lx:look (put sl x k) x=some k:=(r7 ..).trans (d7 rfl)
 refine⟨λy e=>?_,λy ky e=>?_,λy z ky kz ey ez my mz e=>?_⟩
 ·by_cases q:y=x
  ·rw[q,lx] at e;exact sn e
  ·exact(h2 y q).trans (S.miss y ((lk y q).symm.trans e))
 ·by_cases q:y=x
  ·rw[q,lx] at e;exact⟨v,q▸h1,eN e▸hk⟩
  ·rw[lk y q] at e;exact bz (S.hit y ky e) λu a b=>⟨u,(h2 y q).trans a,hit y ky u q e a b⟩
 ·by_cases q:y=x
  ·by_cases r:z=x
   ·exact q.trans r.symm
   ·rw[lk z r] at ez;rw[q,h1,h2 z r] at e;rw[q,lx] at ey
    exact absurd e.symm (one (eN ey▸my) z kz r ez mz)
  ·rw[lk y q] at ey;rw[h2 y q] at e
   by_cases r:z=x
   ·rw[r,h1] at e;rw[r,lx] at ez
    exact absurd e (one (eN ez▸mz) y ky q ey my)
   ·rw[lk z r] at ez;rw[h2 z r] at e
    exact S.once y z ky kz ey ez my mz e
def cj.put (S:cj P G h O sl m) (x:Str) (k:ae) (v:Value) (hk:bD P G h O k v) (one:k.mut=true->∀y ky,y≠x->look sl y=some ky->ky.mut=true->m y≠some v):cj P G h O (Mine.put sl x k) (λy=>if y=x then some v else m y):=
 S.GW x k v (d7 rfl) (λ_ q=>dX q) hk (λ_ _ _ _ _ _ h=>h) one
def cj.upd (S:cj P G h O sl m) {x:Str} {k k':ae} {a:Addr} (hx:look sl x=some k) (km:k.mut=true) (hm:m x=some (.ref a)) (keep:∀b o,b≠a->h.get? b=some o->h'.get? b=some o) (ok:bD P G h' O k' (.ref a)):cj P G h' O (Mine.put sl x k') m:=
 have ne:∀y ky,y≠x->look sl y=some ky->ky.mut=true->m y≠some (.ref a):=λy ky q e my z=>q (S.once y x ky k e hx my km (z.trans hm.symm))
 S.GW x k' _ hm (λ_ _=>rfl) ok (λy ky u q e mu h=>h.keep (.refl G) (λmy z=>ne y ky q e my (z▸mu)) (λb o _ n=>keep b o n) λ_ h _=>h) λ_=>ne
def mH.mono {C:Nat} {as:List (Str×ae)} {p d:Addr} {es:List DictEntry} {n:Nat} (A:mH P C G h as p d es n) (S:Sub G G') (kp:∀a o,G.OA a->h.get? a=some o->h'.get? a=some o) (ko:∀a,G.OA a->G'.OA a):mH P C G' h' as p d es n:=
 ⟨S.par _ A.par,S.g _ _ A.inst,ko d A.own,kp d _ A.own A.dict,A.len,A.str,A.sl.mono S (λa o q=>kp a o q.1) λa q=>⟨ko a q.1,q.2⟩⟩
def Fl.mono {C:Nat} {aq:Option (List (Str×ae))} (A:Fl P C G h aq) (S:Sub G G') (hp:G.par=none->G'.par=none) (kp:∀a o,G.OA a->h.get? a=some o->h'.get? a=some o) (ko:∀a,G.OA a->G'.OA a):Fl P C G' h' aq:=by
 cases aq with
 |none=>exact hp A
 |some as=>exact dk A λp d q=>dk q λes n A=>⟨p,d,es,n,A.mono S kp ko⟩
end
section
variable {P:Params} {C:Nat} {Y:Base} {G G' eD:Gh} {L:Addr} {aq:Option (List (Str×ae))} {Z aa:aj} {s s' eL:Shared} {O:Addr->Prop} {t:Nat}
def cp.S0 (R:cp P C Y G aq s) {as:List (Str×ae)} (e:aq=some as):∃p d es n,mH P C G s.heap as p d es n:=by subst e;exact R.attr
def cp.Et (R:cp P C Y G aq s) {p d:Addr} (h:G.par=some (p,d)):G.OA d:=by
 have:=R.attr
 cases aq with
 |none=>exact sn (h.symm.trans this)
 |some as=>exact dk this λp' d' q=>dk q λes n A=>by have e:=h.symm.trans A.par;cases e;exact A.own
def cp.fresh (R:cp P C Y G aq s) {a:Addr} (h:s.heap.objs.size<=a):¬G.OA a/\¬G.OL a/\G.g a=none:=by
 refine⟨λq=>xk.mpr h (R.fL a q).2,λq=>xk.mpr h (R.fF a q).2,?_⟩
 cases q:G.g a with
 |none=>rfl
 |some o=>exact absurd (uY (R.pins _ _ q)) (xk.mpr h)
def oF {α:Type} {g:Addr->Option α} {a b:Addr} {o:α} (n:g a=none) (h:g b=some o):b≠a:=λe=>sn (h.symm.trans (e▸n))
def cp.keep (R:cp P C Y G aq s) (kg:∀b o,G.g b=some o->s.heap.get? b=some o->s'.heap.get? b=some o) (ka:∀b o,G.OA b->s.heap.get? b=some o->s'.heap.get? b=some o) (z:s.heap.objs.size<=s'.heap.objs.size):cp P C Y G aq s':=
 ⟨λb o h=>kg b o h (R.pins b o h),R.dQ,R.val,λb h=>⟨(R.fL b h).1,qt (R.fL b h).2 z⟩,λb h=>⟨(R.fF b h).1,qt (R.fF b h).2 z⟩,R.apart,R.attr.mono (.refl G) id ka λ_ q=>q⟩
def Rep.keep (R:Rep P C Y G L Z s) (kg:∀b o,G.g b=some o->s.heap.get? b=some o->s'.heap.get? b=some o) (ko:∀b o,G.O b->s.heap.get? b=some o->s'.heap.get? b=some o) (z:s.heap.objs.size<=s'.heap.objs.size):Rep P C Y G L Z s':=
 ⟨R.tocp.keep kg (λb o q=>ko b o (.inl q)) z,R.fz,bz R.locs λm hm hs=>⟨m,hm.at λo=>ko L o (.inr R.fz),hs.mono (.refl G) (λa o q=>ko a o (.inr q.1)) λ_ h=>h⟩⟩
def Rep.ext (R:Rep P C Y G L Z s) (k:∀b o,s.heap.get? b=some o->s'.heap.get? b=some o) (z:s.heap.objs.size<=s'.heap.objs.size):Rep P C Y G L Z s':=R.keep (λb o _=>k b o) (λb o _=>k b o) z
def Rep.heap (R:Rep P C Y G L Z s) (e:s'.heap=s.heap):Rep P C Y G L Z s':=R.ext (λb o h=>by rw[e];exact h) (jk (aT (λh:Heap=>h.objs.size) e.symm))
def Rep.toks (R:Rep P C Y G L Z s):Rep P C Y G L Z {s with toks:=t}:=R.heap rfl
def Rep.push (R:Rep P C Y G L Z s) (o:Obj):Rep P C Y G L Z {s with heap:=s.heap.push o,toks:=t}:=R.ext (λ_ _ h=>MR o h) (size_push s.heap o)
def Rep.toA {loc:List (Str×ae)} (R:Rep P C Y G L ⟨aq,loc⟩ s):cp P C Y G aq s:=R.tocp
def cp.gh (R:cp P C Y G aq s) (S:Sub G G') (hp:G'.par=G.par) (pins:∀b o,G'.g b=some o->s.heap.get? b=some o) (a:∀b,G'.OA b->G'.g b=none/\b<s.heap.objs.size) (l:∀b,G'.OL b->G'.g b=none/\b<s.heap.objs.size) (ap:∀b,G'.OA b->¬G'.OL b) (ko:∀b,G.OA b->G'.OA b):cp P C Y G' aq s:=
 ⟨pins,λb o h=>S.g b o (R.dQ b o h),S.V.trans R.val,a,l,ap,R.attr.mono S hp.trans (λ_ _ _ h=>h) ko⟩
def Rep.gh (R:Rep P C Y G L Z s) (S:Sub G G') (A:cp P C Y G' Z.aq s) (ko:∀b,G.OL b->G'.OL b):Rep P C Y G' L Z s:=
 ⟨A,ko L R.fz,bz R.locs λm hm hs=>⟨m,hm,hs.mono S (λ_ _ _ h=>h) λa q=>⟨ko a q.1,q.2⟩⟩⟩
def pinned (G:Gh) (a:Addr) (o:Obj):Gh:={G with g:=λb=>if b=a then some o else G.g b}
def dq {a:Addr} {o:Obj}:(pinned G a o).g a=some o:=d7 rfl
def cC {a b:Addr} {o:Obj} (h:b≠a):(pinned G a o).g b=G.g b:=dX h
def oq {a b:Addr} {o x:Obj} (hp:∀b o,G.g b=some o->s.heap.get? b=some o) (h:s.heap.get? a=some o) (e:(pinned G a o).g b=some x):s.heap.get? b=some x:=by
 by_cases q:b=a
 ·rw[q,dq] at e;rw[q,h,e]
 ·rw[cC q] at e;exact hp _ _ e
def ki (hp:∀b o,G.g b=some o->s.heap.get? b=some o) {a:Addr} {o:Obj} (h:s.heap.get? a=some o):Sub G (pinned G a o):=
 ⟨rfl,λb x e=>by
   by_cases q:b=a
   ·rw[q] at e ⊢;exact dq.trans (h.symm.trans (hp _ _ e))
   ·exact(cC q).trans e,λ_ e=>e⟩
def Rep.pin (R:Rep P C Y G L Z s) {a:Addr} {o:Obj} (h:s.heap.get? a=some o) (nA:¬G.OA a) (nL:¬G.OL a):Rep P C Y (pinned G a o) L Z s:=
 have S:=ki R.pins h
 R.gh S (R.tocp.gh S rfl (λ_ _=>oq R.pins h) (λb q=>⟨(cC λz:b=a=>nA (z▸q)).trans (R.fL b q).1,(R.fL b q).2⟩) (λb q=>⟨(cC λz:b=a=>nL (z▸q)).trans (R.fF b q).1,(R.fF b q).2⟩) R.apart λ_ q=>q) λ_ q=>q
def Later.pin (l:Later O eD eL G s) (hp:∀b o,G.g b=some o->s.heap.get? b=some o) {a:Addr} {o:Obj} (h:s.heap.get? a=some o) (f:¬eD.O a->a<eL.heap.objs.size->False):Later O eD eL (pinned G a o) s:=
 ⟨l.sub.trans (ki hp h),λb x t n e=>l.qj b x t n ((cC λz:b=a=>f (z▸n) (z▸t)).symm.trans e),l.anew,l.pe,l.kept,λx hx v q=>l.tM x hx v q,l.size,l.gens,l.os⟩
def Rep.wi (R:Rep P C Y G L Z s) (o:Obj) (hf:o.isFreed=false):
    Rep P C Y (pinned G s.heap.objs.size o) L Z {s with heap:=s.heap.push o,toks:=t}/\Later G.OA G s (pinned G s.heap.objs.size o) {s with heap:=s.heap.push o,toks:=t}/\(pinned G s.heap.objs.size o).g s.heap.objs.size=some o:=
 have R':Rep P C Y G L Z {s with heap:=s.heap.push o,toks:=t}:=R.push o
 have f:=R.fresh (fu _)
 ⟨R'.pin (Hr _ hf) f.1 f.2.1,Later.pin (eT o) R'.pins (Hr _ hf) λ_ h=>Nat.lt_irrefl _ h,dq⟩
def own (G:Gh) (a:Addr):Gh:={G with OL:=λb=>G.OL b\/b=a}
def oi (a:Addr):Sub G (own G a):=⟨rfl,λ_ _ h=>h,λ_ h=>h⟩
def Rep.own (R:Rep P C Y G L Z s) {a:Addr} (nA:¬G.OA a) (ng:G.g a=none) (lt:a<s.heap.objs.size):Rep P C Y (own G a) L Z s:=
 R.gh (oi a) (R.tocp.gh (oi a) rfl R.pins R.fL (λb q=>q.elim (R.fF b) λe:b=a=>fa e▸⟨ng,lt⟩) (λb q q'=>q'.elim (R.apart b q) λe=>nA (e▸q)) λ_ q=>q) λ_=>.inl
def Lw (G:Gh) (a:Addr):Gh:={G with OA:=λb=>G.OA b\/b=a}
def oo (G:Gh) (a:Addr):Sub G (Lw G a):=⟨rfl,λ_ _ h=>h,λ_ h=>h⟩
def Rep.CD (R:Rep P C Y G L Z s) {a:Addr} (nL:¬G.OL a) (ng:G.g a=none) (lt:a<s.heap.objs.size):Rep P C Y (Lw G a) L Z s:=
 R.gh (oo G a) (R.tocp.gh (oo G a) rfl R.pins (λb q=>q.elim (R.fL b) λe:b=a=>fa e▸⟨ng,lt⟩) R.fF (λb q q'=>q.elim (λq=>R.apart b q q') λe=>nL (e▸q')) λ_=>.inl) λ_ q=>q
def Later.own (l:Later O eD eL G s) {a:Addr} (f:eL.heap.objs.size<=a):Later O eD eL (Mine.own G a) s:={l with sub:=l.sub.trans (oi a),pe:=λb t q=>q.elim (l.pe b t) λe=>absurd t (xk.mpr (e▸f))}
def Later.CD (l:Later O eD eL G s) {a:Addr} (f:eL.heap.objs.size<=a):Later O eD eL (Lw G a) s:={l with sub:=l.sub.trans (oo G a),anew:=λb t q=>q.elim (l.anew b t) λe=>absurd t (xk.mpr (e▸f))}
def Rep.off {I:Addr} (R:Rep P C Y G L Z s) (nA:¬G.OA I) (nL:¬G.OL I) (ng:G.g I=none) (k:∀b o,b≠I->s.heap.get? b=some o->s'.heap.get? b=some o) (z:s.heap.objs.size<=s'.heap.objs.size):Rep P C Y G L Z s':=
 R.keep (λb o h=>k b o (oF ng h)) (λb o q=>k b o λe=>q.elim (e▸nA) (e▸nL)) z
def Later.off {I:Addr} (l:Later O eD eL G s) (R:Rep P C Y G L Z s) (nA:¬G.OA I) (hI:eL.heap.objs.size<=I) (k:∀b o,b≠I->s.heap.get? b=some o->s'.heap.get? b=some o) (z:s.heap.objs.size<=s'.heap.objs.size) (g:s'.gens=s.gens) (os:s'.os=s.os):Later O eD eL G s':=
 ⟨l.sub,l.qj,l.anew,l.pe,λb o h n=>k b o (λe=>xk.mpr hI (e▸uY h)) (l.kept b o h n),λx hx v q=>gm (l.tM x hx v q) λp d es q=>t9 q λn h1 h2 h3=>⟨p,d,es,n,h1,k d _ (λe=>nA (e▸R.Et h1)) h2,h3⟩,
   bB l.size z,g.trans l.gens,os.trans l.os⟩
def Rep.adk (R:Rep P C Y G L Z s) {h':Heap} {ir:List (Str×ae)} (sb:Heap.SameBut L s.heap h')
    (k:∀m,s.heap.Ns L m->cj P G s.heap (λa=>G.OL a/\a≠L) Z.loc m->∃m',h'.Ns L m'/\cj P G s.heap (λa=>G.OL a/\a≠L) ir m'):
    Rep P C Y G L {Z with loc:=ir} {s with heap:=h',toks:=t}/\Later G.O G s G {s with heap:=h',toks:=t}:=
 have up:∀b o,b≠L->s.heap.get? b=some o->h'.get? b=some o:=λb o n e=>(sb.2 b n).trans e
 have z:s.heap.objs.size<=h'.objs.size:=jk sb.1.symm
 have aL:∀b,G.OA b->b≠L:=λb q e=>R.apart b q (e▸R.fz)
 ⟨⟨R.tocp.keep (λb o h=>up b o (oF (R.fF L R.fz).1 h)) (λb o q=>up b o (aL b q)) z,R.fz,bz R.locs λm hm hs=>bz (k m hm hs) λm' zF Jq=>⟨m',zF,Jq.mono (.refl G) (λa o q=>up a o q.2) λ_ q=>q⟩⟩,
   .same (λb o e n=>up b o (λq=>n (.inr (q▸R.fz))) e) (λx _ v q=>gm q λp d es q=>t9 q λn h1 h2 h3=>⟨p,d,es,n,h1,up d _ (aL d (R.Et h1)) h2,h3⟩) z rfl rfl⟩
def oh {h:Heap} {L:Addr} {m m':Str->Option Value} (a:h.Ns L m) (b:h.Ns L m'):m=m':=funext (a.agree b)
def aeV {h h':Heap} {L:Addr} {m:Str->Option Value} (a:h.Ns L m) (k:∀o,h.get? L=some o->h'.get? L=some o):h'.Ns L m:=a.at k
def rC {es tG:List DictEntry} {n n':Nat} (e:dictOf es n=dictOf tG n'):es=tG:=by
 injection aT Obj.data e with q
 exact aT Array.toList q
def gB {es:List DictEntry} {x:Str} {v:Value} (h:jS es x=some v):getL x es=some (some v):=Option.join_eq_some_iff.mp h
def xr {es:List DictEntry} {x:Str} (h:jS es x=none) (k:(getL x es).isSome=true):getL x es=some none:=
 (Option.join_eq_none_iff.mp h).elim (λe=>by rw[e] at k;exact ft k) id
inductive Pl where|loc (x:Str) |aq (x:Str)
def Nt (aq:Option (List (Str×ae))) (x:Str):Option ae:=aq.bind λas=>look as x
def S1 (aq:Option (List (Str×ae))) (x:Str) (k:ae):Option (List (Str×ae)):=aq.map λas=>put as x k
def Pl.get (Z:aj) (p:Pl):Option ae:=Pl.rec (motive:=λ_=>Option ae) (look Z.loc) (Nt Z.aq) p
def Pl.set (Z:aj) (k:ae) (p:Pl):aj:=Pl.rec (motive:=λ_=>aj) (λx=>⟨Z.aq,put Z.loc x k⟩) (λx=>⟨S1 Z.aq x k,Z.loc⟩) p
def At (G:Gh) (L:Addr) (s:Shared) (p:Pl) (a:Addr):Prop:=Pl.rec (motive:=λ_=>Prop) (λx=>∃m,s.heap.Ns L m/\m x=some (.ref a)) (λx=>AttAt G s x (.ref a)) p
def Pl.fix (p:Pl):Bool:=Pl.rec (motive:=λ_=>Bool) (λ_=>true) (λx=>fq.contains x) p
def Pl.own (G:Gh) (p:Pl):Addr->Prop:=Pl.rec (motive:=λ_=>Addr->Prop) (λ_=>G.OL) (λ_=>G.OA) p
def Pl.Qc (G:Gh) (p:Pl):Addr->Prop:=Pl.rec (motive:=λ_=>Addr->Prop) (λ_=>G.O) (λ_=>G.OA) p
def At.later {p:Pl} {a:Addr} (x:At G L s p a) (R:Rep P C Y G L Z s) (l:Later G.OA G s eD s') (hf:p.fix=true):At eD L s' p a:=by
 cases p with
 |loc n=>exact bz x λm h1 h2=>⟨m,h1.at λo e=>l.kept L o e λq=>R.apart L q R.fz,h2⟩
 |aq n=>exact l.tM n (List.contains_iff_mem.mp (show fq.contains n=true from hf)) _ x
def At.toks {p:Pl} {a:Addr} (x:At G L s p a):At G L {s with toks:=t} p a:=by cases p<;>exact x
def cp.ve {Q:Prop} {n:Str} {v:Value} (R:cp P C Y G aq s) (x:AttAt G s n v) (k:∀as p d es m,aq=some as->jS es n=some v->mH P C G s.heap as p d es m->Q):Q:=by
 have h:=R.attr
 cases aq with
 |none=>exact gm x λp d es q=>t9 q λn h1 _ _=>sn (h1.symm.trans h)
 |some as=>
  exact gm x λp d es q=>t9 q λn h1 h2 h3=>dk h λp' d' q=>dk q λtG n' A=>by
   have e:=h1.symm.trans A.par
   cases e
   exact k as p d tG n' rfl (rC (eN (h2.symm.trans A.dict))▸h3) A
end
inductive Res where
 |pv (v:DV) |fl (l:List DV) |fd (l:List (DV×DV))
def Res.slot (r:Res):ae:=Res.rec (motive:=λ_=>ae) .pv .ml .md r
def Res.rest (r:Res):DV:=Res.rec (motive:=λ_=>DV) id .lst .iI r
structure Loose (G:Gh) (z:Nat) (a:Addr):Prop where
 nA:¬G.OA a
 nL:¬G.OL a
 ng:G.g a=none
 ge:z<=a
def nz (P:Params) (G:Gh) (h:Heap) (z:Nat) (r:Res):Value->Prop:=bD P G h (Loose G z) r.slot
def nz.low {P:Params} {G:Gh} {h:Heap} {z z':Nat} {r:Res} {v:Value} (k:z'<=z) (x:nz P G h z r v):nz P G h z' r v:=bD.mono (.refl G) (λ_ _ _ h=>h) (λ_ q=>⟨q.nA,q.nL,q.ng,bB k q.ge⟩) x
def WP {α:Type} (U:Program) (w:World) (A:Around) (t:Sem α) (s:Shared) (Q:α->Shared->Prop):Prop:=wpAny (model U w) A t Q (λ_ _=>False) s
structure dH (A:Around) (d:Nat):Prop where
 depth:A.depth+4*d+8<=recursionLimit
 units:A.units+40*d+60<=cLine
 handled:A.handled=none
structure cN (sc:Scope) (L:Addr) (env:Env):Prop where
 scope:env.scope=sc
 locals:env.locals=L
 globals:env.globals=mainGlobals
 builtins:env.builtins=builtinsNs
 kind:sc.kind=.function
structure cQ (K:Frag) (Y:Base):Prop where
 Jx:K.In Y.hp
 nolimit:Y.hp.NoLimit
 glob:∃mg,Y.hp.Ns mainGlobals mg
 blt:∃mb,Y.hp.Ns builtinsNs mb/\∀x:Str,x≠"__name__"->mb x=bootBuiltins x
section
variable (U:Program) (w:World) (C:Nat) (Y:Base) (sc:Scope) (d:Nat)
def cO (e:Expr) (Z:aj) (r:Res) (ba:aj):Prop:=∀(A:Around) (G:Gh) (L:Addr) (s:Shared) (env:Env),dH A d->cN sc L env->Rep w.params C Y G L Z s->
 ∀Q:Value->Shared->Prop,(∀G' v s',Rep w.params C Y G' L ba s'->Later G.OA G s G' s'->nz w.params G' s'.heap s.heap.objs.size r v->Q v s')->WP U w A (eval e env) s Q
def aC (e:Expr) (Z:aj) (v:DV) (ba:aj):Prop:=∀(A:Around) (G:Gh) (L:Addr) (s:Shared) (env:Env),dH A d->cN sc L env->Rep w.params C Y G L Z s->
 ∀Q:Value->Shared->Prop,(∀G' u s',Rep w.params C Y G' L ba s'->Later G.OA G s G' s'->DR w.params G' v u->Q u s')->WP U w A (eval e env) s Q
def bu (e:Expr) (Z:aj) (b:Bool) (ba:aj):Prop:=∀(A:Around) (G:Gh) (L:Addr) (s:Shared) (env:Env),dH A d->cN sc L env->Rep w.params C Y G L Z s->
 ∀Q:Bool->Shared->Prop,(∀G' s',Rep w.params C Y G' L ba s'->Later G.OA G s G' s'->Q b s')->WP U w A (isTrue e env (eval e env)) s Q
end
section
variable {U:Program} {w:World} {C:Nat} {K:Frag} {Y:Base} {sc:Scope} {d:Nat} {Z aa ah:aj} {A:Around} {G eD:Gh} {L:Addr} {s eL:Shared} {α:Type} {O:Addr->Prop}
def WP.mono {t:Sem α} {Q Q':α->Shared->Prop} (h:WP U w A t s Q) (k:∀a s',Q a s'->Q' a s'):WP U w A t s Q':=wpAny_mono h k λ_ _ x=>x
def cp.v5 {P:Params} {aq:Option (List (Str×ae))} {a:Addr} (R:cp P C Y G aq s) (ng:G.g a=none):(a==sysModules)=false:=
 HE.mpr λe=>(Y9.mp Y.sys).elim λo h=>sn ((R.dQ _ _ h).symm.trans (e▸ng))
def Qb {r:Res} {v:Value} {z:Nat} {Q:Prop} (R:Rep w.params C Y G L Z s) (l:Later O eD eL G s) (h:nz w.params G s.heap z r v) (hz:eL.heap.objs.size<=z) (k:∀G',Rep w.params C Y G' L Z s->Later O eD eL G' s->DR w.params G' r.rest v->Q):Q:=by
 cases r with
 |pv d=>exact k G R l h
 |fl xs=>exact gm h λa vs n q=>a5 q λe g r z' f=>k _ (R.pin g f.nA f.nL) (l.pin R.pins g λ_ t=>xk.mpr (bB hz f.ge) t) (fa e▸.lst dq z' (r.mono (ki R.pins g)))
 |fd xs=>exact DL h λa es n e g r f=>k _ (R.pin g f.nA f.nL) (l.pin R.pins g λ_ t=>xk.mpr (bB hz f.ge) t) (fa e▸.iI (R.v5 f.ng) dq (r.mono (ki R.pins g)))
def cO.rest {e:Expr} {r:Res} (h:cO U w C Y sc d e Z r aa):aC U w C Y sc d e Z r.rest aa:=λA G L s env ro eo R Q k=>
 h A G L s env ro eo R Q λ_ v s' R l q=>Qb R l q (fu _) λG' R l q=>k G' v s' R l q
def aC.plain {e:Expr} {v:DV} (h:aC U w C Y sc d e Z v aa):cO U w C Y sc d e Z (.pv v) aa:=h
def y0 {k:Nat} {pos:Pos}:aC U w C Y sc d (.Constant .none k pos) Z .none Z:=λ_ G _ s _ _ _ R _ k _ _ _=>k G _ s R (.refl _ _ _) rfl
def yX {b:Bool} {k:Nat} {pos:Pos}:aC U w C Y sc d (.Constant (.bool b) k pos) Z (.bool b) Z:=λ_ G _ s _ _ _ R _ k _ _ _=>k G _ s R (.refl _ _ _) rfl
def EH {i:Int} {k:Nat} {pos:Pos}:aC U w C Y sc d (.Constant (.int i) k pos) Z (.int i) Z:=λ_ G _ _ _ _ _ R _ k _ _ _=>k G _ _ R.toks bb ⟨_,rfl⟩
def EJ {x:Str} {k:Nat} {pos:Pos} (h:x.cps.toList.length<=lim):aC U w C Y sc d (.Constant (.str x) k pos) Z (.str x.cps.toList) Z:=λ_ G _ _ _ _ _ R _ k _ _ _=>k G _ _ R.toks bb ⟨_,rfl,h⟩
def kb {x:Str} {pos:Pos} {k:ae} {env:Env} {Q:Value->Shared->Prop} (eo:cN sc L env) (R:Rep w.params C Y G L Z s) (hl:sc.names.lookup x=some .local) (hx:look Z.loc x=some k) (hd:(x==("__debug__":Str))=false)
    (h:∀m u,s.heap.Ns L m->m x=some u->cj w.params G s.heap (λa=>G.OL a/\a≠L) Z.loc m->bD w.params G s.heap (λa=>G.OL a/\a≠L) k u->Q u s):WP U w A (eval (.Name x pos) env) s Q:=
 bz R.locs λm hm hs=>bz (hs.hit x k hx) λu hu q=>wpAny_Name (wpAny_loadName_local (m:=m) (v:=u) (by rw[eo.scope];exact eo.kind) (by rw[Env.kindOf,eo.scope];exact hl) (eo.locals▸hm) hu (h m u hm hu hs q)) hd
def jA {x:Str} {pos:Pos} {v:DV} {env:Env} {Q:Value->Shared->Prop} (eo:cN sc L env) (R:Rep w.params C Y G L Z s) (hl:sc.names.lookup x=some .local) (hx:look Z.loc x=some (.pv v)) (hd:(x==("__debug__":Str))=false) (h:∀u,DR w.params G v u->Q u s):WP U w A (eval (.Name x pos) env) s Q:=
 kb eo R hl hx hd λ_ u _ _ _ q=>h u q
def pH {x:Str} {pos:Pos} {v:DV} (hl:sc.names.lookup x=some .local) (hx:look Z.loc x=some (.pv v)) (hd:(x==("__debug__":Str))=false):aC U w C Y sc d (.Name x pos) Z v Z:=λ_ G _ s _ _ eo R _ k=>
 jA eo R hl hx hd λu q=>k G u s R (.refl _ _ _) q
def lU (T:cQ K Y) {aq:Option (List (Str×ae))} (R:cp w.params C Y G aq s):K.In s.heap:=T.Jx.keeps λb o h=>R.pins b o (R.dQ b o h)
def fk (T:cQ K Y) (R:Rep w.params C Y G L Z s):K.In s.heap:=lU T R.tocp
def Ow (T:cQ K Y) (R:Rep w.params C Y G L Z s) {x:Str} {v:Value} (e:nsIn K mainGlobals x=some (some v)):∃mg,s.heap.Ns mainGlobals mg/\mg x=some v:=
 T.glob.elim λmg h=>⟨mg,h.keeps λb o q=>R.pins b o (R.dQ b o q),mg_of T.Jx h e⟩
def nk (T:cQ K Y) {x:Str} {pos:Pos} {v:Value} {u:DV} (hl:sc.names.lookup x=some .globalImplicit) (e:nsIn K mainGlobals x=some (some v)) (hd:(x==("__debug__":Str))=false)
    (hv:∀G:Gh,(∀b o,Y.hp.get? b=some o->G.g b=some o)->DR w.params G u v):aC U w C Y sc d (.Name x pos) Z u Z:=λ_ G _ s _ _ eo R _ k=>
 bz (Ow T R e) λ_ hg hm=>Name_function_global (by rw[eo.scope];exact eo.kind) (by rw[Env.kindOf,eo.scope];exact hl) (loadGlobal_global (by rw[eo.globals];exact hg) hm (k G v s R (.refl _ _ _) (hv G R.dQ))) hd
end
section
variable (U:Program) (w:World)
def fh (V:Val) (op:CmpOp) (x y:DV) (b:Bool):Prop:=∀(A:Around) (G:Gh) (s:Shared) (u v:Value),dH A 0->G.V=V->(∀c o,G.g c=some o->s.heap.get? c=some o)->DR w.params G x u->DR w.params G y v->
 ∀Q:Value->Shared->Prop,(∀t,Q (.bool b) {s with toks:=t})->WP U w A (compareOp op u v) s Q
def qe (op:Operator) (x y z:DV):Prop:=∀(A:Around) (G:Gh) (s:Shared) (u v:Value),dH A 0->DR w.params G x u->DR w.params G y v->
 ∀Q:Value->Shared->Prop,(∀r t,DR w.params G z r->Q r {s with toks:=t})->WP U w A (binaryOp op u v) s Q
def Nd (op:Operator) (x y z:DV):Prop:=∀(A:Around) (G:Gh) (s:Shared) (u v:Value),dH A 0->DR w.params G x u->DR w.params G y v->
 ∀Q:Value->Shared->Prop,(∀r t,DR w.params G z r->Q r {s with toks:=t})->WP U w A (inplaceOp op u v) s Q
end
section
variable {U:Program} {w:World} {V:Val}
def z4:CmpOp->Int->Int->Option Bool
 | .Eq,a,b=>some (a==b)
 | .NotEq,a,b=>some (a != b)
 | .Lt,a,b=>some (decide (a<b))
 | .LtE,a,b=>some (decide (a<=b))
 | .Gt,a,b=>some (decide (b<a))
 | .GtE,a,b=>some (decide (b<=a))
 |_,_,_=>none
def Cz (x:DV):Option (Option Nat×Int):=aZ (intD x) ((iC x).bind λq=>some (some q.1,q.2)) λi=>some (none,i)
def RS (o:Option Nat) (i:Int):DV:=Option.rec (motive:=λ_=>DV) (.int i) (λt=>.sint t i) o
def wJ (V:Val) (o:Option Nat):Int:=Option.rec (motive:=λ_=>Int) 0 V.β o
def Ek (x:DV):On (λp=>RS p.1 p.2=x) (Cz x):=(bQ x).or (λ_ h=>h) λ_=>(dw x).b λ_ h=>h
def Ng (V:Val) (p:Option Nat×Int):Int:=Option.rec (motive:=λ_=>Int) p.2 (λt=>V.β t+p.2) p.1
def Nh (V:Val) (p:Option Nat×Int):Ng V p=wJ V p.1+p.2:=by
 obtain⟨_|t,i⟩:=p
 ·exact(zL i).symm
 ·rfl
def intOf (V:Val) (x:DV):Option Int:=(Cz x).map (Ng V)
def qK (V:Val) (x:DV):On (λp=>intOf V x=some (wJ V p.1+p.2)) (Cz x):=.mk λp h=>(aT (Option.map _) h).trans (aT some (Nh V p))
def aiQ {P:Params} {G:Gh} {p:Option Nat×Int} {u:Value} (hu:DR P G (RS p.1 p.2) u):∃t,u=.int (Ng G.V p) t:=by
 obtain⟨_|t,i⟩:=p
 ·exact hu.fQ λt=>⟨t,rfl⟩
 ·exact hu.uN λt=>⟨t,rfl⟩
def aiR {P:Params} {G:Gh} {p:Option Nat×Int} {t:Tok}:DR P G (RS p.1 p.2) (.int (Ng G.V p) t):=by obtain⟨_|k,i⟩:=p<;>exact⟨t,rfl⟩
@[elab_as_elim] def DR.intOf {P:Params} {G:Gh} {x:DV} {u:Value} {i:Int} {Q:Value->Prop} (hu:DR P G x u) (h:intOf G.V x=some i) (k:∀t,Q (.int i t)):Q u:=
  bz (xl.mp h) λp h1 h2=>fi (aiQ (p:=p) (G:=G) (u:=u) (fa ((Ek x).get h1)▸hu:DR P G (RS p.1 p.2) u)) λt e=>by rw[e,h2];exact k t
def DR.ofInt {P:Params} {G:Gh} {z:DV} {i:Int} {t:Tok} (h:Mine.intOf G.V z=some i):DR P G z (.int i t):=
 bz (xl.mp h) λp h1 h2=>(Ek z).get h1▸h2▸aiR
def lg {op:CmpOp} {x y:DV} {a b:Int} {c:Bool} (hx:intOf V x=some a) (hy:intOf V y=some b) (h:z4 op a b=some c):fh U w V op x y c:=λA G s u v _ e _ hu hv Q k=>by
 subst e
 refine hu.intOf hx λt=>hv.intOf hy λt'=>?_
 have k:=k s.toks
 cases op
 case Eq=>exact eq_int (eN h▸k)
 case NotEq=>exact ne_int (eN h▸k)
 case Lt=>exact lt_int (eN h▸k)
 case LtE=>exact le_int (eN h▸k)
 case Gt=>exact gt_int (eN h▸k)
 case GtE=>exact ge_int (eN h▸k)
 all_goals exact ns h
def N2 {op:CmpOp} {a b:Int} {c:Bool} (h:z4 op a b=some c):fh U w V op (.int a) (.int b) c:=lg rfl rfl h
def afQ:CmpOp->List Nat->List Nat->Option Bool
 | .Eq,a,b=>some (a==b)
 | .NotEq,a,b=>some (a != b)
 | .LtE,a,b=>some (!decide (b<a))
 | .In,[c],b=>some (decide (c∈b))
 | .NotIn,[c],b=>some (!decide (c∈b))
 |_,_,_=>none
def Ij {op:CmpOp} {a b:List Nat} {c:Bool} (h:∀(A:Around) (s:Shared) (t t':Tok) (Q:Value->Shared->Prop),Q (.bool c) s->WP U w A (compareOp op (.str ⟨⟨a⟩⟩ t) (.str ⟨⟨b⟩⟩ t')) s Q):fh U w V op (.str a) (.str b) c:=λA _ s _ _ _ _ _ hu hv Q k=>
 hu.gg λt _=>hv.gg λt' _=>h A s t t' Q (k s.toks)
def jZ {op:CmpOp} {a b:List Nat} {c:Bool} (h:afQ op a b=some c):fh U w V op (.str a) (.str b) c:=by
 refine Ij λA s t t' Q k=>?_
 cases op
 case Eq=>exact P.eq_str (eN h▸k)
 case NotEq=>exact P.ne_str (eN h▸k)
 case LtE=>exact P.le_str (eN h▸k)
 case In=>
  match a,h with
  |[j],h=>exact in_str ((aT Value.bool (StrLaws.found_one ..)).symm▸eN h▸k)
 case NotIn=>
  match a,h with
  |[j],h=>exact notIn_str ((aT (λb=>Value.bool (!b)) (StrLaws.found_one ..)).symm▸eN h▸k)
 all_goals exact ns h
def oU {x y:DV} {op:CmpOp} {b c:Bool} (hop:(op=.Is/\c=b)\/(op=.IsNot/\c=!b))
    (hp:∀(P:Params) (G:Gh) (u v:Value),DR P G x u->DR P G y v->plainIs u v=true/\(u==v)=b):fh U w V op x y c:=λA G s u v _ _ _ hu hv Q k=>
 have⟨p,q⟩:=hp _ _ _ _ hu hv
 hop.elim (λh=>by have k:=k s.toks;rw[h.2,<-q] at k;rw[h.1];exact wpAny_is_plain p k) λh=>by have k:=k s.toks;rw[h.2,<-q] at k;rw[h.1];exact wpAny_isNot_plain p k
def isNone (x:DV):Option Bool:=bif Nat.beq x.ctorIdx 0 then none else some (qo x)
def isBool (k:Bool) (x:DV):Option Bool:=bif Nat.beq x.ctorIdx 0 then none else some (Option.rec (motive:=λ_=>Bool) false (· ==k) (mI x))
def yL {x:DV} {b:Bool} {v:Value} {f:DV->Option Bool} (h0:f .any=none) (hn:∀b,f .none=some b->plainIs .none v=true/\(Value.none==v)=b) (hb:∀c b,f (.bool c)=some b->plainIs (.bool c) v=true/\(Value.bool c==v)=b)
    (ho:∀i t,plainIs (.int i t) v=true/\(Value.int i t==v)=false) (hs:∀i t,plainIs (.str i t) v=true/\(Value.str i t==v)=false) (hr:∀a,plainIs (.ref a) v=true/\(Value.ref a==v)=false)
    (h:f x=some b) (hf:∀x,isNone x=some false->mI x=none->f x=some false) (P:Params) (G:Gh) (u:Value) (hu:DR P G x u):plainIs u v=true/\(u==v)=b:=by
 have z:isNone x=some false->mI x=none->b=false:=λh1 h2=>eN (h.symm.trans (hf _ h1 h2))
 cases x with
 |any=>exact sn (h.symm.trans h0)
 |none=>exact hu.uy (hn b h)
 |bool c=>exact hu.k9 (hb c b h)
 |int i=>exact z rfl rfl▸hu.fQ (ho i)
 |str i=>exact z rfl rfl▸hu.gg λt _=>hs _ t
 |sint i j=>exact z rfl rfl▸hu.uN (ho _)
 |gO i=>exact z rfl rfl▸hu.sP λt _=>hs _ t
 |rf=>exact z rfl rfl▸hu.rfE hr
 |tup=>exact z rfl rfl▸hu.mF λa _ _ _ _ _=>hr a
 |lst=>exact z rfl rfl▸hu.lu λa _ _ _ _ _=>hr a
 |iI=>exact z rfl rfl▸hu.vm λa _ _ _ _ _=>hr a
 |inst=>exact z rfl rfl▸hu.nU λa _ _ _ _ _ _ _=>hr a
 |self=>exact z rfl rfl▸hu.yU λa _ _=>hr a
 |cls=>exact z rfl rfl▸hu.NY (hr _)
 |fn=>exact z rfl rfl▸hu.fnE (hr _)
 |bj=>exact z rfl rfl▸hu.Ec λa _ _ _ _=>hr a
def qI {x:DV} {b:Bool} (h:isNone x=some b) (P:Params) (G:Gh) (u v:Value) (hu:DR P G x u) (hv:DR P G .none v):plainIs u v=true/\(u==v)=b:=
 hv.uy (yL rfl (λ_ e=>⟨rfl,eN e⟩) (λ_ _ e=>⟨rfl,eN e⟩) (λ_ _=>⟨rfl,rfl⟩) (λ_ _=>⟨rfl,rfl⟩) (λ_=>⟨rfl,rfl⟩) h (λ_ h _=>h) P G u hu)
def NN (c k:Bool):(Value.bool c==Value.bool k)=(c==k):=by cases c<;>cases k<;>rfl
def Dz {x:DV} {k b:Bool} (h:isBool k x=some b) (P:Params) (G:Gh) (u v:Value) (hu:DR P G x u) (hv:DR P G (.bool k) v):plainIs u v=true/\(u==v)=b:=
 hv.k9 (yL rfl (λ_ e=>⟨rfl,eN e⟩) (λc _ e=>⟨rfl,(NN c k).trans (eN e)⟩) (λ_ _=>⟨rfl,rfl⟩) (λ_ _=>⟨rfl,rfl⟩) (λ_=>⟨rfl,rfl⟩) h (λx h n=>by
  unfold isBool isNone at*
  rw[n]
  cases q:Nat.beq x.ctorIdx 0 with
  |true=>rw[q] at h;exact ns h
  |false=>rfl) P G u hu)
def vk {l:List Nat}:fh U w V .Eq .none (.str l) false:=λ_ _ s _ _ _ _ _ hu hv _ k=>hu.uy (hv.gg λ_ _=>EqNone.eq_none_str (k s.toks))
def tr {x:DV} {i:Int} (h:intOf V x=some i):fh U w V .Eq .none x false:=λ_ _ s _ _ _ e _ hu hv _ k=>hu.uy (hv.intOf (e▸h) λ_=>EqNone.eq_none_int (k s.toks))
def z5 (op:CmpOp) (z a b:Int):z4 op (z+a) (z+b)=z4 op a b:=by
 have h1:((z+a)==(z+b))=(a==b):=by rw[Bool.eq_iff_iff,iG,iG];lia
 have h2:∀a b:Int,decide (z+a<z+b)=decide (a<b):=λa b=>by rw[decide_eq_decide];lia
 have h3:∀a b:Int,decide (z+a<=z+b)=decide (a<=b):=λa b=>by rw[decide_eq_decide];lia
 cases op<;>first|rfl|exact aT some h1|exact aT (λx=>some (!x)) h1|exact aT some (h2 ..) |exact aT some (h3 ..)
def binI:Operator->Int->Int->Option Int
 | .Add,a,b=>some (a+b)
 | .Sub,a,b=>some (a - b)
 | .Mult,a,b=>if a.natAbs<2 ^ 32/\b.natAbs<2 ^ 32 then some (a*b) else none
 | .Mod,a,b=>if b=0 then none else some (a.fmod b)
 | .FloorDiv,a,b=>if b=0\/2 ^ 28<=a.natAbs\/2 ^ 28<=b.natAbs then none else some (a.fdiv b)
 |_,_,_=>none
def rS {α:Type} {c:Prop} [Decidable c] {a b:α} (h:(if c then some a else none)=some b):c/\a=b:=by by_cases q:c;rw[d7 q] at h;exact⟨q,eN h⟩;rw[dX q] at h;exact ns h
def yf {α:Type} {c:Prop} [Decidable c] {a b:α} (h:(if c then none else some a)=some b):¬c/\a=b:=by by_cases q:c;rw[d7 q] at h;exact ns h;rw[dX q] at h;exact⟨q,eN h⟩
def Zq {a b:Int} (h2:¬2 ^ 28<=a.natAbs) (h3:¬2 ^ 28<=b.natAbs):a.natAbs<2 ^ 28/\b.natAbs<2 ^ 28:=⟨Nat.not_le.mp h2,Nat.not_le.mp h3⟩
def jT {op:Operator} {a b c:Int} (h:binI op a b=some c):qe U w op (.int a) (.int b) (.int c):=λA G s u v _ hu hv Q k=>by
 refine hu.fQ λt=>hv.fQ λt'=>?_
 have k:∀t n,Q (.int c t) {s with toks:=n}:=λt n=>k _ n ⟨t,rfl⟩
 cases op
 case Add=>rw[<-eN h] at k;exact add_int (k _ _)
 case Sub=>rw[<-eN h] at k;exact sub_int (k _ _)
 case Mod=>have⟨hb,e⟩:=yf h;rw[<-e] at k;exact mod_int' hb (k _ _)
 case FloorDiv=>have⟨hb,e⟩:=yf h;rw[<-e] at k;exact floordiv_int (λq=>hb (.inl q)) (k _ _) (.inl (PyProof.noPylong_small (by lia)))
 case Mult=>have⟨hb,e⟩:=rS h;rw[<-e] at k;exact mul_int (k _ _) (IntMulOk.of_left (intBits_le_64 (by lia) (by lia)))
 all_goals exact ns h
def Fm (op:Operator) (x y:DV):Option DV:=(Cz x).bind λp=>(Cz y).bind λq=>match op with
 | .Add=>bif p.1.isNone then some (RS q.1 (p.2+q.2)) else bif q.1.isNone then some (RS p.1 (p.2+q.2)) else none
 | .Sub=>bif q.1.isNone then some (RS p.1 (p.2 - q.2)) else bif decide (p.1=q.1) then some (.int (p.2 - q.2)) else none
 |_=>none
def rO (V:Val) (o:Option Nat) {i j:Int} (h:wJ V o+i=j):intOf V (RS o i)=some j:=by
 rw[<-h]
 cases o
 ·exact aT some (zL _).symm
 ·exact rfl
def Dg (op:Operator) (x y:DV) (V:Val):On (λz=>∃a b,intOf V x=some a/\intOf V y=some b/\((op=.Add/\intOf V z=some (a+b))\/(op=.Sub/\intOf V z=some (a - b)))) (Fm op x y):=
 (qK V x).b λp h1=>(qK V y).b λq h2=>by
   have z:∀{o:Option Nat},o.isNone=true->wJ V o=0:=λh=>by rw[SK.mp h];rfl
   cases op<;>first|exact trivial|skip
   ·exact dY (λc=>⟨_,_,h1,h2,.inl ⟨rfl,rO V _ (by rw[z c];lia)⟩⟩) λ_=>ak λc=>⟨_,_,h1,h2,.inl ⟨rfl,rO V _ (by rw[z c];lia)⟩⟩
   ·exact dY (λc=>⟨_,_,h1,h2,.inr ⟨rfl,rO V _ (by rw[z c];lia)⟩⟩) λ_=>ak λc=>⟨_,_,h1,h2,.inr ⟨rfl,aT some (show p.2 - q.2=_ by rw[mQ c];lia)⟩⟩
def Dt {op:Operator} {x y z:DV} (h:Fm op x y=some z):qe U w op x y z:=λA G s u v _ hu hv Q k=>
 mw ((Dg op x y G.V).get h) λa b h1 h2=>(a2 h2 λh2 h3=>hu.intOf h1 λt=>hv.intOf h2 λt'=>h3.elim (λh=>by rw[h.1];exact add_int (k _ _ (.ofInt h.2))) λh=>by rw[h.1];exact sub_int (k _ _ (.ofInt h.2)))
def OU {op:Operator} {x y z:DV} (h:Fm op x y=some z):Nd U w op x y z:=λA G s u v _ hu hv Q k=>
 mw ((Dg op x y G.V).get h) λa b h1 h2=>(a2 h2 λh2 h3=>hu.intOf h1 λt=>hv.intOf h2 λt'=>h3.elim (λh=>by rw[h.1];exact iadd_int (k _ _ (.ofInt h.2))) λh=>by rw[h.1];exact isub_int (k _ _ (.ofInt h.2)))
def cK {n:Nat} (h:n<=lim):n<=sizeLine:=bB h (by decide)
def ET {a:List Nat} (h:a≠[]):((⟨⟨a⟩⟩:Str).length==0)=false:=by cases a;exact absurd rfl h;rfl
def QD (a b:List Nat):((⟨⟨a⟩⟩:Str)++(⟨⟨b⟩⟩:Str))=(⟨⟨a++b⟩⟩:Str):=Str.ext' (by simp[Str.cps_append])
def lN {a b:List Nat} (hz:a.length+b.length<=lim):qe U w .Add (.str a) (.str b) (.str (a++b)):=λA G s u v _ hu hv Q k=>hu.gg λt z=>hv.gg λt' z'=>P.add_str (by
 have k:∀l t n,l=a++b->Q (.str ⟨⟨l⟩⟩ t) {s with toks:=n}:=λl t n e=>k _ n ⟨t,by rw[e],by rw[c9];exact hz⟩
 by_cases h1:a=[]
 ·rw[h1];exact k b t' s.toks (h1▸rfl)
 ·rw[ET h1]
  by_cases h2:b=[]
  ·rw[h2];exact k a t s.toks (h2▸(ti a).symm)
  ·rw[ET h2]
   show(Made.str _).post _ s
   rw[QD]
   exact⟨cK (by show(a++b).length<=lim;rw[c9];exact hz),k _ _ _ rfl⟩)
def strsOf (l:List DV):Option (List (List Nat)):=List.rec (motive:=λ_=>Option (List (List Nat))) (some []) (λd _ ih=>match d with| .str a=>ih.map (a::·) |_=>none) l
def strs_map:∀{l:List DV} {ls:List (List Nat)},strsOf l=some ls->l=ls.map .str:=by
 intro l
 induction l with
 |nil=>intro ls h;cases h;rfl
 |cons d l ih=>
  intro ls h
  cases d with
  |str a=>obtain⟨q,hq,e⟩:=xl.mp (show(strsOf l).map (a::·)=some ls from h);rw[<-e,ih hq];rfl
  |_=>exact ns h
def eqS (a:List Nat) (v:Value):Bool:=match v with| .str y _=>y==(⟨⟨a⟩⟩:Str) |_=>false
def Hc {P:Params} {G:Gh} (a:List Nat):∀{ls:List (List Nat)} {vs:List Value},eC P G (ls.map .str) vs->
    (vs.any (eqS a))=ls.contains a/\∀y∈vs,∃x t,y=.str ⟨⟨x⟩⟩ t:=by
 intro ls
 induction ls with
 |nil=>exactλh=>h.jr ⟨rfl,λ_ h=>nomatch h⟩
 |cons x r ih=>
  refineλh=>h.fy λu us h1 h2=>h1.gg λt _=>⟨?_,e8.mpr ⟨⟨x,t,rfl⟩,(ih h2).2⟩⟩
  rw[List.any_cons,(ih h2).1,List.contains_cons]
  congr 1
  show((⟨⟨x⟩⟩:Str)==(⟨⟨a⟩⟩:Str))=(a==x)
  rw[Bool.eq_iff_iff,iG,iG]
  exact⟨λq=>aT (λs:Str=>s.cps.toList) q.symm,λq=>q▸rfl⟩
def DE {op:CmpOp} {a:List Nat} {l:List DV} {ls:List (List Nat)} {f:Bool->Bool} (h:strsOf l=some ls) (r:∀(A:Around) (s:Shared) (b:Addr) (vs:List Value) (t:Tok) (Q:Value->Shared->Prop),s.heap.IsTuple b ⟨vs⟩->(∀y∈vs,∃x t,y=.str ⟨⟨x⟩⟩ t)->
    Q (.bool (f (vs.any (eqS a)))) s->WP U w A (compareOp op (.str ⟨⟨a⟩⟩ t) (.ref b)) s Q):fh U w V op (.str a) (.tup l) (f (ls.contains a)):=λA G s u v _ _ hp hu hv Q k=>
 hu.gg λt _=>hv.mF λb vs n hg _ hd=>by
  obtain⟨e1,e2⟩:=Hc a (strs_map h▸hd)
  exact r A s b vs t Q ⟨_,hp _ _ hg,rfl,n,rfl⟩ e2 (by rw[e1];exact k s.toks)
def ES {A:Around} {s:Shared} {a:List Nat} {t:Tok} {vs:List Value} (h:∀y∈vs,∃x t,y=.str ⟨⟨x⟩⟩ t) (y:Value) (hy:y∈(⟨vs⟩:Array Value)):SeqAt.EqAt A s y (.str ⟨⟨a⟩⟩ t) (eqS a y):=
 dk (h y (Array.mem_def.mp hy)) λx t' e=>by rw[e];exact SeqAt.EqAt.str_str _ _ _ _
def z7 {a:List Nat} {l:List DV} {ls:List (List Nat)} (h:strsOf l=some ls):fh U w V .In (.str a) (.tup l) (ls.contains a):=DE (f:=id) h λA s b vs t Q ht hy k=>
 SeqAt.in_tupleAt (items:=⟨vs⟩) (eqS a) ht (ES hy) (by rw[List.any_toArray];exact k)
def tw {a:List Nat} {l:List DV} {ls:List (List Nat)} (h:strsOf l=some ls):fh U w V .NotIn (.str a) (.tup l) (!ls.contains a):=DE (f:=not) h λA s b vs t Q ht hy k=>
 SeqAt.notIn_tupleAt (items:=⟨vs⟩) (eqS a) ht (ES hy) (by rw[List.any_toArray];exact k)
end
section
variable {U:Program} {w:World} {C:Nat} {K:Frag} {Y:Base} {sc:Scope} {d:Nat} {Z aa ah cB:aj}
def dH.low {A:Around} (h:dH A d):dH A 0:=have r:∀{x k c L:Nat},x+k*d+c<=L->x+k*0+c<=L:=λh=>bB (ZA (xj (Nat.mul_le_mul_left _ (jP d)) _) _) h
 ⟨r h.depth,r h.units,h.handled⟩
def Later.tk {O:Addr->Prop} {G G':Gh} {s s':Shared} {t:Nat} (l:Later O G s G' s'):Later O G s G' {s' with toks:=t}:=⟨l.sub,l.qj,l.anew,l.pe,l.kept,l.tM,l.size,l.gens,l.os⟩
def wq {dx cu:Expr} {op:CmpOp} {pos:Pos} {x y:DV} {b:Bool} (cf:aC U w C Y sc d dx Z x aa) (cP:aC U w C Y sc d cu aa y ah) (h:fh U w Y.V op x y b) (hm:behindInMarks op cu=false):
    aC U w C Y sc d (.Compare dx [op] [cu] pos) Z (.bool b) ah:=λA G L s env ro eo R _ k=>
 wpAny_Compare1 (cf A G L s env ro eo R _ λaz u ax aB aH aV=>cP A az L ax env ro eo aB _ λaD v ay aE aJ cz=>
  h A aD ay u v ro.low aE.val aE.pins (aV.mono aJ.sub) cz _ λ_=>k aD _ _ aE.toks (aH.aO aJ).tk rfl) hm
def wW {dx cu:Expr} {op:CmpOp} {pos:Pos} {x y:DV} {b:Bool} (cf:aC U w C Y sc d dx Z x aa) (cP:aC U w C Y sc d cu aa y ah) (h:fh U w Y.V op x y b) (hm:behindInMarks op cu=false):
    bu U w C Y sc d (.Compare dx [op] [cu] pos) Z b ah:=λA G L s env ro eo R _ k=>
 wpAny_isTrue_Compare1 (cf A G L s env ro eo R _ λaz u ax aB aH aV=>cP A az L ax env ro eo aB _ λaD v ay aE aJ cz=>
  h A aD ay u v ro.low aE.val aE.pins (aV.mono aJ.sub) cz _ λ_=>Za (k aD _ aE.toks (aH.aO aJ).tk)) hm
def me {dx cu:Expr} {op:Operator} {pos:Pos} {x y z:DV} (cf:aC U w C Y sc d dx Z x aa) (cP:aC U w C Y sc d cu aa y ah) (h:qe U w op x y z):aC U w C Y sc d (.BinOp dx op cu pos) Z z ah:=λA G L s env ro eo R Q k=>
 show WP U w A (eval dx env >>= λa=>holding [a] (eval cu env) >>= λb=>standAt pos >>= λ_=>operate [a,b] (binaryOp op a b)) s Q from
 eO (cf A G L s env ro eo R _ λaz u ax aB aH aV=>eO (M9 (cP A az L ax env ro eo aB _ λaD v ay aE aJ cz=>eO (Rl (wpAny_operate'
  (h A aD ay u v ro.low (aV.mono aJ.sub) cz _ λr _ q=>k aD r _ aE.toks (aH.aO aJ).tk q))))))
def E7 {e:Expr} {pos:Pos} {b:Bool} (h:bu U w C Y sc d e Z b aa):bu U w C Y sc d (.UnaryOp .Not e pos) Z (!b) aa:=λA G L s env ro eo R _ k=>isTrue_not (h A G L s env ro eo R _ k)
def jh {pos:Pos}:bu U w C Y sc d (.BoolOp .And [] pos) Z true Z:=λ_ G _ s _ _ _ R _ k=>isTrue_and_nil (k G s R (.refl _ _ _))
def td {pos:Pos}:bu U w C Y sc d (.BoolOp .Or [] pos) Z false Z:=λ_ G _ s _ _ _ R _ k=>isTrue_or_nil (k G s R (.refl _ _ _))
def jf {e:Expr} {es:List Expr} {pos:Pos} {c b:Bool} (h:bu U w C Y sc d e Z c aa) (k:if c then bu U w C Y sc d (.BoolOp .And es pos) aa b ah else b=false/\ah=aa):bu U w C Y sc d (.BoolOp .And (e::es) pos) Z b ah:=λA G L s env ro eo R _ kk=>
 isTrue_and (whole:=eval (.BoolOp .And (e::es) pos) env) (h A G L s env ro eo R _ λG' s' R' l=>by
  cases c with
  |true=>exact k A G' L s' env ro eo R' _ λxa CN SU l'=>kk xa CN SU (l.aO l')
  |false=>obtain⟨rfl,rfl⟩:=k;exact kk G' s' R' l)
def wY {e:Expr} {es:List Expr} {pos:Pos} {c b:Bool} (h:bu U w C Y sc d e Z c aa) (k:if c then b=true/\ah=aa else bu U w C Y sc d (.BoolOp .Or es pos) aa b ah):bu U w C Y sc d (.BoolOp .Or (e::es) pos) Z b ah:=λA G L s env ro eo R _ kk=>
 isTrue_or (whole:=eval (.BoolOp .Or (e::es) pos) env) (h A G L s env ro eo R _ λG' s' R' l=>by
  cases c with
  |false=>exact k A G' L s' env ro eo R' _ λxa CN SU l'=>kk xa CN SU (l.aO l')
  |true=>obtain⟨rfl,rfl⟩:=k;exact kk G' s' R' l)
def mE (x:DV):Option Bool:=@DV.casesOn (λ_=>Option Bool) x none none (some false) some (λi=>some (i != 0)) (λl=>some (!l.isEmpty)) (λ_ _=>none) (λ_=>none) (λl=>some (!l.isEmpty)) (λl=>some (!l.isEmpty)) (λ_=>none) (λ_ _=>none) none (λ_=>none) (λ_=>none) λ_=>some true
def mM:typeLookup (.type "method") "__bool__"=pure none:=by rw[typeLookup_type,builtinLookup_eq_fast];kernel_rfl
def od:typeLookup (.type "method") "__len__"=pure none:=by rw[typeLookup_type,builtinLookup_eq_fast];kernel_rfl
def UE {α β:Type} {l:List α} {m:List β} (h:l.length=m.length):((m.length:Int) != 0)=!l.isEmpty:=by cases l<;>cases m<;>first|rfl|cases h
def xS {α β:Type} {l:List α} {m:List β} (h:l.length=m.length):(!(⟨m⟩:Array β).isEmpty)=!l.isEmpty:=by cases l<;>cases m<;>first|rfl|cases h
def vM {n:Nat} (h:n<=lim):(n:Int)<2 ^ 63:=Int.lt_of_le_of_lt (zK.mpr h) (by decide)
def zq {A:Around} {G:Gh} {s:Shared} {l:List DV} {a:Addr} {vs:List Value} {n:Nat} {Q:Bool->Shared->Prop} (g:s.heap.get? a=some (bG vs n)) (z:vs.length<=lim) (r:eC w.params G l vs) (k:∀t,Q (!l.isEmpty) {s with toks:=t}):WP U w A (truthy (.ref a)) s Q:=
 wpAny_truthy_list (items:=⟨vs⟩) ⟨_,g,rfl,n,rfl⟩ (vM z) (xS r.length▸k _)
def MD {A:Around} {s:Shared} {m:Addr} {Q:Bool->Shared->Prop} (hT:s.TypeIs (.ref m) "method") (k:Q true s):WP U w A (truthy (.ref m)) s Q:=by
 show wpAny _ _ (truthy _) _ _ _
 unfold truthy
 first
  |refine eO (wpAny_callSpecial?_none (name:=Str.ofString "__bool__") hT mM ?_)
  |refine eO (k5 (eO (wpAny_callSpecial?_none (name:=Str.ofString "__bool__") hT mM ?_)))
 first
  |refine eO (wpAny_specialOf (name:=Str.ofString "__len__") hT od ?_)
  |refine eO (k5 (eO (wpAny_specialOf (name:=Str.ofString "__len__") hT od ?_)))
 exact k5 k
def wQ {A:Around} {G:Gh} {s:Shared} {x:DV} {u:Value} {b:Bool} {Q:Bool->Shared->Prop} (hp:∀c o,G.g c=some o->s.heap.get? c=some o) (h:mE x=some b) (hu:DR w.params G x u) (k:∀t,Q b {s with toks:=t}):WP U w A (truthy u) s Q:=by
 cases x with
 |none=>exact hu.uy (k5 (eN h▸k s.toks))
 |bool c=>exact hu.k9 (Za (eN h▸k s.toks))
 |int i=>exact hu.fQ λt=>truthy_int (eN h▸k s.toks)
 |str l=>rw[<-eN h] at k;exact hu.gg λt z=>P.truthy_str (λq=>absurd (vM z) (Int.not_lt.mpr q)) (UE (rfl:l.length=l.length)▸k _)
 |tup l=>rw[<-eN h] at k;exact hu.mF λa vs n g z r=>truthy_tuple (items:=⟨vs⟩) ⟨_,hp _ _ g,rfl,n,rfl⟩ (vM z) (xS r.length▸k _)
 |lst l=>rw[<-eN h] at k;exact hu.lu λa vs n g z r=>zq (hp _ _ g) z r k
 |bj f=>rw[<-eN h] at k;exact hu.Ec λm p d _ hm=>MD ⟨_,hp _ _ hm,rfl⟩ (k s.toks)
 |_=>exact ns h
def wZ {e:Expr} {x:DV} {b:Bool} (h:aC U w C Y sc d e Z x aa) (ht:mE x=some b)
    (he:∀env,isTrue e env (eval e env)=(do let v<-eval e env;standAt e.pos;holding [v] (truthy v))):bu U w C Y sc d e Z b aa:=λA G L s env ro eo R _ k=>
 isTrue_plain (h A G L s env ro eo R _ λaz u ax aB aH aV=>wQ aB.pins ht aV λ_=>k az _ aB.toks aH.tk) (he env)
def Qq {e:Expr} {pos:Pos} {x:DV} {b:Bool} (h:aC U w C Y sc d e Z x aa) (ht:mE x=some b):aC U w C Y sc d (.UnaryOp .Not e pos) Z (.bool (!b)) aa:=λA G L s env ro eo R _ k=>
 wpAny_UnaryOp (h A G L s env ro eo R _ λaz u ax aB aH aV=>not_of (wQ aB.pins ht aV λ_=>k az _ _ aB.toks aH.tk rfl))
def EI {e:Expr} {pos:Pos} {i:Int} (h:aC U w C Y sc d e Z (.int i) aa):aC U w C Y sc d (.UnaryOp .USub e pos) Z (.int (-i)) aa:=λA G L s env ro eo R _ k=>
 wpAny_UnaryOp (h A G L s env ro eo R _ λaz u ax aB aH aV=>aV.fQ λt=>neg_int (k az _ _ aB.toks aH.tk ⟨_,rfl⟩))
def sJ {t b o:Expr} {pos:Pos} {c:Bool} {r:Res} (h:bu U w C Y sc d t Z c aa) (k:cO U w C Y sc d (if c then b else o) aa r ah):cO U w C Y sc d (.IfExp t b o pos) Z r ah:=λA G L s env ro eo R _ kk=>
 wpAny_IfExp (h A G L s env ro eo R _ λG' s' R' l=>by
  have k:=k A G' L s' env ro eo R' _ λxa v CN SU l' q=>kk xa v CN SU (l.aO l') (q.low l.size)
  cases c<;>exact k)
def G4 {op:BoolOp} {e:Expr} {pos:Pos} {x:DV} (h:aC U w C Y sc d e Z x aa):aC U w C Y sc d (.BoolOp op [e] pos) Z x aa:=h
def sI {op:BoolOp} {e e':Expr} {es:List Expr} {pos:Pos} {x y:DV} {c stop:Bool} (h:aC U w C Y sc d e Z x aa) (ht:mE x=some c) (hs:stop=(match op,c with| .And,false| .Or,true=>true|_,_=>false))
    (k:if stop then y=x/\ah=aa else aC U w C Y sc d (.BoolOp op (e'::es) pos) aa y ah):aC U w C Y sc d (.BoolOp op (e::e'::es) pos) Z y ah:=λA G L s env ro eo R Q kk=>
 show WP U w A (eval e env >>= λv=>standAt pos >>= λ_=>holding [v] (truthy v) >>= λt=>match op,t with| .And,false| .Or,true=>pure v|_,_=>boolOp pos op (evalEach (e'::es) env)) s Q from
 eO (h A G L s env ro eo R _ λaz u ax aB aH aV=>eO (Rl (eO (M9 (wQ aB.pins ht aV λt=>by
  have go:stop=false->WP U w A (boolOp pos op (evalEach (e'::es) env)) {ax with toks:=t} Q:=λz=>by
   subst z
   exact k A az L _ env ro eo aB.toks _ λxa v CN SU l' q=>kk xa v CN SU (aH.tk.aO l') q
  have fin:stop=true->Q u {ax with toks:=t}:=λz=>by
   subst z
   obtain⟨rfl,rfl⟩:=k
   exact kk az u _ aB.toks aH.tk aV
  cases op<;>cases c<;>first|exact go hs|exact k5 (fin hs))))))
def EG {e e':Expr} {es:List Expr} {pos:Pos} {x y:DV} {c:Bool} (h:aC U w C Y sc d e Z x aa) (ht:mE x=some c)
    (k:if c then aC U w C Y sc d (.BoolOp .And (e'::es) pos) aa y ah else y=x/\ah=aa):aC U w C Y sc d (.BoolOp .And (e::e'::es) pos) Z y ah:=sI (stop:=!c) h ht (by cases c<;>rfl) (by cases c<;>exact k)
def L6 {e e':Expr} {es:List Expr} {pos:Pos} {x y:DV} {c:Bool} (h:aC U w C Y sc d e Z x aa) (ht:mE x=some c)
    (k:if c then y=x/\ah=aa else aC U w C Y sc d (.BoolOp .Or (e'::es) pos) aa y ah):aC U w C Y sc d (.BoolOp .Or (e::e'::es) pos) Z y ah:=sI (stop:=c) h ht (by cases c<;>rfl) k
end
def hR (x:Str) (e:DictEntry) (n:Str) (t:Tok) (he:e.key=.str n t) (es:List DictEntry):getL x (e::es)=if n=x then some (some e.val) else getL x es:=by
 unfold getL
 have h1:e.key.isStr x=decide (n=x):=by rw[he];rfl
 have h2:e.refKey=false:=by obtain⟨a,b,c⟩:=e;cases he;rfl
 rw[List.find?_cons,h1,List.any_cons,h2,Bool.false_or]
 by_cases q:n=x
 ·rw[HF q,d7 q]
 ·rw[Hv q,dX q]
@[elab_as_elim] def qY.ind {P:List DictEntry->Prop} {es:List DictEntry} (h:qY es) (h0:P []) (h1:∀e r n t,e.key=.str n t->qY r->P r->P (e::r)):P es:=by
  induction es with
  |nil=>exact h0
  |cons e r ih=>have⟨a,b⟩:=e8.mp h;exact a.elim λn a=>a.elim λt a=>h1 e r n t a b (ih b)
def qY.some {es:List DictEntry} (x:Str) (h:qY es):(getL x es).isSome=true:=h.ind rfl λe r n t he _ ih=>by
 rw[hR x e n t he];by_cases q:n=x;rw[d7 q];rfl;rw[dX q];exact ih
def pE (x:Str) (h:Int) (k v:Value) (e:DictEntry) (n:Str) (t:Tok) (he:e.key=.str n t) (r:List DictEntry):putL x h k v (e::r)=if n=x then⟨e.hash,e.key,v⟩::r else e::putL x h k v r:=by
 rw[putL,show e.key.isStr x=decide (n=x) by rw[he];rfl]
 by_cases q:n=x
 ·rw[HF q,d7 q,d7 rfl]
 ·rw[Hv q,dX q,dX Bool.false_ne_true]
section
variable {x:Str} {h:Int} {t:Tok} {v:Value} {es:List DictEntry} (K:qY es)
include K
theorem qY.put:qY (putL x h (.str x t) v es):=K.ind (e8.mpr ⟨⟨x,t,rfl⟩,λ_ h=>nomatch h⟩) (λe r n t' he K ih=>by
 rw[pE _ _ _ _ e n t' he]
 by_cases q:n=x
 ·rw[d7 q];exact e8.mpr ⟨⟨n,t',he⟩,K⟩
 ·rw[dX q];exact e8.mpr ⟨⟨n,t',he⟩,ih⟩)
theorem ui (y:Str):getL y (putL x h (.str x t) v es)=if y=x then some (some v) else getL y es:=K.ind ((hR y ⟨h,.str x t,v⟩ x t rfl []).trans (by
 by_cases q:y=x
 ·rw[d7 q,d7 q.symm]
 ·rw[dX q,dX λz=>q z.symm])) λe r n t' he _ ih=>by
 rw[pE _ _ _ _ e n t' he,hR y e n t' he]
 by_cases q:n=x
 ·rw[d7 q,hR y ⟨e.hash,e.key,v⟩ n t' he,q]
  by_cases z:y=x
  ·rw[d7 z,d7 z.symm]
  ·rw[dX z,dX λy=>z y.symm,dX λy=>z y.symm]
 ·rw[dX q,hR y e n t' he,ih]
  by_cases z:n=y
  ·rw[d7 z,d7 z,dX λw=>q (z.trans w)]
  ·rw[dX z,dX z]
theorem so:(putL x h (.str x t) v es).length<=es.length+1/\∀u,getL x es=some (some u)->(putL x h (.str x t) v es).length=es.length:=K.ind ⟨fu _,λ_ h=>nomatch h⟩ λe r n t' he _ ih=>by
 rw[pE _ _ _ _ e n t' he,hR x e n t' he]
 by_cases q:n=x
 ·rw[d7 q];exact⟨Nat.le_succ _,λ_ _=>rfl⟩
 ·rw[dX q,dX q];exact⟨Rj ih.1,λu e=>aT (· +1) (ih.2 u e)⟩
end
def ou {α:Type} (l:List (Str×α)) (x:Str) (v:α):(look l x=none->(put l x v).length=l.length+1)/\∀u,look l x=some u->(put l x v).length=l.length:=by
 induction l with
 |nil=>exact⟨λ_=>rfl,λ_ h=>nomatch h⟩
 |cons p r ih=>
  rw[dh,show put (p::r) x v=if p.1=x then(x,v)::r else p::put r x v from rfl]
  by_cases q:p.1=x
  ·rw[d7 q,d7 q];exact⟨(λh=>nomatch h),λ_ _=>rfl⟩
  ·rw[dX q,dX q];exact⟨λe=>aT (· +1) (ih.1 e),λu e=>aT (· +1) (ih.2 u e)⟩
def bN (K:Frag) (C:Nat):Bool:=plainGet K C "x"&&hasDictIn K C
def d8 (K:Frag) (C:Nat) (x:Str):Bool:=(findIn K (.ref C) x).any λa=>noGet K a
def jl (K:Frag) (C:Nat) (x:Str) (v:Value):Bool:=findIn K (.ref C) x==some (some v)&&specialIn K v "__get__"==some none&&handedIn v&&!copiedNames.contains x
section
variable {U:Program} {w:World} {C:Nat} {K:Frag} {Y:Base} {sc:Scope} {d:Nat} {Z aa ah:aj} {A:Around} {G:Gh} {L:Addr} {s:Shared} {Q:Value->Shared->Prop} {x:Str} {c:Nat} {v:Value} {p dd:Addr} {es:List DictEntry} {n:Nat}
def gZ (h:bN K c=true):findIn K (.ref c) "__getattribute__"=some (some (.builtin "object.__getattribute__"))/\hasDictIn K c=true:=⟨(plainGet_of (aw h).1).1,(aw h).2⟩
def get_own {ox:Obj} (X:K.In s.heap) (I:InstAt s.heap p ox c (some (dictOf es n))) (hc:bN K c=true) (ha:d8 K c x=true) (hv:getL x es=some (some v)) (hh:handedIn v=true) (k:∀t,Q v {s with toks:=t}):WP U w A (getAttr (.ref p) x true) s Q:=
 bz (any_some ha) λ_ e1 e2=>get_value X I (gZ hc).1 (findObj_own (gZ hc).2 e1 e2 hv) hh (k _)
def uj {ox:Obj} (X:K.In s.heap) (I:InstAt s.heap p ox c (some (dictOf es n))) (hc:bN K c=true) (ha:jl K c x v=true) (hv:getL x es=some none) (k:∀t,Q v {s with toks:=t}):WP U w A (getAttr (.ref p) x true) s Q:=by
 have⟨h,a4⟩:=aw ha
 have⟨h,a3⟩:=aw h
 have⟨a1,a2⟩:=aw h
 exact get_value X I (gZ hc).1 (findObj_cls (gZ hc).2 (iG.mp a1) (iG.mp a2) a3 (Rc _▸a4) hv) a3 (k _)
def Ov {fs:List (Str×DV)} {u:Value} {v:DV} (T:cQ K Y) (R:Rep w.params C Y G L Z s) (hu:DR w.params G (.inst c fs) u) (hc:bN K c=true) (ha:d8 K c x=true) (hx:look fs x=some v) (k:∀r t,DR w.params G v r->Q r {s with toks:=t}):
    WP U w A (getAttr u x true) s Q:=hu.nU λa d es n h1 h2 _ k1=>bz (k1 x v hx) λr hg hd=>get_own (fk T R) ⟨R.pins _ _ h1,rfl,rfl,R.pins _ _ h2⟩ hc ha hg hd.handed λt=>k r t hd
def Ao {fs:List (Str×DV)} {u:Value} (T:cQ K Y) (R:Rep w.params C Y G L Z s) (hu:DR w.params G (.inst c fs) u) (hc:bN K c=true) (ha:jl K c x v=true) (hx:look fs x=none) (k:∀t,Q v {s with toks:=t}):
    WP U w A (getAttr u x true) s Q:=hu.nU λa d es n h1 h2 k2 _=>uj (fk T R) ⟨R.pins _ _ h1,rfl,rfl,R.pins _ _ h2⟩ hc ha (k2 x hx) k
@[elab_as_elim] def gq {as:List (Str×ae)} {u:Value} {Q:Value->Prop} (hu:DR w.params G .self u) (R:cp w.params C Y G (some as) s) (k:∀p dd es n,mH w.params C G s.heap as p dd es n->InstAt s.heap p (wd dd C) C (some (dictOf es n))->Q (.ref p)):Q u:=
  hu.yU λp d hp=>dk R.attr λp' d' q=>dk q λes n A=>by
   have e:=hp.symm.trans A.par
   cases e
   exact k _ _ es n A ⟨R.pins _ _ A.inst,rfl,rfl,A.dict⟩
def mH.none {P:Params} {h:Heap} {as:List (Str×ae)} (A:mH P C G h as p dd es n) (hx:look as x=none):getL x es=some none:=xr (A.sl.miss x hx) (A.str.some x)
variable {as:List (Str×ae)} {u:Value} (T:cQ K Y) (hu:DR w.params G .self u) (R:cp w.params C Y G (some as) s) (hc:bN K C=true)
include T hu R hc
theorem get_slot {k:ae} (ha:d8 K C x=true) (hx:look as x=some k) (kk:∀r t dd,AttAt G s x r->bD w.params G s.heap (λa=>G.OA a/\a≠dd) k r->Q r {s with toks:=t}):WP U w A (getAttr u x true) s Q:=
 gq hu R λp dd es n A I=>bz (A.sl.hit x k hx) λv hv ok=>get_own (lU T R) I hc ha (gB hv) ok.handed λt=>kk v t dd ⟨p,dd,es,n,A.par,A.dict,hv⟩ ok
theorem x6 {z:DV} (ha:d8 K C x=true) (hx:look as x=some (.pv z)) (k:∀r t,DR w.params G z r->Q r {s with toks:=t}):WP U w A (getAttr u x true) s Q:=get_slot T hu R hc ha hx λr t _ _ ok=>k r t ok
theorem x7 (ha:jl K C x v=true) (hx:look as x=none) (k:∀t,Q v {s with toks:=t}):WP U w A (getAttr u x true) s Q:=gq hu R λ_ _ _ _ A I=>uj (lU T R) I hc ha (A.none hx) k
end
def hG (K:Frag) (C:Nat) (x:Str):Bool:=findIn K (.ref C) "__setattr__"==some (some (.builtin "object.__setattr__"))&&plainOver K C&&takerIn K C x==some none&&hasDictIn K C
section
variable {U:Program} {w:World} {K:Frag} {A:Around} {s:Shared} {E:Value->Shared->Prop}
def Ha {p dd c:Addr} {es:List DictEntry} {n:Nat} {x:Str} {v:Value} {Q:Unit->Shared->Prop} (X:K.In s.heap) (I:InstAt s.heap p (wd dd c) c (some (dictOf es n))) (hd:s.heap.get? dd=some (dictOf es n)) (hf:hG K c x=true)
    (hs:qY es) (hz:(putL x (PyData.keyHash w.params x) (.str x (s.toks+1)) v es).length<=1000)
    (h:Q () {s with heap:=s.heap.update dd (Obj.putName x (PyData.keyHash w.params x) (.str x (s.toks+1)) v),toks:=s.toks+2}):wpAny (model U w) A (setAttr (.ref p) x v) Q E s:=by
 have⟨hf,f4⟩:=aw hf
 have⟨hf,f3⟩:=aw hf
 have⟨f1,f2⟩:=aw hf
 refine set_plain X I (iG.mp f1) (osa_open (s:={s with toks:=s.toks+1}) X I f2 (iG.mp f3) λb=>bz (any_some f4) λcd hc RC=>?_)
 have hp:({s with toks:=s.toks+1}:Shared).heap.get? p=some (wd dd c):=I.at_
 have Ap:({s with toks:=s.toks+1}:Shared).heap.get? dd=some (dictOf es n):=hd
 have OG:(s.heap.update dd (Obj.putName x (PyData.keyHash w.params x) (.str x (s.toks+1)) v)).get? dd=some (dictOf (putL x (PyData.keyHash w.params x) (.str x (s.toks+1)) v es) (putN x es n)):=by
  rw[<-putName_dict]
  exact Heap.get?_update_self _ hd (by rw[putName_dict];rfl)
 have hnr:(!es.toArray.any (·.key.isStr x)&&es.toArray.any (·.refKey))=false:=by
  rw[List.any_toArray,List.any_toArray,show es.any (·.refKey)=false from hs.ind rfl λe r n t he _ ih=>by
   rw[List.any_cons,ih];obtain⟨a,b,c⟩:=e;cases he;rfl,Bool.and_false]
 refine eO (k5 (eO (eO (wpAny_loadPart hp (eO (looks_clsIn X hc _ _ _ _ (λ_ _ e=>e) ?_))))))
 rw[RC]
 refine k5 (a:=some dd) (eO (k5 (eO ?_)))
 unfold nsSet
 refine eO (eO (wpAny_askSetting (k5 (eO (wpAny_mkText (eO (wpAny_loadPart Ap ?_)))))))
 dsimp only
 rw[aRefKeyMayBeTheName_at,hnr]
 exact wpAny_updatePart hd (eO (wpAny_lookBehind OG (pastItsLine_dict (by rw[Y7,sizeLine_eq];lia)) (k5 h)))
end
section
variable {P:Params} {C:Nat} {Y:Base} {G:Gh} {L:Addr} {Z:aj} {s:Shared} {t:Nat}
def Nv {es:List DictEntry} (K:qY es) {x:Str} {h:Int} {tk:Tok} {v:Value}:jS (putL x h (.str x tk) v es) x=some v/\∀y,y≠x->jS (putL x h (.str x tk) v es) y=jS es y:=
 ⟨aT Option.join ((ui K x).trans (d7 rfl)),λy q=>aT Option.join ((ui K y).trans (dX q))⟩
def Rep.L9 {as loc:List (Str×ae)} {p dd:Addr} {es:List DictEntry} {n:Nat} {x:Str} {k:ae} {v:Value} {hh:Int} {tk:Nat} (R:Rep P C Y G L ⟨some as,loc⟩ s) (A:mH P C G s.heap as p dd es n) (jz:x∈fq->look as x=none)
    (hk:bD P G s.heap (λa=>G.OA a/\a≠dd) k v) (one:k.mut=true->∀y ky,y≠x->look as y=some ky->ky.mut=true->jS es y≠some v):
    Rep P C Y G L ⟨some (put as x k),loc⟩ {s with heap:=s.heap.update dd (Obj.putName x hh (.str x tk) v),toks:=t}/\Later G.O G s G {s with heap:=s.heap.update dd (Obj.putName x hh (.str x tk) v),toks:=t}:=by
 have up:∀b o,b≠dd->s.heap.get? b=some o->(s.heap.update dd (Obj.putName x hh (.str x tk) v)).get? b=some o:=λb o q e=>(Heap.get?_update_ne _ _ _ _ q).trans e
 have z:s.heap.objs.size<=(s.heap.update dd (Obj.putName x hh (.str x tk) v)).objs.size:=jk (Heap.size_update ..).symm
 have OG:(s.heap.update dd (Obj.putName x hh (.str x tk) v)).get? dd=some (dictOf (putL x hh (.str x tk) v es) (putN x es n)):=by
  rw[<-putName_dict]
  exact Heap.get?_update_self _ A.dict (by rw[putName_dict];rfl)
 have nL:∀b,G.OL b->b≠dd:=λb q e=>R.apart dd A.own (e▸q)
 have av:=Nv (x:=x) (h:=hh) (tk:=tk) (v:=v) A.str
 refine⟨⟨⟨λb o h=>up b o (oF (R.fL dd A.own).1 h) (R.pins b o h),R.dQ,R.val,λb q=>⟨(R.fL b q).1,qt (R.fL b q).2 z⟩,λb q=>⟨(R.fF b q).1,qt (R.fF b q).2 z⟩,R.apart,
  p,dd,_,_,A.par,A.inst,A.own,OG,?_,A.str.put,A.sl.GW x k v av.1 av.2 (hk.mono (.refl G) (λa o q=>up a o q.2) λ_ q=>q) (λy ky u _ _ _ h=>h.mono (.refl G) (λa o q=>up a o q.2) λ_ q=>q) one⟩,
  R.fz,bz R.locs λm hm hs=>⟨m,hm.at λo=>up L o (nL L R.fz),hs.mono (.refl G) (λa o q=>up a o (nL a q.1)) λ_ q=>q⟩⟩,
  .same (λb o h q=>up b o (λe=>q (.inl (e▸A.own))) h) (λy hy u q=>R.ve q λvb p' d' tG m e h A'=>?_) z rfl rfl⟩
 ·have l:=A.len
  cases q:look as x with
  |none=>rw[(ou as x k).1 q];exact bB (so A.str).1 (Rj l)
  |some k'=>rw[(ou as x k).2 k' q];exact bz (A.sl.hit x k' q) λu hu _=>((so A.str).2 u (gB hu)).symm▸l
 ·cases e
  have e:=A.par.symm.trans A'.par
  cases e
  have e:=rC (eN (A.dict.symm.trans A'.dict))
  cases e
  exact⟨p,dd,_,_,A.par,OG,(av.2 y λz=>sn (h.symm.trans (A.sl.miss y (z▸jz (z▸hy))))).trans h⟩
def Rep.MF {p:Pl} {a:Addr} {k k':ae} {h':Heap} (sb:Heap.SameBut a s.heap h') (R:Rep P C Y G L Z s) (x:At G L s p a) (h:p.get Z=some k) (km:k.mut=true) (ok:∀O:Addr->Prop,O a->bD P G h' O k' (.ref a)):
    Rep P C Y G L (p.set Z k') {s with heap:=h',toks:=t}/\Later (p.Qc G) G s G {s with heap:=h',toks:=t}:=by
 have up:∀b o,b≠a->s.heap.get? b=some o->h'.get? b=some o:=λb o n e=>(sb.2 b n).trans e
 have z:s.heap.objs.size<=h'.objs.size:=jk sb.1.symm
 obtain⟨aq,loc⟩:=Z
 cases p with
 |loc n=>
  refine bz x λm h1 h2=>bz R.locs λm' hm hs=>?_
  cases oh h1 hm
  have o:=bz (hs.hit n k h) λv hv ok=>(eN (hv.symm.trans h2)▸ok:bD P G s.heap (λa=>G.OL a/\a≠L) k (.ref a)).at km
  have aA:∀b,G.OA b->b≠a:=λb q e=>R.apart b q (e▸o.1)
  exact⟨⟨R.tocp.keep (λb x h=>up b x (oF (R.fF a o.1).1 h)) (λb x q=>up b x (aA b q)) z,R.fz,m,hm.at λx=>up L x o.2.symm,hs.upd h km h2 up (ok _ o)⟩,
   .same (λb x e q=>up b x (λz=>q (.inr (z▸o.1))) e) (λy _ u q=>gm q λp d es q=>t9 q λn h1 h2 h3=>⟨p,d,es,n,h1,up d _ (aA d (R.Et h1)) h2,h3⟩) z rfl rfl⟩
 |aq n=>
  refine R.ve x λas p d es j e hv A=>?_
  cases e
  have o:=bz (A.sl.hit n k h) λv hv' ok=>(eN (hv'.symm.trans hv)▸ok:bD P G s.heap (λa=>G.OA a/\a≠d) k (.ref a)).at km
  have aL:∀b,G.OL b->b≠a:=λb q e=>R.apart a o.1 (e▸q)
  exact⟨⟨⟨λb x h=>up b x (oF (R.fL a o.1).1 h) (R.pins b x h),R.dQ,R.val,λb q=>⟨(R.fL b q).1,qt (R.fL b q).2 z⟩,λb q=>⟨(R.fF b q).1,qt (R.fF b q).2 z⟩,R.apart,
   p,d,es,j,A.par,A.inst,A.own,up d _ o.2.symm A.dict,((ou as n k').2 k h).symm▸A.len,A.str,A.sl.upd h km hv up (ok _ o)⟩,R.fz,
   bz R.locs λm hm hs=>⟨m,hm.at λx=>up L x (aL L R.fz),hs.mono (.refl G) (λb x q=>up b x (aL b q.1)) λ_ q=>q⟩⟩,
   .same (λb x e q=>up b x (λz=>q (z▸o.1)) e) (λy _ u q=>gm q λp' d' es q=>t9 q λn h1 h2 h3=>⟨p',d',es,n,h1,up d' _ (λe=>o.2 (by have:=h1.symm.trans A.par;cases this;exact e.symm)) h2,h3⟩) z rfl rfl⟩
def Rep.turn {p:Pl} {a:Addr} {k k':ae} {f:Obj->Obj} (R:Rep P C Y G L Z s) (x:At G L s p a) (h:p.get Z=some k) (km:k.mut=true) (ok:∀O:Addr->Prop,O a->bD P G (s.heap.update a f) O k' (.ref a)):
    Rep P C Y G L (p.set Z k') {s with heap:=s.heap.update a f,toks:=t}/\Later (p.Qc G) G s G {s with heap:=s.heap.update a f,toks:=t}:=R.MF (Heap.SameBut.update ..) x h km ok
def Later.turn {p:Pl} {eD G':Gh} {eL s':Shared} (l:Later eD.OA eD eL G s) (l':Later (p.Qc G) G s G' s'):Later eD.O eD eL G' s':=by
 cases p with
 |loc x=>exact l.up.trans' l'
 |aq x=>exact(l.aO l').up
def Rep.gY {p:Pl} {a:Addr} {k:ae} (R:Rep P C Y G L Z s) (x:At G L s p a) (h:p.get Z=some k):bD P G s.heap (p.own G) k (.ref a):=by
 obtain⟨aq,loc⟩:=Z
 cases p with
 |loc n=>
  refine bz x λm h1 h2=>bz R.locs λm' hm hs=>?_
  cases oh h1 hm
  exact bz (hs.hit n k h) λv hv ok=>eN (hv.symm.trans h2)▸ok.mono (.refl G) (λ_ _ _ h=>h) λ_ q=>q.1
 |aq n=>
  refine R.ve x λas p d es j e hv A=>?_
  cases e
  exact bz (A.sl.hit n k h) λv hv' ok=>eN (hv'.symm.trans hv)▸ok.mono (.refl G) (λ_ _ _ h=>h) λ_ q=>q.1
end
inductive au where
 |next|brk|cont|ret (v:DV)
def dN (P:Params) (G:Gh) (f:au):Flow->Prop:=au.rec (motive:=λ_=>Flow->Prop) (λr=>r=.next) (λr=>r=.brk) (λr=>r=.cont) (λd r=>∃v,r=.ret v/\DR P G d v) f
@[elab_as_elim] def dN.K5 {P:Params} {G:Gh} {Q:Flow->Prop} {r:Flow} (h:dN P G .next r) (k:Q .next):Q r:=fa (show r=.next from h)▸k
@[elab_as_elim] def dN.brkE {P:Params} {G:Gh} {Q:Flow->Prop} {r:Flow} (h:dN P G .brk r) (k:Q .brk):Q r:=fa (show r=.brk from h)▸k
@[elab_as_elim] def dN.Ip {P:Params} {G:Gh} {Q:Flow->Prop} {r:Flow} (h:dN P G .cont r) (k:Q .cont):Q r:=fa (show r=.cont from h)▸k
@[elab_as_elim] def dN.wj {P:Params} {G:Gh} {Q:Flow->Prop} {r:Flow} {d:DV} (h:dN P G (.ret d) r) (k:∀v,DR P G d v->Q (.ret v)):Q r:=h.elim λv h=>fa h.1▸k v h.2
def dN.mono {P:Params} {G G':Gh} (k:Sub G G') {f:au} {r:Flow} (h:dN P G f r):dN P G' f r:=by
 cases f with
 |ret d=>exact h.elim λv h=>⟨v,h.1,h.2.mono k⟩
 |_=>exact h
section
variable (U:Program) (w:World) (C:Nat) (Y:Base) (sc:Scope) (d:Nat)
def aU (st:Stmt) (Z:aj) (f:au) (ba:aj):Prop:=∀(A:Around) (G:Gh) (L:Addr) (s:Shared) (env:Env),dH A d->cN sc L env->Rep w.params C Y G L Z s->
 ∀Q:Flow->Shared->Prop,(∀G' r s',Rep w.params C Y G' L ba s'->Later G.O G s G' s'->dN w.params G' f r->Q r s')->WP U w A (exec st env) s Q
def aF (l:List Stmt) (Z:aj) (f:au) (ba:aj):Prop:=∀(A:Around) (G:Gh) (L:Addr) (s:Shared) (env:Env),dH A d->cN sc L env->Rep w.params C Y G L Z s->
 ∀Q:Flow->Shared->Prop,(∀G' r s',Rep w.params C Y G' L ba s'->Later G.O G s G' s'->dN w.params G' f r->Q r s')->WP U w A (execs l env) s Q
end
section
variable {U:Program} {w:World} {C:Nat} {K:Frag} {Y:Base} {sc:Scope} {d:Nat} {Z aa ah cB:aj} {A:Around} {G:Gh} {L:Addr} {s:Shared}
def WP.to {α:Type} {t:Sem α} {Q:α->Shared->Prop} {E:Value->Shared->Prop} (h:WP U w A t s Q):wpAny (model U w) A t Q E s:=wpAny_mono h (λ_ _ x=>x) λ_ _ q=>q.elim
def cY (e:Expr):Bool:=!(Nat.ble 8 e.ctorIdx&&Nat.ble e.ctorIdx 10)
def dp {value:Expr} {t:Option Expr} {n:Nat} {env:Env} (h:cY value=true):swapsWith value t n env=pure false:=by
 cases value<;>first|rfl|exact ft h
def nt {env:Env} {x:Str} {u:Value} {kk:ae} {Q:Unit->Shared->Prop} (eo:cN sc L env) (R:Rep w.params C Y G L Z s) (hl:sc.names.lookup x=some .local) (ok:bD w.params G s.heap (λa=>G.OL a/\a≠L) kk u)
    (one:∀m,s.heap.Ns L m->kk.mut=true->∀y ky,y≠x->look Z.loc y=some ky->ky.mut=true->m y≠some u) (k:∀s',Rep w.params C Y G L {Z with loc:=put Z.loc x kk} s'->Later G.O G s G s'->Q () s'):WP U w A (storeName env x u) s Q:=
 bz R.locs λm hm _=>wpAny_storeName_local (m:=m) (by rw[Env.kindOf,eo.scope];exact hl) (eo.locals▸hm) (λh' FX hsb=>by
  rw[eo.locals] at FX hsb
  have q:=R.adk (ir:=put Z.loc x kk) (t:=s.toks+1) hsb λm' zF Jq=>⟨_,FX,by rw[oh hm zF];exact Jq.put x kk u ok (one m' zF)⟩
  exact k _ q.1 q.2) (by rw[eo.scope,eo.kind];rfl)
def gc {env:Env} {x:Str} {u:Value} {v:DV} {Q:Unit->Shared->Prop} (eo:cN sc L env) (R:Rep w.params C Y G L Z s) (hl:sc.names.lookup x=some .local) (h:DR w.params G v u) (k:∀s',Rep w.params C Y G L {Z with loc:=put Z.loc x (.pv v)} s'->Later G.O G s G s'->Q () s'):
    WP U w A (storeName env x u) s Q:=nt (kk:=.pv v) eo R hl h (λ_ _ q=>ft q) k
def zi {env:Env} {x:Str} {u:Value} {r:Res} {z:Nat} {Q:Unit->Shared->Prop} (eo:cN sc L env) (R:Rep w.params C Y G L Z s) (hl:sc.names.lookup x=some .local) (h:nz w.params G s.heap z r u) {eD:Gh} {eL:Shared} (l:Later eD.O eD eL G s) (hz:eL.heap.objs.size<=z)
    (k:∀G' s',Rep w.params C Y G' L {Z with loc:=put Z.loc x r.slot} s'->Later eD.O eD eL G' s'->Q () s'):WP U w A (storeName env x u) s Q:=by
 cases q:r.slot.mut with
 |false=>cases r with|pv dv=>exact gc eo R hl h λs' R' l'=>k G s' R' (l.trans' l') |fl l=>exact tf q|fd l=>exact tf q
 |true=>exact h.Ay q λa f lt ok=>nt eo (R.own f.nA f.ng lt) hl (ok _ _ _ (oi a) (λ_ h=>h) ⟨.inr rfl,λe=>f.nL (e▸R.fz)⟩) (λm hm _ y ky _ e km z=>bz R.locs λm' zF hs=>hs.Cy (λo=>f.nL o.1) y ky e km (oh hm zF▸z)) λs' R' l'=>k _ s' R' ((l.own (bB hz f.ge)).trans' l')
def bx:aF U w C Y sc d [] Z .next Z:=λ_ G _ s _ _ _ R _ k=>wpAny_execs_nil (k G _ s R (.refl _ _ _) rfl)
def ao {st:Stmt} {l:List Stmt} {f:au} (h:aU U w C Y sc d st Z .next aa) (k:aF U w C Y sc d l aa f ah):aF U w C Y sc d (st::l) Z f ah:=λA G L s env ro eo R _ kk=>
 wpAny_execs_cons (h A G L s env ro eo R _ λaz r ax aB aH aV=>aV.K5 (k A az L ax env ro eo aB _ λaD r ay aE aJ=>kk aD r ay aE (aH.trans' aJ)))
def au.p7 (f:au):Bool:=au.rec (motive:=λ_=>Bool) false true true (λ_=>true) f
def jc {st:Stmt} {l:List Stmt} {f:au} (h:aU U w C Y sc d st Z f aa) (hf:f.p7=true):aF U w C Y sc d (st::l) Z f aa:=λA G L s env ro eo R _ k=>
 wpAny_execs_cons (h A G L s env ro eo R _ λaz r ax aB aH aV=>by
  have kk:=k az r ax aB aH aV
  cases f with
  |next=>exact ft hf
  |brk=>revert kk;exact aV.brkE id
  |cont=>revert kk;exact aV.Ip id
  |ret v=>revert kk;exact aV.wj λ_ _=>id)
def gw {x:Str} {e:Expr} {p pos:Pos} {r:Res} (h:cO U w C Y sc d e Z r aa) (hl:sc.names.lookup x=some .local) (hc:cY e=true):aU U w C Y sc d (.Assign [.Name x p] e pos) Z .next {aa with loc:=put aa.loc x r.slot}:=λA G L s env ro eo R _ k=>
 wpAny_Assign_Name (h A G L s env ro eo R _ λaz u ax aB aH aV=>zi eo aB hl aV aH.up (fu _) λaD ay aE aJ=>k aD _ ay aE aJ rfl) (dp hc)
def EW {e:Expr} {pos:Pos} {v:DV} (h:aC U w C Y sc d e Z v aa) (hc:cY e=true):aU U w C Y sc d (.Expr e pos) Z .next aa:=λA G L s env ro eo R _ k=>
 wpAny_Expr_any (h A G L s env ro eo R _ λaz _ ax aB aH _=>k az _ ax aB aH.up rfl) (by rw[interactive,eo.scope,eo.kind];rfl) (dp hc)
def p9 {t:Expr} {b o:List Stmt} {pos:Pos} {c:Bool} {f:au} (h:bu U w C Y sc d t Z c aa) (k:aF U w C Y sc d (if c then b else o) aa f ah):aU U w C Y sc d (.If t b o pos) Z f ah:=λA G L s env ro eo R _ kk=>
 wpAny_If (h A G L s env ro eo R _ λaz ax aB aH=>by
  have k:=k A az L ax env ro eo aB _ λaD r ay aE aJ=>kk aD r ay aE (aH.up.trans' aJ)
  cases c<;>exact k)
def sV {e:Expr} {pos:Pos} {v:DV} (h:aC U w C Y sc d e Z v aa):aU U w C Y sc d (.Return (some e) pos) Z (.ret v) aa:=λA G L s env ro eo R _ k=>wpAny_Return_some (h A G L s env ro eo R _ λaz u ax aB aH aV=>k az _ ax aB aH.up ⟨u,rfl,aV⟩)
def QL {pos:Pos}:aU U w C Y sc d (.Return none pos) Z (.ret .none) Z:=λ_ G _ s _ _ _ R _ k=>wpAny_Return_none (k G _ s R (.refl _ _ _) ⟨_,rfl,rfl⟩)
def EZ {pos:Pos}:aU U w C Y sc d (.Pass pos) Z .next Z:=λ_ G _ s _ _ _ R _ k=>wpAny_Pass (k G _ s R (.refl _ _ _) rfl)
def Mr {pos:Pos}:aU U w C Y sc d (.Break pos) Z .brk Z:=λ_ G _ s _ _ _ R _ k=>wpAny_Break (k G _ s R (.refl _ _ _) rfl)
def EV {pos:Pos}:aU U w C Y sc d (.Continue pos) Z .cont Z:=λ_ G _ s _ _ _ R _ k=>wpAny_Continue (k G _ s R (.refl _ _ _) rfl)
def Hg {t:Expr} {m:Option Expr} {pos:Pos} (h:bu U w C Y sc d t Z true aa):aU U w C Y sc d (.Assert t m pos) Z .next aa:=λA G L s env ro eo R _ k=>
 wpAny_Assert_holds (h A G L s env ro eo R _ λaz ax aB aH=>⟨rfl,k az _ ax aB aH.up rfl⟩)
def Goes (go:aj->au->aj->Prop) (f:au) (Z:aj) (fe:au) (iR:aj):Prop:=au.rec (motive:=λ_=>Prop) (go Z fe iR) (fe=.next/\iR=Z) (go Z fe iR) (λv=>fe=.ret v/\iR=Z) f
def Goes.post {go:aj->au->aj->Prop} {f fe:au} {MQ iR:aj} {r:Flow} {HN:Gh} {I:Prop} {Rk:Flow->Prop} (h:Goes go f MQ fe iR) (q:dN w.params HN f r) (hg:go MQ fe iR->I) (hk:iR=MQ->∀r,dN w.params HN fe r->Rk r):
    match(generalizing:=false) r with| .next| .cont=>I| .brk=>Rk .next| .ret v=>Rk (.ret v):=by
 cases f with
 |next=>exact q.K5 (hg h)
 |cont=>exact q.Ip (hg h)
 |brk=>exact q.brkE (hk h.2 .next (by rw[h.1];exact rfl))
 |ret d=>exact q.wj λv q=>hk h.2 (.ret v) (by rw[h.1];exact⟨v,rfl,q⟩)
def cI (U:Program) (w:World) (C:Nat) (Y:Base) (sc:Scope) (d:Nat) (t:Expr) (b:List Stmt) (n:Nat):aj->au->aj->Prop:=Nat.rec (motive:=λ_=>aj->au->aj->Prop) (λZ f iR=>bu U w C Y sc d t Z false iR/\f=.next)
 (λ_ go Z f iR=>(bu U w C Y sc d t Z false iR/\f=.next)\/∃aa g ah,bu U w C Y sc d t Z true aa/\aF U w C Y sc d b aa g ah/\Goes go g ah f iR) n
section
variable {t:Expr} {b:List Stmt} {n:Nat} {f:au} {v:DV}
def cI.stop (h:bu U w C Y sc d t Z false aa):cI U w C Y sc d t b n Z .next aa:=by cases n;exact⟨h,rfl⟩;exact .inl ⟨h,rfl⟩
def cI.brk (h:bu U w C Y sc d t Z true aa) (h':aF U w C Y sc d b aa .brk ah):cI U w C Y sc d t b (n+1) Z .next ah:=.inr ⟨aa,_,ah,h,h',rfl,rfl⟩
def cI.ret (h:bu U w C Y sc d t Z true aa) (h':aF U w C Y sc d b aa (.ret v) ah):cI U w C Y sc d t b (n+1) Z (.ret v) ah:=.inr ⟨aa,_,ah,h,h',rfl,rfl⟩
def cI.next (h:bu U w C Y sc d t Z true aa) (h':aF U w C Y sc d b aa .next ah) (g:cI U w C Y sc d t b n ah f cB):cI U w C Y sc d t b (n+1) Z f cB:=.inr ⟨aa,_,ah,h,h',g⟩
def cI.cont (h:bu U w C Y sc d t Z true aa) (h':aF U w C Y sc d b aa .cont ah) (g:cI U w C Y sc d t b n ah f cB):cI U w C Y sc d t b (n+1) Z f cB:=.inr ⟨aa,_,ah,h,h',g⟩
def cI.succ (h:cI U w C Y sc d t b (n+1) Z f cB):(bu U w C Y sc d t Z false cB/\f=.next)\/∃aa g ah,bu U w C Y sc d t Z true aa/\aF U w C Y sc d b aa g ah/\Goes (cI U w C Y sc d t b n) g ah f cB:=h
def oG {pos:Pos} (h:cI U w C Y sc d t b n Z f aa):aU U w C Y sc d (.While t b [] pos) Z f aa:=λA G L s env ro eo R Q k=>
 wpAny_While (codeAny_whileLoop (I:=λn s'=>∃az ba,cI U w C Y sc d t b n ba f aa/\Rep w.params C Y az L ba s'/\Later G.O G s az s') (λn s' q=>zE q λaz ba tu R' l'=>by
  have fin:f=.next->∀aD ay,Rep w.params C Y aD L aa ay->Later az.OA az s' aD ay->∀E,wpAny (model U w) A (execs [] env) Q E ay:=λh aD ay aE aJ E=>wpAny_execs_nil (k aD .next ay aE (l'.trans' aJ.up) (by rw[h];exact rfl))
  cases n with
  |zero=>exact(tu.1 A az L s' env ro eo R' _ λaD ay aE aJ=>fin tu.2 aD ay aE aJ _).to
  |succ n=>
   exact tu.succ.elim (λtu=>(tu.1 A az L s' env ro eo R' _ λaD ay aE aJ=>fin tu.2 aD ay aE aJ _).to) λq=>e33 q λσt g σb ht hb go=>(ht A az L s' env ro eo R' _ λaD ay aE aJ=>(hb A aD L ay env ro eo aE _ λiJ r cA cD cL q=>
    go.post q (λgo=>⟨n,MT n,iJ,σb,go,cD,(l'.trans' aJ.up).trans' cL⟩) λe r q=>k iJ r cA (e▸cD) ((l'.trans' aJ.up).trans' cL) q).to).to)
  n ⟨G,Z,h,R,.refl _ _ _⟩)
end
end
section
variable (U:Program) (w:World) (C:Nat) (Y:Base) (sc:Scope) (d:Nat)
def u9 (e:Expr) (Z:aj) (k:ae):Prop:=∀(A:Around) (G:Gh) (L:Addr) (s:Shared) (env:Env),dH A d->cN sc L env->Rep w.params C Y G L Z s->
 ∀Q:Value->Shared->Prop,(∀v t,bD w.params G s.heap G.O k v->Q v {s with toks:=t})->WP U w A (eval e env) s Q
def gA (e:Expr) (Z:aj) (p:Pl):Prop:=∀(A:Around) (G:Gh) (L:Addr) (s:Shared) (env:Env),dH A d->cN sc L env->Rep w.params C Y G L Z s->
 ∀Q:Value->Shared->Prop,(∀a t,At G L s p a->Q (.ref a) {s with toks:=t})->WP U w A (eval e env) s Q
end
section
variable {U:Program} {w:World} {C:Nat} {K:Frag} {Y:Base} {sc:Scope} {d:Nat} {Z aa ah cB:aj} {A:Around} {G:Gh} {L:Addr} {s:Shared} {x y:Str} {p p' pos:Pos} {e:Expr} {as vb:List (Str×ae)} {k:ae}
def GZ (hl:sc.names.lookup x=some .local) (hx:look Z.loc x=some k) (hd:(x==("__debug__":Str))=false):u9 U w C Y sc d (.Name x pos) Z k:=λA G L s env ro eo R _ kk=>
 kb eo R hl hx hd λ_ u _ _ _ q=>kk u s.toks (q.mono (.refl G) (λ_ _ _ h=>h) λ_ h=>.inr h.1)
def uC (hl:sc.names.lookup x=some .local) (hx:look Z.loc x=some k) (km:k.mut=true) (hd:(x==("__debug__":Str))=false):gA U w C Y sc d (.Name x pos) Z (.loc x):=λA G L s env ro eo R Q kk=>
 kb eo R hl hx hd λm u hm hu _ q=>q.Ay (Q:=λu=>m x=some u->Q u s) km (λa _ _ _ hu=>kk a s.toks ⟨m,hm,hu⟩) hu
def oP (R:Rep w.params C Y G L Z s) (hs:Z.aq=some as):cp w.params C Y G (some as) s:=hs▸R.tocp
variable (T:cQ K Y) (hl:sc.names.lookup y=some .local) (hd:(y==("__debug__":Str))=false)
include T hl hd
theorem LF (hy:look Z.loc y=some (.pv .self)) (hs:Z.aq=some as) (hc:bN K C=true) (ha:d8 K C x=true) (hx:look as x=some k):u9 U w C Y sc d (.Attribute (.Name y p) x pos) Z k:=λA G L s env ro eo R _ kk=>
 Attribute_name (jA eo R hl hy hd λov RF=>get_slot T RF (oP R hs) hc ha hx λr t _ _ q=>kk r t (q.mono (.refl G) (λ_ _ _ h=>h) λ_ h=>.inl h.1))
theorem GU (hy:look Z.loc y=some (.pv .self)) (hs:Z.aq=some as) (hc:bN K C=true) (ha:d8 K C x=true) (hx:look as x=some k) (km:k.mut=true):gA U w C Y sc d (.Attribute (.Name y p) x pos) Z (.aq x):=λA G L s env ro eo R Q kk=>
 Attribute_name (jA eo R hl hy hd λov RF=>get_slot T RF (oP R hs) hc ha hx λr t _ at_ q=>q.Ay (Q:=λr=>AttAt G s x r->Q r {s with toks:=t}) km (λa _ _ _ h=>kk a t h) at_)
omit T hl hd
theorem u9.val {v:DV} (h:u9 U w C Y sc d e Z (.pv v)):aC U w C Y sc d e Z v Z:=λA G L s env ro eo R _ k=>h A G L s env ro eo R _ λu t q=>k G u _ R.toks bb q
def MC:ae->Option Bool
 | .pv v=>mE v
 | .ml l=>some (!l.isEmpty)
 | .md []=>some false
 | .md (_::_)=>none
theorem E8 {b:Bool} (h:u9 U w C Y sc d e Z k) (ht:MC k=some b) (he:∀env,isTrue e env (eval e env)=(do let v<-eval e env;standAt e.pos;holding [v] (truthy v))):bu U w C Y sc d e Z b Z:=λA G L s env ro eo R Q kk=>
 isTrue_plain (h A G L s env ro eo R _ λu t q=>by
  have kk:∀t,Q b {s with toks:=t}:=λt=>kk G _ R.toks bb
  cases k with
  |pv v=>exact wQ (s:={s with toks:=t}) R.pins ht q kk
  |ml l=>rw[<-eN ht] at kk;exact gm q λa vs n q=>a5 q λe g r z _=>by rw[e];exact zq (s:={s with toks:=t}) g z r kk
  |md l=>
   cases l with
   |cons _ _=>exact ns ht
   |nil=>
    rw[<-eN ht] at kk
    exact DL q λa es n e g r o=>by
     rw[e]
     exact r.jr (Q:=λes=>s.heap.get? a=some (dictOf es n)->_) (λg=>wpAny_truthy_dict (knd:=strKind U w) (kvs:=[]) (R.v5 (o.elim (λh=>(R.fL a h).1) λh=>(R.fF a h).1)) ⟨_,⟨[]⟩,n,g,⟨rfl,rfl,rfl⟩,rfl,(λe h=>by simp at h),.nil,List.nodup_nil⟩ (by decide) (kk _)) g) (he env)
theorem sS {u v:Value} {r:Res} {z:Nat} {loc:List (Str×ae)} {Q:Unit->Shared->Prop} (T:cQ K Y) (R:Rep w.params C Y G L ⟨some as,loc⟩ s) (hu:DR w.params G .self u) (hf:hG K C x=true) (hl:as.length<1000) (jz:x∈fq->look as x=none)
 (h:nz w.params G s.heap z r v) {eD:Gh} {eL:Shared} (l:Later eD.O eD eL G s) (hz:eL.heap.objs.size<=z) (k:∀G' s',Rep w.params C Y G' L ⟨some (put as x r.slot),loc⟩ s'->Later eD.O eD eL G' s'->Q () s'):WP U w A (setAttr u x v) s Q:=
 gq hu R.tocp λp dd es n A I=>Ha (fk T R) I A.dict hf A.str (bB (so A.str).1 (Nat.succ_le_of_lt (Ri A.len hl))) (by
  cases q:r.slot.mut with
  |false=>
   cases r with
   |pv dv=>have q:=R.L9 (hh:=PyData.keyHash w.params x) (tk:=s.toks+1) (t:=s.toks+2) A jz (k:=.pv dv) (v:=v) h λkm=>ft km
           exact k G _ q.1 (l.trans' q.2)
   |fl l=>exact tf q
   |fd l=>exact tf q
  |true=>
   refine h.Ay (Q:=λv=>Q () {s with heap:=s.heap.update dd (Obj.putName x (PyData.keyHash w.params x) (.str x (s.toks+1)) v),toks:=s.toks+2}) q λa f lt ok=>?_
   have q:=(R.CD f.nL f.ng lt).L9 (hh:=PyData.keyHash w.params x) (tk:=s.toks+1) (t:=s.toks+2) (A.mono (oo G a) (λ_ _ _ h=>h) λ_=>.inl) jz (ok _ _ _ (oo G a) (λ_ h=>h) ⟨.inr rfl,λe=>f.nA (e▸A.own)⟩) λ_ y ky _ e km z=>A.sl.Cy (λo=>f.nA o.1) y ky e km z
   exact k _ _ q.1 ((l.CD (bB hz f.ge)).trans' q.2))
theorem Mq {r:Res} (T:cQ K Y) (h:cO U w C Y sc d e Z r aa) (hc:cY e=true) (hl:sc.names.lookup y=some .local) (hy:look aa.loc y=some (.pv .self)) (hd:(y==("__debug__":Str))=false)
 (hs:aa.aq=some as) (hf:hG K C x=true) (hn:as.length<1000) (jz:x∈fq->look as x=none):aU U w C Y sc d (.Assign [.Attribute (.Name y p) x p'] e pos) Z .next {aa with aq:=some (put as x r.slot)}:=λA G L s env ro eo R _ k=>
 plainObj_wpAny_Assign_Attribute (h A G L s env ro eo R _ λaz u ax aB aH aV=>jA eo aB hl hy hd λov RF=>by
  obtain⟨aq,loc⟩:=aa
  cases hs
  exact sS T aB RF hf hn jz aV aH.up (fu _) λaD ay aE aJ=>k aD _ ay aE aJ rfl) (dp hc)
theorem YC {op:Operator} {v u z:DV} (hl:sc.names.lookup x=some .local) (hx:look Z.loc x=some (.pv v)) (h:aC U w C Y sc d e Z u aa) (hi:Nd U w op v u z):aU U w C Y sc d (.AugAssign (.Name x p) op e pos) Z .next {aa with loc:=put aa.loc x (.pv z)}:=λA G L s env ro eo R _ k=>
 wpAny_AugAssign_Name (bz R.locs λm hm hs=>bz (hs.hit x _ hx) λo ho q=>wpAny_loadName_local (m:=m) (v:=o) (by rw[eo.scope];exact eo.kind) (by rw[Env.kindOf,eo.scope];exact hl) (eo.locals▸hm) ho
  (h A G L s env ro eo R _ λaz b ax aB aH aV=>hi A az ax o b ro.low (DR.mono aH.sub q) aV _ λc _ cz=>gc eo aB.toks hl cz λcA aE aJ=>k az _ cA aE (aH.tk.up.trans' aJ) rfl))
theorem Hh {op:Operator} {v u z:DV} (T:cQ K Y) (hl:sc.names.lookup y=some .local) (hy:look Z.loc y=some (.pv .self)) (hd:(y==("__debug__":Str))=false)
 (hs:Z.aq=some as) (hc:bN K C=true) (ha:d8 K C x=true) (hx:look as x=some (.pv v)) (h:aC U w C Y sc d e Z u aa) (hi:Nd U w op v u z) (Jq:aa.aq=some vb) (hf:hG K C x=true) (hn:vb.length<1000) (jz:x∈fq->look vb x=none):
 aU U w C Y sc d (.AugAssign (.Attribute (.Name y p) x p') op e pos) Z .next {aa with aq:=some (put vb x (.pv z))}:=λA G L s env ro eo R _ k=>
 wpAny_AugAssign_AttributeAny (jA eo R hl hy hd λov RF=>x6 T RF (oP R hs) hc ha hx λo _ q=>h A G L _ env ro eo R.toks _ λaz b ax aB aH aV=>hi A az ax o b ro.low (q.mono aH.sub) aV _ λc t cz=>by
  obtain⟨aq,loc⟩:=aa
  cases Jq
  exact sS (s:={ax with toks:=t}) (r:=.pv z) (z:=s.heap.objs.size) (eD:=G) (eL:=s) T aB.toks (RF.mono aH.sub) hf hn jz cz ((Later.trans' bb aH.up).trans' bb) (fu _) λaD ay aE aJ=>k aD _ ay aE aJ rfl)
end
def Na (P:Params) (G:Gh):List (Str×DV)->List (Str×Value)->Prop:=Zip λp q=>q.1=p.1/\DR P G p.2 q.2
def Na.cons {P:Params} {G:Gh} {x:Str} {d:DV} {v:Value} {l:List (Str×DV)} {vs:List (Str×Value)} (a:DR P G d v) (b:Na P G l vs):Na P G ((x,d)::l) ((x,v)::vs):=Zip.cons ⟨rfl,a⟩ b
def Na.names {P:Params} {G:Gh} {l:List (Str×DV)} {vs:List (Str×Value)} (h:Na P G l vs):vs.map (·.1)=l.map (·.1):=by
 induction h with
 |nil=>rfl
 |cons a _ ih=>rw[w6,w6,ih,a.1]
def f7 {α:Type} (n:Str) (v:α) (r:List (Str×α)) (x:Str):((n,v)::r).lookup x=if x=n then some v else r.lookup x:=by
 rw[List.lookup_cons]
 by_cases q:x=n
 ·rw[d7 q,iG.mpr q]
 ·rw[dX q,HE.mpr q]
def lookup_none {α:Type} (x:Str) (l:List (Str×α)) (h:x ∉ l.map (·.1)):l.lookup x=none:=by
 induction l with
 |nil=>rfl
 |cons p r ih=>rw[f7 p.1 p.2,dX λq:x=p.1=>h (by rw[q];exact .head _)];exact ih λq=>h (.tail _ q)
def r8 {α:Type} (x:Str) (l:List (Str×α)) (h:(l.map (·.1)).Nodup):l.reverse.lookup x=l.lookup x:=by
 induction l with
 |nil=>rfl
 |cons p r ih=>
  have⟨h1,h2⟩:=List.nodup_cons.mp h
  rw[List.reverse_cons,List.lookup_append,ih h2,f7 p.1 p.2,f7 p.1 p.2]
  by_cases q:x=p.1
  ·rw[lookup_none x r (q▸h1),d7 q,d7 q];rfl
  ·rw[dX q,dX q];exact Option.or_none
def xQ {P:Params} {G:Gh} {l:List (Str×DV)} {vs:List (Str×Value)} (h:Na P G l vs) (x:Str):(look l x=none->vs.lookup x=none)/\∀d,look l x=some d->∃v,vs.lookup x=some v/\DR P G d v:=by
 induction h with
 |nil=>exact⟨λ_=>rfl,λ_ h=>nomatch h⟩
 |@cons p q _ _ a _ ih=>
  rw[f7 q.1 q.2,dh,a.1]
  by_cases z:p.1=x
  ·rw[d7 z,d7 z.symm];exact⟨λh=>ns h.symm,λd h=>⟨_,rfl,eN h▸a.2⟩⟩
  ·rw[dX z,dX λq=>z q.symm];exact ih
section
variable (U:Program) (w:World) (C:Nat) (Y:Base) (d:Nat)
def af (f:Value) (args:List DV) (kw:List (Str×DV)) (aq:Option (List (Str×ae))) (r:DV) (aX:Option (List (Str×ae))):Prop:=
 ∀(A:Around) (G:Gh) (s:Shared) (vs ks:List Value),dH A d->cp w.params C Y G aq s->eC w.params G args vs->eC w.params G (kw.map (·.2)) ks->
  ∀Q:Value->Shared->Prop,(∀G' v s',cp w.params C Y G' aX s'->Later G.OA G s G' s'->G'.OL=G.OL->DR w.params G' r v->Q v s')->
   codeAny (model U w) A (.call f ⟨vs,(kw.map (·.1)).zip ks⟩) (λx s'=>match x with| .ok (.ret v)=>Q v s'| .ok _=>False| .error _=>False) s
end
section
variable {U:Program} {w:World} {C:Nat} {K:Frag} {Y:Base} {d:Nat} {Z aa ah:aj} {A:Around} {G:Gh} {L:Addr} {s:Shared} {aq aX:Option (List (Str×ae))} {loc ir:List (Str×ae)}
def qM {x j k d c L:Nat} (h:x+k*(d+1)+c<=L) (hj:j<=k):x+j+k*d+c<=L:=bB (ZA (bB (jk (zN ..)) (xj (bB (ZA hj _) (jk (Nat.add_comm ..))) x)) c) h
def dH.deeper {env:Env} (h:dH A (d+1)):dH (A.deeper env) d:=⟨qM (j:=1) h.depth (by decide),qM (j:=3) h.units (by decide),h.handled⟩
def Rep.ofA (R:Rep w.params C Y G L ⟨aq,loc⟩ s) {G':Gh} {s':Shared} (R':cp w.params C Y G' aX s') (l:Later G.OA G s G' s') (e:G'.OL=G.OL):Rep w.params C Y G' L ⟨aX,loc⟩ s':=
 have kp:∀b o,G.OL b->s.heap.get? b=some o->s'.heap.get? b=some o:=λb o q h=>l.kept b o h λz=>R.apart b z q
 ⟨R',e▸R.fz,bz R.locs λm hm hs=>⟨m,hm.at λo=>kp L o R.fz,hs.mono l.sub (λa o q=>kp a o q.1) λ_ q=>e▸q⟩⟩
def nR (G:Gh) (n:Addr):Gh:={G with OL:=λb=>b=n}
def cp.move (R:cp w.params C Y G aq s) {s':Shared} (k:∀b o,s.heap.get? b=some o->s'.heap.get? b=some o) (z:s.heap.objs.size<=s'.heap.objs.size):cp w.params C Y G aq s':=R.keep (λb o _=>k b o) (λb o _=>k b o) z
def cp.enter (R:cp w.params C Y G aq s) {bl:List (Str×DV)} {binds:List (Str×Value)} (hb:Na w.params G bl binds) (hn:(bl.map (·.1)).Nodup) {h₀:Heap} {t:Nat} (FX:h₀.Ns s.heap.objs.size λx=>binds.reverse.lookup x) (hk:∀b o,s.heap.get? b=some o->h₀.get? b=some o):
    Rep w.params C Y (nR G s.heap.objs.size) s.heap.objs.size ⟨aq,bl.map λp=>(p.1,.pv p.2)⟩ {s with heap:=h₀,toks:=t}:=by
 have f:=R.fresh (fu _)
 have S:Sub G (nR G s.heap.objs.size):=⟨rfl,λ_ _ h=>h,λ_ h=>h⟩
 have R':cp w.params C Y G aq {s with heap:=h₀,toks:=t}:=R.move hk (Rh FX.lt)
 have lk:∀x,binds.reverse.lookup x=binds.lookup x:=λx=>r8 x binds (hb.names▸hn)
 refine⟨R'.gh S rfl R'.pins R'.fL (λb (h:b=_)=>fa h▸⟨f.2.2,FX.lt⟩) (λb q (q':b=_)=>f.1 (q'▸q)) λ_ q=>q,rfl,_,FX,λx e=>?_,λx k e=>?_,λx y kx ky ex ey mx my=>?_⟩
 ·rw[f6] at e;rw[lk];exact(xQ hb x).1 (Option.map_eq_none_iff.mp e)
 ·rw[f6] at e
  exact bz (xl.mp e) λdv h1 h2=>bz ((xQ hb x).2 dv h1) λv h3 h4=>⟨v,(lk x).trans h3,h2▸h4.mono S⟩
 ·rw[f6] at ex
  exact bz (xl.mp ex) λdv _ h2=>by rw[<-h2] at mx;exact ft mx
def cp.leave (R:cp w.params C Y G aq s) {h₀:Heap} {t:Nat} {aD:Gh} {ay:Shared} (hk:∀b o,s.heap.get? b=some o->h₀.get? b=some o) (hz:s.heap.objs.size<h₀.objs.size) (aE:Rep w.params C Y aD s.heap.objs.size ⟨aX,ir⟩ ay)
    (l:Later (nR G s.heap.objs.size).O (nR G s.heap.objs.size) {s with heap:=h₀,toks:=t} aD ay):cp w.params C Y {aD with OL:=G.OL} aX ay/\Later G.OA G s {aD with OL:=G.OL} ay/\Sub aD {aD with OL:=G.OL}:=by
 have ZL:Sub aD {aD with OL:=G.OL}:=⟨rfl,λ_ _ h=>h,λ_ h=>h⟩
 have no:∀b,b<s.heap.objs.size->¬G.OA b->¬(nR G s.heap.objs.size).O b:=λb t n q=>q.elim n λ(e:b=_)=>Nat.lt_irrefl _ (e▸t)
 have up:∀b,b<s.heap.objs.size->b<h₀.objs.size:=λb t=>Nat.lt_trans t hz
 refine⟨aE.tocp.gh ZL rfl aE.pins aE.fL (λb q=>⟨?_,qt (up b (R.fF b q).2) l.size⟩) (λb q q'=>R.apart b (l.anew b (up b (R.fF b q').2) q) q') λ_ q=>q,
  ⟨⟨l.sub.V,l.sub.g,l.sub.par⟩,λb o t n=>l.qj b o (up b t) (no b t λq=>n (.inl q)),λb t=>l.anew b (up b t),λ_ _ q=>q,λb o h n=>l.kept b o (hk b o h) (no b (uY h) n),λx hx v q=>l.tM x hx v (gm q λp d es q=>t9 q λn a b c=>⟨p,d,es,n,a,hk _ _ b,c⟩),
    bB (Rh hz) l.size,l.gens,l.os⟩,ZL⟩
 cases z:aD.g b with
 |none=>rfl
 |some o=>exact sn ((l.qj b o (up b (R.fF b q).2) (no b (R.fF b q).2 λz=>R.apart b z q) z).symm.trans (R.fF b q).1)
def au.val (f:au):DV:=au.rec (motive:=λ_=>DV) .none .none .none id f
def dN.val {P:Params} {f:au} {r:Flow} (h:dN P G f r):DR P G f.val (match(generalizing:=false) r with| .ret v=>v|_=>.none):=by
 cases f with
 |next=>exact h.K5 rfl
 |brk=>exact h.brkE rfl
 |cont=>exact h.Ip rfl
 |ret d=>exact h.wj λv q=>q
def af.call {f:Value} {args:List DV} {kw:List (Str×DV)} {r:DV} (h:af U w C Y d f args kw aq r aX) {vs ks:List Value} (ro:dH A d) (R:Rep w.params C Y G L ⟨aq,loc⟩ s) (ha:eC w.params G args vs) (hk:eC w.params G (kw.map (·.2)) ks)
    {Q:Value->Shared->Prop} (k:∀G' v s',Rep w.params C Y G' L ⟨aX,loc⟩ s'->Later G.OA G s G' s'->DR w.params G' r v->Q v s'):WP U w A (PySem.call f vs ((kw.map (·.1)).zip ks)) s Q:=
 wpAny_call (h A G s vs ks ro R.tocp ha hk Q λG' v s' R' l e q=>k G' v s' (R.ofA R' l e) l q)
structure Callee (w:World) (K:Frag) (Y:Base) (f:Addr) (args:List DV) (kw bl:List (Str×DV)) (fd:FuncData) (body:List Stmt):Prop where
 ho:∃o,Y.hp.get? f=some o/\o.data=.func fd
 cd:codeIn K fd.code fd.qualname=true
 bd:fd.body=.stmts body
 gl:fd.globals=mainGlobals
 bt:fd.builtins=builtinsNs
 cell:∀x∈fd.scope.names,x.2≠.cell
 loc:∀x∈bl,fd.scope.names.lookup x.1=some .local
 nd:(bl.map (·.1)).Nodup
 bi:∀(G:Gh) (s:Shared) (vs ks:List Value),K.In s.heap->(∀b o,Y.hp.get? b=some o->G.g b=some o)->eC w.params G args vs->eC w.params G (kw.map (·.2)) ks->∃binds,BindsTo s fd ⟨vs,(kw.map (·.1)).zip ks⟩ binds/\Na w.params G bl binds
 co:fd.scope.isCoroutine=false
 ge:fd.scope.isGenerator=false
 kd:fd.scope.kind=.function
section
variable {f:Addr} {fd:FuncData} {body:List Stmt} {args:List DV} {kw bl:List (Str×DV)} {fl:au} (T:cQ K Y) (c:Callee w K Y f args kw bl fd body)
include T c
theorem uJ (h:∀(A:Around) (G:Gh) (L:Addr) (s:Shared),dH A d->cN fd.scope L (callEnv fd L f)->Rep w.params C Y G L ⟨aq,bl.map λp=>(p.1,.pv p.2)⟩ s->∀Q:Flow->Shared->Prop,(∀G' r s',Rep w.params C Y G' L ⟨aX,ir⟩ s'->Later G.O G s G' s'->dN w.params G' fl r->Q r s')->
 _root_.PySem.wpAt (model U w) A (.func body (callEnv fd L f)) (execs body (callEnv fd L f)) Q (λ_ _=>False) s):af U w C Y (d+1) (.ref f) args kw aq fl.val aX:=λA G s vs ks ro R ha hkw Q k=>
 bz (c.bi G s vs ks (lU T R) R.dQ ha hkw) λbinds hB hD=>bz c.ho λo ho aaQ=>
 ks_codeAny_call_defAt (fd:=fd) (by have:=ro.depth;lia) (R.pins _ _ (R.dQ _ _ ho)) aaQ (T.nolimit.keeps λb o q=>R.pins b o (R.dQ b o q)) (codeRec_of (lU T R) c.cd) c.bd hB c.cell (λx q=>bz (Ht.mp (show x.1∈bl.map (·.1) by rw[<-hD.names];exact List.mem_map_of_mem q)) λy y1 y2=>y2▸c.loc y y1)
  (λh₀ FX hkp=>_root_.PySem.wpAt_mono (h (A.deeper (callEnv fd s.heap.objs.size f)) _ _ _ ro.deeper ⟨rfl,rfl,c.gl,c.bt,c.kd⟩ (R.enter hD c.nd (t:=s.toks+binds.length) FX hkp) _ λaD r ay aE aJ q=>a3 (R.leave hkp FX.lt aE aJ) λcD cL HQ=>k _ _ ay cD cL rfl (q.val.mono HQ)) (λ_ _ h=>h) λ_ _ (q:False)=>q.elim) c.co c.ge c.kd
theorem Qo (h:aF U w C Y fd.scope d body ⟨aq,bl.map λp=>(p.1,.pv p.2)⟩ fl ⟨aX,ir⟩):af U w C Y (d+1) (.ref f) args kw aq fl.val aX:=uJ T c λA G L s ro eo R Q k=>_root_.PySem.wpAt_of_wpAny (h A G L s _ ro eo R Q k)
end
end
def noStar (e:Expr):Bool:=!Nat.beq e.ctorIdx 22
def gv {e:Expr} {rest:List Expr} {env:Env} (h:noStar e=true):starEach (e::rest) env=(false,eval e env)::starEach rest env:=by
 cases e<;>first|rfl|exact ft h
def lG {env:Env} {pos:Pos} (es:List Expr) (h:es.all noStar=true):(backTo pos (starEach es env)).any (·.1)=false/\(backTo pos (starEach es env)).all (λp=>!p.1)=true:=by
 induction es with
 |nil=>exact⟨rfl,rfl⟩
 |cons e r ih=>have⟨h1,h2⟩:=aw h;rw[gv h1];exact ih h2
section
variable (U:Program) (w:World) (C:Nat) (Y:Base) (sc:Scope) (d:Nat)
inductive dI:List Expr->aj->List DV->aj->Prop
 |nil {Z:aj}:dI [] Z [] Z
 |cons {e:Expr} {es:List Expr} {Z aa ah:aj} {v:DV} {vs:List DV}:noStar e=true->aC U w C Y sc d e Z v aa->dI es aa vs ah->dI (e::es) Z (v::vs) ah
inductive ju:List Keyword->aj->List (Str×DV)->aj->Prop
 |nil {Z:aj}:ju [] Z [] Z
 |cons {x:Str} {e:Expr} {p:Pos} {es:List Keyword} {Z aa ah:aj} {v:DV} {vs:List (Str×DV)}:aC U w C Y sc d e Z v aa->ju es aa vs ah->ju (⟨some x,e,p⟩::es) Z ((x,v)::vs) ah
end
section
variable {U:Program} {w:World} {C:Nat} {K:Frag} {Y:Base} {sc:Scope} {d:Nat} {Z aa ah:aj} {A:Around} {G:Gh} {L:Addr} {s:Shared} {env:Env} {es:List Expr} {vs:List DV} {da:List Keyword} {ks:List (Str×DV)}
def dI.Mk (h:dI U w C Y sc d es Z vs aa):es.all noStar=true:=by induction h with|nil=>rfl|cons a _ _ ih=>exact Y4.mpr ⟨a,ih⟩
def dI.run (h:dI U w C Y sc d es Z vs aa) (pos:Pos):∀(A:Around) (G:Gh) (L:Addr) (s:Shared) (env:Env),dH A d->cN sc L env->Rep w.params C Y G L Z s->
    ∀Q:List Value->Shared->Prop,(∀G' us s',Rep w.params C Y G' L aa s'->Later G.OA G s G' s'->eC w.params G' vs us->Q us s')->WP U w A (spliced (backTo pos (starEach es env))) s Q:=by
 induction h with
 |nil=>exactλA G L s env ro eo R Q k=>Calls.spliced_nil (k G _ s R (.refl _ _ _) .nil)
 |cons a h1 _ ih=>
  intro A G L s env ro eo R Q k
  rw[gv a]
  exact Calls.spliced_cons (h1 A G L s env ro eo R _ λaz u ax aB aH aV=>ih A az L ax env ro eo aB _ λaD us ay aE aJ cz=>k aD _ ay aE (aH.aO aJ) (.cons (aV.mono aJ.sub) cz))
def ju.run (h:ju U w C Y sc d da Z ks aa) (pos:Pos):∀(A:Around) (G:Gh) (L:Addr) (s:Shared) (env:Env),dH A d->cN sc L env->Rep w.params C Y G L Z s->
    ∀Q:List Value->Shared->Prop,(∀G' us s',Rep w.params C Y G' L aa s'->Later G.OA G s G' s'->eC w.params G' (ks.map (·.2)) us->Q us s')->WP U w A (evalAll ((backToKw pos (keywordEach da env)).map (·.2))) s Q:=by
 induction h with
 |nil=>exactλA G L s env ro eo R Q k=>kwAll_nil (k G _ s R (.refl _ _ _) .nil)
 |cons h1 _ ih=>exactλA G L s env ro eo R Q k=>kwAll_cons (h1 A G L s env ro eo R _ λaz u ax aB aH aV=>ih A az L ax env ro eo aB _ λaD us ay aE aJ cz=>k aD _ ay aE (aH.aO aJ) (.cons (aV.mono aJ.sub) cz))
def ju.names (h:ju U w C Y sc d da Z ks aa) (pos:Pos):(backToKw pos (keywordEach da env)).all (·.1.isSome)=true/\(backToKw pos (keywordEach da env)).any (·.1.isNone)=false/\(backToKw pos (keywordEach da env)).filterMap (·.1)=ks.map (·.1):=by
 induction h with
 |nil=>exact⟨rfl,rfl,rfl⟩
 |cons _ _ ih=>exact⟨ih.1,ih.2.1,aT _ ih.2.2⟩
def ju.PB (h:ju U w C Y sc d [] Z ks aa):ks=[]/\aa=Z:=by cases h;exact⟨rfl,rfl⟩
def dI.PB (h:dI U w C Y sc d [] Z vs aa):vs=[]/\aa=Z:=by cases h;exact⟨rfl,rfl⟩
def xq {f:Value} {pos:Pos} {Q:Args->Shared->Prop} (ha:dI U w C Y sc d es Z vs aa) (hk:ju U w C Y sc d da aa ks ah) (ro:dH A d) (eo:cN sc L env) (R:Rep w.params C Y G L Z s)
    (k:∀G' s' us kk,Rep w.params C Y G' L ah s'->Later G.OA G s G' s'->eC w.params G' vs us->eC w.params G' (ks.map (·.2)) kk->Q ⟨us,(ks.map (·.1)).zip kk⟩ s'):WP U w A (evalArgs f true (backTo pos (starEach es env)) (backToKw pos (keywordEach da env))) s Q:=by
 have⟨n1,_,n3⟩:=hk.names (env:=env) pos
 have st:=ha.Mk
 rw[<-n3] at k
 cases da with
 |nil=>
  obtain⟨e1,e2⟩:=hk.PB
  rw[e1,e2] at k
  cases es with
  |nil=>obtain⟨e1,e2⟩:=ha.PB;rw[e1,e2] at k;exact evalArgs_nil3 (k G s [] [] R (.refl _ _ _) .nil .nil)
  |cons e es=>have h:=ha.run pos A G L s env ro eo R _ λaz us ax aB aH aV=>k az ax us [] aB aH aV .nil
              rw[gv (aw st).1] at h ⊢;exact evalArgs_plain h
 |cons kw da=>
  cases es with
  |nil=>obtain⟨e1,e2⟩:=ha.PB;rw[e2] at hk;rw[e1] at k;exact evalArgs_kw2_nil n1 (hk.run pos A G L s env ro eo R _ λaD kk ay aE aJ cz=>k aD ay [] kk aE aJ .nil cz)
  |cons e es=>exact evalArgs_kw2 n1 (ha.run pos A G L s env ro eo R _ λaz us ax aB aH aV=>hk.run pos A az L ax env ro eo aB _ λaD kk ay aE aJ cz=>k aD ay us kk aE (aH.aO aJ) (aV.mono aJ.sub) cz) (gv (aw st).1)
def xK {f:Value} {first:List Value} {pos:Pos} {Q:Value->Shared->Prop}
    (kp:∀az ax,Rep w.params C Y az L ah ax->Sub G az->∃k,(k=Keeper.frame\/k=Keeper.machine\/k=Keeper.boundFrame)/\Looks (model U w) ax.heap (keeperOf f) k)
    (ha:dI U w C Y sc d es Z vs aa) (hk:ju U w C Y sc d da aa ks ah) (ro:dH A d) (eo:cN sc L env) (R:Rep w.params C Y G L Z s)
    (h:∀az ax us kk,Rep w.params C Y az L ah ax->Later G.OA G s az ax->eC w.params az vs us->eC w.params az (ks.map (·.2)) kk->WP U w A (call f (first++us) ((ks.map (·.1)).zip kk)) ax Q):
    WP U w A (callWith pos f first (backTo pos (starEach es env)) (backToKw pos (keywordEach da env))) s Q:=
 callWith_of (P:=λhp=>∃k,(k=Keeper.frame\/k=Keeper.machine\/k=Keeper.boundFrame)/\Looks (model U w) hp (keeperOf f) k) (by rw[(lG es ha.Mk).1,(hk.names (env:=env) pos).2.1];rfl) (λ_ h=>h)
  (xq ha hk ro eo R λaz ax us kk aB aH aV cz=>⟨kp az ax aB aH.sub,h az ax us kk aB aH aV cz⟩)
end
def cS (e:Expr):Bool:=!Nat.beq e.ctorIdx 16
def Nw {o:Expr} {x:Str} {env:Env} {t:Sem Value} (h:cS o=true):attributeBase o x env t=t:=by
 cases o<;>first|exact ft h|exact Eq.refl t
def dR (args:List Expr) (da:List Keyword) (apos pos:Pos):Bool:=args.all noStar&&(da.all (λk=>k.arg.isSome)&&(decide (args.length+da.length+1<30)&&(apos.endLine==pos.line)))
section
variable {U:Program} {w:World} {C:Nat} {K:Frag} {Y:Base} {sc:Scope} {d:Nat} {Z aa ah cB:aj} {A:Around} {G:Gh} {L:Addr} {s:Shared} {env:Env} {o:Expr} {x:Str} {apos pos:Pos} {es:List Expr} {vs:List DV} {da:List Keyword} {ks:List (Str×DV)} {as:List (Str×ae)} {f:Addr} {r:DV} {aX:Option (List (Str×ae))}
def Pa {env:Env} {pos:Pos} (da:List Keyword) (h:da.all (λk=>k.arg.isSome)=true):(backToKw pos (keywordEach da env)).all (·.1.isSome)=true:=by
 induction da with
 |nil=>rfl
 |cons k r ih=>obtain⟨n,e,p⟩:=k;have⟨h1,h2⟩:=aw h;exact Y4.mpr ⟨h1,ih h2⟩
def xW {args:List Expr} {p:Pos} (hf:dR args da apos pos=true):methodCallForm (args.length+da.length) (backTo p (starEach args env)) (backToKw p (keywordEach da env))=true:=by
 have⟨f1,hf⟩:=aw hf
 have⟨f2,hf⟩:=aw hf
 have f3:=mQ (aw hf).1
 unfold methodCallForm
 rw[(lG args f1).2,Pa da f2]
 simp only[Bool.true_and,decide_eq_true_eq]
 split<;>lia
def gy {args:List Expr} {Q:Value->Shared->Prop} (ho:cS o=true) (hf:dR args da apos pos=true)
    (h:WP U w A (eval o env) s λov ax=>∀pl,WP U w A (getMethod ov x pl) ax λfx ay=>WP U w A (callWith pos fx.1 fx.2 (backTo pos (starEach args env)) (backToKw pos (keywordEach da env))) ay Q):
    WP U w A (eval (.Call (.Attribute o x apos) args da pos) env) s Q:=by
 show WP U w A (attributeBase o x env (eval o env) >>= λov=>standAt apos.atName >>= λ_=>methodCall o x apos pos env ov (args.length+da.length) (backTo pos (starEach args env)) (backToKw pos (keywordEach da env))) s Q
 rw[Nw ho]
 refine eO (h.mono λov ax cf=>eO (Rl ?_))
 unfold methodCall
 rw[xW hf]
 refine eO (M9 (WP.mono (cf _) λfx ay cP=>?_))
 unfold methodCallPos
 rw[(aw (aw (aw hf).2).2).2]
 exact eO (k5 cP)
def CP (K:Frag) (C:Nat) (x:Str) (f:Addr):Bool:=plainGet K C x&&(findIn K (.ref C) x==some (some (.ref f))&&(isFn K (.ref f)&&keepIn K (.ref f)))
def sL (T:cQ K Y) (ho:cS o=true) (hf:dR es da apos pos=true) (hm:CP K C x f=true) (h₀:aC U w C Y sc d o Z .self aa) (hs:aa.aq=some as) (hx:look as x=none) (ha:dI U w C Y sc d es aa vs ah) (hk:ju U w C Y sc d da ah ks cB)
    (hc:af U w C Y d (.ref f) (.self::vs) ks cB.aq r aX):aC U w C Y sc d (.Call (.Attribute o x apos) es da pos) Z r ⟨aX,cB.loc⟩:=λA G L s env ro eo R _ k=>by
 have⟨m1,hm⟩:=aw hm
 have⟨m2,hm⟩:=aw hm
 have⟨m3,m4⟩:=aw hm
 exact gy ho hf (h₀ A G L s env ro eo R _ λaz u ax aB aH aV pl=>gq aV (oP aB hs) λp dd eS n AO I=>
  method_fn (fk T aB) I (plainGet_of m1).1 (plainGet_of m1).2 (iG.mp m2) (iG.mp m3) (by show(lookIn x (dictOf eS n)).map _=_;rw[lookIn_dict,AO.none hx];rfl)
   (xK (λaD ay aE _=>keeps_K m4 _ (fk T aE)) ha hk ro eo aB λaD ay us kk aE aJ cz lB=>hc.call (loc:=cB.loc) ro aE (.cons ((DR.self AO.par).mono aJ.sub) cz) lB λiJ v cA cD cL q=>k iJ v cA cD ((aH.aO aJ).aO cL) q))
def mf {p:Pos} {f:Value} {fv:DV} (T:cQ K Y) (hkp:keepIn K f=true) (hfv:∀P G u,DR P G fv u->u=f) (h₀:aC U w C Y sc d (.Name x p) Z fv aa) (ha:dI U w C Y sc d es aa vs ah) (hk:ju U w C Y sc d da ah ks cB)
    (hc:af U w C Y d f vs ks cB.aq r aX):aC U w C Y sc d (.Call (.Name x p) es da pos) Z r ⟨aX,cB.loc⟩:=λA G L s env ro eo R _ k=>
 wpAny_Call_Name_kw (h₀ A G L s env ro eo R _ λaz u ax aB aH aV=>fa (hfv _ _ _ aV)▸xK (λaD ay aE _=>keeps_K hkp _ (fk T aE)) ha hk ro eo aB λaD ay us kk aE aJ cz lB=>
  hc.call (loc:=cB.loc) ro aE cz lB λiJ v cA cD cL q=>k iJ v cA cD ((aH.aO aJ).aO cL) q)
def ru {c:Nat} (P:Params) (G:Gh) (u:Value) (h:DR P G (.cls c) u):u=.ref c:=h
def DS {c:Nat} (P:Params) (G:Gh) (u:Value) (h:DR P G (.fn c) u):u=.ref c:=h
def oy (K:Frag) (C:Nat) (x:Str) (f:Addr):Bool:=plainGet K C x&&(hasDictIn K C&&(findIn K (.ref C) x==some (some (.ref f))&&(isFn K (.ref f)&&(specialIn K (.ref f) "__get__"==some (some (.builtin "function.__get__"))&&(takesIn K (.ref f)==some false&&!copiedNames.contains x)))))
def vx {u:Value} {loc:List (Str×ae)} {Q:Value->Shared->Prop} (T:cQ K Y) (R:Rep w.params C Y G L ⟨some as,loc⟩ s) (hu:DR w.params G .self u) (hm:oy K C x f=true) (hx:look as x=none)
    (k:∀G' r s',Rep w.params C Y G' L ⟨some as,loc⟩ s'->Later G.OA G s G' s'->DR w.params G' (.bj f) r->Q r s'):WP U w A (getAttr u x true) s Q:=by
 have⟨m1,hm⟩:=aw hm
 have⟨m2,hm⟩:=aw hm
 have⟨m3,hm⟩:=aw hm
 have⟨m4,hm⟩:=aw hm
 have⟨m5,hm⟩:=aw hm
 have⟨m6,m7⟩:=aw hm
 exact gq hu R.tocp λp dd es n AO I=>get_bind (fk T R) I (plainGet_of m1).1 (findObj_fn m2 (iG.mp m3) (iG.mp m5) (iG.mp m6) (Rc _▸m7) (by rw[lookIn_dict,AO.none hx])) (plainGet_of m1).2
  (wpAny_call (fn_get (s:={s with toks:=s.toks+1}) (fk T R.toks) (iG.mp m4) (handed_on rfl (a3 (R.wi (methodObj (.ref f) (.ref p)) rfl (t:=s.toks+1)) λR' l' g'=>k _ _ _ R' l' (.bj (d:=dd) AO.par g')))))
def v3 (K:Frag) (C:Nat) (x:Str):Bool:=plainGet K C x&&(hasDictIn K C&&findIn K (.ref C) x==some none)
def mN (T:cQ K Y) (ho:cS o=true) (hf:dR es [] apos pos=true) (hm:v3 K C x=true) (hfn:fnIn K f=true) (h₀:aC U w C Y sc d o Z .self aa) (hs:aa.aq=some as) (hx:look as x=some (.pv (.bj f))) (ha:dI U w C Y sc d es aa vs ah)
    (hc:af U w C Y d (.ref f) (.self::vs) [] ah.aq r aX):aC U w C Y sc d (.Call (.Attribute o x apos) es [] pos) Z r ⟨aX,ah.loc⟩:=λA G L s env ro eo R _ k=>by
 have⟨m1,hm⟩:=aw hm
 have⟨m2,m3⟩:=aw hm
 have m3:=iG.mp m3
 exact gy ho hf (h₀ A G L s env ro eo R _ λaz u ax aB aH aV pl=>gq aV (oP aB hs) λp dd eS n AO I=>method_usual (fk T aB) I (plainGet_of m1).1 (plainGet_of m1).2 m3 rfl
  (bz (AO.sl.hit x _ hx) λv hv ok=>get_value (fk T aB) I (plainGet_of m1).1 (findObj_own m2 m3 rfl (gB hv)) (bD.handed ok) (e33 (show ∃m p d,_ from ok) λm p' d' ev h h2=>by
    have e:=h.symm.trans AO.par
    cases e
    rw[ev]
    exact xK (G:=az) (λaD cA aE sb=>keeps_M hfn _ ⟨aE.pins _ _ (sb.g _ _ h2),fk T aE⟩) ha .nil ro eo aB.toks λaD cA us kk aE aJ cz lB=>lB.jr (wpAny_call (method_call (aE.pins _ _ (aJ.sub.g _ _ h2))
     (hc A aD cA _ _ ro aE.tocp (.cons ((DR.self AO.par).mono aJ.sub) cz) .nil _ λiJ v pK cD cL e q=>k iJ v pK (aE.ofA (loc:=ah.loc) cD cL e) ((aH.tk.aO aJ).aO cL) q))))))
end
section
variable {U:Program} {w:World} {C:Nat} {K:Frag} {Y:Base} {sc:Scope} {d:Nat} {Z aa:aj}
def G1 {A:Around} {c:Addr} {vs:List Value} {kw:List (Str×Value)} (h:dH A (d+1)):dH (A.under (.builtin "type.__call__" ⟨.ref c::vs,kw⟩)) d:=by
 have e1:(Code.builtin "type.__call__" ⟨.ref c::vs,kw⟩).weight=1:=KK
 have e2:(Code.builtin "type.__call__" ⟨.ref c::vs,kw⟩).cUnits=1:=KK
 exact⟨by have:=h.depth;show A.depth+(Code.builtin "type.__call__" ⟨.ref c::vs,kw⟩).weight+4*d+8<=_;rw[e1];exact qM this (by decide),by have:=h.units;show A.units+(Code.builtin "type.__call__" ⟨.ref c::vs,kw⟩).cUnits+40*d+60<=_;rw[e2];exact qM this (by decide),h.handled⟩
def uM {es:List Expr} {k:Nat} {pos:Pos} {vs:List DV} (h:dI U w C Y sc d es Z vs aa) (hz:vs.length<=lim):aC U w C Y sc d (.Tuple es k pos) Z (.tup vs) aa:=λA G L s env ro eo R _ k=>
 Tuple_ (h.run pos A G L s env ro eo R _ λaz us ax aB aH aV=>wpAny_newTuple (a3 (aB.wi (pN us 0) rfl (t:=ax.toks)) λaE aJ Oz=>k _ _ _ aE (aH.aO aJ) (.tup Oz (aV.length▸hz) (aV.mono aJ.sub))) (cK (aV.length▸hz)))
def cp.loose {P:Params} {aq:Option (List (Str×ae))} {G:Gh} {s:Shared} {z:Nat} (R:cp P C Y G aq s) (h:z<=s.heap.objs.size):Loose G z s.heap.objs.size:=have f:=R.fresh (fu _);⟨f.1,f.2.1,f.2.2,h⟩
def yZ {es:List Expr} {pos:Pos} {vs:List DV} (h:dI U w C Y sc d es Z vs aa) (hz:vs.length<=lim):cO U w C Y sc d (.List es pos) Z (.fl vs) aa:=λA G L s env ro eo R _ k=>
 List_ (h.run pos A G L s env ro eo R _ λaz us ax aB aH aV=>wpAny_newList (k az _ _ (aB.push (t:=ax.toks) _) (aH.aO (eT (t:=ax.toks) _)) ⟨_,us,0,rfl,Hr _ rfl,aV,aV.length▸hz,aB.loose aH.size⟩) (cK (aV.length▸hz)))
def G5 {pos:Pos}:cO U w C Y sc d (.Dict [] [] pos) Z (.fd []) Z:=λA G L s env ro eo R _ k=>wpAny_Dict_empty (k G _ _ (R.push (t:=s.toks) _) (eT (t:=s.toks) _) ⟨_,[],0,rfl,Hr _ rfl,.nil,R.loose (fu _)⟩)
def af.Om {f:Value} {args:List DV} {kw:List (Str×DV)} {aq aX:Option (List (Str×ae))} {c:Nat} {fs:List (Str×DV)} (h:af U w C Y d f args kw aq (.inst c fs) aX):af U w C Y d f args kw aq .rf aX:=λA G s vs ks ro R ha hk Q k=>
 h A G s vs ks ro R ha hk Q λG' v s' R' l e q=>q.nU (Q:=λv=>(DR w.params G' .rf v->Q v s')->Q v s') (λa _ _ _ _ _ _ _ k=>k ⟨a,rfl⟩) λq=>k G' v s' R' l e q
def lY (K:Frag) (c fI:Addr):Bool:=makesIn K c&&(findIn K (.ref c) "__init__"==some (some (.ref fI))&&typeIn K (.ref fI)==some (.type "function"))
structure SO (G aD:Gh) (s ay:Shared):Prop where
 sub:aD.V=G.V/\∀b o,G.g b=some o->aD.g b=some o
 par:aD.par=some (s.heap.objs.size+1,s.heap.objs.size)
 back:∀b o,b<s.heap.objs.size->aD.g b=some o->G.g b=some o
 ace:∀b,aD.OA b->s.heap.objs.size<=b
 keep:∀b o,s.heap.get? b=some o->ay.heap.get? b=some o
 size:s.heap.objs.size<=ay.heap.objs.size
 io:ay.gens=s.gens/\ay.os=s.os
def SO.no {G aD:Gh} {s ay:Shared} (B:SO G aD s ay) {b:Addr} (e:G.g b=none/\b<s.heap.objs.size):aD.g b=none/\b<ay.heap.objs.size:=⟨by
 cases q:aD.g b with
 |none=>rfl
 |some o=>exact sn ((B.back b o e.2 q).symm.trans e.1),qt e.2 B.size⟩
def yo {c fI:Addr} {args:List DV} {kw:List (Str×DV)} {as:List (Str×ae)} {aq:Option (List (Str×ae))} (T:cQ K Y) (hm:lY K c fI=true) (f1:gT args=true) (f2:gT (kw.map (·.2))=true) (h:af U w c Y d (.ref fI) (.self::args) kw (some []) .none (some as))
    {A:Around} {G:Gh} {s:Shared} {vs ks:List Value} (ro:dH A (d+1)) (R:cp w.params C Y G aq s) (ha:eC w.params G args vs) (hk:eC w.params G (kw.map (·.2)) ks) {Q:Value->Shared->Prop} (k:∀aD ay,cp w.params c Y aD (some as) ay->SO G aD s ay->Q (.ref (s.heap.objs.size+1)) ay):
    codeAny (model U w) A (.call (.ref c) ⟨vs,(kw.map (·.1)).zip ks⟩) (λx s'=>match x with| .ok (.ret v)=>Q v s'| .ok _=>False| .error _=>False) s:=by
 have⟨m1,hm⟩:=aw hm
 have⟨m2,m3⟩:=aw hm
 have X:=lU T R
 obtain⟨hh,g,dr,t,os⟩:=s
 have X:K.In hh:=X
 refine make_core (makes_of X m1) (looks_findIn X (iG.mp m2)) (λself=>bind_fn X self (iG.mp m3)) (.inl rfl) ?_
 have k0:∀b o,hh.get? b=some o->((hh.push emptyDict).push (instObj c hh.objs.size)).get? b=some o:=λb o e=>MR _ (MR _ e)
 have z1:((hh.push emptyDict).push (instObj c hh.objs.size)).objs.size=hh.objs.size+2:=by rw[M5,M5]
 have hx:((hh.push emptyDict).push (instObj c hh.objs.size)).get? (hh.objs.size+1)=some (instObj c hh.objs.size):=by
  have:=Hr (hh.push emptyDict) (o:=instObj c hh.objs.size) rfl
  rwa [M5] at this
 have lt:∀b,b<hh.objs.size->b<((hh.push emptyDict).push (instObj c hh.objs.size)).objs.size/\b≠hh.objs.size/\b≠hh.objs.size+1:=λb q=>⟨z1▸Nat.lt_add_right 2 q,Fj q,Fj (Nat.lt_succ_of_lt q)⟩
 have g0:∀b o,G.g b=some o->b<hh.objs.size:=λb o e=>uY (R.pins b o e)
 let az:Gh:={pinned G (hh.objs.size+1) (instObj c hh.objs.size) with par:=some (hh.objs.size+1,hh.objs.size),OA:=λb=>b=hh.objs.size,OL:=λ_=>False}
 have kg:∀b o,G.g b=some o->az.g b=some o:=λb o e=>(cC (lt b (g0 b o e)).2.2).trans e
 have ng:az.g hh.objs.size=none:=(cC (Fj (MT _))).trans (R.fresh (fu _)).2.2
 have aB:cp w.params c Y az (some []) ⟨(hh.push emptyDict).push (instObj c hh.objs.size),g,dr,t,os⟩:=
  ⟨λb o=>oq (s:=⟨(hh.push emptyDict).push (instObj c hh.objs.size),g,dr,t,os⟩) (λb o e=>k0 b o (R.pins b o e)) hx,λb o e=>kg b o (R.dQ b o e),R.val,λb (q:b=_)=>fa q▸⟨ng,by show _<((hh.push emptyDict).push _).objs.size;rw[z1];exact Nat.lt_add_of_pos_right (by decide)⟩,λb q=>q.elim,λb _ q=>q,
    _,_,[],0,rfl,dq,rfl,MR _ (Hr _ rfl),fu _,λ_ h=>(nomatch h),(λ_ _=>rfl),(λ_ _ e=>ns e),λ_ _ _ _ e=>ns e⟩
 refine codeAny_mono (h _ az _ _ ks (G1 ro) aB (.cons (.self rfl) (eC.free (G:=G) (G':=az) rfl kg ha f1)) (eC.free (G:=G) (G':=az) rfl kg hk f2) (λv ay=>v=.none/\Q (.ref (hh.objs.size+1)) ay) λaD v ay aE l _ dv=>⟨dv,k aD ay aE
  ⟨⟨l.sub.V,λb o e=>l.sub.g b o (kg b o e)⟩,l.sub.par _ rfl,λb o q e=>(cC (lt b q).2.2).symm.trans (l.qj b o (lt b q).1 (λz=>z.elim (lt b q).2.1 id) e),
    λb q=>xk.mp λz=>(lt b z).2.1 (l.anew b (lt b z).1 q),λb o e=>l.kept b o (k0 b o e) λ(q:b=_)=>(lt b (uY e)).2.1 q,bB (Hu _ 2) (z1▸l.size),l.gens,l.os⟩⟩) λx s' q=>?_
 rcases x with e|f'
 ·exact q
 ·cases f'<;>first|exact q.elim|exact q
def L1 {c fI:Addr} {args:List DV} {kw:List (Str×DV)} {fs:List (Str×DV)} {aq:Option (List (Str×ae))} (T:cQ K Y) (hm:lY K c fI=true) (f1:gT args=true) (f2:gT (kw.map (·.2))=true) (f3:DY fs=true)
    (h:af U w c Y d (.ref fI) (.self::args) kw (some []) .none (some (fs.map λp=>(p.1,.pv p.2)))):af U w C Y (d+1) (.ref c) args kw aq (.inst c fs) aq:=λA G s vs ks ro R ha hk Q k=>
 yo T hm f1 f2 h ro R ha hk λaD ay aE B=>dk aE.attr λp dd q=>dk q λes n AO=>by
  have e:=AO.par.symm.trans B.par
  cases e
  have D:=ki aE.pins AO.dict
  have HQ:Sub G {G with g:=(pinned aD s.heap.objs.size (dictOf es n)).g}:=⟨rfl,λb o e=>D.g b o (B.sub.2 b o e),λ_ e=>e⟩
  have back:∀b o,b<s.heap.objs.size->(pinned aD s.heap.objs.size (dictOf es n)).g b=some o->G.g b=some o:=λb o q e=>B.back b o q ((cC (Fj q)).symm.trans e)
  have RY:∀b,G.g b=none/\b<s.heap.objs.size->(pinned aD s.heap.objs.size (dictOf es n)).g b=none/\b<ay.heap.objs.size:=λb e=>(B.no e).imp_left (cC (Fj e.2)).trans
  exact k {G with g:=(pinned aD s.heap.objs.size (dictOf es n)).g} _ ay ⟨λb o=>oq aE.pins AO.dict,λb o e=>HQ.g b o (R.dQ b o e),R.val,λb q=>RY b (R.fL b q),λb q=>RY b (R.fF b q),R.apart,R.attr.mono HQ id (λb o _=>B.keep b o) λ_ q=>q⟩
   ⟨HQ,λb o q _=>back b o q,λ_ _ q=>q,λ_ _ q=>q,λb o e _=>B.keep b o e,λx _ v q=>gm q λp d es q=>t9 q λn a b c=>⟨p,d,es,n,a,B.keep _ _ b,c⟩,B.size,B.io.1,B.io.2⟩ rfl
   (.inst (D.g _ _ AO.inst) dq (λx e=>AO.none (by rw[f6,e];rfl)) λx dv e=>bz (AO.sl.hit x (.pv dv) (by rw[f6,e];rfl)) λu hu ok=>⟨u,gB hu,DR.free (G:=aD) (G':={G with g:=(pinned aD s.heap.objs.size (dictOf es n)).g}) B.sub.1.symm D.g ok (rI f3 e)⟩)
def wt {c fI:Addr} {args:List DV} {kw:List (Str×DV)} {as:List (Str×ae)} (T:cQ K Y) (hm:lY K c fI=true) (f1:gT args=true) (f2:gT (kw.map (·.2))=true)
    (h:af U w c Y d (.ref fI) (.self::args) kw (some []) .none (some as)):af U w c Y (d+1) (.ref c) args kw none .self (some as):=λA G s vs ks ro R ha hk Q k=>
 yo T hm f1 f2 h ro R ha hk λaD ay aE B=>k {aD with OA:=λb=>G.OA b\/aD.OA b,OL:=G.OL} _ ay
  ⟨aE.pins,aE.dQ,aE.val,λb q=>q.elim (λq=>B.no (R.fL b q)) (aE.fL b),λb q=>B.no (R.fF b q),λb q q'=>q.elim (λq=>R.apart b q q') λq=>xk.mpr (B.ace b q) (R.fF b q').2,aE.attr.mono ⟨rfl,λ_ _ e=>e,λ_ e=>e⟩ id (λ_ _ _ e=>e) λ_=>.inr⟩
  ⟨⟨B.sub.1,B.sub.2,λx e=>ns ((show G.par=none from R.attr).symm.trans e)⟩,λb o q _=>B.back b o q,λb z q=>q.elim id λq=>absurd z (xk.mpr (B.ace b q)),λ_ _ q=>q,λb o e _=>B.keep b o e,λx _ v q=>gm q λp d es q=>fi q λn q=>ns ((show G.par=none from R.attr).symm.trans q.1),B.size,B.io.1,B.io.2⟩ rfl (.self B.par)
end
def iq {h:Heap} {a:Addr} {vs HC:List Value} {n:Nat} {f:Array Value->Array Value} (e:h.get? a=some (bG vs n)) (hf:f ⟨vs⟩=⟨HC⟩):∃n',(h.update a (Obj.mapSeq f)).get? a=some (bG HC n'):=
 ⟨_,hf▸IsL.update (l:=a) (items:=⟨vs⟩) (n:=n) e f⟩
section
variable {U:Program} {w:World} {C:Nat} {K:Frag} {Y:Base} {sc:Scope} {d:Nat} {Z aa ah cB:aj} {A:Around} {G:Gh} {L:Addr} {s:Shared} {env:Env} {o e:Expr} {x:Str} {apos pos qq:Pos} {p:Pl} {l:List DV} {es:List Expr} {vs:List DV} {v:DV}
def xX {da:List Keyword} (hf:dR (e::es) da apos pos=true):noStar e=true:=(aw (aw hf).1).1
def uu {id:String} {Q:Value->Shared->Prop} (ho:cS o=true) (hf:dR es [] apos pos=true) (hP:gA U w C Y sc d o Z p) (lp:p.fix=true) (ha:dI U w C Y sc d es Z vs aa) (h₀:∃ly,p.get Z=some (.ml ly)) (cf:p.get aa=some (.ml l)) (slot:Slot "list" x id)
    (hty:typeOf (.builtin id)=pure (.type "method_descriptor")) (ro:dH A d) (eo:cN sc L env) (R:Rep w.params C Y G L Z s)
    (k:∀az ax a us items n,Rep w.params C Y az L aa ax->Later G.OA G s az ax->At az L ax p a->ax.heap.get? a=some (bG items n)->eC w.params az l items->items.length<=lim->eC w.params az vs us->WP U w A (call (.builtin id) (.ref a::us) []) ax Q):
    WP U w A (eval (.Call (.Attribute o x apos) es [] pos) env) s Q:=
 gy ho hf (hP A G L s env ro eo R _ λa t lS pl=>h₀.elim λly h₀=>gm (R.gY lS h₀) λb JH ahU q=>a5 q λe aaG _ _ _=>by
  cases e
  exact getMethod_list_of (s:={s with toks:=t}) (items:=⟨JH⟩) slot hty ⟨_,aaG,rfl,ahU,rfl⟩ ⟨_,aaG,rfl⟩ (callWith_builtin (lG es ha.Mk).1 (xq ha .nil ro eo R.toks λaD ay us kk aE aJ cz lB=>lB.jr (by
   have Jg:=lS.toks.later R.toks aJ lp
   exact gm (aE.gY Jg cf) λb items n q=>a5 q λe g hd hz _=>by cases e;exact k aD ay a us items n aE (Later.aO bb aJ) Jg g hd hz cz))))
def pb {id:String} {l':List DV} (ho:cS o=true) (hf:dR es [] apos pos=true) (hP:gA U w C Y sc d o Z p) (lp:p.fix=true) (ha:dI U w C Y sc d es Z vs aa) (h₀:∃ly,p.get Z=some (.ml ly)) (cf:p.get aa=some (.ml l)) (slot:Slot "list" x id)
    (hty:typeOf (.builtin id)=pure (.type "method_descriptor"))
    (k:∀(A:Around) (G:Gh) (s:Shared) (a:Addr) (us items:List Value) (n:Nat) (Q:Value->Shared->Prop),(∀c o,G.g c=some o->s.heap.get? c=some o)->s.heap.get? a=some (bG items n)->eC w.params G l items->items.length<=lim->eC w.params G vs us->
      (∀(f:Array Value->Array Value) rT,f ⟨items⟩=⟨rT⟩->eC w.params G l' rT->rT.length<=lim->Q .none {s with heap:=s.heap.update a (Obj.mapSeq f)})->WP U w A (call (.builtin id) (.ref a::us) []) s Q):
    aU U w C Y sc d (.Expr (.Call (.Attribute o x apos) es [] pos) qq) Z .next (p.set aa (.ml l')):=λA G L s env ro eo R Q kk=>
 wpAny_Expr_any (uu ho hf hP lp ha h₀ cf slot hty ro eo R λaz ax a us items n aB aH lS g hd hz hu=>k A az ax a us items n _ aB.pins g hd hz hu λf rT hf Ap rK=>by
  obtain⟨n',g'⟩:=iq g hf
  have q:=aB.turn (k':=.ml l') (t:=ax.toks) lS cf rfl λO o=>⟨a,rT,n',rfl,g',Ap,rK,o⟩
  exact kk az _ _ q.1 (aH.turn q.2) rfl) (by rw[interactive,eo.scope,eo.kind];rfl) rfl
def Ph {n:Nat} (h:n<=lim):Builtin.List.listTooLong n=false:=by
 unfold Builtin.List.listTooLong
 have:=cK h
 rw[ZC];lia
def yb {I:Int} {i:Nat} (hI:I=i) (h:i<=lim):Builtin.List.listFitsIndex I=true:=by
 have:i<=2 ^ 22:=h
 unfold Builtin.List.listFitsIndex
 simp only[Bool.and_eq_true,decide_eq_true_eq]
 lia
def uR (ho:cS o=true) (hf:dR [e] [] apos pos=true) (hP:gA U w C Y sc d o Z p) (lp:p.fix=true) (he:aC U w C Y sc d e Z v aa) (h₀:∃ly,p.get Z=some (.ml ly)) (cf:p.get aa=some (.ml l)) (hz:l.length+1<=lim):
    aU U w C Y sc d (.Expr (.Call (.Attribute o "append" apos) [e] [] pos) qq) Z .next (p.set aa (.ml (l++[v]))):=
 pb ho hf hP lp (.cons (xX hf) he .nil) h₀ cf PySem.F.slot_list_append PySem.F.type_list_append λA G s a us items n Q _ g hd rK hu k=>hu.fy λu us hu h=>h.jr
  (call_meets PySem.F.slot_list_append ⟨_,g,rfl⟩ PySem.F.entry_list_append (PySem.F.args_list_append_2 _ _) (list_append a ⟨items⟩ n u (cK rK)) ⟨g,k (λx=>x.push u) (items++[u]) (by simp) (hd.app (.cons hu .nil)) (by rw[c9,<-hd.length];exact hz)⟩)
def uS {l':List DV} (ho:cS o=true) (hf:dR [e] [] apos pos=true) (hP:gA U w C Y sc d o Z p) (lp:p.fix=true) (he:aC U w C Y sc d e Z (.lst l') aa) (h₀:∃ly,p.get Z=some (.ml ly)) (cf:p.get aa=some (.ml l)) (hz:l.length+l'.length<=lim):
    aU U w C Y sc d (.Expr (.Call (.Attribute o "extend" apos) [e] [] pos) qq) Z .next (p.set aa (.ml (l++l'))):=
 pb ho hf hP lp (.cons (xX hf) he .nil) h₀ cf PySem.F.slot_list_extend PySem.F.type_list_extend λA G s a us items n Q hp g hd rK hu k=>hu.fy λu us hu h=>h.jr (hu.lu λb o9 n2 hg2 hz2 hd2=>by
  have hzz:items.length+o9.length<=lim:=by rw[<-hd.length,<-hd2.length];exact hz
  exact call_meets PySem.F.slot_list_extend ⟨_,g,rfl⟩ PySem.F.entry_list_extend (PySem.F.args_list_extend_2 _ _) (AutoSeq1.list_extend_list_list_0 a ⟨items⟩ n b ⟨o9⟩ n2 (by
   show ¬(!_&&Builtin.List.listTooLong (items.length+o9.length))=true
   rw[Ph hzz,Bool.and_false];exact Bool.false_ne_true) (cK rK) (Nat.le_succ_of_le (cK hzz))) ⟨g,hp _ _ hg2,k (λx=>x++⟨o9⟩) (items++o9) (by simp) (hd.app hd2) (by rw[c9];exact hzz)⟩)
def Hi {dx cu:Expr} {i:Nat} {I:Int} (hI:I=i) (ho:cS o=true) (hf:dR [dx,cu] [] apos pos=true) (hP:gA U w C Y sc d o Z p) (lp:p.fix=true)
    (ha:dI U w C Y sc d [dx,cu] Z [.int I,v] aa) (h₀:∃ly,p.get Z=some (.ml ly)) (cf:p.get aa=some (.ml l)) (hz:l.length+1<=lim) (hi:i<=l.length):
    aU U w C Y sc d (.Expr (.Call (.Attribute o "insert" apos) [dx,cu] [] pos) qq) Z .next (p.set aa (.ml (l.take i++v::l.drop i))):=
 pb ho hf hP lp ha h₀ cf PySem.F.slot_list_insert PySem.F.type_list_insert λA G s a us items n Q hp g hd rK hu k=>hu.fy λu1 us hu1 h=>h.fy λu us hu h=>h.jr (hu1.fQ λt=>by
  have hl:=hd.length
  refine call_meets PySem.F.slot_list_insert ⟨_,g,rfl⟩ PySem.F.entry_list_insert (PySem.F.args_list_insert_3 _ _ _) (AutoSeq1.list_insert_list_int_val_1 a ⟨items⟩ n I t u (by rw[yb hI (bB hi (Y8 hz))];decide) (cK rK)) ⟨g,k _ (items.take i++u::items.drop i) ?_ ((hd.take i).app (.cons hu (hd.drop i))) ?_⟩
  ·have h0:¬(I<0):=by lia
   have h1:I.toNat=i:=by lia
   have h2:min i items.length=i:=Nat.min_eq_left (by lia)
   simp[h0,h1,h2]
   exact List.take_of_length_le (by simp)
  ·rw[c9,M7,Zz,Zx,Nat.min_eq_left (hl▸hi)]
   generalize lim=z at*
   lia)
def Qr {i:Nat} {I:Int} (hI:I=i) (ho:cS o=true) (hf:dR es [] apos pos=true) (hP:gA U w C Y sc d o Z (.aq x)) (lp:fq.contains x=true)
    (ha:dI U w C Y sc d es Z vs aa) (h₀:∃ly,(Pl.aq x).get Z=some (.ml ly)) (cf:(Pl.aq x).get aa=some (.ml l)) (hi:l[i]?=some v) (hv:(vs=[]/\i=l.length - 1)\/vs=[.int I]):
    aC U w C Y sc d (.Call (.Attribute o "pop" apos) es [] pos) Z v ((Pl.aq x).set aa (.ml (l.eraseIdx i))):=λA G L s env ro eo R Q k=>
 uu ho hf hP lp ha h₀ cf PySem.F.slot_list_pop PySem.F.type_list_pop ro eo R λaz ax a us items n aB aH lS g hd rK hu=>bz (hd.at i v hi) λy hy dy=>by
  have hl:=hd.length
  have fin:Q y {ax with heap:=ax.heap.update a (Obj.mapSeq λxs=>xs.eraseIdxIfInBounds i)}:=by
   obtain⟨n',g'⟩:=iq (f:=λxs=>xs.eraseIdxIfInBounds i) (HC:=items.eraseIdx i) g (by
    show items.toArray.eraseIdxIfInBounds i=(items.eraseIdx i).toArray
    rw[List.eraseIdxIfInBounds_toArray])
   have q:=aB.turn (k':=.ml (l.eraseIdx i)) (t:=ax.toks) lS cf rfl λO o=>⟨a,_,n',rfl,g',hd.erase i,bB (List.length_eraseIdx_le _ _) rK,o⟩
   exact k az y _ q.1 (aH.aO q.2) dy
  rcases hv with⟨e1,e⟩ |e1
  ·rw[e1] at hu
   rw[e,hl] at fin hy
   exact hu.jr (call_meets PySem.F.slot_list_pop ⟨_,g,rfl⟩ PySem.F.entry_list_pop (PySem.F.args_list_pop_1 _) (MeetsSeq.list_pop_last a ⟨items⟩ n y (by simp only[Y7,List.getElem?_toArray];exact hy) (cK rK)) ⟨g,fin⟩)
  ·rw[e1] at hu
   have RE:i<items.length:=(M6.mp hy).1
   exact hu.fy λu us hu1 h=>h.jr (hu1.fQ λt=>call_meets PySem.F.slot_list_pop ⟨_,g,rfl⟩ PySem.F.entry_list_pop (PySem.F.args_list_pop_2 _ _) (MeetsSeq.list_pop_at a ⟨items⟩ n I t i y (yb hI (bB (Rh RE) rK)) (by
    unfold seqIndex?
    have:¬(I<0):=by lia
    have h1:I.toNat=i:=by lia
    simp[this,h1];lia) (by simpa using hy) (cK rK)) ⟨g,fin⟩)
end
def gR:Expr->Option (Expr×List Expr×List Keyword×Pos):=iP Expr.ctorIdx 16 λe h=>@Expr.Call.elim (λ_=>Expr×List Expr×List Keyword×Pos) e h λa b c d=>(a,b,c,d)
def ib:∀e:Expr,On (λq=>.Call q.1 q.2.1 q.2.2.1 q.2.2.2=e) (gR e):=cH (λq:Expr×List Expr×List Keyword×Pos=>Expr.Call q.1 q.2.1 q.2.2.1 q.2.2.2) λe h=>
 @Expr.Call.elim (λe=>∀h,(λq:Expr×List Expr×List Keyword×Pos=>Expr.Call q.1 q.2.1 q.2.2.1 q.2.2.2) (@Expr.Call.elim (λ_=>Expr×List Expr×List Keyword×Pos) e h λa b c d=>(a,b,c,d))=e) e h (λ_ _ _ _ _=>rfl) h
def ma (e:Expr):Bool:=Option.rec (motive:=λ_=>Bool) true (λq=>!Nat.beq q.1.ctorIdx 23) (gR e)
def zR {o:Expr} {x:Str} {env:Env} {t:Sem Value} (h:ma o=true):attributeBase o x env t=t:=by
 cases o<;>first|exact Eq.refl t|skip
 rename_i f a k p
 cases f<;>first|exact ft h|exact Eq.refl t
def eG (e:Expr):Bool:=!Nat.beq e.ctorIdx 26
def RZ {e:Expr} (h:eG e=true) (a b c:Option Expr) (p:Pos):e≠.Slice a b c p:=λq=>by rw[q] at h;exact ft h
section
variable (U:Program) (w:World) (C:Nat) (Y:Base)
def xn (aq:Option (List (Str×ae))) (v:DV) (x:Str) (z:DV):Prop:=∀(A:Around) (G:Gh) (L:Addr) (loc:List (Str×ae)) (s:Shared) (u:Value),Rep w.params C Y G L ⟨aq,loc⟩ s->DR w.params G v u->
 ∀Q:Value->Shared->Prop,(∀G' r s',Rep w.params C Y G' L ⟨aq,loc⟩ s'->Later G.OA G s G' s'->DR w.params G' z r->Q r s')->WP U w A (getAttr u x true) s Q
def qf (V:Val) (x i z:DV):Prop:=∀(A:Around) (G:Gh) (s:Shared) (u v:Value),dH A 0->G.V=V->(∀c o,G.g c=some o->s.heap.get? c=some o)->DR w.params G x u->DR w.params G i v->
 ∃T id,s.TypeIs u T/\typeLookup (.type T) "__getitem__"=pure (some (.builtin id))/\∀Q:Value->Shared->Prop,(∀r t,DR w.params G z r->Q r {s with toks:=t})->WP U w A (getItem u v) s Q
end
section
variable {U:Program} {w:World} {C:Nat} {K:Frag} {Y:Base} {sc:Scope} {d:Nat} {Z aa ah cB:aj} {A:Around} {G:Gh} {L:Addr} {s:Shared} {env:Env} {aq:Option (List (Str×ae))} {x:Str} {c:Nat} {z:DV} {v:Value} {as:List (Str×ae)} {pos:Pos} {V:Val}
def Q5 {o:Expr} {Q:Value->Shared->Prop} (ho:ma o=true) (h:WP U w A (eval o env) s λu ax=>WP U w A (getAttr u x true) ax Q):WP U w A (eval (.Attribute o x pos) env) s Q:=by
 unfold WP
 rw[arm_eval_Attribute,zR ho]
 exact eO (h.mono λu ax cf=>eO (Rl (eO (M9 (WP.mono cf λr ay cP=>eO (wpAny_letTemporaryGo (k5 cP)))))))
def Qm {o:Expr} {v:DV} (ho:ma o=true) (h:aC U w C Y sc d o Z v aa) (hg:xn U w C Y aa.aq v x z):aC U w C Y sc d (.Attribute o x pos) Z z aa:=λA G L s env ro eo R _ k=>
 Q5 ho (h A G L s env ro eo R _ λaz u ax aB aH aV=>hg A az L aa.loc ax u aB aV _ λaD r ay aE aJ cz=>k aD r ay aE (aH.aO aJ) cz)
section
variable (T:cQ K Y)
include T
theorem aaE {fs:List (Str×DV)} (hc:bN K c=true) (ha:d8 K c x=true) (hx:look fs x=some z):xn U w C Y aq (.inst c fs) x z:=λA G L loc s u R hu _ k=>Ov T R hu hc ha hx λr _ q=>k G r _ R.toks bb q
theorem Jb {fs:List (Str×DV)} (hc:bN K c=true) (ha:jl K c x v=true) (hx:look fs x=none) (hv:∀G:Gh,(∀b o,Y.hp.get? b=some o->G.g b=some o)->DR w.params G z v):xn U w C Y aq (.inst c fs) x z:=λA G L loc s u R hu _ k=>
 Ao T R hu hc ha hx λ_=>k G v _ R.toks bb (hv G R.dQ)
theorem TV (hc:bN K C=true) (ha:d8 K C x=true) (hx:look as x=some (.pv z)):xn U w C Y (some as) .self x z:=λA G L loc s u R hu _ k=>x6 T hu R.tocp hc ha hx λr _ q=>k G r _ R.toks bb q
theorem FR (hc:bN K C=true) (ha:jl K C x v=true) (hx:look as x=none) (hv:∀G:Gh,(∀b o,Y.hp.get? b=some o->G.g b=some o)->DR w.params G z v):xn U w C Y (some as) .self x z:=λA G L loc s u R hu _ k=>
 x7 T hu R.tocp hc ha hx λ_=>k G v _ R.toks bb (hv G R.dQ)
theorem An {f:Addr} (hm:oy K C x f=true) (hx:look as x=none):xn U w C Y (some as) .self x (.bj f):=λA G L loc s u R hu _ k=>vx T R hu hm hx k
def isVal (v:Value):Option CFound->Bool
 |some (.val u)=>u==v
 |_=>false
omit T in
theorem JG {v:Value} {o:Option CFound} (h:isVal v o=true):o=some (.val v):=by
 cases o with
 |none=>exact ft h
 |some f=>cases f<;>first|exact ft h|exact aT (λv=>some (CFound.val v)) (iG.mp h)
def vi (K:Frag) (c:Addr) (x:Str) (v:Value):Bool:=readsIn K c (.type "type")&&(isVal v (findCls K (.ref c) (.type "type") x)&&handedIn v)
theorem aaD (ha:vi K c x v=true) (hv:∀G:Gh,(∀b o,Y.hp.get? b=some o->G.g b=some o)->DR w.params G z v):xn U w C Y aq (.cls c) x z:=λA G L loc s u R hu Q k=>
 have⟨a1,ha⟩:=aw ha
 hu.NY (cls_value (fk T R) a1 (JG (aw ha).1) (aw ha).2 (k G v _ R.toks bb (hv G R.dQ)))
end
def He {slice:Expr} {o i:Value} (hn:eG slice=true):subscripted slice false o i=operate [o,i] (getItem o i):=by cases slice<;>first|exact ft hn|exact Eq.refl (operate [o,i] (getItem o i))
def hH {value slice:Expr} {Q:Value->Shared->Prop} (hn:eG slice=true) (h:WP U w A (eval value env) s λo ax=>WP U w A (eval slice env) ax λi ay=>
    ∃T id,ay.TypeIs o T/\typeLookup (.type T) "__getitem__"=pure (some (.builtin id))/\WP U w A (getItem o i) ay Q):WP U w A (eval (.Subscript value slice pos) env) s Q:=by
 refine Subscript_ (h.mono λo ax cf=>WP.mono cf λi ay q=>zE q λT id hT hl cP=>?_)
 unfold subscriptTail
 refine eO ?_
 rw[getitemInPython_of_ne hT.not_modules]
 refine eO (wpAny_specialOf hT hl ?_)
 have fin:wpAny (model U w) A (subscripted slice false o i) (λr cA=>wpAny (model U w) A (letTemporaryGo value o r >>= λ_=>pure r) Q (λ_ _=>False) cA) (λ_ _=>False) ay:=by
  rw[He hn]
  exact wpAny_operating (WP.mono cP λr cA vD=>eO (wpAny_letTemporaryGo (k5 vD)))
 first
  |exact k5 (eO fin)
  |exact eO (k5 (eO fin))
  |exact eO fin
def oz {dx cu:Expr} {x i:DV} (hn:eG cu=true) (cf:aC U w C Y sc d dx Z x aa) (cP:aC U w C Y sc d cu aa i ah) (h:qf U w Y.V x i z):aC U w C Y sc d (.Subscript dx cu pos) Z z ah:=λA G L s env ro eo R _ k=>
 hH hn (cf A G L s env ro eo R _ λaz u ax aB aH aV=>cP A az L ax env ro eo aB _ λaD v ay aE aJ cz=>zE (h A aD ay u v ro.low aE.val aE.pins (aV.mono aJ.sub) cz) λT id t1 t2 t3=>
  ⟨T,id,t1,t2,t3 _ λr _ q=>k aD r _ aE.toks (aH.aO aJ).tk q⟩)
def idx (i:Int) (n:Nat):Option Nat:=if 0<=i then(if i<n then some i.toNat else none) else if -(n:Int)<=i then some (i+n).toNat else none
def K3 {i:Int} {k:Nat} (h:0<=i) (e:i.toNat=k):i=k:=(ad9 h).symm.trans (aT _ e)
def vE {i:Int} {n k:Nat} (h:idx i n=some k):(0<=i/\i=k\/i<0/\i+n=k)/\ -(n:Int)<=i/\i<n:=by
 unfold idx at h
 by_cases h0:0<=i
 ·rw[d7 h0] at h;have⟨h1,e⟩:=rS h;exact⟨.inl ⟨h0,K3 h0 e⟩,by lia,h1⟩
 ·rw[dX h0] at h;have⟨h1,e⟩:=rS h;exact⟨.inr ⟨by lia,K3 (by lia) e⟩,h1,by lia⟩
def L8 {j:Int} {n k:Nat} (e:j=k) (h:k<n):(if(decide (0<=j)&&decide (j<n))=true then some j.toNat else none)=some k:=by
 rw[e,HF (MS k),HF (Int.ofNat_lt.mpr h)];rfl
def D4 {i:Int} {n k:Nat} (h:idx i n=some k):seqIndex? i n=some k:=by
 have⟨h1,h2,h3⟩:=vE h
 unfold seqIndex?
 rcases h1 with⟨h0,e⟩ |⟨h0,e⟩
 ·rw[dX (Int.not_lt.mpr h0)];exact L8 e (by lia)
 ·rw[d7 h0];exact L8 e (by lia)
def LR {l:List Nat} {i:Int} {k c:Nat} {t tk:Tok} {Q:Value->Shared->Prop} (h:idx i l.length=some k) (hc:l[k]?=some c) (hz:l.length<=lim) (kk:∀t n,Q (.str ⟨⟨[c]⟩⟩ t) {s with toks:=n}):WP U w A (getItem (.str ⟨⟨l⟩⟩ t) (.int i tk)) s Q:=by
 have⟨_,h2,h3⟩:=vE h
 refine P.getItem_str (c:=c) ?_ ?_ (kk _ _)
 ·have hz:l.length<=2 ^ 22:=hz
  rw[Bool.or_eq_false_iff,ZC,ZC]
  lia
 ·show(seqIndex? i l.length).bind _=_
  rw[D4 h]
  show(⟨l⟩:Array Nat)[k]?=_
  simpa using hc
def Er {c:Nat}:[c].length<=lim:=show 1<=lim by decide
def LQ {l:List Nat} {i:Int} {k c:Nat} (h:idx i l.length=some k) (hc:l[k]?=some c):qf U w V (.str l) (.int i) (.str [c]):=λA G s u v _ _ _ hu hv=>hu.gg λt z=>hv.fQ λtk=>
 ⟨"str",_,rfl,PySem.F.slot_str_getitem.lookup,λQ kk=>LR h hc z λt n=>kk _ n (.str _ t Er)⟩
def X7 {j t:Nat} {i:Int} {k c:Nat} (h:V.β t+i=(k:Int)) (hc:(V.ς j)[k]?=some c):qf U w V (.gO j) (.sint t i) (.str [c]):=λA G s u v _ e _ hu hv=>by
 subst e
 refine hu.sP λtu z=>hv.uN λtk=>⟨"str",_,rfl,PySem.F.slot_str_getitem.lookup,λQ kk=>LR (l:=G.V.ς j) (k:=k) (c:=c) ?_ hc z λt n=>kk _ n (.str _ t Er)⟩
 have:=(M6.mp hc).1
 rw[h,idx,d7 (by lia),d7 (by lia)];rfl
def ac7 {l:List DV} {i:Int} {k:Nat} (h:idx i l.length=some k) (hc:l[k]?=some z):qf U w V (.tup l) (.int i) z:=λA G s u v _ _ hp hu hv=>hu.mF λa vs n hg hz hd=>hv.fQ λtk=>bz (hd.at k z hc) λy hy dy=>by
 have hl:=hd.length
 have hz:vs.length<=2 ^ 22:=hz
 have⟨_,h2,h3⟩:=vE h
 exact⟨"tuple",_,⟨_,hp _ _ hg,rfl⟩,PySem.F.slot_tuple_getitem.lookup,λQ kk=>PyProof.Rows.getItem_tuple (items:=⟨vs⟩) ⟨_,hp _ _ hg,rfl,n,rfl⟩ (by lia) (by lia) (by rw[Y7,<-hd.length];exact D4 h) (by simpa using hy) (kk _ _ dy)⟩
def yk {l:List DV} {i:Int} {k:Nat} {a:Addr} {vs:List Value} {n:Nat} {tk:Tok} (h:idx i l.length=some k) (hc:l[k]?=some z) (hg:s.heap.get? a=some (bG vs n)) (hz:vs.length<=lim) (hd:eC w.params G l vs):
    ∃T id,s.TypeIs (.ref a) T/\typeLookup (.type T) "__getitem__"=pure (some (.builtin id))/\∀Q:Value->Shared->Prop,(∀r t,DR w.params G z r->Q r {s with toks:=t})->WP U w A (getItem (.ref a) (.int i tk)) s Q:=bz (hd.at k z hc) λy hy dy=>by
 have hl:=hd.length
 have hz:vs.length<=2 ^ 22:=hz
 have⟨h1,h2,h3⟩:=vE h
 refine⟨"list",_,⟨_,hg,rfl⟩,PySem.F.slot_list_getitem.lookup,λQ kk=>?_⟩
 rcases h1 with⟨h0,e⟩ |⟨h0,e⟩
 ·rw[e];exact wpAny_getItem_list (items:=⟨vs⟩) ⟨_,hg,rfl,n,rfl⟩ (by lia) (by lia) (by simpa using hy) (kk _ _ dy)
 ·exact wpAny_getItem_list_neg (items:=⟨vs⟩) ⟨_,hg,rfl,n,rfl⟩ (by lia) (by rw[Y7];lia) (by lia) (by rw[Y7,<-hl,e];simpa using hy) (kk _ _ dy)
def ED {l:List DV} {i:Int} {k:Nat} (h:idx i l.length=some k) (hc:l[k]?=some z):qf U w V (.lst l) (.int i) z:=λA G s u v _ _ hp hu hv=>hu.lu λa vs n hg hz hd=>hv.fQ λtk=>yk h hc (hp _ _ hg) hz hd
def sM {dx cu:Expr} {p:Pl} {l:List DV} {i:Int} {k:Nat} (hn:eG cu=true) (cf:gA U w C Y sc d dx Z p) (lp:p.fix=true) (cP:aC U w C Y sc d cu Z (.int i) aa) (hl:p.get aa=some (.ml l))
    (h:idx i l.length=some k) (hc:l[k]?=some z):aC U w C Y sc d (.Subscript dx cu pos) Z z aa:=λA G L s env ro eo R _ kk=>
 hH hn (cf A G L s env ro eo R _ λa t lS=>cP A G L _ env ro eo R.toks _ λaD v ay aE aJ cz=>cz.fQ λtk=>gm (aE.gY (lS.toks.later R.toks aJ lp) hl) λb vs n q=>a5 q λe g hd hz _=>by
  cases e
  exact zE (yk (U:=U) (A:=A) (tk:=tk) h hc g hz hd) λT id t1 t2 t3=>⟨T,id,t1,t2,t3 _ λr _ q=>kk aD r _ aE.toks (Later.aO bb aJ).tk q⟩)
end
def HJ (d:Addr) (h:Heap):Prop:=d<h.objs.size/\h.get? d=none
structure Grows (h h':Heap):Prop where
 size:h.objs.size<=h'.objs.size
 dead:∀d,HJ d h->HJ d h'
def Grows.refl (h:Heap):Grows h h:=⟨fu _,λ_ x=>x⟩
def Grows.trans {h h' FV:Heap} (a:Grows h h') (b:Grows h' FV):Grows h FV:=⟨bB a.size b.size,λd x=>b.dead d (a.dead d x)⟩
def Grows.push (h:Heap) (o:Obj):Grows h (h.push o):=⟨by rw[M5];exact Nat.le_succ _,λd x=>⟨by rw[M5];exact Nat.lt_succ_of_lt x.1,by rw[Heap.get?_push_ne h d o (Fj x.1)];exact x.2⟩⟩
def Grows.update {h:Heap} {a:Addr} {f:Obj->Obj} (ha:(h.get? a).isSome):Grows h (h.update a f):=⟨jk (Heap.size_update ..).symm,λd x=>
 ⟨by rw[Heap.size_update];exact x.1,by rw[Heap.get?_update_ne h d a f λe=>by rw[<-e,x.2] at ha;exact ft ha];exact x.2⟩⟩
def mc {M:Model} {Γ:Ctx} {p:Pos} {t:Sem Fin} {fs:List Frame} {s s':Shared} {e:End} (h:Runs M Γ p t fs s e s'):Grows s.heap s'.heap:=by
 induction h with
 |done|raise|yield=>exact .refl _
 |again _ _ ih|load _ _ ih|choose _ _ ih|genState _ _ ih=>exact ih
 |rule _ ih|«at» _ ih|loadIfAlive _ ih|point _ ih|fresh _ ih|ask _ ih|os _ ih|handled _ ih|stack _ ih|thread _ ih|newGen _ ih=>exact ih
 |update ha _ ih=>exact(Grows.update ha).trans ih
 |alloc _ ih=>exact(Grows.push _ _).trans ih
 |call _ _ a b|segRet _ _ a b|segGen _ _ a b=>exact a.trans b
 |callSusp _ a|segSuspOut _ _ a=>exact a
 |resumeFresh _ _ _ _ a b|resumeSuspended _ _ _ _ a b|segSuspGen _ _ _ _ a b=>exact a.trans b
 |resumeJustStarted _ _ _ a=>exact a
 |resumeThrowFresh _ _ a|resumeRunning _ _ a|resumeFinished _ _ a=>exact a
def C8 {M:Model} {Γ:Ctx} {p:Pos} {g:Nat} {r:Resume} {s s':Shared} {res:GenResult} (h:Wakes M Γ p g r s res s'):Grows s.heap s'.heap:=by
 unfold Wakes at h
 split at h
 ·exact h.elim
 ·split at h
  ·obtain⟨_,_,a,_,_,rfl⟩:=h;have:=mc a;exact this
  ·obtain⟨_,rfl⟩:=h;exact .refl _
  ·obtain⟨_,rfl⟩:=h;exact .refl _
 ·obtain⟨_,_,a,_,_,rfl⟩:=h;have:=mc a;exact this
 ·obtain⟨_,rfl⟩:=h;exact .refl _
 ·obtain⟨_,rfl⟩:=h;exact .refl _
def Q6 {α:Type} {M:Model} {Γ:Ctx} {h₀:Heap} {t:Sem α} {Q:α->Pos->Shared->Prop} {E:Value->Pos->Shared->Prop} {p:Pos} {s:Shared} (hn:Grows h₀ s.heap) (h:Sem.wp M Γ t Q E p s):
    Sem.wp M Γ t (λa p' s'=>Q a p' s'/\Grows h₀ s'.heap) (λe p' s'=>E e p' s'/\Grows h₀ s'.heap) p s:=by
 revert h
 induction t generalizing p s with
 |pure x=>exactλh=>⟨h,hn⟩
 |raise v=>exactλh=>⟨h,hn⟩
 |unsupported|finish|yield|fork|await|register=>exact id
 |rule _ k ih|«at» _ k ih|loadIfAlive _ k ih|point _ k ih|fresh k ih|ask k ih|os _ _ k ih|handled _ k ih|newGen _ k ih|stack k ih|thread k ih=>exact ih _ hn
 |alloc o k ih=>exact ih _ (hn.trans (.push _ _))
 |load a _ k ih|genState a k ih=>exactλ⟨o,ho,h⟩=>⟨o,ho,ih _ hn h⟩
 |update a _ f k ih=>exactλ⟨ha,h⟩=>⟨ha,ih _ (hn.trans (.update ha)) h⟩
 |choose _ _ k ih=>exactλ⟨ha,h⟩=>⟨ha,ih _ hn h⟩
 |call c h g l k ih=>exactλ⟨r,s',hr,h⟩=>⟨r,s',hr,ih r (hn.trans (mc hr)) h⟩
 |resume g r l k ih=>exactλ⟨res,s',hw,h⟩=>⟨res,s',hw,ih _ (hn.trans (C8 hw)) h⟩
def e6 {α:Type} {M:Model} {A:Around} {t:Sem α} {Q:α->Shared->Prop} {E:Value->Shared->Prop} {s:Shared} (h:wpAny M A t (λa s'=>Grows s.heap s'.heap->Q a s') E s):wpAny M A t Q E s:=λΓ p hΓ=>
 Sem.wp_mono M Γ t (λ_ _ _ ⟨a,b⟩=>a b) (λ_ _ _ q=>q.1) p s (Q6 (.refl _) (h Γ p hΓ))
def Grows.new {h h':Heap} (g:Grows h h') {b:Addr} {o:Obj} (e:h.get? b=none) (e':h'.get? b=some o):h.objs.size<=b:=xk.mp λq=>sn (e'.symm.trans (g.dead b ⟨q,e⟩).2)
section
variable {U:Program} {w:World} {C:Nat} {K:Frag} {Y:Base} {sc:Scope} {d:Nat} {Z aa ah cB:aj} {A:Around} {G:Gh} {L:Addr} {s:Shared} {env:Env} {x y z:Str} {p q r pos:Pos} {e:Expr} {v:DV} {u:Value}
def WP.grow {α:Type} {t:Sem α} {Q:α->Shared->Prop} (h:WP U w A t s λa s'=>Grows s.heap s'.heap->Q a s'):WP U w A t s Q:=e6 h
def dW:Expr->Option Str:=iP Expr.ctorIdx 23 λe h=>@Expr.Name.elim (λ_=>Str) e h λx _=>x
def dm (e:Expr):On (λx=>.Name x e.pos=e) (dW e):=eK (P:=λe x=>Expr.Name x e.pos=e) (λe h=>@Expr.Name.elim (λe=>∀h,Expr.Name (@Expr.Name.elim (λ_=>Str) e h λx _=>x) e.pos=e) e h (λ_ _ _=>rfl) h) e
def PC (h:dW e=some x):∃p,e=.Name x p:=⟨_,((dm e).get h).symm⟩
def names (sc:Scope) (es:List Expr):Option (List Str):=List.rec (motive:=λ_=>Option (List Str)) (some []) (λe _ ih=>(dW e).bind λx=>if sc.names.lookup x=some .local then ih.map (x::·) else none) es
def p4 {es:List Expr} {xs:List Str} (h:names sc (e::es)=some xs):∃x p ys,e=.Name x p/\xs=x::ys/\sc.names.lookup x=some .local/\names sc es=some ys:=
 bz (Option.bind_eq_some_iff.mp (show(dW e).bind _=some xs from h)) λx h1 h=>fi (PC h1) λp e1=>by
  by_cases hx:sc.names.lookup x=some .local
  ·rw[d7 hx] at h
   exact bz (xl.mp h) λys h2 e2=>⟨x,p,ys,e1,e2.symm,hx,h2⟩
  ·rw[dX hx] at h;exact ns h
def putAll (loc:List (Str×ae)) (xs:List Str) (vs:List DV):List (Str×ae):=List.rec (motive:=λ_=>List DV->List (Str×ae)->List (Str×ae)) (λ_ l=>l) (λx _ ih vs l=>match vs with|v::vs=>ih vs (put l x (.pv v)) |[]=>l) xs vs loc
def sf (es:List Expr):∀{xs:List Str},names sc es=some xs->(assignEach es env).length=xs.length/\(assignEach es env).findIdx? (·.1)=none:=by
 induction es with
 |nil=>exactλh=>by rw[<-eN h];exact⟨rfl,rfl⟩
 |cons e r ih=>
  intro xs h
  obtain⟨x,p,ys,rfl,rfl,_,h1⟩:=p4 h
  refine⟨aT (· +1) (ih h1).1,?_⟩
  show List.findIdx? (·.1) ((false,assign (.Name x p) env)::assignEach r env)=none
  rw[List.findIdx?_cons,(ih h1).2];rfl
def uP (eo:cN sc L env) (es:List Expr):∀(xs:List Str) (vs:List DV) (us:List Value) (Z:aj) (s:Shared),names sc es=some xs->xs.length=vs.length->Rep w.params C Y G L Z s->eC w.params G vs us->
    ∀Q:Unit->Shared->Prop,(∀s',Rep w.params C Y G L {Z with loc:=putAll Z.loc xs vs} s'->Later G.O G s G s'->Q () s')->WP U w A (assignInOrder ((assignEach es env).map (·.2)) us) s Q:=by
 induction es with
 |nil=>
  intro xs vs us Z s h hn R hd Q k
  rw[<-eN h] at hn k
  exact k5 (k s R (.refl _ _ _))
 |cons e r ih=>
  intro xs vs us Z s h hn R hd Q k
  obtain⟨x,p,ys,rfl,rfl,hx,h1⟩:=p4 h
  cases vs with
  |nil=>exact nomatch hn
  |cons v vs=>
   exact hd.fy λu us' d1 d2=>show WP U w A (holding us' (assign (.Name x p) env u) >>= λ_=>assignInOrder ((assignEach r env).map (·.2)) us') s Q from
    eO (M9 (SM (gc eo R hx d1 λax aB aH=>ih ys vs us' _ ax h1 (Nat.succ.inj hn) aB d2 Q λay aE aJ=>k ay aE (aH.trans' aJ))))
def q9 {es:List Expr} {k:Nat} {xs:List Str} {vs:List DV} {a:Addr} {us:Array Value} {Q:Unit->Shared->Prop} (eo:cN sc L env) (hh:A.handled=none) (hx:names sc es=some xs) (hn:xs.length=vs.length) (R:Rep w.params C Y G L Z s) (ht:s.heap.IsTuple a us) (hd:eC w.params G vs us.toList)
    (kk:∀s',Rep w.params C Y G L {Z with loc:=putAll Z.loc xs vs} s'->Later G.O G s G s'->Q () s'):WP U w A (assign (.Tuple es k p) env (.ref a)) s Q:=by
 have⟨n1,n2⟩:=sf (env:=env) es hx
 have hz:(assignEach es env).length=us.size:=n1.trans (hn.trans hd.length)
 unfold WP
 rw[arm_assign_Tuple]
 refine eO (Rl ?_)
 unfold unpack
 rw[hz,n2]
 refine eO (M9 (e6 (wpAny_unpackItems_tuple hh ht λh' he g=>?_)))
 have up:∀b o,s.heap.get? b=some o->h'.get? b=some o:=λb o e=>he b o (Fj (uY e)) e
 exact uP eo es xs vs us.toList Z _ hx hn (R.ext up g.size) hd Q λcA cD cL=>kk cA cD (Later.trans' (.keep up g.size rfl rfl) cL)
def pJ {es:List Expr} {k:Nat} {xs:List Str} {vs:List DV} (h:aC U w C Y sc d e Z (.tup vs) aa) (hx:names sc es=some xs) (hn:xs.length=vs.length) (hc:cY e=true)
    (hw:∀env,swappedStores [.Tuple es k p] e env=pure none):aU U w C Y sc d (.Assign [.Tuple es k p] e pos) Z .next {aa with loc:=putAll aa.loc xs vs}:=λA G L s env ro eo R _ kk=>
 wpAny_Assign_stores (h A G L s env ro eo R _ λaz u ax aB aH aV=>show WP U w A (assign (.Tuple es k p) env u) ax _ from aV.mF λa us n g _ hd=>
  q9 (us:=⟨us⟩) eo ro.handled hx hn aB ⟨_,aB.pins _ _ g,rfl,n,rfl⟩ hd λcA cD cL=>kk az _ cA cD (aH.up.trans' cL) rfl) (show swapsWith e (some (.Tuple es k p)) pos.line env=pure false from dp hc) (hw env)
def C0 (h:aC U w C Y sc d e Z v aa) (hx:sc.names.lookup x=some .local) (hy:sc.names.lookup y=some .local) (hw:∀env,swappedStores [.Name x p,.Name y q] e env=pure none):aU U w C Y sc d (.Assign [.Name x p,.Name y q] e pos) Z .next {aa with loc:=put (put aa.loc x (.pv v)) y (.pv v)}:=λA G L s env ro eo R _ k=>
 wpAny_Assign_two (h A G L s env ro eo R _ λaz u ax aB aH aV=>SM (gc eo aB hx aV λay aE aJ=>SM (gc eo aE hy aV λcA cD cL=>k az _ cA cD ((aH.up.trans' aJ).trans' cL) rfl))) rfl (hw env)
def C1 (h:aC U w C Y sc d e Z v aa) (hx:sc.names.lookup x=some .local) (hy:sc.names.lookup y=some .local) (hz:sc.names.lookup z=some .local) (hw:∀env,swappedStores [.Name x p,.Name y q,.Name z r] e env=pure none):aU U w C Y sc d (.Assign [.Name x p,.Name y q,.Name z r] e pos) Z .next {aa with loc:=put (put (put aa.loc x (.pv v)) y (.pv v)) z (.pv v)}:=λA G L s env ro eo R _ k=>
 wpAny_Assign_three (h A G L s env ro eo R _ λaz u ax aB aH aV=>SM (gc eo aB hx aV λay aE aJ=>SM (gc eo aE hy aV λcA cD cL=>SM (gc eo cD hz aV λpK SV J1=>k az _ pK SV (((aH.up.trans' aJ).trans' cL).trans' J1) rfl)))) rfl (hw env)
end
def mS (U:Program) (w:World) (C:Nat) (Y:Base) (sc:Scope) (d:Nat) {V:Type} (pt:aj->V->aj) (b:List Stmt) (vs:List V):aj->au->aj->Prop:=
 List.rec (motive:=λ_=>aj->au->aj->Prop) (λZ f iR=>f=.next/\iR=Z) (λv _ go Z f iR=>∃g aa,aF U w C Y sc d b (pt Z v) g aa/\Goes go g aa f iR) vs
def ptN (x:Str) (Z:aj) (v:DV):aj:={Z with loc:=put Z.loc x (.pv v)}
def ptT (xs:List Str) (Z:aj) (v:List DV):aj:={Z with loc:=putAll Z.loc xs v}
structure Iter (U:Program) (w:World) (A:Around) (target:Expr) {V:Type} (It:Gh->Heap->V->Value->Prop) (vs:List V) (z:Nat) (G:Gh) (u:Value) (ax ay:Shared) (I:Addr) (fp wr:List Addr) (P Md:Nat->Value->Heap->Prop) (St:Nat->Heap->Prop):Prop where
 it:∀(Q:Value->Shared->Prop) (E:Value->Shared->Prop),Q (.ref I) ay->wpAny (model U w) A (pyIter u) Q E ax
 W:KTurns U w A target I fp wr vs.length P Md St
 st:St 0 ay.heap
 fp:∀a∈fp,¬G.O a/\a<ay.heap.objs.size
 wr:∀a∈wr,G.g a=none/\z<=a
 item:∀G':Gh,Sub G G'->∀(j:Nat) (v:Value) (h:Heap),P j v h->∃x,vs[j]?=some x/\It G' h x v
section
variable {U:Program} {w:World} {C:Nat} {K:Frag} {Y:Base} {sc:Scope} {d:Nat} {Z aa ah cB:aj} {A:Around} {G:Gh} {L:Addr} {s:Shared} {env:Env} {V:Type}
def Later.none {O:Addr->Prop} {G':Gh} {s':Shared} {a:Addr} (l:Later O G s G' s') (lt:a<s.heap.objs.size) (n:¬G.O a) (h:G.g a=none):G'.g a=none:=by
 cases q:G'.g a with
 |none=>rfl
 |some o=>exact sn ((l.qj a o lt n q).symm.trans h)
def Later.K9 {O:Addr->Prop} {G':Gh} {s':Shared} {a:Addr} (l:Later O G s G' s') (lt:a<s.heap.objs.size) (n:¬G.O a):¬G'.O a:=λq=>n (q.imp (l.anew a lt) (l.pe a lt))
def Later.acE {O:Addr->Prop} {eD:Gh} {eL s':Shared} {W:Addr->Prop} (l:Later O eD eL G s) (R:Rep w.params C Y G L Z s) (nA:∀I,W I->¬G.OA I) (hI:∀I,W I->eL.heap.objs.size<=I) (k:∀b o,¬W b->s.heap.get? b=some o->s'.heap.get? b=some o) (z:s.heap.objs.size<=s'.heap.objs.size) (g:s'.gens=s.gens) (os:s'.os=s.os):Later O eD eL G s':=
 ⟨l.sub,l.qj,l.anew,l.pe,λb o h n=>k b o (λe=>xk.mpr (hI b e) (uY h)) (l.kept b o h n),λx hx v q=>gm (l.tM x hx v q) λp d es q=>t9 q λn h1 h2 h3=>⟨p,d,es,n,h1,k d _ (λe=>nA d e (R.Et h1)) h2,h3⟩,
   bB l.size z,g.trans l.gens,os.trans l.os⟩
def EY {target it:Expr} {pos:Pos} {b:List Stmt} {vs:List V} {f:au} {iR:aj} {pt:aj->V->aj} (It:Gh->Heap->V->Value->Prop)
    (asg:∀(A:Around) (G:Gh) (L:Addr) (s:Shared) (env:Env) (Z:aj) (x:V) (v:Value) (Q:Unit->Shared->Prop),cN sc L env->A.handled=none->Rep w.params C Y G L Z s->x∈vs->It G s.heap x v->(∀s',Rep w.params C Y G L (pt Z x) s'->Later G.O G s G s'->Q () s')->WP U w A (assign target env v) s Q)
    (hs:∀env u,foldedSetIterable it env u=pure u) (h:∀(A:Around) (G:Gh) (L:Addr) (s:Shared) (env:Env),dH A d->cN sc L env->Rep w.params C Y G L Z s->∀Q:Value->Shared->Prop,
      (∀az u ax ay I fp wr P Md St,Rep w.params C Y az L aa ay->Later G.OA G s az ay->Iter U w A target It vs s.heap.objs.size az u ax ay I fp wr P Md St->Q u ax)->WP U w A (eval it env) s Q)
    (hb:mS U w C Y sc d pt b vs aa f iR):aU U w C Y sc d (.For target it b [] pos) Z f iR:=λA G L s env ro eo R Q k=>
 wpAny_For (h A G L s env ro eo R _ λaz u ax ay I fp wr P Md St aB aH J=>J.it _ _ (codeAny_forLoop_any
  (I:=λk s'=>∃(aD:Gh) (ba:aj) (i:Nat),Rep w.params C Y aD L ba s'/\Later G.O G s aD s'/\Sub az aD/\(∀a∈fp,¬aD.O a/\a<s'.heap.objs.size)/\(∀a∈wr,aD.g a=none)/\St i s'.heap/\i<=vs.length/\mS U w C Y sc d pt b (vs.drop i) ba f iR/\k=vs.length - i)
  (λn s' q=>gm q λaD ba i q=>a5 q λaE aJ sb Jk q=>a5 q λhwr st hi hb en=>by
    rw[en]
    have nO:∀a∈wr,¬aD.O a:=λa m=>(Jk a (J.W.sub a m)).1
    have off:∀h' tk,(∀b o,b ∉ wr->s'.heap.get? b=some o->h'.get? b=some o)->s'.heap.objs.size<=h'.objs.size->Rep w.params C Y aD L ba {s' with heap:=h',toks:=tk}/\Later G.O G s aD {s' with heap:=h',toks:=tk}:=λh' tk kk z=>
     ⟨aE.keep (λb o e=>kk b o λm=>sn (e.symm.trans (hwr b m))) (λb o q=>kk b o λm=>nO b m q) z,aJ.acE (W:=λb=>b∈wr) aE (λa m q=>nO a m (.inl q)) (λa m=>(J.wr a m).2) kk z rfl rfl⟩
    by_cases lt:i<vs.length
    ·rw[List.drop_eq_getElem_cons lt] at hb
     exact e6 (J.W.item i _ _ _ lt st λv cf tk hMd aaT aaH=>e6 (J.W.go i v _ _ _ hMd λcP hP adu aaU Oz=>bz (J.item aD sb i v cP hP) λx hx hit=>by
      have ex:x=vs[i]:=eN (hx.symm.trans (zM lt))
      rw[ex] at hit
      have⟨cD,cL⟩:=off cP tk (λb o m e=>aaU b o m (aaT b o m e)) (bB aaH.size Oz.size)
      have aji:s'.heap.objs.size<=cP.objs.size:=bB aaH.size Oz.size
      exact(asg A aD L _ env ba _ v _ eo ro.handled cD (List.getElem_mem lt) hit λpK SV J1=>(mw hb λg σb hb go=>(hb A aD L pK env ro eo SV _ λHN r ady ZK Gg q=>by
       have J0:∀a∈fp,a<pK.heap.objs.size:=λa m=>qt (Jk a m).2 (bB aji J1.size)
       have l:=(cL.trans' J1).trans' Gg
       exact Goes.post (go:=mS U w C Y sc d pt b (vs.drop (i+1))) go q (λgo=>⟨vs.length - (i+1),Nat.sub_lt_sub_left lt (MT i),HN,σb,i+1,ZK,l,sb.trans Gg.sub,λa m=>⟨Gg.K9 (J0 a m) (Jk a m).1,qt (J0 a m) Gg.size⟩,λa m=>Gg.none (J0 a (J.W.sub a m)) (nO a m) (hwr a m),
        J.W.frame _ _ _ adu λb m o e=>Gg.kept b o (J1.kept b o e (Jk b m).1) (Jk b m).1,lt,go,rfl⟩) λe r q=>k HN r ady (e▸ZK) l q).to)).to))
    ·have e:i=vs.length:=Nat.le_antisymm hi (xk.mp lt)
     rw[e] at st
     rw[e,List.drop_length] at hb
     exact e6 (J.W.done _ _ _ st λh' tk hk g=>wpAny_execs_nil (by have⟨cD,cL⟩:=off h' tk hk g.size;exact k aD .next _ (hb.2▸cD) cL (by rw[hb.1];exact rfl))))
  vs.length ⟨az,aa,0,aB,aH.up,.refl _,J.fp,λa m=>(J.wr a m).1,J.st,jP _,hb,rfl⟩)) (hs env)
end
def dl {Ky:Type} (kd:Ky->DV) (l:List (Ky×DV)):List (DV×DV):=l.map λp=>(kd p.1,p.2)
structure KD {U:Program} {w:World} {Ky:Type} [DecidableEq Ky] (knd:KeyKind U w Ky) (kd:Ky->DV) (ok:Ky->Prop):Prop where
 rel:∀(k:Ky) (e:DictEntry),SR w.params (kd k) e↔ok k/\knd.is k e.key=true/\e.hash=knd.hash k
 key:∀(G:Gh) (k:Ky) (v:Value),DR w.params G (kd k) v->ok k/\knd.is k v=true
 Fc:∀(G:Gh) (k:Ky) (v:Value),ok k->knd.is k v=true->DR w.params G (kd k) v
def u4 {Ky:Type} (P:Params) (G:Gh):List (Ky×DV)->List (Ky×Value)->Prop:=Zip λp q=>q.1=p.1/\DR P G p.2 q.2
def int_is {U:Program} {w:World} (k:Int) (t:Tok):(intKind U w).is k (.int k t)=true:=by show Value.isInt k (.int k t)=true;simp[Value.isInt]
def str_is {U:Program} {w:World} (k:Str) (t:Tok):(strKind U w).is k (.str k t)=true:=by show Value.isStrOf k (.str k t)=true;simp[Value.isStrOf]
def rU {U:Program} {w:World}:KD (intKind U w) DV.int λ_=>True where
 rel:=λk e=>⟨λh=>bz h λt a b=>⟨trivial,a▸int_is k t,b⟩,λh=>(Value.isInt_shape h.2.1).elim λt a=>⟨t,a,h.2.2⟩⟩
 key:=λ_ k v h=>h.fQ λt=>⟨trivial,int_is k t⟩
 Fc:=λ_ k v _ h=>(Value.isInt_shape h).elim λt e=>⟨t,e⟩
def MZ (x:Str):DV:=.str x.cps.toList
def Av {U:Program} {w:World}:KD (strKind U w) MZ λx=>x.cps.toList.length<=lim where
 rel:=λk e=>⟨λh=>a2 h λz h=>bz h λt a b=>⟨z,a▸str_is k t,b⟩,λh=>(Value.isStrOf_shape h.2.1).elim λt a=>⟨h.1,t,a,h.2.2⟩⟩
 key:=λ_ k v h=>h.gg λt z=>⟨z,str_is k t⟩
 Fc:=λ_ k v z h=>(Value.isStrOf_shape h).elim λt e=>⟨t,e,z⟩
section
variable {U:Program} {w:World} {Ky:Type} [DecidableEq Ky] {knd:KeyKind U w Ky} {kd:Ky->DV} {ok:Ky->Prop} {G:Gh} {h:Heap} {l:List (Ky×DV)} {kvs:List (Ky×Value)} {k:Ky} {v:DV} {u:Value}
def pX {e:DictEntry} {es:List DictEntry}:PySem.KeysOf knd ⟨e::es⟩↔(∃k,knd.is k e.key=true/\e.hash=knd.hash k)/\PySem.KeysOf knd ⟨es⟩:=
 ⟨λh=>⟨h e (Array.mem_def.mpr (.head _)),λx hx=>h x (Array.mem_def.mpr (.tail _ (Array.mem_def.mp hx)))⟩,λh x hx=>(List.mem_cons.mp (Array.mem_def.mp hx)).elim (λe=>e▸h.1) λm=>h.2 x (Array.mem_def.mpr m)⟩
def KD.split (D:KD knd kd ok) (l:List (Ky×DV)):∀es,qU w.params G (dl kd l) es->(∀p∈l,ok p.1)/\∃kvs:List (Ky×Value),Pairs knd es kvs/\PySem.KeysOf knd ⟨es⟩/\u4 w.params G l kvs:=by
 induction l with
 |nil=>exactλes h=>h.jr ⟨(λ_ h=>nomatch h),[],.nil,(λ_ h=>nomatch(Array.mem_def.mp h)),.nil⟩
 |cons p r ih=>
  exactλes h=>h.fy λe es he h=>a2 (ih es h) λh0 q=>t9 q λkvs h1 h2 h3=>a3 ((D.rel p.1 e).mp he.1) λk0 k1 k2=>
   ⟨e8.mpr ⟨k0,h0⟩,(p.1,e.val)::kvs,.cons k1 rfl h1,pX.mpr ⟨⟨p.1,k1,k2⟩,h2⟩,.cons ⟨rfl,he.2⟩ h3⟩
def KD.join (D:KD knd kd ok) (hd:u4 w.params G l kvs):∀es,(∀p∈l,ok p.1)->Pairs knd es kvs->PySem.KeysOf knd ⟨es⟩->qU w.params G (dl kd l) es:=by
 induction hd with
 |nil=>intro es _ hp _;cases hp;exact .nil
 |@cons p q _ _ hq _ ih=>
  intro es h0 hp hk
  cases hp with
  |cons h1 h2 h3=>
   have⟨a,b⟩:=e8.mp h0
   exact a2 (pX.mp hk) λz hk=>bz z λk2 k1 k2'=>.cons ⟨(D.rel p.1 _).mpr ⟨a,hq.1▸h1,by rw[k2',knd.inj _ _ _ k1 (hq.1▸h1)]⟩,h2▸hq.2⟩ (ih _ b h3 hk)
def u4.keys (h:u4 w.params G l kvs):kvs.map (·.1)=l.map (·.1):=by induction h with|nil=>rfl|cons a _ ih=>rw[w6,w6,ih,a.1]
def u4.len (h:u4 w.params G l kvs):kvs.length=l.length:=(Zip.len h).symm
def KD.dictAt (D:KD knd kd ok) {a:Addr} {es:List DictEntry} {n:Nat} {Q:Prop} (hn:(l.map (·.1)).Nodup) (g:h.get? a=some (dictOf es n)) (hd:qU w.params G (dl kd l) es) (k:∀kvs:List (Ky×Value),(∀p∈l,ok p.1)->h.DictAt knd a kvs n->u4 w.params G l kvs->Q):Q:=
 a2 (D.split l es hd) λh0 q=>t9 q λkvs h1 h2 h3=>k kvs h0 ⟨_,⟨es⟩,g,⟨rfl,rfl,rfl⟩,rfl,h2,h1,h3.keys▸hn⟩ h3
def KD.Ln (D:KD knd kd ok) {a:Addr} (hx:h.DictOf knd a kvs) (hok:∀p∈l,ok p.1) (hd:u4 w.params G l kvs):∃es n,h.get? a=some (dictOf es n)/\qU w.params G (dl kd l) es:=by
 obtain⟨o,es,ep,h1,⟨x1,x2,x3⟩,h2,h3,h4,_⟩:=hx
 refine⟨es.toList,ep,h1.trans ?_,D.join hd es.toList hok h4 h3⟩
 obtain⟨c,dd,dt,sl⟩:=o
 cases x1;cases x2;cases x3;cases h2;rfl
def fY (l:List (Ky×DV)) (k:Ky):Option DV:=(l.find? λp=>p.1=k).map (·.2)
def j1 (l:List (Ky×DV)) (k:Ky) (v:DV):List (Ky×DV):=if l.any (λp=>p.1=k) then l.map (λp=>if p.1=k then(p.1,v) else p) else l++[(k,v)]
def FD (l:List (Ky×DV)) (k:Ky):List (Ky×DV):=l.filter λp=>decide (p.1≠k)
def u4.look (h:u4 w.params G l kvs):(fY l k=none->valueAt kvs k=none)/\∀d,fY l k=some d->∃v,valueAt kvs k=some v/\DR w.params G d v:=by
 induction h with
 |nil=>exact⟨λ_=>rfl,λd h=>nomatch h⟩
 |@cons p q _ _ a _ ih=>
  unfold fY valueAt at*
  rw[List.find?_cons,List.find?_cons,a.1]
  by_cases z:p.1=k
  ·rw[HF z];exact⟨(λh=>nomatch h),λd e=>⟨q.2,rfl,eN e▸a.2⟩⟩
  ·rw[Hv z];exact ih
def u4.some (h:u4 w.params G l kvs):(valueAt kvs k).isSome=(fY l k).isSome:=by
 cases q:fY l k with
 |none=>rw[h.look.1 q];rfl
 |some d=>exact bz (h.look.2 d q) λv e _=>by rw[e];rfl
def u4.store (h:u4 w.params G l kvs) (hv:DR w.params G v u):u4 w.params G (j1 l k v) (stored kvs k u):=by
 have e:kvs.any (λp=>decide (p.1=k))=l.any (λp=>decide (p.1=k)):=by induction h with|nil=>rfl|cons a _ ih=>rw[List.any_cons,List.any_cons,ih,a.1]
 unfold stored j1
 rw[e]
 by_cases q:l.any (λp=>decide (p.1=k))=true
 ·rw[d7 q,d7 q]
  clear q e
  induction h with
  |nil=>exact .nil
  |@cons p q _ _ a _ ih=>
   rw[w6,w6,a.1]
   by_cases z:p.1=k
   ·rw[d7 z,d7 z];exact .cons ⟨rfl,hv⟩ ih
   ·rw[dX z,dX z];exact .cons a ih
 ·rw[dX q,dX q];exact Zip.app h (.cons ⟨rfl,hv⟩ .nil)
def u4.del (h:u4 w.params G l kvs):u4 w.params G (FD l k) (without kvs k):=by
 induction h with
 |nil=>exact .nil
 |@cons p q _ _ a _ ih=>
  unfold without FD at*
  rw[List.filter_cons,List.filter_cons,a.1]
  by_cases z:decide (p.1≠k)=true
  ·rw[d7 z,d7 z];exact .cons a ih
  ·rw[dX z,dX z];exact ih
def FF (h:∀p∈l,ok p.1) (hk:ok k):∀p∈j1 l k v,ok p.1:=by
 unfold j1
 by_cases q:l.any (λp=>decide (p.1=k))=true
 ·rw[d7 q]
  refineλp m=>bz (Ht.mp m) λy hy e=>?_
  rw[<-e]
  by_cases z:y.1=k
  ·rw[d7 z];exact h y hy
  ·rw[dX z];exact h y hy
 ·rw[dX q];exactλp m=>(List.mem_append.mp m).elim (h p) λm=>List.mem_singleton.mp m▸hk
end
section
variable {U:Program} {w:World} {Ky:Type} [DecidableEq Ky] {knd:KeyKind U w Ky} {kd:Ky->DV} {ok:Ky->Prop}
variable {C:Nat} {K:Frag} {Y:Base} {sc:Scope} {d:Nat} {Z aa ah cB:aj} {A:Around} {G:Gh} {L:Addr} {s:Shared} {env:Env} {V:Val} {l:List (Ky×DV)} {k:Ky} {z:DV} {a:Addr} {es:List DictEntry} {n:Nat} {u:Value} {dx cu o i e:Expr} {pos p':Pos} {p:Pl} {v:DV}
def YL {n:Nat} (h:n<=1000):n<=sizeLine:=bB h (by rw[sizeLine_eq];decide)
def in_dict {op:CmpOp} {f:Bool->Bool} {Q:Value->Shared->Prop} (D:KD knd kd ok) (ho:(op=.In/\f=id)\/(op=.NotIn/\f=not)) (hn:(l.map (·.1)).Nodup) (ha:(a==sysModules)=false) (g:s.heap.get? a=some (dictOf es n)) (hd:qU w.params G (dl kd l) es) (hu:DR w.params G (kd k) u) (kk:∀t,Q (.bool (f (fY l k).isSome)) {s with toks:=t}):
    WP U w A (compareOp op u (.ref a)) s Q:=D.dictAt hn g hd λkvs _ hm hv=>by
 have hk:=(D.key G k u hu).2
 have kk:=kk (s.toks+1)
 rw[<-hv.some] at kk
 rcases ho with⟨rfl,rfl⟩ |⟨rfl,rfl⟩
 ·exact wpAny_in_of hk ha hm.dictOf.mapOf kk
 ·exact wpAny_notIn_of hk ha hm.dictOf.mapOf kk
def z6 (D:KD knd kd ok) (hn:(l.map (·.1)).Nodup):fh U w V .In (kd k) (.iI (dl kd l)) (fY l k).isSome:=λA G s u v _ _ hp hu hv Q kk=>hv.vm λa es n q g h=>in_dict D (.inl ⟨rfl,rfl⟩) hn q (hp _ _ g) h hu kk
def tv (D:KD knd kd ok) (hn:(l.map (·.1)).Nodup):fh U w V .NotIn (kd k) (.iI (dl kd l)) (!(fY l k).isSome):=λA G s u v _ _ hp hu hv Q kk=>hv.vm λa es n q g h=>in_dict D (.inr ⟨rfl,rfl⟩) hn q (hp _ _ g) h hu kk
def get_dict (D:KD knd kd ok) (hn:(l.map (·.1)).Nodup) (g:s.heap.get? a=some (dictOf es n)) (hd:qU w.params G (dl kd l) es) (hu:DR w.params G (kd k) u) (hz:fY l k=some z):
    ∃T id,s.TypeIs (.ref a) T/\typeLookup (.type T) "__getitem__"=pure (some (.builtin id))/\∀Q:Value->Shared->Prop,(∀r t,DR w.params G z r->Q r {s with toks:=t})->WP U w A (getItem (.ref a) u) s Q:=D.dictAt hn g hd λkvs _ hm hv=>
 bz (hv.look.2 z hz) λv h dv=>⟨"dict",_,⟨_,g,rfl⟩,PySem.F.slot_dict_getitem.lookup,λQ kk=>wpAny_getItem_of (D.key G k u hu).2 hm.dictOf.mapOf h (kk v _ dv)⟩
def ac2 (D:KD knd kd ok) (hn:(l.map (·.1)).Nodup) (hz:fY l k=some z):qf U w V (.iI (dl kd l)) (kd k) z:=λA G s u v _ _ hp hu hv=>hu.vm λa es n q g h=>get_dict D hn (hp _ _ g) h hv hz
def Rep.Dm {l:List (DV×DV)} (R:Rep w.params C Y G L Z s) (lS:At G L s p a) (hl:p.get Z=some (.md l)):(a==sysModules)=false/\∃es n,s.heap.get? a=some (dictOf es n)/\qU w.params G l es:=
 DL (R.gY lS hl) λb es n e g hd o=>by
  cases e
  refine⟨R.v5 ?_,es,n,g,hd⟩
  cases p with
  |loc x=>exact(R.fF a o).1
  |aq x=>exact(R.fL a o).1
def rM {op:CmpOp} {f:Bool->Bool} (D:KD knd kd ok) (ho:(op=.In/\f=id)\/(op=.NotIn/\f=not)) (cf:aC U w C Y sc d dx Z (kd k) aa) (cP:gA U w C Y sc d cu aa p) (hl:p.get aa=some (.md (dl kd l))) (hn:(l.map (·.1)).Nodup) (hm:behindInMarks op cu=false):
    bu U w C Y sc d (.Compare dx [op] [cu] pos) Z (f (fY l k).isSome) aa:=λA G L s env ro eo R Q kk=>
 wpAny_isTrue_Compare1 (cf A G L s env ro eo R _ λaz u ax aB aH aV=>cP A az L ax env ro eo aB _ λa t lS=>a2 (aB.toks.Dm lS.toks hl) λha q=>mw q λes n g hd=>
  in_dict (s:={ax with toks:=t}) D ho hn ha g hd aV λt=>Za (kk az _ aB.toks aH.tk)) hm
def ae4 (D:KD knd kd ok) (cf:aC U w C Y sc d dx Z (kd k) aa) (cP:gA U w C Y sc d cu aa p) (hl:p.get aa=some (.md (dl kd l))) (hn:(l.map (·.1)).Nodup) (hm:behindInMarks .In cu=false):
    bu U w C Y sc d (.Compare dx [.In] [cu] pos) Z (fY l k).isSome aa:=rM D (.inl ⟨rfl,rfl⟩) cf cP hl hn hm
def Yg (D:KD knd kd ok) (cf:aC U w C Y sc d dx Z (kd k) aa) (cP:gA U w C Y sc d cu aa p) (hl:p.get aa=some (.md (dl kd l))) (hn:(l.map (·.1)).Nodup) (hm:behindInMarks .NotIn cu=false):
    bu U w C Y sc d (.Compare dx [.NotIn] [cu] pos) Z (!(fY l k).isSome) aa:=rM D (.inr ⟨rfl,rfl⟩) cf cP hl hn hm
def L7 (D:KD knd kd ok) (FX:eG cu=true) (cf:gA U w C Y sc d dx Z p) (cP:u9 U w C Y sc d cu Z (.pv (kd k))) (hl:p.get Z=some (.md (dl kd l))) (hn:(l.map (·.1)).Nodup) (hz:fY l k=some z):aC U w C Y sc d (.Subscript dx cu pos) Z z Z:=λA G L s env ro eo R _ kk=>
 hH FX (cf A G L s env ro eo R _ λa t lS=>cP A G L _ env ro eo R.toks _ λv t' q=>mw (R.Dm lS hl).2 λes n g hd=>zE (get_dict (s:={s with toks:=t'}) (U:=U) (A:=A) D hn g hd q hz) λT id t1 t2 t3=>
  ⟨T,id,t1,t2,t3 _ λr _ q=>kk G r _ R.toks bb q⟩)
def QM (D:KD knd kd ok) (he:aC U w C Y sc d e Z v aa) (ho:gA U w C Y sc d o aa p) (hi:u9 U w C Y sc d i aa (.pv (kd k))) (hl:p.get aa=some (.md (dl kd l))) (hn:(l.map (·.1)).Nodup) (hz:l.length<=1000)
    (hc:cY e=true):aU U w C Y sc d (.Assign [.Subscript o i p'] e pos) Z .next (p.set aa (.md (dl kd (j1 l k v)))):=λA G L s env ro eo R _ kk=>
 wpAny_Assign_Subscript (he A G L s env ro eo R _ λaz u ax aB aH aV=>ho A az L ax env ro eo aB _ λa t lS=>hi A az L _ env ro eo aB.toks _ λiv t' q=>mw (aB.Dm lS hl).2 λes n g hd=>D.dictAt (h:=({ax with toks:=t'}:Shared).heap) hn g hd λkvs PU hm hv=>
  wpAny_setItem_pairs (s:={ax with toks:=t'}) (D.key az k iv q).2 hm.dictOf (λh' zF sb=>mw (D.Ln zF (FF PU (D.key az k iv q).1) (hv.store aV)) λtG n' g' Ap=>by
   have q:=(aB.toks (t:=t')).MF (k':=.md (dl kd (j1 l k v))) (t:=t'+1) sb lS.toks hl rfl λO o=>⟨a,tG,n',rfl,g',Ap,o⟩
   exact kk az _ _ q.1 (aH.tk.turn q.2) rfl) (YL (hv.len▸hz))) (dp hc)
def QJ (D:KD knd kd ok) (ho:gA U w C Y sc d o Z p) (hi:u9 U w C Y sc d i Z (.pv (kd k))) (hl:p.get Z=some (.md (dl kd l))) (hn:(l.map (·.1)).Nodup) (hz:l.length<=1000) (hin:(fY l k).isSome=true):
    aU U w C Y sc d (.Delete [.Subscript o i p'] pos) Z .next (p.set Z (.md (dl kd (FD l k)))):=λA G L s env ro eo R _ kk=>
 wpAny_Delete (wpAny_deleteEach_cons (wpAny_delete_Subscript (ho A G L s env ro eo R _ λa t lS=>hi A G L _ env ro eo R.toks _ λiv t' q=>mw (R.Dm lS hl).2 λes n g hd=>D.dictAt (h:=({s with toks:=t'}:Shared).heap) hn g hd λkvs PU hm hv=>
  wpAny_delItem_slot (s:={s with toks:=t'}) ⟨_,g,rfl⟩ (by decide) PySem.F.slot_dict_delitem (call_meetsIn PySem.F.slot_dict_delitem ⟨_,g,rfl⟩ PySem.F.entry_dict_delitem (PySem.F.args_dict_delitem_2 _ _) (meets_dict_delitem_pairs knd a (D.key G k iv q).2)
   ⟨kvs,hm.dictOf,YL (hv.len▸hz),by rw[hv.some];exact hin,λh' zF sb=>mw (D.Ln zF (l:=FD l k) (λp hp=>PU p (List.mem_filter.mp hp).1) hv.del) λtG n' g' Ap=>by
     have q:=(R.toks (t:=t')).MF (k':=.md (dl kd (FD l k))) (t:=t'+1) sb lS.toks hl rfl λO o=>⟨a,tG,n',rfl,g',Ap,o⟩
     exact wpAny_deleteEach_nil (kk G _ _ q.1 ((Later.refl G.OA G s).tk.turn q.2) rfl)⟩))))
def list_dict {Q:Value->Shared->Prop} (D:KD knd kd ok) (hh:A.handled=none) (hn:(l.map (·.1)).Nodup) (hz:l.length<=1000) (ha:(a==sysModules)=false) (g:s.heap.get? a=some (dictOf es n)) (hd:qU w.params G (dl kd l) es)
    (hQ:∀h' tk us c',(∀b o,s.heap.get? b=some o->h'.get? b=some o)->h'.get? s.heap.objs.size=some (bG us c')->eC w.params G (l.map λp=>kd p.1) us->Q (.ref s.heap.objs.size) {s with heap:=h',toks:=tk}):WP U w A (call (.type "list") [.ref a]) s Q:=
 D.dictAt hn g hd λkvs PU hm hv=>kdl_call (kdl_dict (knd:=knd) (kvs:=kvs) (ep:=n) ha) hh hm (YL (hv.len▸hz)) λh' tk ZN c' hk hS agH=>hQ h' tk ZN.toList c' hk (by simpa using hS) (by
  obtain⟨z1,z2⟩:=agH
  have gen:∀{l:List (Ky×DV)} {kvs:List (Ky×Value)},u4 w.params G l kvs->∀us:List Value,(∀p∈l,ok p.1)->us.length=kvs.length->(∀(j:Nat) (v:Value),us[j]?=some v->∃(k:Ky) (x:Value),kvs[j]?=some (k,x)/\knd.is k v=true)->eC w.params G (l.map λp=>kd p.1) us:=by
   intro l kvs h
   induction h with
   |nil=>intro us _ el _;rw[List.length_eq_zero_iff.mp el];exact .nil
   |@cons p q _ _ hq _ ih=>
    intro us PU el hj
    cases us with
    |nil=>exact nomatch el
    |cons u us=>
     have⟨a,b⟩:=e8.mp PU
     exact mw (hj 0 u rfl) λk x hk hi=>.cons (D.Fc G p.1 u a (by rw[<-hq.1,eN hk];exact hi)) (ih us b (Nat.succ.inj el) λj v h=>hj (j+1) v h)
  exact gen hv ZN.toList PU (by rw[Array.length_toList];exact z1) λj v h=>z2 j v (by rw[<-Array.getElem?_toList];exact h))
end
def gi (U:Program) (w:World) (C:Nat) (Y:Base) (sc:Scope) (d:Nat) (x:Str):List Stmt->List DV->aj->au->aj->Prop:=mS U w C Y sc d (ptN x)
def fg (U:Program) (w:World) (C:Nat) (Y:Base) (sc:Scope) (d:Nat) (xs:List Str) (b:List Stmt) (vs:List (List DV)) (Z:aj) (f:au) (iR:aj):Prop:=(∀v∈vs,xs.length=v.length)/\mS U w C Y sc d (ptT xs) b vs Z f iR
section
variable {U:Program} {w:World} {C:Nat} {K:Frag} {Y:Base} {sc:Scope} {d:Nat} {Z aa ah cB:aj} {A:Around} {G:Gh} {L:Addr} {s:Shared} {env:Env} {x:Str} {p pos:Pos} {it:Expr} {b:List Stmt} {vs:List DV} {f f':au} {iR:aj} {v r:DV} {us:List Value} {a:Addr} {n z:Nat}
def uk {V:Type} {pt:aj->V->aj} {vs:List V} (hf:f=.next\/f=.cont) (h:mS U w C Y sc d pt b vs aa f' ah):Goes (mS U w C Y sc d pt b vs) f aa f' ah:=hf.elim (λe=>e▸h) λe=>e▸h
def gi.done:gi U w C Y sc d x b [] Z .next Z:=⟨rfl,rfl⟩
def gi.turn (h:aF U w C Y sc d b {Z with loc:=put Z.loc x (.pv v)} f aa) (hf:f=.next\/f=.cont) (g:gi U w C Y sc d x b vs aa f' ah):gi U w C Y sc d x b (v::vs) Z f' ah:=⟨f,aa,h,uk hf g⟩
def gi.brk (h:aF U w C Y sc d b {Z with loc:=put Z.loc x (.pv v)} .brk aa):gi U w C Y sc d x b (v::vs) Z .next aa:=⟨.brk,aa,h,rfl,rfl⟩
def gi.ret (h:aF U w C Y sc d b {Z with loc:=put Z.loc x (.pv v)} (.ret r) aa):gi U w C Y sc d x b (v::vs) Z (.ret r) aa:=⟨.ret r,aa,h,rfl,rfl⟩
def fg.done {xs:List Str}:fg U w C Y sc d xs b [] Z .next Z:=⟨λ_ h=>(nomatch h),rfl,rfl⟩
def fg.turn {xs:List Str} {v:List DV} {vs:List (List DV)} (e:xs.length=v.length) (h:aF U w C Y sc d b {Z with loc:=putAll Z.loc xs v} f aa) (hf:f=.next\/f=.cont) (g:fg U w C Y sc d xs b vs aa f' ah):fg U w C Y sc d xs b (v::vs) Z f' ah:=
 ⟨e8.mpr ⟨e,g.1⟩,f,aa,h,uk hf g.2⟩
def vy {it v:Value} {Q:Unit->Shared->Prop} {E:Value->Shared->Prop} (h:Q () s):wpAny (model U w) A (letOwnedTupleGo (.Name x p) it v) Q E s:=k5 h
def wH (hl:sc.names.lookup x=some .local) (hs:∀env u,foldedSetIterable it env u=pure u) (h:∀(A:Around) (G:Gh) (L:Addr) (s:Shared) (env:Env),dH A d->cN sc L env->Rep w.params C Y G L Z s->∀Q:Value->Shared->Prop,
 (∀az u ax ay I fp wr P Md St,Rep w.params C Y az L aa ay->Later G.OA G s az ay->Iter U w A (.Name x p) (λG _ x v=>DR w.params G x v) vs s.heap.objs.size az u ax ay I fp wr P Md St->Q u ax)->WP U w A (eval it env) s Q)
    (hb:gi U w C Y sc d x b vs aa f iR):aU U w C Y sc d (.For (.Name x p) it b [] pos) Z f iR:=
 EY (λG _ x v=>DR w.params G x v) (λA G L s env Z y v Q eo _ R _ q k=>SM (gc eo R hl q k)) hs h hb
def QK {es:List Expr} {kt:Nat} {xs:List Str} {vs:List (List DV)} (hl:names sc es=some xs) (hs:∀env u,foldedSetIterable it env u=pure u) (h:∀(A:Around) (G:Gh) (L:Addr) (s:Shared) (env:Env),dH A d->cN sc L env->Rep w.params C Y G L Z s->∀Q:Value->Shared->Prop,
 (∀az u ax ay I fp wr P Md St,Rep w.params C Y az L aa ay->Later G.OA G s az ay->Iter U w A (.Tuple es kt p) (λG h x v=>∃T us,v=.ref T/\h.IsTuple T us/\eC w.params G x us.toList) vs s.heap.objs.size az u ax ay I fp wr P Md St->Q u ax)->WP U w A (eval it env) s Q)
    (hb:fg U w C Y sc d xs b vs aa f iR):aU U w C Y sc d (.For (.Tuple es kt p) it b [] pos) Z f iR:=
 EY _ (λA G L s env Z y v Q eo hh R m q k=>zE q λT us e ht hd=>by rw[e];exact q9 eo hh hl (hb.1 y m) R ht hd k) hs h hb.2
def v7 {a:Addr} (h:a<s.heap.objs.size):a≠s.heap.objs.size:=Fj h
def Iter.list (R:Rep w.params C Y G L Z s) (hh:A.handled=none) (hz:z<=s.heap.objs.size) (g:s.heap.get? a=some (bG us n)) (hd:eC w.params G vs us) (no:¬G.O a):Iter U w A (.Name x p) (λG _ x v=>DR w.params G x v) vs z G (.ref a) s {s with heap:=s.heap.push {cls:=.type "list_iterator",data:=.fields #[.ref a,.int 0 0]}} s.heap.objs.size
    [s.heap.objs.size,a] [s.heap.objs.size] (λi v _=>(⟨us⟩:Array Value)[i]?=some v) (λi v h=>(⟨us⟩:Array Value)[i]?=some v/\h.IsListIter s.heap.objs.size a (i+1)/\h.IsList a ⟨us⟩) λi h=>h.IsListIter s.heap.objs.size a i/\h.IsList a ⟨us⟩:=
 have f:=R.fresh (fu _)
 have lt:=uY g
 {it:=λQ E hQ=>wpAny_pyIter_list (items:=⟨us⟩) ⟨_,g,rfl,n,rfl⟩ hQ
  W:=by rw[hd.length];exact KTurns.ofWalks (Walks.list hh s.heap.objs.size a (v7 lt) ⟨us⟩) λ_ _ _ _ _ _ h=>vy h
  st:=⟨⟨_,Hr _ rfl,rfl,rfl⟩,_,MR _ g,rfl,n,rfl⟩
  fp:=e8.mpr ⟨⟨λq=>q.elim f.1 f.2.1,by rw[M5];exact MT _⟩,e8.mpr ⟨⟨no,qt lt (size_push ..)⟩,qT _⟩⟩
  wr:=e8.mpr ⟨⟨f.2.2,hz⟩,qT _⟩
  item:=λG' sb j v h hP=>by
   have hP:us[j]?=some v:=by simpa using hP
   have lt:j<vs.length:=by rw[hd.length];exact(M6.mp hP).1
   exact bz (hd.at j _ (zM lt)) λu e q=>⟨_,zM lt,eN (e.symm.trans hP)▸q.mono sb⟩}
def sm {o:Obj} (R:Rep w.params C Y G L Z s) (h:G.g a=some o):¬G.O a:=λq=>q.elim (λq=>sn (h.symm.trans (R.fL a q).1)) λq=>sn (h.symm.trans (R.fF a q).1)
def Ms {r:Res} (h:cO U w C Y sc d it Z r aa) (hr:r=.fl vs\/r=.pv (.lst vs)) (hl:sc.names.lookup x=some .local) (hs:∀env u,foldedSetIterable it env u=pure u) (hb:gi U w C Y sc d x b vs aa f iR):aU U w C Y sc d (.For (.Name x p) it b [] pos) Z f iR:=
 wH hl hs (λA G L s env ro eo R Q k=>h A G L s env ro eo R _ λaz u ax aB aH aV=>by
  have go:∀a us n,u=.ref a->ax.heap.get? a=some (bG us n)->eC w.params az vs us->¬az.O a->Q u ax:=λa us n e g hd no=>k az u ax _ _ _ _ _ _ _ (aB.push (t:=ax.toks) _) (aH.aO (eT (t:=ax.toks) _)) (e▸Iter.list aB ro.handled aH.size g hd no)
  rcases hr with rfl|rfl
  ·exact gm aV λa us n q=>a5 q λe g hd _ lo=>go a us n e g hd λq=>q.elim lo.nA lo.nL
  ·exact DL ((Ac vs u).mp aV) λa us n e g _ hd=>go a us n e (aB.pins _ _ g) hd (sm aB g)) hb
def EX {Ky:Type} [DecidableEq Ky] {knd:KeyKind U w Ky} {kd:Ky->DV} {ok:Ky->Prop} (D:KD knd kd ok) {l:List (Ky×DV)} (hn:(l.map (·.1)).Nodup) (h:aC U w C Y sc d it Z (.iI (dl kd l)) aa) (hl:sc.names.lookup x=some .local) (hs:∀env u,foldedSetIterable it env u=pure u)
    (hb:gi U w C Y sc d x b (l.map λp=>kd p.1) aa f iR):aU U w C Y sc d (.For (.Name x p) it b [] pos) Z f iR:=
 wH hl hs (λA G L s env ro eo R Q k=>h A G L s env ro eo R _ λaz u ax aB aH aV=>(Ab _ u).mp aV |> λq=>DL q λa es n e ha hg hd=>D.dictAt hn (aB.pins _ _ hg) hd λkvs PU hm hv=>by
  have g:=aB.pins _ _ hg
  have f:=aB.fresh (fu _)
  have W:=KTurns.ofWalks (target:=.Name x p) (Walks.dictKeys (A:=A) (knd:=knd) ro.handled ax.heap.objs.size a (v7 (uY g)) kvs n) λ_ _ _ _ _ _ h=>vy h
  have W:=Eq.subst (motive:=λm=>KTurns U w A (.Name x p) ax.heap.objs.size [ax.heap.objs.size,a] [ax.heap.objs.size] m _ _ _) (hv.len.trans (mG λp:Ky×DV=>kd p.1).symm) W
  refine k az u ax _ _ _ _ _ _ _ (aB.push (t:=ax.toks) _) (aH.aO (eT (t:=ax.toks) _)) ⟨λQ E hQ=>by rw[e];exact wpAny_pyIter_dict ha hm hQ,W,⟨⟨_,Hr _ rfl,rfl,rfl⟩,hm.push _⟩,
   e8.mpr ⟨⟨λq=>q.elim f.1 f.2.1,by rw[M5];exact MT _⟩,e8.mpr ⟨⟨sm aB hg,qt (uY g) (size_push ..)⟩,qT _⟩⟩,e8.mpr ⟨⟨f.2.2,aH.size⟩,qT _⟩,λG' sb j v _ q=>mw q λk x hj hk=>?_⟩
  have e2:(kvs.map (·.1))[j]?=some k:=by rw[Rf,hj];rfl
  rw[hv.keys,Rf] at e2
  have r:∃x,(l.map λp=>kd p.1)[j]?=some x/\DR w.params G' x v:=bz (xl.mp e2) λpq h1 h2=>⟨kd k,by rw[Rf,h1,<-h2];rfl,D.Fc G' k v (h2▸PU pq (List.mem_of_getElem? h1)) hk⟩
  exact r) hb
end
def noRef (f:Value):Bool:=Value.ctorIdx f != Value.ctorIdx (.ref 0)
def bA (K:Frag) (sc:Scope) (x:Str) (f:Value):Bool:=decide (sc.names.lookup x=some .globalImplicit)&&(nsIn K mainGlobals x==some none&&(bootBuiltins x==some f&&(!(x==("__debug__":Str))&&(!(x==("__name__":Str))&&noRef f))))
def jQ (U:Program) (w:World) (C:Nat) (Y:Base) (f:Value) (args:List DV) (r:Res):Prop:=∀(A:Around) (G:Gh) (L:Addr) (Z:aj) (s:Shared) (us:List Value),dH A 0->Rep w.params C Y G L Z s->eC w.params G args us->
 ∀Q:Value->Shared->Prop,(∀v s',Rep w.params C Y G L Z s'->Later G.OA G s G s'->nz w.params G s'.heap s.heap.objs.size r v->Q v s')->WP U w A (call f us []) s Q
section
variable {U:Program} {w:World} {C:Nat} {K:Frag} {Y:Base} {sc:Scope} {d:Nat} {Z aa ah cB:aj} {A:Around} {G:Gh} {L:Addr} {s:Shared} {env:Env} {V:Val} {x:Str} {p pos:Pos} {f:Value} {Q:Value->Shared->Prop}
def lO (T:cQ K Y) (eo:cN sc L env) (R:Rep w.params C Y G L Z s) (hb:bA K sc x f=true) (h:Q f s):WP U w A (eval (.Name x p) env) s Q:=
 a2 (aw hb) λb1 h1=>a2 (aw h1) λb2 h2=>a2 (aw h2) λb3 h3=>a2 (aw h3) λb4 h4=>a2 (aw h4) λb5 _=>fi T.glob λ_ hg=>bz T.blt λ_ hm hmb=>
 have kp:∀b o,Y.hp.get? b=some o->s.heap.get? b=some o:=λb o q=>R.pins b o (R.dQ b o q)
 Name_function_global (by rw[eo.scope];exact eo.kind) (by rw[Env.kindOf,eo.scope];exact mQ b1) (loadGlobal_builtin (v:=f) (by rw[eo.globals];exact hg.keeps kp) (mg_none_of T.Jx hg (iG.mp b2)) (by rw[eo.builtins];exact hm.keeps kp)
  ((hmb x λe=>ft ((Rc _▸b5:(x==("__name__":Str))=false).symm.trans (iG.mpr e))).trans (iG.mp b3)) h) (Rc _▸b4)
def zV (hb:bA K sc x f=true) (h:Heap):∃k,(k=Keeper.frame\/k=Keeper.machine\/k=Keeper.boundFrame)/\Looks (model U w) h (keeperOf f) k:=⟨.machine,.inr (.inl rfl),by
 have b:=(aw (aw (aw (aw (aw hb).2).2).2).2).2
 cases f<;>first|exact Looks.of_pure rfl|exact ft b⟩
def tZ {es:List Expr} {vs:List DV} (T:cQ K Y) (hb:bA K sc x f=true) (ha:dI U w C Y sc d es Z vs aa) (ro:dH A d) (eo:cN sc L env) (R:Rep w.params C Y G L Z s)
    (h:∀(aD:Gh) (ay:Shared) (us:List Value),Rep w.params C Y aD L aa ay->Later G.OA G s aD ay->eC w.params aD vs us->WP U w A (call f us []) ay Q):WP U w A (eval (.Call (.Name x p) es [] pos) env) s Q:=
 wpAny_Call_Name_kw (lO (U:=U) (A:=A) T eo R hb (xK (λaD ay _ _=>zV hb _) ha .nil ro eo R λaD ay us _ aE aJ cz _=>h aD ay us aE aJ cz))
def pG {es:List Expr} {vs:List DV} {r:Res} (T:cQ K Y) (hb:bA K sc x f=true) (ha:dI U w C Y sc d es Z vs aa) (h:jQ U w C Y f vs r):cO U w C Y sc d (.Call (.Name x p) es [] pos) Z r aa:=λA G L s env ro eo R Q k=>
 tZ T hb ha ro eo R λaD ay us aE aJ q=>h A aD L aa ay us ro.low aE q Q λv cA cD cL q=>k aD v cA cD (aJ.aO cL) (q.low aJ.size)
def xM {e:Expr} {v:DV} (T:cQ K Y) (hb:bA K sc x f=true) (ha:dI U w C Y sc d [e] Z [v] aa) (ro:dH A d) (eo:cN sc L env) (R:Rep w.params C Y G L Z s)
    (h:∀(aD:Gh) (ay:Shared) (u:Value),Rep w.params C Y aD L aa ay->Later G.OA G s aD ay->DR w.params aD v u->WP U w A (call f [u] []) ay Q):WP U w A (eval (.Call (.Name x p) [e] [] pos) env) s Q:=
 tZ T hb ha ro eo R λaD ay us aE aJ q=>q.fy λu us a b=>b.jr (h aD ay u aE aJ a)
def jQ.grown {h':Heap} {tk:Nat} (R:Rep w.params C Y G L Z s) (hk:∀b o,s.heap.get? b=some o->h'.get? b=some o) (z:s.heap.objs.size<=h'.objs.size):Rep w.params C Y G L Z {s with heap:=h',toks:=tk}/\Later G.OA G s G {s with heap:=h',toks:=tk}:=⟨R.ext hk z,.keep hk z rfl rfl⟩
def Xu {Ky:Type} [DecidableEq Ky] {knd:KeyKind U w Ky} {kd:Ky->DV} {ok:Ky->Prop} (D:KD knd kd ok) {l:List (Ky×DV)} (hn:(l.map (·.1)).Nodup) (hz:l.length<=1000):jQ U w C Y (.type "list") [.iI (dl kd l)] (.fl (l.map λp=>kd p.1)):=λA G L Z s us ro R hd Q k=>
 hd.fy λu _ a b=>b.jr (a.vm λa es n q g h=>WP.grow (list_dict D ro.handled hn hz q (R.pins _ _ g) h λh' tk us c' hk hS Ap g'=>a2 (jQ.grown (tk:=tk) R hk g'.size) λR' l'=>
  k _ _ R' l' ⟨_,us,c',rfl,hS,Ap,by rw[<-Ap.length,mG];exact bB hz (by decide),R.tocp.loose (fu _)⟩))
def UI {P:Params} (a b:Int) (t t':Tok):DR P G (.int (if b>a then b else a)) (if b>a then .int b t' else .int a t):=by
 by_cases q:b>a
 ·rw[d7 q,d7 q];exact⟨_,rfl⟩
 ·rw[dX q,dX q];exact⟨_,rfl⟩
def RW {a b c:Int} (h:c=if b>a then b else a):jQ U w C Y (.builtin "max") [.int a,.int b] (.pv (.int c)):=λA G L Z s us ro R hd Q k=>
 hd.fy λu _ d1 d2=>d2.fy λv _ d2 d3=>d3.jr (d1.fQ λt=>d2.fQ λt'=>WP.grow (max_two_ints ro.handled λh' tk hk g'=>a2 (jQ.grown (tk:=tk) R hk g'.size) λR' l'=>k _ _ R' l' (h▸UI (P:=w.params) (G:=G) a b t t')))
def Cv {j t:Nat} {c:Int} (h:((Y.V.ς j).length:Int)=Y.V.β t+c):jQ U w C Y (.builtin "len") [.gO j] (.pv (.sint t c)):=λA G L Z s us ro R hd Q k=>
 hd.fy λu _ a b=>b.jr (a.sP λtk hz=>P.len_str (Int.not_le.mpr (Int.lt_of_le_of_lt (zK.mpr hz) (by decide))) (k _ _ R.toks bb ⟨_,aT (Value.int · _) ((R.val▸h:((G.V.ς j).length:Int)=G.V.β t+c))⟩))
def acd {l:List Nat} {n:Int} (h:PySem.intText? ⟨⟨l⟩⟩=some n) (hz:l.length<=640):jQ U w C Y (.type "int") [.str l] (.pv (.int n)):=λA G L Z s us ro R hd Q k=>
 hd.fy λu _ a b=>b.jr (a.gg λt z=>KIN.call_text h hz (k _ _ R.toks bb ⟨_,rfl⟩))
def rn {e:Expr} {pl:Pl} (hs:noStar e=true) (he:gA U w C Y sc d e Z pl) (ro:dH A d) (eo:cN sc L env) (R:Rep w.params C Y G L Z s) {first:List Value} {b:String}
    (h:∀a t,At G L s pl a->WP U w A (call (.builtin b) (first++[.ref a])) {s with toks:=t} Q):WP U w A (callWith pos (.builtin b) first (backTo pos (starEach [e] env)) []) s Q:=
 callWith_builtin (lG [e] (Y4.mpr ⟨hs,rfl⟩)).1 (by rw[gv hs];exact Calls.evalArgs_plain (Calls.spliced_cons (he A G L s env ro eo R _ λa t lS=>Calls.spliced_nil (h a t lS))))
def yY {e:Expr} {pl:Pl} {l:List DV} (T:cQ K Y) (hb:bA K sc x (.builtin "len")=true) (he:gA U w C Y sc d e Z pl) (hs:noStar e=true) (hl:pl.get Z=some (.ml l)):aC U w C Y sc d (.Call (.Name x p) [e] [] pos) Z (.int l.length) Z:=λA G L s env ro eo R Q k=>
 wpAny_Call_Name_kw (lO (U:=U) (A:=A) T eo R hb (rn hs he ro eo R λa t lS=>gm (R.gY lS hl) λb vs n q=>a5 q λe g hd hz _=>by
  cases e
  exact call_len_list (s:={s with toks:=t}) (items:=⟨vs⟩) ⟨_,g,rfl,n,rfl⟩ (Int.lt_of_le_of_lt (zK.mpr hz) (by decide)) (k G _ _ R.toks bb ⟨_,by rw[hd.length];rfl⟩)))
def uV {dx cu Af:Expr} {oj om:CmpOp} {x y z:DV} {b c:Bool} (cf:aC U w C Y sc d dx Z x aa) (cP:aC U w C Y sc d cu aa y ah) (hc:fh U w Y.V oj x y b)
    (k:if b then aC U w C Y sc d Af ah z cB/\fh U w Y.V om y z c else c=false/\cB=ah) (hm:lastMarks [oj,om] [cu,Af]=false):bu U w C Y sc d (.Compare dx [oj,om] [cu,Af] pos) Z c cB:=λA G L s env ro eo R Q kk=>
 isTrue_chain (cf A G L s env ro eo R _ λaz u ax aB aH aV=>test_link (cP A az L ax env ro eo aB _ λaD v ay aE aJ cz=>hc A aD ay u v ro.low aE.val aE.pins (aV.mono aJ.sub) cz _ λt=>Za (by
  cases b with
  |false=>exact a2 k λe1 e2=>show Q false _ from e1▸kk aD _ (e2▸aE.toks) (aH.aO aJ).tk
  |true=>exact a2 k λvD hc'=>test_last (vD A aD L _ env ro eo aE.toks _ λiJ r pK cD cL lB=>hc' A iJ pK v r ro.low cD.val cD.pins (cz.mono cL.sub) lB _ λt=>Za (kk iJ _ cD.toks (((aH.aO aJ).tk.aO cL).tk)))))) hm
def uI {dx cu Af:Expr} {oj om:CmpOp} {x y z:DV} {b c:Bool} (cf:aC U w C Y sc d dx Z x aa) (cP:aC U w C Y sc d cu aa y ah) (hc:fh U w Y.V oj x y b)
    (k:if b then aC U w C Y sc d Af ah z cB/\fh U w Y.V om y z c else c=false/\cB=ah) (hm:lastMarks [oj,om] [cu,Af]=false):aC U w C Y sc d (.Compare dx [oj,om] [cu,Af] pos) Z (.bool c) cB:=λA G L s env ro eo R Q kk=>
 Compare_chain (cf A G L s env ro eo R _ λaz u ax aB aH aV=>chain_link (cP A az L ax env ro eo aB _ λaD v ay aE aJ cz=>hc A aD ay u v ro.low aE.val aE.pins (aV.mono aJ.sub) cz _ λt=>Za (by
  cases b with
  |false=>exact a2 k λe1 e2=>show Q (.bool false) _ from kk aD _ _ (e2▸aE.toks) (aH.aO aJ).tk (e1▸rfl)
  |true=>exact a2 k λvD hc'=>chain_last (vD A aD L _ env ro eo aE.toks _ λiJ r pK cD cL lB=>hc' A iJ pK v r ro.low cD.val cD.pins (cz.mono cL.sub) lB _ λt=>kk iJ _ _ cD.toks (((aH.aO aJ).tk.aO cL).tk) rfl)))) hm
end
def pW (sep:List Nat) (l:List (List Nat)):List Nat:=List.rec (motive:=λ_=>List Nat) [] (λy _ ih=>sep++y++ih) l
def gU (sep:List Nat) (l:List (List Nat)):List Nat:=List.rec (motive:=λ_=>List Nat) [] (λx r _=>x++pW sep r) l
def join_eq (sep:List Nat) (ss:List (List Nat)):Txt.join ⟨⟨sep⟩⟩ (ss.map λl=>⟨⟨l⟩⟩)=(⟨⟨gU sep ss⟩⟩:Str):=by
 show Builtin.Str.glued _ _=_
 rw[StrLaws.glued_eq_join]
 cases ss with
 |nil=>rfl
 |cons x r=>
  induction r generalizing x with
  |nil=>exact Str.ext' (aT Array.mk (ti x).symm)
  |cons y r ih=>
   show(⟨⟨x⟩⟩:Str)++⟨⟨sep⟩⟩++Str.join ⟨⟨sep⟩⟩ ((y::r).map λl=>⟨⟨l⟩⟩)=_
   rw[ih]
   exact Str.ext' (by show(⟨x⟩++⟨sep⟩++⟨y++pW sep r⟩:Array Nat)=⟨x++(sep++y++pW sep r)⟩;simp)
def cZ (l:List (List Nat)):Nat:=List.rec (motive:=λ_=>Nat) 0 (λx _ ih=>x.length+ih) l
def F6 (sep:List Nat) (ss:List (List Nat)):(pW sep ss).length=cZ ss+ss.length*sep.length:=by
 induction ss with
 |nil=>exact(HD _).trans (Nat.zero_mul sep.length) |>.symm
 |cons x r ih=>
  show(sep++x++pW sep r).length=x.length+cZ r+(r.length+1)*sep.length
  rw[c9,c9,ih,Nat.succ_mul];omega
def uq (sep:List Nat) (ss:List (List Nat)):(gU sep ss).length<=cZ ss+ss.length*sep.length:=by
 cases ss with
 |nil=>exact jP _
 |cons x r=>
  show(x++pW sep r).length<=x.length+cZ r+(r.length+1)*sep.length
  rw[c9,F6,Nat.succ_mul];omega
def F4 (ss:List (List Nat)):gU [] ss=ss.flatten:=by
 have h:pW [] ss=ss.flatten:=by induction ss with|nil=>rfl|cons x r ih=>exact aT (x++·) ih
 cases ss with
 |nil=>rfl
 |cons x r=>exact h
section
variable {U:Program} {w:World} {C:Nat} {K:Frag} {Y:Base} {sc:Scope} {d:Nat} {Z:aj} {A:Around} {G:Gh} {L:Addr} {s:Shared} {env:Env} {sep:List Nat} {ss:List (List Nat)} {vs:List Value} {n:Nat} {a:Addr} {t:Tok} {Q:Value->Shared->Prop}
def zj {P:Params} (ss:List (List Nat)):∀{vs:List Value},eC P G (ss.map .str) vs->∃l:List (Str×Tok),vs=strValues l/\l.map (·.1)=ss.map λl=>⟨⟨l⟩⟩:=by
 induction ss with
 |nil=>exactλh=>h.jr ⟨[],rfl,rfl⟩
 |cons x r ih=>exactλh=>h.fy λu us a b=>a.gg λt _=>bz (ih b) λl h1 h2=>⟨(⟨⟨x⟩⟩,t)::l,aT (_::·) h1,aT (_::·) h2⟩
def QH (ss:List (List Nat)):((ss.map λl=>(⟨⟨l⟩⟩:Str)).map (·.length)).sum=cZ ss:=by
 induction ss with
 |nil=>rfl
 |cons x r ih=>rw[w6,w6,List.sum_cons,ih];rfl
def O7 (hg:s.heap.get? a=some (bG vs n)) (hd:eC w.params G (ss.map .str) vs) (hz:cZ ss+ss.length*sep.length<=lim) (h:∀t' k,Q (.str ⟨⟨gU sep ss⟩⟩ t') {s with toks:=k}):WP U w A (call (.builtin "str.join") [.str ⟨⟨sep⟩⟩ t,.ref a]) s Q:=
 bz (zj ss hd) λl e h2=>SC.join (D:=a) (l:=l) ⟨_,e▸hg,rfl,n,rfl⟩ h2 (by
  unfold JoinOk
  rw[StrLaws.joinTotal,QH,mG]
  exact(Rc _).mpr (Hv (xk.mpr (cK hz)))) (λt' k=>by rw[join_eq];exact h t' k)
def QE {k:Nat} {p:Pos} {x:Str} {Q:Value->Shared->Prop} (h:∀t,Q (.str x t) {s with toks:=s.toks+1}):WP U w A (eval (.Constant (.str x) k p) env) s Q:=λ_ _ _=>h _
def uK {sep:Str} {k:Nat} {p apos pos:Pos} {e e0:Expr} {pl:Pl} (h0:e0=.Call (.Attribute (.Constant (.str sep) k p) "join" apos) [e] [] pos) (hf:dR [e] [] apos pos=true) (hs:noStar e=true) (he:gA U w C Y sc d e Z pl) (hl:pl.get Z=some (.ml (ss.map .str))) (hz:cZ ss+ss.length*sep.cps.toList.length<=lim):
    aC U w C Y sc d e0 Z (.str (gU sep.cps.toList ss)) Z:=λA G L s env ro eo R Q k=>fa h0▸gy (s:=s) rfl hf (QE (x:=sep) λt pl=>GM.join (rn (first:=[.str sep _]) hs he ro eo R.toks λa t lS=>gm (R.gY lS.toks hl) λb vs n q=>a5 q λe g hd _ _=>by
    cases e
    exact O7 (sep:=sep.cps.toList) (s:={s with toks:=t}) g hd hz λt' _=>k G _ _ R.toks bb ⟨t',rfl,bB (uq _ _) hz⟩))
end
def iW (vs:List DV):List (List DV):=vs.zipIdx.map λp=>[.int p.2,p.1]
def FG {vs:List DV} {j:Nat} {v:DV} (h:vs[j]?=some v):(iW vs)[j]?=some [.int j,v]:=by
 unfold iW
 rw[Rf,List.getElem?_zipIdx,h]
 simp
def FH (vs:List DV):(iW vs).length=vs.length:=by unfold iW;simp
section
variable {U:Program} {w:World} {C:Nat} {K:Frag} {Y:Base} {sc:Scope} {d:Nat} {Z aa:aj} {A:Around} {G:Gh} {L:Addr} {s:Shared} {es:List Expr} {kt z:Nat} {xs:List Str} {p pn pos' pos:Pos} {x:Str} {e:Expr} {b:List Stmt} {f:au} {iR:aj} {vs:List DV}
def Iter.enum {h':Heap} {fp:List Addr} {P:Nat->Value->Prop} {St:Nat->Heap->Prop} (R:Rep w.params C Y G L Z s) (hz:z<=s.heap.objs.size) (D:Draws U w A.in1 s.heap.objs.size fp vs.length P St) (hif:s.heap.objs.size∈fp) (he:IsEnum h' (s.heap.objs.size+1) s.heap.objs.size 0 .none)
    (st:St 0 h') (ya:h'.objs.size=s.heap.objs.size+2) (Jk:∀a∈fp,¬G.O a/\a<s.heap.objs.size+1) (hP:∀G',Sub G G'->∀j v,P j v->∃x,vs[j]?=some x/\DR w.params G' x v) {Zk:Prop} (kk:∀fp wr Pt Md St,Iter U w A (.Tuple es kt p) (λG h x v=>∃T us,v=.ref T/\h.IsTuple T us/\eC w.params G x us.toList) (iW vs) z G
      (.ref (s.heap.objs.size+1)) {s with heap:=h'} {s with heap:=h'} (s.heap.objs.size+1) fp wr Pt Md St->Zk):Zk:=
 have f0:=R.fresh (fu _)
 have f1:=R.fresh (Nat.le_succ s.heap.objs.size)
 have W:=KTurns.ofWalksU (elts:=es) (k:=kt) (pos:=p) (WalksT.enumerateD D (s.heap.objs.size+1) (Nat.succ_ne_self _) (λq=>Nat.lt_irrefl _ (Jk _ q).2) hif).toU
 kk _ _ _ _ _ ⟨λQ E hQ=>wpAny_pyIter_enum he hQ,Eq.subst (motive:=λn=>KTurns U w A _ _ _ _ n _ _ _) (FH vs).symm W,⟨⟨_,he⟩,st⟩,
  e8.mpr ⟨⟨λq=>q.elim f1.1 f1.2.1,ya▸MT _⟩,λa m=>⟨(Jk a m).1,ya▸Nat.lt_succ_of_lt (Jk a m).2⟩⟩,e8.mpr ⟨⟨f1.2.2,Nat.le_succ_of_le hz⟩,e8.mpr ⟨⟨f0.2.2,hz⟩,qT _⟩⟩,
  λG' sb j v h q=>zE q λT us ev q ht=>mw q λt x hp eu=>bz (hP G' sb j x hp) λy hy dy=>⟨_,FG hy,T,us,ev,ht,eu▸.cons ⟨t,rfl⟩ (.cons dy .nil)⟩⟩
def sU {v:DV} (T:cQ K Y) (hl:names sc es=some xs) (hb:bA K sc x (.type "enumerate")=true) (ha:dI U w C Y sc d [e] Z [v] aa) (hs:∀env u,foldedSetIterable (.Call (.Name x pn) [e] [] pos') env u=pure u)
    (h:∀(A:Around) (G:Gh) (L:Addr) (s:Shared) (u:Value),A.handled=none->Rep w.params C Y G L aa s->DR w.params G v u->∀Q:Value->Shared->Prop,(∀h' fp P St,(∀b o,s.heap.get? b=some o->h'.get? b=some o)->Draws U w A.in1 s.heap.objs.size fp vs.length P St->s.heap.objs.size∈fp->IsEnum h' (s.heap.objs.size+1) s.heap.objs.size 0 .none->
      St 0 h'->h'.objs.size=s.heap.objs.size+2->(∀a∈fp,¬G.O a/\a<s.heap.objs.size+1)->(∀G',Sub G G'->∀j v,P j v->∃x,vs[j]?=some x/\DR w.params G' x v)->Q (.ref (s.heap.objs.size+1)) {s with heap:=h'})->WP U w A (call (.type "enumerate") [u]) s Q)
    (hB:fg U w C Y sc d xs b (iW vs) aa f iR):aU U w C Y sc d (.For (.Tuple es kt p) (.Call (.Name x pn) [e] [] pos') b [] pos) Z f iR:=
 QK hl hs (λA G L s env ro eo R Q k=>xM T hb ha ro eo R λaD ay u aE aJ du=>h A aD L ay u ro.handled aE du Q λh' fp P St hk D hif he st ya Jk hP=>
  have z:ay.heap.objs.size<=h'.objs.size:=ya▸Hu _ 2
  Iter.enum (es:=es) (kt:=kt) (p:=p) aE aJ.size D hif he st ya Jk hP λ_ _ _ _ _ I=>k aD _ _ _ _ _ _ _ _ _ (aE.ext (s':={ay with heap:=h'}) hk z) (aJ.aO (.keep hk z rfl rfl)) I) hB
def p8 {l:List Nat} (T:cQ K Y) (hl:names sc es=some xs) (hb:bA K sc x (.type "enumerate")=true) (ha:dI U w C Y sc d [e] Z [.str l] aa)
    (hs:∀env u,foldedSetIterable (.Call (.Name x pn) [e] [] pos') env u=pure u) (hB:fg U w C Y sc d xs b (iW (l.map λc=>.str [c])) aa f iR):aU U w C Y sc d (.For (.Tuple es kt p) (.Call (.Name x pn) [e] [] pos') b [] pos) Z f iR:=
 sU T hl hb ha hs (λA G L s u hh R du Q k=>du.gg λt _=>call_enumerate_str λh' he hit ya hk=>k h' _ _ _ hk (show Draws U w A.in1 s.heap.objs.size [s.heap.objs.size] _ (λi v=>∃c u,(⟨⟨l⟩⟩:Str).cps[i]?=some c/\v=.str ⟨#[c]⟩ u) (λi h=>h.IsStrIter s.heap.objs.size (strIterType ⟨⟨l⟩⟩) ⟨⟨l⟩⟩ t i) by
  rw[mG]
  unfold strIterType
  by_cases q:(⟨⟨l⟩⟩:Str).cps.all (· <128)=true
  ·rw[d7 q];exact Draws.strAscii (A:=A.in1) hh _ ⟨⟨l⟩⟩ t
  ·rw[dX q];exact Draws.strWide (A:=A.in1) hh _ ⟨⟨l⟩⟩ t) (.head _) he hit ya
  (e8.mpr ⟨⟨λq=>q.elim (R.fresh (fu _)).1 (R.fresh (fu _)).2.1,MT _⟩,qT _⟩) λG' _ j v q=>mw q λc uc hc ex=>⟨.str [c],by rw[Rf,show l[j]?=some c by simpa using hc];rfl,uc,ex,Nat.succ_le_of_lt (by decide)⟩) hB
def zl {l:List DV} (T:cQ K Y) (hl:names sc es=some xs) (hb:bA K sc x (.type "enumerate")=true) (ha:dI U w C Y sc d [e] Z [.lst l] aa)
    (hs:∀env u,foldedSetIterable (.Call (.Name x pn) [e] [] pos') env u=pure u) (hB:fg U w C Y sc d xs b (iW l) aa f iR):aU U w C Y sc d (.For (.Tuple es kt p) (.Call (.Name x pn) [e] [] pos') b [] pos) Z f iR:=
 sU T hl hb ha hs (λA G L s u hh R du Q k=>du.lu λa us n hg _ hd=>call_enumerate_list (items:=⟨us⟩) ⟨_,R.pins _ _ hg,rfl,n,rfl⟩ λh' he hit ya hk=>k h' _ _ _ hk (Eq.subst (motive:=λn=>Draws U w A.in1 _ _ n _ _) hd.length.symm (Draws.list (prog:=U) (w:=w) (A:=A.in1) hh s.heap.objs.size a (v7 (uY (R.pins _ _ hg))) ⟨us⟩)) (.head _) he
  ⟨hit,_,hk _ _ (R.pins _ _ hg),rfl,n,rfl⟩ ya (e8.mpr ⟨⟨λq=>q.elim (R.fresh (fu _)).1 (R.fresh (fu _)).2.1,MT _⟩,e8.mpr ⟨⟨sm R hg,Nat.lt_succ_of_lt (uY (R.pins _ _ hg))⟩,qT _⟩⟩)
  λG' sb j v hP=>by
   have hP:us[j]?=some v:=by simpa using hP
   have lt:j<l.length:=by rw[hd.length];exact(M6.mp hP).1
   exact bz (hd.at j _ (zM lt)) λu e q=>⟨_,zM lt,eN (e.symm.trans hP)▸q.mono sb⟩) hB
end
def qF (k:ae):DV:=ae.casesOn (motive:=λ_=>DV) k (λv=>bif v.free then v else .any) (λl=>bif gT l then .lst l else .any) λl=>bif DX l then .iI l else .any
def vu (as:List (Str×ae)):List (Str×DV):=as.map λp=>(p.1,qF p.2)
def IZ (d:DV):Bool:=Nat.blt d.ctorIdx 8||d.ctorIdx==13||d.ctorIdx==14
def DR.flat {P:Params} {G G':Gh} (e:G'.V=G.V) {r:DV} {v:Value} (hf:IZ r=true) (h:DR P G r v):DR P G' r v:=by
 cases r with
 |sint t k=>exact h.uN λtk=>⟨tk,by rw[e]⟩
 |gO k=>exact h.sP λtk z=>⟨tk,by rw[e],by rw[e];exact z⟩
 |_=>first|exact ft hf|exact h
section
variable {U:Program} {w:World} {C:Nat} {Y:Base} {d:Nat} {G:Gh} {s:Shared} {aq:Option (List (Str×ae))}
def fG (G:Gh) (s:Shared):Gh:=⟨G.V,λb=>s.heap.get? b,none,λ_=>False,λ_=>False⟩
def TR {c:Bool} {x:DV} {v:Value} (hv:handedIn v=true) (h:c=true->DR w.params G x v):DR w.params G (bif c then x else .any) v:=by
 cases c with
 |true=>exact h rfl
 |false=>exact hv
def FQ {k:ae} {v:Value} {dd:Addr} (R:cp w.params C Y G aq s) (h:bD w.params G s.heap (λa=>G.OA a/\a≠dd) k v):DR w.params (fG G s) (qF k) v:=by
 cases k with
 |pv x=>exact TR h.handed λq=>DR.free (G:=G) (G':=fG G s) rfl R.pins (show DR w.params G x v from h) q
 |ml l=>exact TR h.handed λq=>gm h λa vs n h=>a5 h λe g hd hz _=>fa e▸.lst (G:=fG G s) g hz (eC.free (G:=G) (G':=fG G s) rfl R.pins hd q)
 |md l=>exact TR h.handed λq=>DL h λa es n e g hd o=>fa e▸.iI (G:=fG G s) (R.v5 (R.fL a o.1).1) g (qU.free (G:=G) (G':=fG G s) rfl R.pins hd q)
def af.aiU {f:Value} {args:List DV} {kw:List (Str×DV)} {as:List (Str×ae)} {r:DV} (h:af U w C Y d f (.inst C (vu as)::args) kw none r none) (hf:IZ r=true) (f1:gT args=true) (f2:gT (kw.map (·.2))=true):
    af U w C Y d f (.self::args) kw (some as) r (some as):=λA G s vs ks ro R ha hk Q k=>ha.fy λu us d1 d2=>dk R.attr λp dd q=>dk q λes n AO=>by
 have kg:∀b o,G.g b=some o->(fG G s).g b=some o:=R.pins
 have R':cp w.params C Y (fG G s) none s:=⟨λ_ _ h=>h,λb o h=>R.pins b o (R.dQ b o h),R.val,λ_ q=>q.elim,λ_ q=>q.elim,λ_ q=>q.elim,rfl⟩
 have di:DR w.params (fG G s) (.inst C (vu as)) (.ref p):=.inst (R.pins _ _ AO.inst) AO.dict (λx e=>AO.none (Option.map_eq_none_iff.mp ((f6 qF as x).symm.trans e)))
  λx dv e=>bz (xl.mp ((f6 qF as x).symm.trans e)) λk h1 h2=>bz (AO.sl.hit x k h1) λv hv ok=>⟨v,gB hv,h2▸FQ R ok⟩
 exact d1.yU (Q:=λu=>codeAny _ _ (.call f ⟨u::us,_⟩) _ s) λp' d' e=>by
  cases e.symm.trans AO.par
  exact h A (fG G s) s _ ks ro R' (.cons di (eC.free (G:=G) (G':=fG G s) rfl kg d2 f1)) (eC.free (G:=G) (G':=fG G s) rfl kg hk f2) Q λaD v ay aE l _ dv=>
   have kp:∀b o,s.heap.get? b=some o->ay.heap.get? b=some o:=λb o e=>l.kept b o e id
   k G v ay (R.keep (λb o _=>kp b o) (λb o _=>kp b o) l.size) (.keep kp l.size l.gens l.os) rfl (dv.flat (G':=G) l.sub.V.symm hf)
end
def gS (l:List Nat):Nat:=List.rec (motive:=λ_=>Nat) 1 (λc _ m=>bif Nat.blt c 2097152 then bif Nat.beq m 0 then 0 else Nat.add c (Nat.mul 2097152 m) else 0) l
def oa {a b:Nat} (h:Nat.beq a b=false):a≠b:=λe=>tf ((Nat.beq_refl a).symm.trans ((aT (Nat.beq a) e).trans h))
def j0 {c:Nat} {r:List Nat} (h:gS (c::r)≠0):c<2097152/\gS r≠0/\gS (c::r)=c+2097152*gS r:=by
 have e:gS (c::r)=bif Nat.blt c 2097152 then bif Nat.beq (gS r) 0 then 0 else c+2097152*gS r else 0:=rfl
 rw[e] at h ⊢
 cases h1:Nat.blt c 2097152 with
 |false=>exact absurd (by rw[h1];rfl) h
 |true=>
  cases h2:Nat.beq (gS r) 0 with
  |true=>exact absurd (by rw[h1,h2];rfl) h
  |false=>exact⟨e9 h1,oa h2,rfl⟩
def Fz {c c' a b k:Nat} (h:c<k) (h':c'<k) (e:c+k*a=c'+k*b):c=c'/\a=b:=by
 have e1:=aT (· % k) e
 have e2:=aT (· / k) e
 simp only[Nat.add_mul_mod_self_left,Nat.mod_eq_of_lt h,Nat.mod_eq_of_lt h'] at e1
 simp only[Nat.add_mul_div_left _ _ (Ri (jP _) h),Nat.div_eq_of_lt h,Nat.div_eq_of_lt h',HD] at e2
 exact⟨e1,e2⟩
def t5 {c a:Nat} (h:a≠0):c+2097152*a≠1:=OO
def Fy (l:List Nat):∀l':List Nat,gS l≠0->gS l=gS l'->l=l':=by
 induction l with
 |nil=>intro l' _ e;cases l' with
  |nil=>rfl
  |cons c r=>exact a3 (j0 (show gS (c::r)≠0 from e▸Nat.one_ne_zero)) λ_ z q=>absurd (q.symm.trans e.symm) (t5 z)
 |cons c r ih=>intro l' n e;cases l' with
  |nil=>exact a3 (j0 n) λ_ z q=>absurd (q.symm.trans e) (t5 z)
  |cons c' r'=>exact a3 (j0 n) λl1 z1 q1=>a3 (j0 (e▸n)) λl2 _ q2=>a2 (Fz l1 l2 (q1.symm.trans (e.trans q2))) λe1 e2=>by rw[e1,ih r' z1 e2]
def cU (x y:Str):Bool:=bif Nat.beq (gS x.cps.toList) 0 then decide (x=y) else Nat.beq (gS x.cps.toList) (gS y.cps.toList)
def bF (x y:Str):cU x y=true↔x=y:=by
 unfold cU
 cases h:Nat.beq (gS x.cps.toList) 0 with
 |true=>exact decide_eq_true_iff
 |false=>exact⟨λe=>Str.ext' (Array.ext' (Fy _ _ (oa h) (iS e))),λe=>e▸Nat.beq_refl _⟩
def i9 {x y:Str} (h:cU x y=false):x≠y:=λe=>tf (((bF x y).mpr e).symm.trans h)
def aS {α:Type} (l:List (Str×α)) (x:Str):Option α:=List.rec (motive:=λ_=>Option α) none (λp _ ih=>bif cU p.1 x then some p.2 else ih) l
def oW {α:Type} (x y:Str) (u v:α):(bif cU x y then u else v)=if x=y then u else v:=by
 cases h:cU x y with
 |true=>exact(d7 ((bF _ _).mp h)).symm
 |false=>exact(dX (i9 h)).symm
def aG {α:Type} (l:List (Str×α)) (x:Str):aS l x=look l x:=by
 induction l with
 |nil=>rfl
 |cons p r ih=>exact(oW ..).trans (by rw[dh];exact aT _ ih)
def g9 {α:Type} (l:List (Str×α)) (x:Str):aS l x=l.lookup x:=by
 induction l with
 |nil=>rfl
 |cons p r ih=>
  refine(oW ..).trans ?_
  by_cases h:p.1=x
  ·rw[d7 h,List.lookup_cons,iG.mpr h.symm]
  ·rw[dX h,List.lookup_cons,HE.mpr λq=>h q.symm];exact ih
def bS {α:Type} (l:List (Str×α)) (x:Str) (v:α):List (Str×α):=List.rec (motive:=λ_=>List (Str×α)) [(x,v)] (λp r ih=>bif cU p.1 x then(x,v)::r else p::ih) l
def bk {α:Type} (l:List (Str×α)) (x:Str) (v:α):bS l x v=put l x v:=by
 induction l with
 |nil=>rfl
 |cons p r ih=>exact(oW ..).trans (by show _=(if p.1=x then(x,v)::r else p::put r x v);rw[<-ih];rfl)
def bc (c:Nat) (l:List Nat):Bool:=List.rec (motive:=λ_=>Bool) false (λh _ ih=>bif Nat.beq c h then true else ih) l
def nY (c:Nat) (l:List Nat):bc c l=decide (c∈l):=by
 induction l with
 |nil=>rfl
 |cons h r ih=>
  show(bif Nat.beq c h then true else bc c r)=_
  cases q:Nat.beq c h with
  |true=>exact(HF (iS q▸.head _)).symm
  |false=>exact ih.trans (decide_eq_decide.mpr ⟨.tail _,λm=>(List.mem_cons.mp m).resolve_left (oa q)⟩)
def fP (l l':List Nat):Bool:=List.rec (motive:=λ_=>List Nat->Bool) (λl'=>l'.isEmpty) (λc _ ih l'=>List.casesOn (motive:=λ_=>Bool) l' false λc' r'=>bif Nat.beq c c' then ih r' else false) l l'
def jo (l:List Nat):∀l':List Nat,fP l l'=(l==l'):=by
 induction l with
 |nil=>intro l';cases l'<;>rfl
 |cons c r ih=>intro l';cases l' with
  |nil=>rfl
  |cons c' r'=>
   show(bif Nat.beq c c' then fP r r' else false)=((c==c')&&(r==r'))
   rw[ih]
   cases h:Nat.beq c c' with
   |true=>rw[iG.mpr (iS h)];rfl
   |false=>rw[HE.mpr (oa h)];rfl
def G8 {a b:Nat} (h:a<=b):(if(a:Int)<b then((b:Int) - a+1 - 1) / 1 else 0).toNat=b - a:=by
 by_cases q:(a:Int)<b
 ·rw[d7 q,Int.ediv_one,Int.add_sub_cancel,<-Int.ofNat_sub h];rfl
 ·rw[dX q];exact(Nat.sub_eq_zero_of_le (zK.mp (Int.not_lt.mp q))).symm
def G9 {a b n:Nat} (h1:a<=b) (h2:b<=n):Builtin.Str.strSliceIndices (some (a:Int)) (some (b:Int)) 1 n=List.range' a (b - a):=by
 have m:∀c:Nat,c<=n->max (0:Int) (min (c:Int) (n:Int))=c:=λc h=>by rw[Int.min_eq_left (zK.mpr h),Int.max_eq_right (MS c)]
 unfold Builtin.Str.strSliceIndices sliceRange
 simp only[Int.not_lt.mpr (MS a),Int.not_lt.mpr (MS b),if_false,show(1:Int)>0 from by decide,if_true,m a (bB h1 h2),m b h2,G8 h1,List.range'_eq_map_range]
 exact List.map_congr_left λk _=>by rw[Int.one_mul];rfl
def CE {α:Type} (l:List α) (m:Nat):∀a,a+m<=l.length->(List.range' a m).filterMap (λi=>l[i]?)=(l.drop a).take m:=by
 induction m with
 |zero=>exactλa _=>List.take_zero.symm
 |succ m ih=>
  intro a h
  have lt:a<l.length:=qt (Nat.lt_add_of_pos_right (MU m)) h
  rw[List.range'_succ,List.filterMap_cons,zM lt,ih (a+1) (by rw[Rg];exact h),List.drop_eq_getElem_cons lt];rfl
def DG {l:List Nat} {a n m:Nat} (h:l.length<=m):((l.drop a).take n).length<=m:=bB (by rw[Zz];exact Nat.min_le_right ..) (bB (by rw[Zx];exact Nat.sub_le ..) h)
def CY {l:List Nat} {a b:Nat} {t ta tb:Tok} {Q:Value->Shared->Prop} {s:Shared} (n1:a<=b) (n2:b<=l.length) (hz:l.length<=lim) (k:∀t tk,Q (.str ⟨⟨(l.drop a).take (b - a)⟩⟩ t) {s with toks:=tk}):(sliceMade ⟨⟨l⟩⟩ t (some ((a:Int),ta)) (some ((b:Int),tb)) none).post Q s:=by
 have ix:slicePicked ⟨⟨l⟩⟩ (some ((a:Int),ta)) (some ((b:Int),tb)) none=List.range' a (b - a):=G9 n1 n2
 unfold sliceMade
 rw[ix,show(λi=>(⟨⟨l⟩⟩:Str).cps[i]?)=λi=>l[i]? from funext λi=>List.getElem?_toArray,CE l (b - a) a (bB (jk (Nat.add_sub_cancel' n1)) n2),List.length_range']
 split
 ·rename_i hw
  have e:b - a=l.length:=iG.mp (aw hw).2
  have:a=0:=Nat.eq_zero_of_le_zero (Nat.le_of_add_le_add_left (a:=l.length) (bB (jk ((aT (· +a) e).symm.trans (Nat.sub_add_cancel n1))) n2))
  rw[e,this,List.drop_zero,List.take_of_length_le (fu _)] at k
  exact k t s.toks
 ·exact⟨cK (DG hz),k _ _⟩
def textOf (V:Val) (x:DV):Option (List Nat):=aZ (iE x) ((sO x).bind λk=>some (V.ς k)) some
def Hl (V:Val) (x:DV):On (λl=>.str l=x\/∃k,.gO k=x/\V.ς k=l) (textOf V x):=(cT x).or (λl h=>.inl h) λ_=>(jK x).b λk h=>.inr ⟨k,h,rfl⟩
def Df (U:Program) (w:World) (V:Val) (x lo hi z:DV):Prop:=∃(l:List Nat) (a b:Nat),textOf V x=some l/\intOf V lo=some (a:Int)/\intOf V hi=some (b:Int)/\a<=b/\b<=l.length/\z=.str ((l.drop a).take (b - a))
section
variable {U:Program} {w:World} {C:Nat} {Y:Base} {sc:Scope} {d:Nat} {Z aa ah cB:aj} {A:Around} {G:Gh} {s:Shared} {env:Env}
def qc {value:Expr} {lo up:Option Expr} {p pos:Pos} {Q:Value->Shared->Prop} (h:WP U w A (eval value env) s λo ax=>WP U w A (eval (.Slice lo up none p) env) ax λi ay=>
    ∃T id,ay.TypeIs o T/\typeLookup (.type T) "__getitem__"=pure (some (.builtin id))/\WP U w A (getItem o i) ay Q):WP U w A (eval (.Subscript value (.Slice lo up none p) pos) env) s Q:=by
 refine Subscript_ (h.mono λo ax cf=>WP.mono cf λi ay q=>zE q λT id hT hl cP=>?_)
 unfold subscriptTail
 refine eO ?_
 rw[getitemInPython_of_ne hT.not_modules]
 refine eO (wpAny_specialOf hT hl ?_)
 have fin:wpAny (model U w) A (operate [i,o] (getItem o i)) (λr cA=>wpAny (model U w) A (letTemporaryGo value o r >>= λ_=>pure r) Q (λ_ _=>False) cA) (λ_ _=>False) ay:=
  wpAny_operating (WP.mono cP λr cA vD=>eO (wpAny_letTemporaryGo (k5 vD)))
 first
  |exact k5 (eO fin)
  |exact eO (k5 (eO fin))
  |exact eO fin
@[elab_as_elim] def DR.textOf {P:Params} {x:DV} {u:Value} {l:List Nat} {Q:Value->Prop} (hu:DR P G x u) (h:Mine.textOf G.V x=some l) (k:∀t,l.length<=lim->Q (.str ⟨⟨l⟩⟩ t)):Q u:=
  ((Hl G.V x).get h).elim (λe=>(fa e▸hu:DR P G (.str l) u).gg k) λq=>bz q λj e1 e2=>by
    rw[<-e2] at k
    exact(fa e1▸hu:DR P G (.gO j) u).sP k
def G6 {o dx cu:Expr} {p pos:Pos} {x lo hi z:DV} (h₀:aC U w C Y sc d o Z x aa) (cf:aC U w C Y sc d dx aa lo ah) (cP:aC U w C Y sc d cu ah hi cB) (h:Df U w Y.V x lo hi z):
    aC U w C Y sc d (.Subscript o (.Slice (some dx) (some cu) none p) pos) Z z cB:=λA G L s env ro eo R Q k=>e33 h λl a b e1 e2 q=>a4 q λe3 n1 n2 ez=>
 qc (h₀ A G L s env ro eo R _ λaz u ax aB aH aV=>wpAny_Slice (evalPart_some_step (cf A az L ax env ro eo aB _ λaD v ay aE aJ cz=>evalPart_some_step (cP A aD L ay env ro eo aE _ λiJ v' cA cD cL lB=>evalPart_none_step
  ((aV.mono (aJ.aO cL).sub).textOf (l:=l) (cD.val▸e1) λt hz=>(cz.mono cL.sub).intOf (i:=a) (cD.val▸e2) λta=>lB.intOf (i:=b) (cD.val▸e3) λtb=>⟨"str",_,rfl,PySem.F.slot_str_getitem.lookup,wpAny_getItem_str_slice (l:=some ((a:Int),ta)) (u:=some ((b:Int),tb)) (st:=none) ⟨_,Hr _ rfl,rfl,rfl⟩ rfl
    (CY n1 n2 hz λt tk=>k iJ _ _ (cD.push (t:=tk) _) ((aH.aO (aJ.aO cL)).aO (eT (t:=tk) _)) (ez▸⟨t,rfl,DG hz⟩))⟩)))))
def YE {b:List Stmt} {h₀:ExceptHandler} {hs:List ExceptHandler} {pos:Pos} {f:au} (h:aF U w C Y sc d b Z f aa):aU U w C Y sc d (.Try b (h₀::hs) [] [] pos) Z f aa:=λA G L s env ro eo R Q k=>
 wpAny_Try_except (wpAny_mono (h A G L s env ro eo R Q k) (λr ax q=>by
  cases r with
  |next=>exact wpAny_execs_nil q
  |_=>exact q) λ_ _ q=>q.elim)
end
def letGoOf (G:Gh) (a:Addr) (o:Obj):Gh:={pinned G a o with OL:=λb=>G.OL b/\b≠a}
section
variable {U:Program} {w:World} {C:Nat} {Y:Base} {sc:Scope} {d:Nat} {Z:aj} {G:Gh} {L:Addr} {s:Shared}
def Rep.freeze (R:Rep w.params C Y G L Z s) {x:Str} {l:List DV} {a:Addr} {vs:List Value} {n:Nat} {m:Str->Option Value} (hm:s.heap.Ns L m) (hs:cj w.params G s.heap (λa=>G.OL a/\a≠L) Z.loc m) (hx:look Z.loc x=some (.ml l)) (hv:m x=some (.ref a)) (g:s.heap.get? a=some (bG vs n)) (hd:eC w.params G l vs) (hz:vs.length<=lim) (hO:G.OL a) (hL:a≠L):
    Rep w.params C Y (letGoOf G a (bG vs n)) L {Z with loc:=put Z.loc x (.pv (.lst l))} s/\Later G.OA G s (letGoOf G a (bG vs n)) s/\DR w.params (letGoOf G a (bG vs n)) (.lst l) (.ref a):=by
 have p:=ki R.pins g
 have S:Sub G (letGoOf G a (bG vs n)):=⟨rfl,p.g,p.par⟩
 have D:DR w.params (letGoOf G a (bG vs n)) (.lst l) (.ref a):=.lst dq hz (hd.mono S)
 have own:∀b,b≠a->G.g b=none->(letGoOf G a (bG vs n)).g b=none:=λb q e=>(cC q).trans e
 refine⟨⟨R.tocp.gh S rfl (λb o=>oq R.pins g) (λb q=>⟨own b (λe=>R.apart b q (e▸hO)) (R.fL b q).1,(R.fL b q).2⟩) (λb q=>⟨own b q.2 (R.fF b q.1).1,(R.fF b q.1).2⟩) (λb q q'=>R.apart b q q'.1) λ_ q=>q,⟨R.fz,λq=>hL q.symm⟩,m,hm,
  hs.GW x (.pv (.lst l)) _ hv (λ_ _=>rfl) D (λy ky u q e mu h=>h.keep (a:=a) S (λmy z=>q (hs.once y x ky _ e hx my rfl (mu.trans ((aT some z).trans hv.symm)))) (λb o _ _ e=>e) λb o n=>⟨⟨o.1,n⟩,o.2⟩) λq=>ft q⟩,
  .gh S (λb o _ n e=>(cC (λz:b=a=>n (.inr (z▸hO)))).symm.trans e) (λ_ _ q=>q) λ_ _ q=>q.1,D⟩
def nj {x:Str} {pos:Pos} {l:List DV} (hl:sc.names.lookup x=some .local) (hx:look Z.loc x=some (.ml l)) (hd:(x==("__debug__":Str))=false):aC U w C Y sc d (.Name x pos) Z (.lst l) {Z with loc:=put Z.loc x (.pv (.lst l))}:=λA G L s env ro eo R Q k=>
 kb eo R hl hx hd λm u hm hu hs q=>gm q λa vs n q=>a5 q λe g hd hz o=>a3 (R.freeze hm hs hx (hu.trans (aT some e)) g hd hz o.1 o.2) λh1 h2 h3=>k _ u _ h1 h2 (e▸h3)
end
abbrev bU:=Option (List (Str×ae))
inductive Src where
 |arg (i:Nat) |kw (i:Nat) |dv (v:DV) (u:Value)
def Src.val (vs ks:List Value) (r:Src):Value:=Src.casesOn (motive:=λ_=>Value) r (vs.getD · .none) (ks.getD · .none) λ_ u=>u
def Src.get (args:List DV) (kw:List (Str×DV)) (r:Src):Option DV:=Src.casesOn (motive:=λ_=>Option DV) r (args[·]?) (λi=>(kw[i]?).map (·.2)) λv _=>some v
structure k6 where
 f:Nat
 n:Nat
 da:List Str
 out:List (Str×Src)
structure tp where
 K:Frag
 fns:Nat->Bool
 pure:Nat->Bool
 dim:Nat->Bool
 rows:List k6
 yO:Nat->Option Nat
 glob:Str->Option DV
 kept:Nat->Bool
 nE:Str->Option Value
 yj:Str->Bool
 vf:Nat->Str->Bool
 bj:Nat->Str->Option Nat
 ye:Nat->Bool
 RX:Nat->Str->Bool
 uG:Nat->Str->Option DV
 CJ:Nat->Str->Bool
 GY:Nat->Str->Option DV
 Fx:Nat->Str->Option DV
 cmp:CmpOp->DV->DV->Option Bool
 bin:Operator->DV->DV->Option DV
 MY:Operator->DV->DV->Option DV
 sub:DV->DV->Option DV
 sl:DV->DV->DV->Option DV
 TN:Value->List DV->Option Res
 spec:Nat->Nat->Nat->List DV->List (Str×DV)->bU->Option (DV×bU)
structure Cx where
 B:tp
 C:Nat
 sc:Scope
 code:Nat->List DV->List (Str×DV)->bU->Option (DV×bU)
structure HM where
 E:Expr->aj->Option (Res×aj)
 T:Expr->aj->Option (Bool×aj)
 X:Stmt->aj->Option (au×aj)
def QC (x:DV):Option Str:=(iE x).bind λx=>some ⟨⟨x⟩⟩
def mW (x:DV):Option Nat:=aZ (NX x) (fnD x) some
def dJ {α:Type} (l:List α):Option α:=List.casesOn (motive:=λ_=>Option α) l none λa r=>List.casesOn (motive:=λ_=>Option α) r (some a) λ_ _=>none
def two2 {α:Type} (l:List α):Option (α×α):=List.casesOn (motive:=λ_=>Option (α×α)) l none λa r=>(dJ r).bind λb=>some (a,b)
def ve:Expr->Option (Expr×Str×Pos):=iP Expr.ctorIdx 20 λe h=>@Expr.Attribute.elim (λ_=>Expr×Str×Pos) e h λo x p=>(o,x,p)
def gg (e:Expr):Option Str:=(iP Expr.ctorIdx 19 (λe h=>@Expr.Constant.elim (λ_=>Const) e h λc _ _=>c) e).bind (iP Const.ctorIdx 5 λc h=>@Const.str.elim (λ_=>Str) c h id)
def mF:Expr->Option (List Expr):=iP Expr.ctorIdx 25 λe h=>@Expr.Tuple.elim (λ_=>List Expr) e h λes _ _=>es
def uQ:Expr->Option (Expr×Expr):=iP Expr.ctorIdx 21 λe h=>@Expr.Subscript.elim (λ_=>Expr×Expr) e h λo i _=>(o,i)
def mX (k:NameKind):Bool:=Nat.beq k.ctorIdx 0
def gX {α:Type} (o:Option α) (f:α->Bool):Bool:=Option.rec (motive:=λ_=>Bool) false f o
section
variable (X:Cx) (F:HM)
def fO (x:Str):Bool:=gX (aS X.sc.names x) mX
def lq (x:Str):Bool:=gX (aS X.sc.names x) λk=>Nat.beq k.ctorIdx 4
def g8 (Z:aj) (p:Pl):Option ae:=Pl.rec (motive:=λ_=>Option ae) (aS Z.loc) (λx=>Z.aq.bind λas=>aS as x) p
def wu (Z:aj) (k:ae) (p:Pl):aj:=Pl.rec (motive:=λ_=>aj) (λx=>⟨Z.aq,bS Z.loc x k⟩) (λx=>⟨Z.aq.map λas=>bS as x k,Z.loc⟩) p
def Rp (aq:bU) (v:DV) (x:Str):Option DV:=
 aZ (uo v) (bif o6 v then aq.bind λas=>aZ (aS as x) (aZ (X.B.bj X.C x) (X.B.uG X.C x) λf=>some (.bj f)) λk=>bif X.B.vf X.C x then uE k else none
  else(NX v).bind λc=>X.B.Fx c x) λp=>aZ (aS p.2 x) (X.B.GY p.1 x) λz=>bif X.B.CJ p.1 x then some z else none
def pF (Z:aj) (y x:Str):bU:=bif fO X y then bif X.B.vf X.C x then((aS Z.loc y).bind uE).bind λv=>bif o6 v then Z.aq else none else none else none
def Fn (e:Expr):Option (Str×Str):=(ve e).bind λq=>(dW q.1).bind λy=>some (y,q.2.1)
def evR (Z:aj) (e:Expr):Option DV:=
 aZ (dW e) ((Fn e).bind λq=>(pF X Z q.1 q.2).bind λas=>(aS as q.2).bind uE) λx=>bif fO X x then(aS Z.loc x).bind uE else none
def placeOf (Z:aj) (e:Expr):Option Pl:=
 aZ (dW e) ((Fn e).bind λq=>(pF X Z q.1 q.2).bind λas=>(aS as q.2).bind λk=>bif k.mut then some (.aq q.2) else none)
  λx=>bif fO X x then(aS Z.loc x).bind λk=>bif k.mut then some (.loc x) else none else none
def vp (es:List Expr):aj->Option (List DV×aj):=
 List.rec (motive:=λ_=>aj->Option (List DV×aj)) (λZ=>some ([],Z)) (λe _ ih Z=>bif noStar e then(F.E e Z).bind λp=>(ih p.2).bind λq=>some (p.1.rest::q.1,q.2) else none) es
def evK (ks:List Keyword):aj->Option (List (Str×DV)×aj):=
 List.rec (motive:=λ_=>aj->Option (List (Str×DV)×aj)) (λZ=>some ([],Z)) (λk _ ih Z=>k.arg.bind λx=>(F.E k.value Z).bind λp=>(ih p.2).bind λq=>some ((x,p.1.rest)::q.1,q.2)) ks
def Nm {κ:Type} (f:DV->Option κ) (l:List (DV×DV)):Option (List (κ×DV)):=
 List.rec (motive:=λ_=>Option (List (κ×DV))) (some []) (λp _ ih=>(f p.1).bind λi=>ih.bind λr=>some ((i,p.2)::r)) l
def q6:List (DV×DV)->Option (List (Int×DV)):=Nm intD
def Dl:List (DV×DV)->Option (List (Str×DV)):=Nm QC
def dictGet (l:List (DV×DV)) (k:DV):Option (Option DV):=
 aZ (intD k) ((QC k).bind λx=>(Dl l).bind λl'=>bif decide (l'.map (·.1)).Nodup then some (fY l' x) else none)
  λi=>(q6 l).bind λl'=>bif decide (l'.map (·.1)).Nodup then some (fY l' i) else none
def dictPut (l:List (DV×DV)) (k v:DV):Option (List (DV×DV)):=
 aZ (intD k) ((QC k).bind λx=>(Dl l).bind λl'=>bif decide (l'.map (·.1)).Nodup then bif Nat.ble l'.length 1000 then some (dl MZ (j1 l' x v)) else none else none)
  λi=>(q6 l).bind λl'=>bif decide (l'.map (·.1)).Nodup then bif Nat.ble l'.length 1000 then some (dl .int (j1 l' i v)) else none else none
def dictDel (l:List (DV×DV)) (k:DV):Option (List (DV×DV)):=
 (intD k).bind λi=>(q6 l).bind λl'=>bif decide (l'.map (·.1)).Nodup then bif Nat.ble l'.length 1000 then bif (fY l' i).isSome then some (dl .int (FD l' i)) else none else none else none
def RU:Str:="join"
def acb:Str:="pop"
def Ef:Str:="append"
def Eg:Str:="extend"
def PA:Str:="insert"
def xE (o:Expr) (x:Str) (args:List Expr) (da:List Keyword) (Z:aj):Option (Res×aj):=
 (F.E o Z).bind λs0=>bif o6 s0.1.rest then s0.2.aq.bind λas=>aZ (aS as x)
   ((X.B.bj X.C x).bind λf=>(vp F args s0.2).bind λa=>(evK F da a.2).bind λk=>(X.code f (.self::a.1) k.1 k.2.aq).bind λr=>some (.pv r.1,⟨r.2,k.2.loc⟩))
   λk=>(uE k).bind λv=>(J4 v).bind λf=>bif da.isEmpty then bif X.B.RX X.C x then bif X.B.ye f then(vp F args s0.2).bind λa=>(X.code f (.self::a.1) [] a.2.aq).bind λr=>some (.pv r.1,⟨r.2,a.2.loc⟩) else none else none else none else none
def ZW (p:Pl):Option Str:=Pl.rec (motive:=λ_=>Option Str) (λ_=>none) some p
def acM (vs:List DV) (n:Nat):Option Nat:=bif vs.isEmpty then some (n - 1) else(dJ vs).bind λv=>(intD v).bind λi=>bif decide (0<=i) then some i.toNat else none
def DC (p:Pl) (x:Str) (args:List Expr) (da:List Keyword) (Z:aj):Option (Res×aj):=
 (ZW p).bind λy=>bif cU x acb then bif fq.contains y then bif da.isEmpty then((g8 Z (.aq y)).bind vQ).bind λ_=>(vp F args Z).bind λa=>((g8 a.2 (.aq y)).bind vQ).bind λl=>
   (acM a.1 l.length).bind λi=>(l[i]?).bind λz=>some (.pv z,wu a.2 (.ml (l.eraseIdx i)) (.aq y)) else none else none else none
def xC (sep x:Str) (args:List Expr) (da:List Keyword) (Z:aj):Option (Res×aj):=
 bif cU x RU then bif da.isEmpty then(dJ args).bind λe=>bif noStar e then(placeOf X Z e).bind λp=>((g8 Z p).bind vQ).bind λl=>(strsOf l).bind λss=>
  bif Nat.ble (cZ ss+ss.length*sep.cps.toList.length) 4194304 then some (.pv (.str (gU sep.cps.toList ss)),Z) else none else none else none else none
def Ib (x:Str) (args:List Expr) (Z:aj):Option (Res×aj):=(X.B.nE x).bind λf=>(vp F args Z).bind λv=>(X.B.TN f v.1).bind λr=>some (r,v.2)
def xG (x:Str) (p:Pos) (args:List Expr) (da:List Keyword) (Z:aj):Option (Res×aj):=
 bif fO X x||(X.B.glob x).isSome then
  (F.E (.Name x p) Z).bind λf=>(mW f.1.rest).bind λa=>bif X.B.kept a then(vp F args f.2).bind λv=>(evK F da v.2).bind λk=>(X.code a v.1 k.1 k.2.aq).bind λr=>some (.pv r.1,⟨r.2,k.2.loc⟩) else none
 else bif lq X x then bif da.isEmpty then
  bif X.B.yj x then(dJ args).bind λe=>bif noStar e then aZ (placeOf X Z e) (Ib X F x args Z) λp=>((g8 Z p).bind vQ).bind λl=>some (.pv (.int l.length),Z) else none
  else Ib X F x args Z else none else none
def zc (f:Expr) (args:List Expr) (da:List Keyword) (pos:Pos) (Z:aj):Option (Res×aj):=
 aZ (ve f) ((dW f).bind λx=>xG X F x f.pos args da Z) λq=>bif cS q.1 then bif dR args da q.2.2 pos then aZ (gg q.1) (aZ (placeOf X Z q.1) (xE X F q.1 q.2.1 args da Z) λp=>DC F p q.2.1 args da Z)
  λsep=>xC X sep q.2.1 args da Z else none else none
def H7 (op:BoolOp) (es:List Expr):aj->Option (DV×aj):=
 List.rec (motive:=λ_=>aj->Option (DV×aj)) (λ_=>none) (λe r ih Z=>(F.E e Z).bind λp=>List.casesOn (motive:=λ_=>Option (DV×aj)) r (some (p.1.rest,p.2)) λ_ _=>(mE p.1.rest).bind λc=>BoolOp.casesOn (motive:=λ_=>Option (DV×aj)) op (bif c then ih p.2 else some (p.1.rest,p.2)) (bif c then some (p.1.rest,p.2) else ih p.2)) es
def ER (o i:Expr) (Z:aj):Option (Res×aj):=
 bif eG i then aZ (placeOf X Z o) ((F.E o Z).bind λp=>(F.E i p.2).bind λq=>(X.B.sub p.1.rest q.1.rest).bind λz=>some (.pv z,q.2))
  λp=>aZ ((g8 Z p).bind RQ) (bif p.fix then(F.E i Z).bind λq=>(intD q.1.rest).bind λk=>((g8 q.2 p).bind vQ).bind λl=>(idx k l.length).bind λn=>(l[n]?).bind λz=>some (.pv z,q.2) else none)
   λl=>(evR X Z i).bind λk=>(dictGet l k).bind λz=>z.bind λz=>some (.pv z,Z) else none
def uO (o a b:Expr) (Z:aj):Option (Res×aj):=
 (F.E o Z).bind λp=>(F.E a p.2).bind λq=>(F.E b q.2).bind λr=>(X.B.sl p.1.rest q.1.rest r.1.rest).bind λz=>some (.pv z,r.2)
def Me:Expr->Option (Option Expr×Option Expr×Option Expr):=iP Expr.ctorIdx 26 λe h=>@Expr.Slice.elim (λ_=>Option Expr×Option Expr×Option Expr) e h λa b c _=>(a,b,c)
def sliceOf (e:Expr):Option (Expr×Expr):=(Me e).bind λq=>q.1.bind λa=>q.2.1.bind λb=>bif q.2.2.isNone then some (a,b) else none
def mh (c:Const) (Z:aj):Option (Res×aj):=
 @Const.casesOn (λ_=>Option (Res×aj)) c (some (.pv .none,Z)) (λb=>some (.pv (.bool b),Z)) (λi=>some (.pv (.int i),Z)) (λ_=>none) (λ_ _=>none) (λx=>bif Nat.ble x.cps.toList.length 4194304 then some (.pv (.str x.cps.toList),Z) else none) (λ_=>none) none
def zg (x:Str) (Z:aj):Option (Res×aj):=
 bif fO X x then aZ ((aS Z.loc x).bind uE) (((aS Z.loc x).bind vQ).bind λl=>some (.pv (.lst l),⟨Z.aq,bS Z.loc x (.pv (.lst l))⟩)) λv=>some (.pv v,Z) else bif lq X x then(X.B.glob x).bind λv=>some (.pv v,Z) else none
def Mx (a:Expr) (oj om:CmpOp) (b c:Expr) (Z:aj):Option (Bool×aj):=
 bif lastMarks [oj,om] [b,c] then none else(F.E a Z).bind λp=>(F.E b p.2).bind λq=>(X.B.cmp oj p.1.rest q.1.rest).bind λz=>
  bif z then(F.E c q.2).bind λr=>(X.B.cmp om q.1.rest r.1.rest).bind λy=>some (y,r.2) else some (false,q.2)
def Si (e:Expr) (Z:aj):Option (Res×aj):=
 @Expr.casesOn (λ_=>Option (Res×aj)) e (λop es _=>(H7 F op es Z).bind λp=>some (.pv p.1,p.2)) (λ_ _ _=>none)
  (λa op b _=>(F.E a Z).bind λp=>(F.E b p.2).bind λq=>(X.B.bin op p.1.rest q.1.rest).bind λz=>some (.pv z,q.2))
  (λop a _=>bif Nat.beq op.ctorIdx 1 then(F.E a Z).bind λp=>(mE p.1.rest).bind λb=>some (.pv (.bool (!b)),p.2) else bif Nat.beq op.ctorIdx 3 then(F.E a Z).bind λp=>(intD p.1.rest).bind λi=>some (.pv (.int (-i)),p.2) else none)
  (λ_ _ _ _=>none) (λt a b _=>(F.T t Z).bind λp=>bif p.1 then F.E a p.2 else F.E b p.2) (λks vs _=>bif ks.isEmpty then bif vs.isEmpty then some (.fd [],Z) else none else none)
  (λ_ _ _=>none) (λ_ _ _ _=>none) (λ_ _ _ _=>none) (λ_ _ _ _ _=>none) (λ_ _ _ _=>none) (λ_ _=>none) (λ_ _=>none) (λ_ _=>none)
  (λa ops bs _=>aZ (dJ ops) ((two2 ops).bind λo=>(two2 bs).bind λb=>(Mx X F a o.1 o.2 b.1 b.2 Z).bind λp=>some (.pv (.bool p.1),p.2)) λop=>(dJ bs).bind λb=>bif behindInMarks op b then none else(F.E a Z).bind λp=>(F.E b p.2).bind λq=>(X.B.cmp op p.1.rest q.1.rest).bind λz=>some (.pv (.bool z),q.2))
  (λf args da pos=>zc X F f args da pos Z) (λ_ _ _ _=>none) (λ_ _=>none) (λc _ _=>mh c Z) (λo x _=>bif ma o then(F.E o Z).bind λp=>(Rp X p.2.aq p.1.rest x).bind λz=>some (.pv z,p.2) else none)
  (λo i _=>aZ (sliceOf i) (ER X F o i Z) λq=>uO X F o q.1 q.2 Z) (λ_ _=>none) (λx _=>zg X x Z) (λes _=>(vp F es Z).bind λp=>bif Nat.ble p.1.length 1000 then some (.fl p.1,p.2) else none)
  (λes _ _=>(vp F es Z).bind λp=>bif Nat.ble p.1.length 1000 then some (.pv (.tup p.1),p.2) else none) λ_ _ _ _=>none
def Ni (es:List Expr):aj->Option (Bool×aj):=List.rec (motive:=λ_=>aj->Option (Bool×aj)) (λZ=>some (true,Z)) (λe _ ih Z=>(F.T e Z).bind λp=>bif p.1 then ih p.2 else some (false,p.2)) es
def orT (es:List Expr):aj->Option (Bool×aj):=List.rec (motive:=λ_=>aj->Option (Bool×aj)) (λZ=>some (false,Z)) (λe _ ih Z=>(F.T e Z).bind λp=>bif p.1 then some (true,p.2) else ih p.2) es
def C7 (e:Expr):Bool:=Nat.ble 19 e.ctorIdx&&(Nat.ble e.ctorIdx 21||Nat.beq e.ctorIdx 23)||Nat.beq e.ctorIdx 16
def Su (e:Expr) (Z:aj):Option (Bool×aj):=
 bif C7 e then aZ (placeOf X Z e) ((F.E e Z).bind λp=>(mE p.1.rest).bind λb=>some (b,p.2)) λp=>(g8 Z p).bind λk=>(MC k).bind λb=>some (b,Z) else none
def aa8 (op:CmpOp):Option (Bool->Bool):=bif Nat.beq op.ctorIdx 8 then some id else bif Nat.beq op.ctorIdx 9 then some not else none
def Ss (a:Expr) (op:CmpOp) (b:Expr) (Z:aj):Option (Bool×aj):=
 bif behindInMarks op b then none else(F.E a Z).bind λp=>aZ (placeOf X p.2 b) ((F.E b p.2).bind λq=>(X.B.cmp op p.1.rest q.1.rest).bind λz=>some (z,q.2))
  λpl=>(aa8 op).bind λc=>((g8 p.2 pl).bind RQ).bind λl=>(dictGet l p.1.rest).bind λz=>some (c z.isSome,p.2)
def XA:Expr->Option (UnaryOp×Expr):=iP Expr.ctorIdx 3 λe h=>@Expr.UnaryOp.elim (λ_=>UnaryOp×Expr) e h λop a _=>(op,a)
def k9:Expr->Option (BoolOp×List Expr):=iP Expr.ctorIdx 0 λe h=>@Expr.BoolOp.elim (λ_=>BoolOp×List Expr) e h λop a _=>(op,a)
def N1:Expr->Option (Expr×List CmpOp×List Expr):=iP Expr.ctorIdx 15 λe h=>@Expr.Compare.elim (λ_=>Expr×List CmpOp×List Expr) e h λa ops bs _=>(a,ops,bs)
def stepT (e:Expr) (Z:aj):Option (Bool×aj):=
 aZ (XA e) (aZ (k9 e) (aZ (N1 e) (Su X F e Z) λq=>aZ (dJ q.2.1) ((two2 q.2.1).bind λo=>(two2 q.2.2).bind λb=>Mx X F q.1 o.1 o.2 b.1 b.2 Z) λop=>(dJ q.2.2).bind λb=>Ss X F q.1 op b Z)
  λq=>BoolOp.casesOn (motive:=λ_=>Option (Bool×aj)) q.1 (Ni F q.2 Z) (orT F q.2 Z)) λq=>bif Nat.beq q.1.ctorIdx 1 then(F.T q.2 Z).bind λp=>some (!p.1,p.2) else none
def cg (l:List Stmt):aj->Option (au×aj):=
 List.rec (motive:=λ_=>aj->Option (au×aj)) (λZ=>some (.next,Z)) (λst _ ih Z=>(F.X st Z).bind λp=>bif p.1.p7 then some p else ih p.2) l
def goF (ih:aj->Option (au×aj)) (q:au×aj):Option (au×aj):=au.casesOn (motive:=λ_=>Option (au×aj)) q.1 (ih q.2) (some (.next,q.2)) (ih q.2) λv=>some (.ret v,q.2)
def JY (t:Expr) (b:List Stmt) (n:Nat):aj->Option (au×aj):=
 Nat.rec (motive:=λ_=>aj->Option (au×aj)) (λ_=>none) (λ_ ih Z=>(F.T t Z).bind λp=>bif p.1 then(cg F b p.2).bind (goF ih) else some (.next,p.2)) n
def ym (x:Str) (b:List Stmt) (vs:List DV):aj->Option (au×aj):=
 List.rec (motive:=λ_=>aj->Option (au×aj)) (λZ=>some (.next,Z)) (λv _ ih Z=>(cg F b ⟨Z.aq,bS Z.loc x (.pv v)⟩).bind (goF ih)) vs
def EP (p:Pl) (x:Str) (args:List Expr) (Z:aj):Option (au×aj):=
 bif p.fix then((g8 Z p).bind vQ).bind λ_=>
  aZ (dJ args) (bif cU x PA then(two2 args).bind λe=>(vp F [e.1,e.2] Z).bind λa=>(two2 a.1).bind λv=>(intD v.1).bind λi=>((g8 a.2 p).bind vQ).bind λl=>
   bif decide (0<=i) then bif Nat.ble i.toNat l.length then bif Nat.ble l.length 1000 then some (.next,wu a.2 (.ml (l.take i.toNat++v.2::l.drop i.toNat)) p) else none else none else none else none)
   λe=>(F.E e Z).bind λq=>bif cU x Ef then((g8 q.2 p).bind vQ).bind λl=>bif Nat.ble l.length 1000 then some (.next,wu q.2 (.ml (l++[q.1.rest])) p) else none
    else bif cU x Eg then(yn q.1.rest).bind λl'=>((g8 q.2 p).bind vQ).bind λl=>bif Nat.ble (l.length+l'.length) 1000 then some (.next,wu q.2 (.ml (l++l')) p) else none else none else none
def qO (v:Expr) (Z:aj):Option (au×aj):=bif cY v then(F.E v Z).bind λp=>some (.next,p.2) else none
def wg (e:Expr):Bool:=Nat.beq e.ctorIdx 16||(Nat.beq e.ctorIdx 20||(Nat.beq e.ctorIdx 23||Nat.beq e.ctorIdx 24))
def si (e:Expr):Bool:=!Nat.beq e.ctorIdx 25
def p6 (t v:Expr) (Z:aj):Option (au×aj):=
 bif cY v then(F.E v Z).bind λp=>aZ (dW t) (aZ (Fn t) (aZ (uQ t)
     ((mF t).bind λes=>bif si v then(zr p.1.rest).bind λvs=>(names X.sc es).bind λxs=>bif Nat.beq xs.length vs.length then some (.next,⟨p.2.aq,putAll p.2.loc xs vs⟩) else none else none)
     λq=>(placeOf X p.2 q.1).bind λpl=>((g8 p.2 pl).bind RQ).bind λl=>(evR X p.2 q.2).bind λk=>(dictPut l k p.1.rest).bind λl'=>some (.next,wu p.2 (.md l') pl))
     λq=>(pF X p.2 q.1 q.2).bind λas=>bif Nat.ble as.length 900 then bif !fq.contains q.2||(aS as q.2).isNone then some (.next,⟨some (bS as q.2 p.1.slot),p.2.loc⟩) else none else none)
  λx=>bif fO X x then some (.next,⟨p.2.aq,bS p.2.loc x p.1.slot⟩) else none else none
def nC (v:Expr):Option (Expr×Str×Pos×List Expr×Pos):=(gR v).bind λc=>(ve c.1).bind λa=>bif c.2.2.1.isEmpty then some (a.1,a.2.1,a.2.2,c.2.1,c.2.2.2) else none
def ze (v:Expr) (Z:aj):Option (au×aj):=
 aZ (nC v) (qO F v Z) λq=>aZ (placeOf X Z q.1) (qO F v Z) λp=>bif cU q.2.1 acb then qO F v Z else bif cS q.1 then bif dR q.2.2.2.1 [] q.2.2.1 q.2.2.2.2 then EP F p q.2.1 q.2.2.2.1 Z else none else none
def three (l:List Expr):Option (Expr×Expr×Expr):=List.casesOn (motive:=λ_=>Option (Expr×Expr×Expr)) l none λa r=>(two2 r).bind λb=>some (a,b)
def Ga (e:Expr):Option Str:=(dW e).bind λx=>bif fO X x then some x else none
def sQ (ts:List Expr) (v:Expr) (Z:aj):Option (au×aj):=
 aZ (dJ ts) (aZ (two2 ts) ((three ts).bind λq=>(Ga X q.1).bind λx=>(Ga X q.2.1).bind λy=>(Ga X q.2.2).bind λz=>(F.E v Z).bind λp=>some (.next,⟨p.2.aq,bS (bS (bS p.2.loc x (.pv p.1.rest)) y (.pv p.1.rest)) z (.pv p.1.rest)⟩))
  λq=>(Ga X q.1).bind λx=>(Ga X q.2).bind λy=>(F.E v Z).bind λp=>some (.next,⟨p.2.aq,bS (bS p.2.loc x (.pv p.1.rest)) y (.pv p.1.rest)⟩)) λt=>p6 X F t v Z
def y9 (x:Str) (op:Operator) (e:Expr) (Z:aj):Option (au×aj):=
 bif fO X x then((aS Z.loc x).bind uE).bind λv=>(F.E e Z).bind λp=>(X.B.MY op v p.1.rest).bind λz=>some (.next,⟨p.2.aq,bS p.2.loc x (.pv z)⟩) else none
def y7 (y x:Str) (op:Operator) (e:Expr) (Z:aj):Option (au×aj):=
 (pF X Z y x).bind λas=>((aS as x).bind uE).bind λv=>(F.E e Z).bind λp=>(X.B.MY op v p.1.rest).bind λz=>p.2.aq.bind λvb=>bif Nat.ble vb.length 900 then bif fq.contains x then none else some (.next,⟨some (bS vb x (.pv z)),p.2.loc⟩) else none
def flR (r:Res):Option (List DV):=Res.rec (motive:=λ_=>Option (List DV)) yn some (λ_=>none) r
def EO (x:Str) (it:Expr) (b:List Stmt) (Z:aj):Option (au×aj):=
 bif fO X x then bif wg it then(F.E it Z).bind λp=>aZ (flR p.1) ((IB p.1.rest).bind λl=>aZ (q6 l)
     ((Dl l).bind λl'=>bif decide (l'.map (·.1)).Nodup then ym F x b (l'.map λq=>MZ q.1) p.2 else none)
     λl'=>bif decide (l'.map (·.1)).Nodup then ym F x b (l'.map λq=>.int q.1) p.2 else none) λvs=>ym F x b vs p.2 else none else none
def EN (o i:Expr) (Z:aj):Option (au×aj):=
 (placeOf X Z o).bind λpl=>((g8 Z pl).bind RQ).bind λl=>(evR X Z i).bind λk=>(dictDel l k).bind λl'=>some (.next,wu Z (.md l') pl)
def Sj (st:Stmt) (Z:aj):Option (au×aj):=
 @Stmt.casesOn (λ_=>Option (au×aj)) st (λ_ _ _ _ _ _ _ _ _ _=>none) (λ_ _ _ _ _ _ _ _ _ _=>none) (λ_ _ _ _ _ _ _ _ _ _ _=>none) (λo _=>aZ o (some (.ret .none,Z)) λe=>(F.E e Z).bind λp=>some (.ret p.1.rest,p.2))
  (λts _=>(dJ ts).bind λt=>(uQ t).bind λq=>EN X q.1 q.2 Z) (λts v _=>sQ X F ts v Z) (λ_ _ _ _ _ _ _=>none) (λt op e _=>aZ (dW t) ((Fn t).bind λq=>y7 X F q.1 q.2 op e Z) λx=>y9 X F x op e Z) (λ_ _ _ _ _=>none)
  (λt it b o _=>bif o.isEmpty then(dW t).bind λx=>EO X F x it b Z else none) (λ_ _ _ _ _=>none) (λt b o _=>bif o.isEmpty then JY F t b 400 Z else none) (λt b o _=>(F.T t Z).bind λp=>bif p.1 then cg F b p.2 else cg F o p.2)
  (λ_ _ _=>none) (λ_ _ _=>none) (λ_ _ _=>none) (λ_ _ _=>none) (λb hs os fs _=>bif !hs.isEmpty then bif os.isEmpty then bif fs.isEmpty then cg F b Z else none else none else none) (λ_ _ _ _ _=>none) (λt _ _=>(F.T t Z).bind λp=>bif p.1 then some (.next,p.2) else none)
  (λ_ _=>none) (λ_ _ _ _=>none) (λ_ _=>none) (λ_ _=>none) (λv _=>ze X F v Z) (λ_=>some (.next,Z)) (λ_=>some (.brk,Z)) λ_=>some (.cont,Z)
def Oh (n:Nat):HM:=Nat.rec ⟨λ_ _=>none,λ_ _=>none,λ_ _=>none⟩ (λ_ F=>⟨Si X F,stepT X F,Sj X F⟩) n
end
def Rw {α:Type} {c:Bool} {a:Option α} {b:α} (h:(bif c then a else none)=some b):c=true/\a=some b:=by cases c;exact ns h;exact⟨rfl,h⟩
def pR {α β:Type} {o:Option α} {f:α->Option β} {b:β} (h:o.bind f=some b):∃a,o=some a/\f a=some b:=Option.bind_eq_some_iff.mp h
structure Zb where
 body:List Stmt
 sc:Scope
def RB:Data->Option FuncData:=iP Data.ctorIdx 7 λv h=>@Data.func.elim (λ_=>FuncData) v h id
def I9:∀v:Data,On (λp=>.func p=v) (RB v):=cH .func λv h=>@Data.func.elim (λv=>∀h,Data.func (@Data.func.elim (λ_=>FuncData) v h id)=v) v h (λ_ _=>rfl) h
def fdOf (K:Frag) (f:Nat):Option FuncData:=(K.lookup f).bind λo=>RB o.data
def bodyOf:FuncBody->Option (List Stmt):=iP FuncBody.ctorIdx 0 λv h=>@FuncBody.stmts.elim (λ_=>List Stmt) v h id
def Ft (b:FuncBody):On (λl=>b=.stmts l) (bodyOf b):=(cH FuncBody.stmts (λv h=>@FuncBody.stmts.elim (λv=>∀h,FuncBody.stmts (@FuncBody.stmts.elim (λ_=>List Stmt) v h id)=v) v h (λ_ _=>rfl) h) b).up λ_ h=>h.symm
def qh (K:Frag) (f:Nat):Option Zb:=(fdOf K f).bind λfd=>(bodyOf fd.body).bind λb=>some ⟨b,fd.scope⟩
def K1:Str:="__debug__"
def IV (K:Frag) (fd:FuncData):Bool:=codeIn K fd.code fd.qualname&&(Nat.beq fd.globals mainGlobals&&(Nat.beq fd.builtins builtinsNs&&(fd.scope.names.all (λx=>!Nat.beq x.2.ctorIdx 1&&!cU x.1 K1)&&(!fd.scope.isCoroutine&&(!fd.scope.isGenerator&&Nat.beq fd.scope.kind.ctorIdx 1)))))
def Ai (K:Frag) (f:Nat):Bool:=gX (fdOf K f) (IV K)
def Sg (r:k6) (fd:FuncData):Bool:=r.out.all (λx=>gX (aS fd.scope.names x.1) mX)&&decide (r.out.map (·.1)).Nodup
def wk (K:Frag) (r:k6):Bool:=gX (fdOf K r.f) (Sg r)
structure ZH (K:Frag) (fd:FuncData):Prop where
 cd:codeIn K fd.code fd.qualname=true
 gl:fd.globals=mainGlobals
 bt:fd.builtins=builtinsNs
 nm:∀x∈fd.scope.names,x.2≠.cell/\(x.1==("__debug__":Str))=false
 co:fd.scope.isCoroutine=false
 ge:fd.scope.isGenerator=false
 kd:fd.scope.kind=.function
def iy {b:Bool} (h:(!b)=true):b=false:=by cases b;rfl;exact ft h
def Di {α:Type} {o:Option α} {f:α->Bool} {a:α} (h:gX o f=true) (e:o=some a):f a=true:=by subst e;exact h
def dM {α:Type} {o:Option α} {f:α->Bool} (h:gX o f=true):∃a,o=some a/\f a=true:=by cases o;exact ft h;exact⟨_,rfl,h⟩
def o5 {k:NameKind} (h:mX k=true):.local=k:=by cases k<;>first|rfl|exact ft h
def OZ {k:NameKind} (h:Nat.beq k.ctorIdx 4=true):.globalImplicit=k:=by cases k<;>first|rfl|exact ft h
def pV {k:ScopeKind} (h:Nat.beq k.ctorIdx 1=true):k=.function:=by cases k<;>first|rfl|exact ft h
def FJ {K:Frag} {fd:FuncData} (h:IV K fd=true):ZH K fd:=
 a2 (aw h) λg1 h=>a2 (aw h) λg2 h=>a2 (aw h) λg3 h=>a2 (aw h) λg4 h=>a2 (aw h) λg5 h=>a2 (aw h) λg6 g7=>
 ⟨g1,iS g2,iS g3,λx hx=>a2 (aw (gk.mp g4 x hx)) λa b=>⟨λe=>ft ((aT (λk:NameKind=>!Nat.beq k.ctorIdx 1) e).symm.trans a),HE.mpr (i9 (iy b))⟩,iy g5,iy g6,pV g7⟩
def uf {K:Frag} {f:Nat} {fd:FuncData} (h:Ai K f=true) (e:fdOf K f=some fd):ZH K fd:=FJ (Di h e)
def CM {K:Frag} {r:k6} {fd:FuncData} (h:wk K r=true) (e:fdOf K r.f=some fd):(∀x∈r.out,fd.scope.names.lookup x.1=some .local)/\(r.out.map (·.1)).Nodup:=
 a2 (aw (Di (f:=Sg r) h e)) λa b=>⟨λx hx=>bz (dM (gk.mp a x hx)) λk e h=>(g9 ..).symm.trans (e.trans (aT some (o5 h).symm)),mQ b⟩
def DN (K:Frag) (f:Nat):On (λfd=>∃o,K.lookup f=some o/\o.data=.func fd) (fdOf K f):=(aY (K.lookup f)).b λo e=>(I9 o.data).up λfd h=>⟨o,e,h.symm⟩
def yP (K:Frag) (r:k6):Prop:=∀(S:Setting) (fd:FuncData) (vs ks:List Value),fdOf K r.f=some fd->vs.length=r.n->ks.length=r.da.length->peek K S (bindArgs fd ⟨vs,r.da.zip ks⟩)=some (r.out.map λp=>(p.1,p.2.val vs ks))
def Qd (P:Params) (Y:Heap) (r:k6):Prop:=∀x v u,(x,Src.dv v u)∈r.out->∀G:Gh,(∀b o,Y.get? b=some o->G.g b=some o)->DR P G v u
structure TabsOk (U:Program) (w:World) (Y:Base) (B:tp):Prop where
 T:cQ B.K Y
 fns:∀f,B.fns f=true->Ai B.K f=true
 rows:∀r∈B.rows,wk B.K r=true/\yP B.K r/\Qd w.params Y.hp r
 yO:∀c fI,B.yO c=some fI->lY B.K c fI=true
 glob:∀x v,B.glob x=some v->∃u,nsIn B.K mainGlobals x=some (some u)/\∀G:Gh,(∀b o,Y.hp.get? b=some o->G.g b=some o)->DR w.params G v u
 kept:∀a,B.kept a=true->keepIn B.K (.ref a)=true
 nE:∀x f,B.nE x=some f->nsIn B.K mainGlobals x=some none/\bootBuiltins x=some f/\(x==("__name__":Str))=false/\noRef f=true
 yj:∀x,B.yj x=true->B.nE x=some (.builtin "len")
 vf:∀C x,B.vf C x=true->bN B.K C=true/\d8 B.K C x=true/\hG B.K C x=true
 bj:∀C x f,B.bj C x=some f->CP B.K C x f=true/\oy B.K C x f=true
 ye:∀f,B.ye f=true->fnIn B.K f=true
 RX:∀C x,B.RX C x=true->v3 B.K C x=true
 uG:∀C x v,B.uG C x=some v->∃u,bN B.K C=true/\jl B.K C x u=true/\∀G:Gh,(∀b o,Y.hp.get? b=some o->G.g b=some o)->DR w.params G v u
 CJ:∀c x,B.CJ c x=true->bN B.K c=true/\d8 B.K c x=true
 GY:∀c x v,B.GY c x=some v->∃u,bN B.K c=true/\jl B.K c x u=true/\∀G:Gh,(∀b o,Y.hp.get? b=some o->G.g b=some o)->DR w.params G v u
 Fx:∀c x v,B.Fx c x=some v->∃u,vi B.K c x u=true/\∀G:Gh,(∀b o,Y.hp.get? b=some o->G.g b=some o)->DR w.params G v u
 cmp:∀op x y b,B.cmp op x y=some b->fh U w Y.V op x y b
 bin:∀op x y z,B.bin op x y=some z->qe U w op x y z
 MY:∀op x y z,B.MY op x y=some z->Nd U w op x y z
 sub:∀x i z,B.sub x i=some z->qf U w Y.V x i z
 sl:∀x a b z,B.sl x a b=some z->Df U w Y.V x a b z
 TN:∀C f args r,B.TN f args=some r->jQ U w C Y f args r
 spec:∀n C f args kw aq r aX,B.spec n C f args kw aq=some (r,aX)->af U w C Y (n+1) (.ref f) args kw aq r aX
structure mR (U:Program) (w:World) (Y:Base) (d:Nat) (X:Cx):Prop where
 t:TabsOk U w Y X.B
 DH:∀x k,X.sc.names.lookup x=some k->(x==("__debug__":Str))=false
 code:∀f args kw aq r aX,X.code f args kw aq=some (r,aX)->af U w X.C Y d (.ref f) args kw aq r aX
structure qV (U:Program) (w:World) (C:Nat) (Y:Base) (sc:Scope) (d:Nat) (F:HM):Prop where
 E:∀e Z r ba,F.E e Z=some (r,ba)->cO U w C Y sc d e Z r ba
 T:∀e Z b ba,F.T e Z=some (b,ba)->bu U w C Y sc d e Z b ba
 X:∀st Z f ba,F.X st Z=some (f,ba)->aU U w C Y sc d st Z f ba
def sq {o o':Option ae} (e:o=o'):On (λv=>o'=some (.pv v)) (o.bind uE):=e▸(aY o).b λk h=>(iA k).up λ_ e=>h.trans (aT some e.symm)
def i6 {o o':Option ae} (e:o=o'):On (λv=>o'=some (.ml v)) (o.bind vQ):=e▸(aY o).b λk h=>(Ax k).up λ_ e=>h.trans (aT some e.symm)
def Eb {o o':Option ae} (e:o=o'):On (λv=>o'=some (.md v)) (o.bind RQ):=e▸(aY o).b λk h=>(J2 k).up λ_ e=>h.trans (aT some e.symm)
def wC (v:DV):On (λp=>MZ p=v) (QC v):=(cT v).b λ_ h=>h
def um (v:DV):On (λa=>∀(P:Params) (G:Gh) (u:Value),DR P G v u->u=.ref a) (mW v):=(qA v).or (λ_ h=>h▸ru) λ_=>(I1 v).up λ_ h=>h▸DS
def bp {α:Type} (l:List α):On (λa=>[a]=l) (dJ l):=by
 cases l with
 |nil=>exact trivial
 |cons a r=>cases r<;>first|exact trivial|exact rfl
def two_on {α:Type} (l:List α):On (λa=>[a.1,a.2]=l) (two2 l):=by
 cases l with
 |nil=>exact trivial
 |cons a r=>exact(bp r).b λb h=>aT (a::·) h
def MB (l:List Expr):On (λa=>[a.1,a.2.1,a.2.2]=l) (three l):=by
 cases l with
 |nil=>exact trivial
 |cons a r=>exact(two_on r).b λb h=>aT (a::·) h
def qu:∀e:Expr,On (λq=>.Attribute q.1 q.2.1 q.2.2=e) (ve e):=cH (λq:Expr×Str×Pos=>Expr.Attribute q.1 q.2.1 q.2.2) λe h=>@Expr.Attribute.elim (λe=>∀h,(λq:Expr×Str×Pos=>Expr.Attribute q.1 q.2.1 q.2.2) (@Expr.Attribute.elim (λ_=>Expr×Str×Pos) e h λo x p=>(o,x,p))=e) e h (λ_ _ _ _=>rfl) h
def wD (e:Expr):On (λx=>∃k p,.Constant (.str x) k p=e) (gg e):=
 (eK (P:=λe c=>∃k p,Expr.Constant c k p=e) (λe h=>@Expr.Constant.elim (λe=>∀h,∃k p,Expr.Constant (@Expr.Constant.elim (λ_=>Const) e h λc _ _=>c) k p=e) e h (λ_ k p _=>⟨k,p,rfl⟩) h) e).b λc h=>
   (cH Const.str (λv h=>@Const.str.elim (λv=>∀h,Const.str (@Const.str.elim (λ_=>Str) v h id)=v) v h (λ_ _=>rfl) h) c).up λx e=>dk h λk p h=>⟨k,p,e▸h⟩
def qQ (e:Expr):On (λq=>∃k p,.Tuple q k p=e) (mF e):=eK (P:=λe c=>∃k p,Expr.Tuple c k p=e) (λe h=>@Expr.Tuple.elim (λe=>∀h,∃k p,Expr.Tuple (@Expr.Tuple.elim (λ_=>List Expr) e h λc _ _=>c) k p=e) e h (λ_ k p _=>⟨k,p,rfl⟩) h) e
def lH:∀e:Expr,On (λq=>.Subscript q.1 q.2 e.pos=e) (uQ e):=eK (P:=λe (q:Expr×Expr)=>.Subscript q.1 q.2 e.pos=e) λe h=>@Expr.Subscript.elim (λe=>∀h,(λq:Expr×Expr=>Expr.Subscript q.1 q.2 e.pos) (@Expr.Subscript.elim (λ_=>Expr×Expr) e h λo i _=>(o,i))=e) e h (λ_ _ _ _=>rfl) h
def Eh:∀e:Expr,On (λq=>.UnaryOp q.1 q.2 e.pos=e) (XA e):=eK (P:=λe (q:UnaryOp×Expr)=>.UnaryOp q.1 q.2 e.pos=e) λe h=>@Expr.UnaryOp.elim (λe=>∀h,(λq:UnaryOp×Expr=>Expr.UnaryOp q.1 q.2 e.pos) (@Expr.UnaryOp.elim (λ_=>UnaryOp×Expr) e h λop a _=>(op,a))=e) e h (λ_ _ _ _=>rfl) h
def rm:∀e:Expr,On (λq=>.BoolOp q.1 q.2 e.pos=e) (k9 e):=eK (P:=λe (q:BoolOp×List Expr)=>.BoolOp q.1 q.2 e.pos=e) λe h=>@Expr.BoolOp.elim (λe=>∀h,(λq:BoolOp×List Expr=>Expr.BoolOp q.1 q.2 e.pos) (@Expr.BoolOp.elim (λ_=>BoolOp×List Expr) e h λop a _=>(op,a))=e) e h (λ_ _ _ _=>rfl) h
def vj:∀e:Expr,On (λq=>.Compare q.1 q.2.1 q.2.2 e.pos=e) (N1 e):=eK (P:=λe (q:Expr×List CmpOp×List Expr)=>.Compare q.1 q.2.1 q.2.2 e.pos=e) λe h=>
 @Expr.Compare.elim (λe=>∀h,(λq:Expr×List CmpOp×List Expr=>Expr.Compare q.1 q.2.1 q.2.2 e.pos) (@Expr.Compare.elim (λ_=>Expr×List CmpOp×List Expr) e h λa ops bs _=>(a,ops,bs))=e) e h (λ_ _ _ _ _=>rfl) h
def CS (e:Expr):On (λq=>.Slice (some q.1) (some q.2) none e.pos=e) (sliceOf e):=
 (eK (P:=λe (q:Option Expr×Option Expr×Option Expr)=>.Slice q.1 q.2.1 q.2.2 e.pos=e) (λe h=>@Expr.Slice.elim (λe=>∀h,(λq:Option Expr×Option Expr×Option Expr=>Expr.Slice q.1 q.2.1 q.2.2 e.pos) (@Expr.Slice.elim (λ_=>Option Expr×Option Expr×Option Expr) e h λa b c _=>(a,b,c))=e) e h (λ_ _ _ _ _=>rfl) h) e).b λq h=>
   (aY q.1).b λa ea=>(aY q.2.1).b λb eb=>ak λec=>show Expr.Slice (some a) (some b) none e.pos=e from ea▸eb▸SK.mp ec▸h
def Nu (p:Pl):On (λy=>.aq y=p) (ZW p):=by cases p;exact trivial;exact rfl
def nD (e:Expr):On (λq=>∃p p',.Attribute (.Name q.1 p) q.2 p'=e) (Fn e):=(qu e).b λq h=>(dm q.1).b λy h'=>⟨_,_,h'▸h⟩
def bT {α:Type} {l:List α} (h:l.isEmpty=true):[]=l:=(List.isEmpty_iff.mp h).symm
def mU (v:Expr):On (λq=>.Call (.Attribute q.1 q.2.1 q.2.2.1) q.2.2.2.1 [] q.2.2.2.2=v) (nC v):=(ib v).b λc h=>(qu c.1).b λa h'=>ak λz=>show _=v from h'▸bT z▸h
def OP (op:CmpOp):On (λf=>(op=.In/\f=id)\/(op=.NotIn/\f=not)) (aa8 op):=by cases op<;>first|exact trivial|exact .inl ⟨rfl,rfl⟩ |exact .inr ⟨rfl,rfl⟩
section
variable {U:Program} {w:World} {Y:Base} {d:Nat} {X:Cx} {F:HM}
def cv (Z:aj) (p:Pl):g8 Z p=p.get Z:=by
 cases p with
 |loc x=>exact aG _ _
 |aq x=>exact aT (Option.bind Z.aq) (funext λas=>aG as x)
def ja (Z:aj) (k:ae) (p:Pl):wu Z k p=p.set Z k:=by
 cases p with
 |loc x=>exact aT (aj.mk Z.aq) (bk ..)
 |aq x=>exact aT (λf=>aj.mk (Z.aq.map f) Z.loc) (funext λas=>bk as x k)
def aP {x:Str} (h:fO X x=true):X.sc.names.lookup x=some .local:=bz (dM h) λ_ e h=>(g9 ..).symm.trans (e.trans (aT some (o5 h).symm))
def gs {x:Str} (h:lq X x=true):X.sc.names.lookup x=some .globalImplicit:=bz (dM h) λ_ e h=>(g9 ..).symm.trans (e.trans (aT some (OZ h).symm))
def put2 {α:Type} (l:List (Str×α)) (x y:Str) (u v:α):bS (bS l x u) y v=put (put l x u) y v:=(bk ..).trans (aT (put · y v) (bk ..))
def put3 {α:Type} (l:List (Str×α)) (x y z:Str) (u v w:α):bS (bS (bS l x u) y v) z w=put (put (put l x u) y v) z w:=(bk ..).trans (aT (put · z w) (put2 ..))
def rP {op:UnaryOp} (h:Nat.beq op.ctorIdx 1=true):.Not=op:=by cases op<;>first|rfl|exact ft h
def yd {op:UnaryOp} (h:Nat.beq op.ctorIdx 3=true):.USub=op:=by cases op<;>first|rfl|exact ft h
def kj {f:au} (h:f.p7=false):f=.next:=by cases f<;>first|rfl|exact tf h
def acL {G:Gh} (p:Pl) (a:Addr) (h:p.own G a):G.O a:=by cases p;exact .inr h;exact .inl h
def Je {go:aj->au->aj->Prop} {ih:aj->Option (au×aj)} (h:∀Z,On (λr=>go Z r.1 r.2) (ih Z)) (q:au×aj):On (λr=>Goes go q.1 q.2 r.1 r.2) (goF ih q):=by
 obtain⟨f,Z⟩:=q
 cases f with
 |next=>exact h Z
 |cont=>exact h Z
 |brk=>exact⟨rfl,rfl⟩
 |ret v=>exact⟨rfl,rfl⟩
def ju.of {C:Nat} {sc:Scope} {kw:Keyword} {ks:List Keyword} {Z aa ah:aj} {x:Str} {v:DV} {vs:List (Str×DV)} (h:kw.arg=some x) (q:aC U w C Y sc d kw.value Z v aa) (r:ju U w C Y sc d ks aa vs ah):ju U w C Y sc d (kw::ks) Z ((x,v)::vs) ah:=by
 obtain⟨a,e,p⟩:=kw
 cases h
 exact .cons q r
def ME {C:Nat} {sc:Scope} {b:List Stmt} {hs:List ExceptHandler} {pos:Pos} {Z aa:aj} {f:au} (h:(!hs.isEmpty)=true) (k:aF U w C Y sc d b Z f aa):aU U w C Y sc d (.Try b hs [] [] pos) Z f aa:=by
 cases hs with
 |nil=>exact ft h
 |cons=>exact YE k
def HR (O:mR U w Y d X) (aq:bU) (v:DV) (x:Str):On (xn U w X.C Y aq v x) (Rp X aq v x):=
 (nT v).or (λp h=>h▸(aY (aS p.2 x)).or (λz e=>ak λh1=>aaE O.t.T (O.t.CJ _ _ h1).1 (O.t.CJ _ _ h1).2 ((aG ..).symm.trans e))
   λe=>.mk λz q=>t9 (O.t.GY _ _ _ q) λ_ a b c=>Jb O.t.T a b ((aG ..).symm.trans e) c)
   λ_=>dY (λh=>hU h▸(aY aq).b λas e=>e▸(aY (aS as x)).or (λk ek=>ak λh1=>(iA k).up λz ez=>TV O.t.T (O.t.vf _ _ h1).1 (O.t.vf _ _ h1).2.1 ((aG ..).symm.trans (ez▸ek)))
    λek=>(aY (X.B.bj X.C x)).or (λf ef=>An O.t.T (O.t.bj _ _ _ ef).2 ((aG ..).symm.trans ek)) λ_=>.mk λz q=>t9 (O.t.uG _ _ _ q) λ_ a b c=>FR O.t.T a b ((aG ..).symm.trans ek) c)
    λ_=>(qA v).b λc h=>h▸.mk λz q=>bz (O.t.Fx _ _ _ q) λ_ a b=>aaD O.t.T a b
structure afj (K:Frag) (C:Nat) (sc:Scope) (Z:aj) (y x:Str) (as:List (Str×ae)):Prop where
 l:sc.names.lookup y=some .local
 s:look Z.loc y=some (.pv .self)
 db:(y==("__debug__":Str))=false
 ea:Z.aq=some as
 a:bN K C=true
 b:d8 K C x=true
 c:hG K C x=true
def jI (O:mR U w Y d X) (Z:aj) (y x:Str):On (afj X.B.K X.C X.sc Z y x) (pF X Z y x):=
 ak λh1=>ak λh2=>(sq (aG ..)).b λv hv=>ak λh3=>.mk λas e=>a3 (O.t.vf _ _ h2) λa b c=>⟨aP h1,hv.trans (aT _ (aT _ (hU h3).symm)),O.DH _ _ (aP h1),e,a,b,c⟩
def Ae (O:mR U w Y d X) (Z:aj) (e:Expr):On (λv=>u9 U w X.C Y X.sc d e Z (.pv v)) (evR X Z e):=
 (dm e).or (λx h=>h▸ak λh1=>(sq (aG ..)).up λv e=>GZ (aP h1) e (O.DH _ _ (aP h1)))
   λ_=>(nD e).b λq h=>dk h λ_ _ h=>h▸(jI O Z _ _).b λas m=>(sq (aG ..)).up λv e=>LF O.t.T m.l m.db m.s m.ea m.a m.b e
def bZ (O:mR U w Y d X) (Z:aj) (e:Expr):On (λp=>gA U w X.C Y X.sc d e Z p/\∃k,p.get Z=some k/\k.mut=true) (placeOf X Z e):=
 (dm e).or (λx h=>h▸ak λh1=>(aY (aS Z.loc x)).b λk ek=>ak λkm=>have ek:=(aG ..).symm.trans ek;⟨uC (aP h1) ek km (O.DH _ _ (aP h1)),k,ek,km⟩)
   λ_=>(nD e).b λq h=>dk h λ_ _ h=>h▸(jI O Z _ _).b λas m=>(aY (aS as q.2)).b λk ek=>ak λkm=>have ek:=(aG ..).symm.trans ek;⟨GU O.t.T m.l m.db m.s m.ea m.a m.b ek km,k,(aT (Option.bind · λas=>look as q.2) m.ea).trans ek,km⟩
def CG (O:mR U w Y d X) {Z:aj} {e:Expr} {p:Pl} (h:placeOf X Z e=some p):gA U w X.C Y X.sc d e Z p/\∃k,p.get Z=some k/\k.mut=true:=(bZ O Z e).get h
variable (FO:qV U w X.C Y X.sc d F)
include FO
theorem fE (e:Expr) (Z:aj):On (λp=>cO U w X.C Y X.sc d e Z p.1 p.2) (F.E e Z):=.mk λ_ h=>FO.E _ _ _ _ h
theorem fT (e:Expr) (Z:aj):On (λp=>bu U w X.C Y X.sc d e Z p.1 p.2) (F.T e Z):=.mk λ_ h=>FO.T _ _ _ _ h
theorem fX (e:Stmt) (Z:aj):On (λp=>aU U w X.C Y X.sc d e Z p.1 p.2) (F.X e Z):=.mk λ_ h=>FO.X _ _ _ _ h
theorem fA (es:List Expr):∀Z:aj,On (λp=>dI U w X.C Y X.sc d es Z p.1 p.2) (vp F es Z):=
 List.rec (motive:=λes=>∀Z:aj,On (λp:List DV×aj=>dI U w X.C Y X.sc d es Z p.1 p.2) (vp F es Z)) (λ_=>dI.nil) (λe _ ih Z=>ak λh=>(fE FO e Z).b λp q=>(ih p.2).b λ_ r=>dI.cons h q.rest r) es
theorem fK (ks:List Keyword):∀Z:aj,On (λp=>ju U w X.C Y X.sc d ks Z p.1 p.2) (evK F ks Z):=
 List.rec (motive:=λes=>∀Z:aj,On (λp:List (Str×DV)×aj=>ju U w X.C Y X.sc d es Z p.1 p.2) (evK F es Z)) (λ_=>ju.nil) (λkw _ ih Z=>(aY kw.arg).b λx h=>(fE FO kw.value Z).b λp q=>(ih p.2).b λ_ r=>ju.of h q.rest r) ks
theorem TF (es:List Expr) (Z ba:aj) (vs:List DV) (h:vp F es Z=some (vs,ba)):dI U w X.C Y X.sc d es Z vs ba:=(fA FO es Z).get h
omit FO
theorem Dk {κ:Type} {f:DV->Option κ} {kd:κ->DV} (hf:∀v,On (λi=>kd i=v) (f v)) (l:List (DV×DV)):On (λl'=>dl kd l'=l) (Nm f l):=
 List.rec (motive:=λl=>On (λl'=>dl kd l'=l) (Nm f l)) rfl (λp _ ih=>(hf p.1).b λi h=>ih.b λr h'=>by rw[<-h'];exact aT (λk=>(k,p.2)::dl kd r) h) l
theorem jw (l:List (DV×DV)):On (λl'=>dl .int l'=l) (q6 l):=Dk bQ l
theorem q7 (l:List (DV×DV)):On (λl'=>dl MZ l'=l) (Dl l):=Dk wC l
theorem ZU {l:List (DV×DV)} {l':List (Int×DV)} (h:q6 l=some l'):l=dl .int l':=((jw l).get h).symm
def HK (U:Program) (w:World) (l:List (DV×DV)) (k:DV) (z:Option DV):Prop:=∀Q:Prop,(∀(Ky:Type) [DecidableEq Ky] (knd:PySem.KeyKind U w Ky) (kd:Ky->DV) (ok:Ky->Prop) (l':List (Ky×DV)) (k':Ky),KD knd kd ok->dl kd l'=l->kd k'=k->(l'.map (·.1)).Nodup->fY l' k'=z->Q)->Q
theorem ie (l:List (DV×DV)) (k:DV):On (HK U w l k) (dictGet l k):=
 (bQ k).or (λi h=>(jw l).b λl' h'=>ak λn=>λ_ q=>q _ _ _ _ _ _ rU h' h (mQ n) rfl)
   λ_=>(wC k).b λi h=>(q7 l).b λl' h'=>ak λn=>λ_ q=>q _ _ _ _ _ _ Av h' h (mQ n) rfl
theorem Tx {l:List (DV×DV)} {k:DV} {z:Option DV} (h:dictGet l k=some z):HK U w l k z:=(ie l k).get h
def ZJ (U:Program) (w:World) (l:List (DV×DV)) (k v:DV) (l':List (DV×DV)):Prop:=∀Q:Prop,(∀(Ky:Type) [DecidableEq Ky] (knd:PySem.KeyKind U w Ky) (kd:Ky->DV) (ok:Ky->Prop) (m:List (Ky×DV)) (k':Ky),KD knd kd ok->dl kd m=l->kd k'=k->(m.map (·.1)).Nodup->m.length<=1000->dl kd (j1 m k' v)=l'->Q)->Q
theorem z9 (l:List (DV×DV)) (k v:DV):On (ZJ U w l k v) (dictPut l k v):=
 (bQ k).or (λi h=>(jw l).b λl' h'=>ak λn=>ak λz=>λ_ q=>q _ _ _ _ _ _ rU h' h (mQ n) (e9 z) rfl)
   λ_=>(wC k).b λi h=>(q7 l).b λl' h'=>ak λn=>ak λz=>λ_ q=>q _ _ _ _ _ _ Av h' h (mQ n) (e9 z) rfl
theorem kn {e:Expr} (h:C7 e=true) (env:Env):isTrue e env (eval e env)=(do let v<-eval e env;standAt e.pos;holding [v] (truthy v)):=by
 cases e<;>first|exact ft h|rfl
theorem i8 {es:List Expr} {k:Nat} {p:Pos} {v:Expr} (h:si v=true) (env:Env):swappedStores [.Tuple es k p] v env=pure none:=by
 cases v<;>first|exact ft h|rfl
theorem hE {it:Expr} (h:wg it=true) (env:Env) (u:Value):foldedSetIterable it env u=pure u:=by
 cases it<;>first|exact ft h|rfl
theorem HT {n:Nat} (q:Nat.ble n 1000=true):n+1<=lim:=bB (Rj (e9 q)) (by unfold lim;decide)
theorem oe {x:Str} {q:Bool} (h:(!fq.contains x||q)=true) (hm:x∈fq):q=true:=by
 rw[show fq.contains x=true from List.contains_iff_mem.mpr hm] at h;exact h
theorem jX (O:mR U w Y d X) {x:Str} {f:Value} (hg:lq X x=true) (hb:X.B.nE x=some f):bA X.B.K X.sc x f=true:=
 a4 (O.t.nE _ _ hb) λb1 b2 b3 b4=>have l:=gs hg
 have t:∀{a b:Bool},a=true->b=true->(a&&b)=true:=λh h'=>Y4.mpr ⟨h,h'⟩
 t (HF l) (t (iG.mpr b1) (t (iG.mpr b2) (t ((Rc _).mpr (O.DH _ _ l)) (t ((Rc _).mpr b3) b4))))
variable (O:mR U w Y d X)
include O FO
theorem xF {o:Expr} {x:Str} {args:List Expr} {da:List Keyword} {apos pos:Pos} {Z:aj} (ho:cS o=true) (hf:dR args da apos pos=true):
 On (λp=>cO U w X.C Y X.sc d (.Call (.Attribute o x apos) args da pos) Z p.1 p.2) (xE X F o x args da Z):=
 (fE FO o Z).b λs0 h0=>ak λes=>have h0:=hU es▸h0.rest
   (aY s0.2.aq).b λas ea=>(aY (aS as x)).or (λk ek=>(iA k).b λv hv=>(yp v).b λf hm=>ak λhk=>ak λh2=>ak λh3=>(fA FO args s0.2).b λa ha=>(aY (X.code ..)).b λr hc=>by
     rw[<-bT hk] at hf ⊢
     exact(mN O.t.T ho hf (O.t.RX _ _ h2) (O.t.ye _ h3) h0 ea ((aG ..).symm.trans (ek.trans (aT some (hv.symm.trans (aT ae.pv hm.symm))))) ha (O.code _ _ _ _ _ _ hc)).plain)
     λek=>(aY (X.B.bj X.C x)).b λf hm=>(fA FO args s0.2).b λa ha=>(fK FO da a.2).b λk hk=>(aY (X.code ..)).b λr hc=>(sL O.t.T ho hf (O.t.bj _ _ _ hm).1 h0 ea ((aG ..).symm.trans ek) ha hk (O.code _ _ _ _ _ _ hc)).plain
omit O FO in
theorem P4 (vs:List DV) (n:Nat):On (λi:Nat=>∃I:Int,I=i/\(vs=[]/\i=n - 1\/vs=[.int I])) (acM vs n):=
 dY (λh=>⟨_,rfl,.inl ⟨(bT h).symm,rfl⟩⟩) λ_=>(bp vs).b λv h=>(bQ v).b λi h'=>ak λz=>⟨i,(ad9 (mQ z)).symm,.inr (by rw[<-h,<-h'])⟩
omit O in
theorem zX {o:Expr} {x:Str} {args:List Expr} {da:List Keyword} {apos pos:Pos} {p:Pl} {Z:aj} (ho:cS o=true) (hf:dR args da apos pos=true) (hP:gA U w X.C Y X.sc d o Z p):
 On (λq=>cO U w X.C Y X.sc d (.Call (.Attribute o x apos) args da pos) Z q.1 q.2) (DC F p x args da Z):=
 (Nu p).b λy hy=>ak λh1=>ak λh2=>ak λh3=>(i6 (cv ..)).b λl0 e0=>(fA FO args Z).b λa ha=>(i6 (cv ..)).b λl e1=>(P4 a.1 l.length).b λi q=>(aY l[i]?).b λz hz=>bz q λI hI hv=>by
   rw[ja,(bF _ _).mp h1,<-bT h3]
   rw[<-bT h3] at hf
   exact(Qr hI ho hf (hy▸hP) h2 ha ⟨_,e0⟩ e1 hz hv).plain
omit FO in
theorem xD {sep x:Str} {k:Nat} {p0:Pos} {args:List Expr} {da:List Keyword} {apos pos:Pos} {Z:aj} (hf:dR args da apos pos=true):
 On (λq=>cO U w X.C Y X.sc d (.Call (.Attribute (.Constant (.str sep) k p0) x apos) args da pos) Z q.1 q.2) (xC X sep x args da Z):=
 ak λh1=>ak λh2=>(bp args).b λe he=>ak λh3=>(bZ O Z e).b λp hP=>(i6 (cv ..)).b λl e1=>(aY (strsOf l)).b λss hs=>ak λhz=>by
  rw[(bF _ _).mp h1,<-bT h2,<-he]
  rw[<-bT h2,<-he] at hf
  exact(uK rfl hf h3 hP.1 (strs_map hs▸e1) (e9 hz)).plain
theorem xB {x:Str} {p:Pos} {args:List Expr} {pos:Pos} {Z:aj} (h:lq X x=true):On (λq=>cO U w X.C Y X.sc d (.Call (.Name x p) args [] pos) Z q.1 q.2) (Ib X F x args Z):=
 (aY (X.B.nE x)).b λf hb=>(fA FO args Z).b λv ha=>(aY (X.B.TN f v.1)).b λr hr=>pG O.t.T (jX O h hb) ha (O.t.TN _ _ _ _ hr)
theorem xH {x:Str} {p:Pos} {args:List Expr} {da:List Keyword} {pos:Pos} {Z:aj}:On (λq=>cO U w X.C Y X.sc d (.Call (.Name x p) args da pos) Z q.1 q.2) (xG X F x p args da Z):=
 dY (λ_=>(fE FO (.Name x p) Z).b λf h0=>(um f.1.rest).b λa hg=>ak λhk=>(fA FO args f.2).b λv ha=>(fK FO da v.2).b λk hk'=>(aY (X.code ..)).b λr hc=>
  (mf O.t.T (O.t.kept _ hk) hg h0.rest ha hk' (O.code _ _ _ _ _ _ hc)).plain)
  λ_=>ak λh1=>ak λh2=>bT h2▸dY (λcl=>(bp args).b λe he=>he▸ak λh3=>(bZ O Z e).or (λpl hP=>(i6 (cv ..)).b λl e1=>(yY O.t.T (jX O h1 (O.t.yj _ cl)) hP.1 h3 e1).plain)
   λ_=>xB FO O h1) λ_=>xB FO O h1
theorem zd {f:Expr} {args:List Expr} {da:List Keyword} {pos:Pos} {Z:aj}:On (λq=>cO U w X.C Y X.sc d (.Call f args da pos) Z q.1 q.2) (zc X F f args da pos Z):=
 (qu f).or (λq h=>h▸ak λh1=>ak λh2=>(wD q.1).or (λsep h=>dk h λ_ _ h=>h▸xD O h2)
   λ_=>(bZ O Z q.1).or (λp hP=>zX FO h1 h2 hP.1) λ_=>xF FO O h1 h2)
   λ_=>(dm f).b λx h=>h▸xH FO O
omit O in
theorem H8 (op:BoolOp) (pos:Pos) (es:List Expr):∀Z:aj,On (λq=>aC U w X.C Y X.sc d (.BoolOp op es pos) Z q.1 q.2) (H7 F op es Z):=
 List.rec (motive:=λes=>∀Z:aj,On (λq:DV×aj=>aC U w X.C Y X.sc d (.BoolOp op es pos) Z q.1 q.2) (H7 F op es Z)) (λ_=>trivial)
  (λe r ih Z=>(fE FO e Z).b λp h=>by
    cases r with
    |nil=>exact G4 h.rest
    |cons e' r=>
     cases op with
     |And=>exact(aY (mE p.1.rest)).b λc hc=>by cases c;exact EG h.rest hc ⟨rfl,rfl⟩;exact(ih p.2).up λ_ k=>EG h.rest hc k
     |Or=>exact(aY (mE p.1.rest)).b λc hc=>by cases c;exact(ih p.2).up λ_ k=>L6 h.rest hc k;exact L6 h.rest hc ⟨rfl,rfl⟩) es
theorem CW {o i:Expr} {pos:Pos} {Z:aj}:On (λq=>cO U w X.C Y X.sc d (.Subscript o i pos) Z q.1 q.2) (ER X F o i Z):=
 ak λhn=>(bZ O Z o).or (λp hP=>(Eb (cv ..)).or (λl el=>(Ae O Z i).b λk hk=>(ie l k).b λz hz=>(aY z).b λz' rK=>hz _ λ_ _ _ _ _ _ _ D e1 e2 MX e=>(L7 D hn hP.1 (e2▸hk) (e1▸el) MX (e.trans rK)).plain)
  λ_=>ak λhf=>(fE FO i Z).b λq h0=>(bQ q.1.rest).b λk ek=>(i6 (cv ..)).b λl el=>(aY (idx ..)).b λn h1=>(aY l[n]?).b λz h2=>(sM hn hP.1 hf (ek▸h0.rest) el h1 h2).plain)
  λ_=>(fE FO o Z).b λp h0=>(fE FO i p.2).b λq h1=>(aY (X.B.sub ..)).b λz hz=>(oz hn h0.rest h1.rest (O.t.sub _ _ _ hz)).plain
theorem wy {o a b:Expr} {p pos:Pos} {Z:aj}:On (λq=>cO U w X.C Y X.sc d (.Subscript o (.Slice (some a) (some b) none p) pos) Z q.1 q.2) (uO X F o a b Z):=
 (fE FO o Z).b λp h0=>(fE FO a p.2).b λq h1=>(fE FO b q.2).b λr h2=>(aY (X.B.sl ..)).b λz hz=>(G6 h0.rest h1.rest h2.rest (O.t.sl _ _ _ _ hz)).plain
omit O FO in
theorem wx {c:Const} {k:Nat} {pos:Pos} {Z:aj}:On (λq=>cO U w X.C Y X.sc d (.Constant c k pos) Z q.1 q.2) (mh c Z):=by
 cases c with
 |none=>exact y0.plain
 |bool b=>exact yX.plain
 |int i=>exact EH.plain
 |str x=>exact ak λh1=>(EJ (e9 h1)).plain
 |_=>exact trivial
omit FO in
theorem zh {x:Str} {pos:Pos} {Z:aj}:On (λq=>cO U w X.C Y X.sc d (.Name x pos) Z q.1 q.2) (zg X x Z):=
 dY (λc=>(sq (aG ..)).or (λv e=>(pH (aP c) e (O.DH _ _ (aP c))).plain) λ_=>(i6 (aG ..)).b λl e=>by
  rw[bk];exact(nj (aP c) e (O.DH _ _ (aP c))).plain)
  λ_=>ak λh1=>(aY (X.B.glob x)).b λv hv=>bz (O.t.glob _ _ hv) λ_ a b=>(nk O.t.T (gs h1) a (O.DH _ _ (gs h1)) b).plain
theorem zo {a b c:Expr} {oj om:CmpOp} {pos:Pos} {Z:aj}:On (λq=>bu U w X.C Y X.sc d (.Compare a [oj,om] [b,c] pos) Z q.1 q.2/\aC U w X.C Y X.sc d (.Compare a [oj,om] [b,c] pos) Z (.bool q.1) q.2) (Mx X F a oj om b c Z):=
 CB λhm=>(fE FO a Z).b λp h0=>(fE FO b p.2).b λq h1=>(aY (X.B.cmp ..)).b λz hz=>dY
  (λe=>(fE FO c q.2).b λr h2=>(aY (X.B.cmp ..)).b λy hy=>⟨uV (b:=true) h0.rest h1.rest (O.t.cmp _ _ _ _ (e▸hz)) ⟨h2.rest,O.t.cmp _ _ _ _ hy⟩ hm,uI (b:=true) h0.rest h1.rest (O.t.cmp _ _ _ _ (e▸hz)) ⟨h2.rest,O.t.cmp _ _ _ _ hy⟩ hm⟩)
  λe=>⟨uV (b:=false) (z:=.none) h0.rest h1.rest (O.t.cmp _ _ _ _ (e▸hz)) ⟨rfl,rfl⟩ hm,uI (b:=false) (z:=.none) h0.rest h1.rest (O.t.cmp _ _ _ _ (e▸hz)) ⟨rfl,rfl⟩ hm⟩
theorem Ml {e:Expr} {Z:aj}:On (λq=>cO U w X.C Y X.sc d e Z q.1 q.2) (Si X F e Z):=by
 cases e with
 |Constant c k pos=>exact wx
 |Name x pos=>exact zh O
 |Attribute o x pos=>exact ak λh1=>(fE FO o Z).b λp h0=>(HR O _ _ _).b λz hz=>(Qm h1 h0.rest hz).plain
 |Subscript o i pos=>exact(CS i).or (λq h=>h▸wy FO O) λ_=>CW FO O
 |Call f args da pos=>exact zd FO O
 |BinOp a op b pos=>exact(fE FO a Z).b λp h0=>(fE FO b p.2).b λq h1=>(aY (X.B.bin ..)).b λz hz=>(me h0.rest h1.rest (O.t.bin _ _ _ _ hz)).plain
 |UnaryOp op a pos=>exact dY (λc=>rP c▸(fE FO a Z).b λp h0=>(aY (mE p.1.rest)).b λb hb=>(Qq h0.rest hb).plain) λ_=>ak λc=>yd c▸(fE FO a Z).b λp h0=>(bQ p.1.rest).b λi hi=>(EI (hi▸h0.rest)).plain
 |BoolOp op es pos=>exact(H8 FO op pos es Z).b λp h=>h.plain
 |Compare a ops bs pos=>exact(bp ops).or (λop ho=>(bp bs).b λb hb=>CB λhm=>(fE FO a Z).b λp h0=>(fE FO b p.2).b λq h1=>(aY (X.B.cmp ..)).b λz hz=>ho▸hb▸(wq h0.rest h1.rest (O.t.cmp _ _ _ _ hz) hm).plain) λ_=>(two_on ops).b λo ho=>(two_on bs).b λb hb=>ho▸hb▸(zo FO O).b λp h=>h.2.plain
 |IfExp t a b pos=>exact(fT FO t Z).b λp h=>dY (λc=>(fE FO a _).up λ_ k=>sJ (c:=true) (c▸h) k) λc=>(fE FO b _).up λ_ k=>sJ (c:=false) (c▸h) k
 |Tuple es k pos=>exact(fA FO es Z).b λp h=>ak λh1=>(uM h (Y8 (HT h1))).plain
 |List es pos=>exact(fA FO es Z).b λp h=>ak λh1=>yZ h (Y8 (HT h1))
 |Dict ks vs pos=>exact ak λh=>ak λh'=>bT h▸bT h'▸G5
 |_=>exact trivial
omit O in
theorem Nj (pos:Pos) (es:List Expr):∀Z:aj,On (λq=>bu U w X.C Y X.sc d (.BoolOp .And es pos) Z q.1 q.2) (Ni F es Z):=
 List.rec (motive:=λes=>∀Z:aj,On (λq:Bool×aj=>bu U w X.C Y X.sc d (.BoolOp .And es pos) Z q.1 q.2) (Ni F es Z)) (λ_=>jh)
  (λe r ih Z=>(fT FO e Z).b λp h=>dY (λc=>(ih _).up λ_ k=>jf (c:=true) (c▸h) k) λc=>jf (c:=false) (c▸h) ⟨rfl,rfl⟩) es
omit O in
theorem XT (pos:Pos) (es:List Expr):∀Z:aj,On (λq=>bu U w X.C Y X.sc d (.BoolOp .Or es pos) Z q.1 q.2) (orT F es Z):=
 List.rec (motive:=λes=>∀Z:aj,On (λq:Bool×aj=>bu U w X.C Y X.sc d (.BoolOp .Or es pos) Z q.1 q.2) (orT F es Z)) (λ_=>td)
  (λe r ih Z=>(fT FO e Z).b λp h=>dY (λc=>wY (c:=true) (c▸h) ⟨rfl,rfl⟩) λc=>(ih _).up λ_ k=>wY (c:=false) (c▸h) k) es
omit O in
theorem H6 (op:BoolOp) (pos:Pos) (es:List Expr) (Z:aj):On (λq=>bu U w X.C Y X.sc d (.BoolOp op es pos) Z q.1 q.2) (BoolOp.casesOn (motive:=λ_=>Option (Bool×aj)) op (Ni F es Z) (orT F es Z)):=by
 cases op with
 |And=>exact Nj FO _ _ _
 |Or=>exact XT FO _ _ _
theorem My {e:Expr} {Z:aj}:On (λq=>bu U w X.C Y X.sc d e Z q.1 q.2) (Su X F e Z):=
 ak λhv=>(bZ O Z e).or (λp hP=>(aY (g8 Z p)).b λk hk=>(aY (MC k)).b λb hb=>E8 (k:=k) (λA G L s env ro eo R Q kk=>hP.1 A G L s env ro eo R _ λa t lS=>kk _ _ ((R.gY lS ((cv ..).symm.trans hk)).mono (.refl G) (λ_ _ _ h=>h) (acL p))) hb (kn hv))
  λ_=>(fE FO e Z).b λp h=>(aY (mE p.1.rest)).b λb hb=>wZ h.rest hb (kn hv)
theorem Mw {a b:Expr} {op:CmpOp} {pos:Pos} {Z:aj}:On (λq=>bu U w X.C Y X.sc d (.Compare a [op] [b] pos) Z q.1 q.2) (Ss X F a op b Z):=
 CB λhm=>(fE FO a Z).b λp h0=>(bZ O p.2 b).or (λpl hP=>(OP op).b λf hf=>(Eb (cv ..)).b λl el=>(ie l p.1.rest).b λz hz=>hz _ λ_ _ _ _ _ _ _ D e1 e2 MX e=>
  e▸rM D hf (e2▸h0.rest) hP.1 (e1▸el) MX hm)
  λ_=>(fE FO b p.2).b λq h1=>(aY (X.B.cmp ..)).b λz hz=>wW h0.rest h1.rest (O.t.cmp _ _ _ _ hz) hm
theorem Mm {e:Expr} {Z:aj}:On (λq=>bu U w X.C Y X.sc d e Z q.1 q.2) (stepT X F e Z):=
 (Eh e).or (λq h=>ak λc=>(fT FO q.2 Z).b λp h'=>h▸rP c▸E7 h') λ_=>(rm e).or (λq h=>h▸H6 FO q.1 e.pos q.2 Z)
   λ_=>(vj e).or (λq h=>h▸(bp q.2.1).or (λop h=>(bp q.2.2).b λb h'=>h▸h'▸Mw FO O) λ_=>(two_on q.2.1).b λop h=>(two_on q.2.2).b λb h'=>h▸h'▸(zo FO O).up λ_ k=>k.1) λ_=>My FO O
omit O in
theorem iB (l:List Stmt):∀Z:aj,On (λq=>aF U w X.C Y X.sc d l Z q.1 q.2) (cg F l Z):=
 List.rec (motive:=λl=>∀Z:aj,On (λq:au×aj=>aF U w X.C Y X.sc d l Z q.1 q.2) (cg F l Z)) (λ_=>bx) (λst r ih Z=>(fX FO st Z).b λp h=>dY (λc=>jc h c) λc=>(ih p.2).up λ_ k=>ao (kj c▸h) k) l
omit O in
theorem sy (l:List Stmt) (Z ba:aj) (f:au) (h:cg F l Z=some (f,ba)):aF U w X.C Y X.sc d l Z f ba:=(iB FO l Z).get h
omit O in
theorem JZ (t:Expr) (b:List Stmt) (n:Nat):∀Z:aj,On (λq=>cI U w X.C Y X.sc d t b n Z q.1 q.2) (JY F t b n Z):=
 Nat.rec (motive:=λn=>∀Z:aj,On (λq:au×aj=>cI U w X.C Y X.sc d t b n Z q.1 q.2) (JY F t b n Z)) (λ_=>trivial)
  (λn ih Z=>(fT FO t Z).b λp e0=>dY (λc=>(iB FO b p.2).b λq e1=>(Je ih q).up λ_ g=>.inr ⟨p.2,q.1,q.2,c▸e0,e1,g⟩) λc=>.inl ⟨c▸e0,rfl⟩) n
omit O in
theorem r9 (x:Str) (b:List Stmt) (vs:List DV):∀Z:aj,On (λq=>gi U w X.C Y X.sc d x b vs Z q.1 q.2) (ym F x b vs Z):=
 List.rec (motive:=λvs=>∀Z:aj,On (λq:au×aj=>gi U w X.C Y X.sc d x b vs Z q.1 q.2) (ym F x b vs Z)) (λ_=>.done)
  (λv r ih Z=>(iB FO b _).b λq e1=>(Je ih q).up λ_ g=>⟨q.1,q.2,show aF U w X.C Y X.sc d b ⟨Z.aq,put Z.loc x (.pv v)⟩ q.1 q.2 from bk Z.loc x (.pv v)▸e1,g⟩) vs
omit O in
theorem nq {v:Expr} {pos:Pos} {Z:aj}:On (λq=>aU U w X.C Y X.sc d (.Expr v pos) Z q.1 q.2) (qO F v Z):=ak λh1=>(fE FO v Z).b λp h=>EW h.rest h1
omit O in
theorem CV {o:Expr} {x:Str} {args:List Expr} {apos pos qq:Pos} {p:Pl} {Z:aj} (ho:cS o=true) (hf:dR args [] apos pos=true) (hP:gA U w X.C Y X.sc d o Z p):
 On (λq=>aU U w X.C Y X.sc d (.Expr (.Call (.Attribute o x apos) args [] pos) qq) Z q.1 q.2) (EP F p x args Z):=
 ak λlp=>(i6 (cv ..)).b λl0 e0=>(bp args).or (λe he=>(fE FO e Z).b λq h0=>dY
  (λc=>(i6 (cv ..)).b λl e1=>ak λhz=>by rw[ja,(bF _ _).mp c,<-he];exact uR ho (he▸hf) hP lp h0.rest ⟨_,e0⟩ e1 (HT hz))
  λ_=>ak λc=>(kc q.1.rest).b λl' el=>(i6 (cv ..)).b λl e1=>ak λhz=>by
   rw[ja,(bF _ _).mp c,<-he];exact uS ho (he▸hf) hP lp (el▸h0.rest) ⟨_,e0⟩ e1 (Y8 (HT hz)))
  λ_=>ak λc=>(two_on args).b λe he=>(fA FO _ Z).b λa ha=>(two_on a.1).b λv hv=>(bQ v.1).b λi hi=>(i6 (cv ..)).b λl e1=>ak λz1=>ak λz2=>ak λz3=>by
   rw[ja,(bF _ _).mp c,<-he]
   rw[<-hv,<-hi] at ha
   exact Hi (ad9 (mQ z1)).symm ho (he▸hf) hP lp ha ⟨_,e0⟩ e1 (HT z3) (e9 z2)
theorem sR {t v:Expr} {pos:Pos} {Z:aj}:On (λq=>aU U w X.C Y X.sc d (.Assign [t] v pos) Z q.1 q.2) (p6 X F t v Z):=
 ak λhc=>(fE FO v Z).b λp h=>(dm t).or (λx e=>e▸ak λh1=>bk p.2.loc x p.1.slot▸gw h (aP h1) hc)
  λ_=>(nD t).or (λq e=>dk e λ_ _ e=>e▸(jI O _ _ _).b λas m=>ak λh3=>ak λh4=>bk as q.2 p.1.slot▸Mq O.t.T h hc m.l m.s m.db m.ea m.c (Ri (e9 h3) (by decide)) λhm=>(aG ..).symm.trans (SK.mp (oe h4 hm)))
   λ_=>(lH t).or (λq e=>e▸(bZ O _ _).b λpl hP=>(Eb (cv ..)).b λl el=>(Ae O _ _).b λk hk=>(z9 (U:=U) (w:=w) l k p.1.rest).b λl' h'=>h' _ λ_ _ _ _ _ _ _ D e1 e2 MX hz e3=>ja ..▸e3▸QM D h.rest hP.1 (e2▸hk) (e1▸el) MX hz hc)
    λ_=>(qQ t).b λes e=>dk e λ_ _ e=>e▸ak λh1=>(qP p.1.rest).b λvs hv=>(aY (names X.sc es)).b λxs hx=>ak λh2=>pJ (hv▸h.rest) hx (iS h2) hc (i8 h1)
theorem zf {v:Expr} {pos:Pos} {Z:aj}:On (λq=>aU U w X.C Y X.sc d (.Expr v pos) Z q.1 q.2) (ze X F v Z):=
 (mU v).or (λq e=>(bZ O Z q.1).or (λp hP=>dY (λ_=>nq FO) λ_=>ak λh1=>ak λh2=>e▸CV FO h1 h2 hP.1) λ_=>nq FO) λ_=>nq FO
omit FO O in
theorem nW (e:Expr):On (λx=>.Name x e.pos=e/\X.sc.names.lookup x=some .local) (Ga X e):=(dm e).b λx h=>ak λh1=>⟨h,aP h1⟩
theorem tN {ts:List Expr} {v:Expr} {pos:Pos} {Z:aj}:On (λq=>aU U w X.C Y X.sc d (.Assign ts v pos) Z q.1 q.2) (sQ X F ts v Z):=
 (bp ts).or (λt h=>h▸sR FO O) λ_=>(two_on ts).or (λq h=>(nW q.1).b λx hx=>(nW q.2).b λy hy=>(fE FO v Z).b λp h0=>
   put2 ..▸h▸hx.1▸hy.1▸C0 h0.rest hx.2 hy.2 λ_=>rfl)
   λ_=>(MB ts).b λq h=>(nW q.1).b λx hx=>(nW q.2.1).b λy hy=>(nW q.2.2).b λz hz=>(fE FO v Z).b λp h0=>
    put3 ..▸h▸hx.1▸hy.1▸hz.1▸C1 h0.rest hx.2 hy.2 hz.2 λ_=>rfl
theorem za {x:Str} {p:Pos} {op:Operator} {e:Expr} {pos:Pos} {Z:aj}:On (λq=>aU U w X.C Y X.sc d (.AugAssign (.Name x p) op e pos) Z q.1 q.2) (y9 X F x op e Z):=
 ak λh1=>(sq (aG ..)).b λv ev=>(fE FO e Z).b λp h=>(aY (X.B.MY ..)).b λz hz=>bk ..▸YC (aP h1) ev h.rest (O.t.MY _ _ _ _ hz)
theorem y8 {y x:Str} {p p':Pos} {op:Operator} {e:Expr} {pos:Pos} {Z:aj}:On (λq=>aU U w X.C Y X.sc d (.AugAssign (.Attribute (.Name y p) x p') op e pos) Z q.1 q.2) (y7 X F y x op e Z):=
 (jI O Z y x).b λas m=>(sq (aG ..)).b λv ev=>(fE FO e Z).b λq h=>(aY (X.B.MY ..)).b λz hz=>(aY q.2.aq).b λvb ea'=>ak λh3=>CB λh4=>bk ..▸Hh O.t.T m.l m.s m.db m.ea m.a m.b ev h.rest (O.t.MY _ _ _ _ hz) ea' m.c (Ri (e9 h3) (by decide)) λhm=>ft (h4.symm.trans (List.contains_iff_mem.mpr hm))
omit FO O in
theorem TL (r:Res):On (λl=>r=.fl l\/r=.pv (.lst l)) (flR r):=by
 cases r with
 |fl l=>exact .inl rfl
 |pv v=>exact(kc v).up λ_ h=>.inr (aT Res.pv h.symm)
 |fd l=>exact trivial
theorem CU {x:Str} {p:Pos} {it:Expr} {b:List Stmt} {pos:Pos} {Z:aj}:On (λq=>aU U w X.C Y X.sc d (.For (.Name x p) it b [] pos) Z q.1 q.2) (EO X F x it b Z):=
 ak λh1=>ak λh2=>(fE FO it Z).b λp h=>(TL p.1).or (λvs e=>(r9 FO x b vs p.2).up λ_ k=>Ms h e (aP h1) (hE h2) k)
  λ_=>(qD p.1.rest).b λl hl=>(jw l).or (λl' e=>ak λn=>(r9 FO x b _ p.2).up λ_ k=>EX rU (mQ n) (e▸hl▸h.rest) (aP h1) (hE h2) k)
   λ_=>(q7 l).b λl' e=>ak λn=>(r9 FO x b _ p.2).up λ_ k=>EX Av (mQ n) (e▸hl▸h.rest) (aP h1) (hE h2) k
omit FO in
theorem CT {o i:Expr} {p pos:Pos} {Z:aj}:On (λq=>aU U w X.C Y X.sc d (.Delete [.Subscript o i p] pos) Z q.1 q.2) (EN X o i Z):=
 (bZ O Z o).b λpl hP=>(Eb (cv ..)).b λl el=>(Ae O Z i).b λk hk=>On.b (P:=λl'=>aU U w X.C Y X.sc d (.Delete [.Subscript o i p] pos) Z .next (pl.set Z (.md l')))
   ((bQ k).b λk' e=>(jw l).b λm e'=>ak λn=>ak λz=>ak λh=>QJ rU hP.1 (e▸hk) (e'▸el) (mQ n) (e9 z) h) λ_ h=>ja ..▸h
theorem Mn {st:Stmt} {Z:aj}:On (λq=>aU U w X.C Y X.sc d st Z q.1 q.2) (Sj X F st Z):=by
 cases st with
 |Expr v pos=>exact zf FO O
 |Assign ts v pos=>exact tN FO O
 |AugAssign t op e pos=>exact(dm t).or (λx h=>h▸za FO O) λ_=>(nD t).b λq h=>dk h λ_ _ h=>h▸y8 FO O
 |If t b o pos=>exact(fT FO t Z).b λp h=>dY (λc=>(iB FO b _).up λ_ k=>p9 (c:=true) (c▸h) k) λc=>(iB FO o _).up λ_ k=>p9 (c:=false) (c▸h) k
 |While t b o pos=>exact ak λh=>bT h▸(JZ FO t b 400 Z).up λ_ k=>oG k
 |For t it b o pos=>exact ak λh=>bT h▸(dm t).b λx h=>h▸CU FO O
 |Return o pos=>exact(aY o).or (λe h=>h▸(fE FO e Z).b λp h=>sV h.rest) λh=>h▸QL
 |Assert t m pos=>exact(fT FO t Z).b λp h=>ak λc=>Hg (c▸h)
 |Delete ts pos=>exact(bp ts).b λt h=>(lH t).b λq e=>h▸e▸CT O
 |Try b hs os fs pos=>exact ak λh=>ak λho=>ak λhf=>bT ho▸bT hf▸(iB FO b Z).up λ_ k=>ME h k
 |Pass pos=>exact EZ
 |Break pos=>exact Mr
 |Continue pos=>exact EV
 |_=>exact trivial
omit FO
theorem qE (n:Nat):qV U w X.C Y X.sc d (Oh X n):=
 Nat.rec ⟨(λ_ _ _ _ h=>nomatch h),(λ_ _ _ _ h=>nomatch h),(λ_ _ _ _ h=>nomatch h)⟩ (λ_ ih=>⟨λ_ _ _ _ h=>(Ml ih O).get h,λ_ _ _ _ h=>(Mm ih O).get h,λ_ _ _ _ h=>(Mn ih O).get h⟩) n
theorem ael {n:Nat} {l:List Stmt} {Z ba:aj} {f:au} (h:cg (Oh X n) l Z=some (f,ba)):aF U w X.C Y X.sc d l Z f ba:=sy (qE O n) _ _ _ _ h
end
def getAll (args:List DV) (kw:List (Str×DV)) (out:List (Str×Src)):Option (List (Str×DV)):=
 List.rec (motive:=λ_=>Option (List (Str×DV))) (some []) (λp _ ih=>(p.2.get args kw).bind λv=>ih.bind λl=>some ((p.1,v)::l)) out
def EE (xs:List Str):List (Str×DV)->Bool:=List.rec (motive:=λ_=>List (Str×DV)->Bool) (λl=>l.isEmpty) (λx _ ih l=>List.casesOn (motive:=λ_=>Bool) l false λy r=>cU x y.1&&ih r) xs
def cR (rows:List k6) (f:Nat) (args:List DV) (kw:List (Str×DV)):Option k6:=
 List.rec (motive:=λ_=>Option k6) none (λb _ ih=>bif Nat.beq b.f f&&Nat.beq b.n args.length&&EE b.da kw then some b else ih) rows
def CH (as:List (Str×ae)):Option (List (Str×DV)):=List.rec (motive:=λ_=>Option (List (Str×DV))) (some []) (λp _ ih=>(uE p.2).bind λv=>ih.bind λl=>some ((p.1,v)::l)) as
def tp.cx (B:tp) (C:Nat) (sc:Scope) (code:Nat->List DV->List (Str×DV)->bU->Option (DV×bU)):Cx:=⟨B,C,sc,code⟩
def ue (f:au):Option DV:=au.casesOn (motive:=λ_=>Option DV) f (some .none) none none some
abbrev ny:=Nat->Nat->List DV->List (Str×DV)->bU->Option (DV×bU)
def qz (B:tp) (ih:ny):ny:=λC f args kw aq=>
 bif B.fns f then(qh B.K f).bind λI=>(cR B.rows f args kw).bind λr=>(getAll args kw r.out).bind λbl=>
  (cg (Oh (B.cx C I.sc (ih C)) 60) I.body ⟨aq,bl.map λp=>(p.1,.pv p.2)⟩).bind λq=>(ue q.1).bind λv=>some (v,q.2.aq) else none
def DB (ih:ny) (f fI:Nat) (args:List DV) (kw:List (Str×DV)) (aq:bU):Option (DV×bU):=
 (ih f fI (.self::args) kw (some [])).bind λr=>bif qo r.1 then r.2.bind λas=>(CH as).bind λfs=>bif gT args then bif gT (kw.map (·.2)) then bif DY fs then some (.inst f fs,aq) else none else none else none else none
def te (l:List DV):Option (List DV):=List.casesOn (motive:=λ_=>Option (List DV)) l none λv r=>bif o6 v then some r else none
def xI (B:tp) (ih:ny):ny:=λC f args kw aq=>
 (te args).bind λrest=>aq.bind λas=>(qz B ih C f (.inst C (vu as)::rest) kw none).bind λr=>bif r.2.isNone then bif IZ r.1 then bif gT rest then bif gT (kw.map (·.2)) then some (r.1,some as) else none else none else none else none
def N6 (r:DV×bU):DV×bU:=Option.rec (motive:=λ_=>DV×bU) r (λ_=>(.rf,r.2)) (uo r.1)
def fN (B:tp) (n:Nat):ny:=
 Nat.rec (motive:=λ_=>ny) (λ_ _ _ _ _=>none) (λn ih C f args kw aq=>
  aZ (B.spec n C f args kw aq) (aZ (B.yO f) (bif B.pure f then xI B ih C f args kw aq else bif B.dim f then(qz B ih C f args kw aq).bind λr=>some (N6 r) else qz B ih C f args kw aq)
   λfI=>DB ih f fI args kw aq) some) n
section
variable {U:Program} {w:World} {Y:Base} {B:tp} (O:TabsOk U w Y B)
def xZ (f:au):On (λv=>f.val=v) (ue f):=by cases f<;>first|exact trivial|exact rfl
def Ry {C d:Nat} {sc:Scope} {code:Nat->List DV->List (Str×DV)->bU->Option (DV×bU)} (O:TabsOk U w Y B) (hd:∀x k,sc.names.lookup x=some k->(x==("__debug__":Str))=false)
    (hc:∀f args kw aq r aX,code f args kw aq=some (r,aX)->af U w C Y d (.ref f) args kw aq r aX):mR U w Y d (B.cx C sc code):=⟨O,hd,hc⟩
def lookup_mem {α:Type} {x:Str} {k:α} {l:List (Str×α)}:l.lookup x=some k->(x,k)∈l:=by
 induction l with
 |nil=>exactλh=>ns h
 |cons p r ih=>
  intro h
  rw[f7] at h
  by_cases e:x=p.1
  ·rw[d7 e] at h;rw[<-eN h,e];exact .head _
  ·rw[dX e] at h;exact .tail _ (ih h)
def Rm (args:List DV) (kw:List (Str×DV)) (out:List (Str×Src)) (bl:List (Str×DV)):Prop:=bl.map (·.1)=out.map (·.1)/\∀{P:Params} {G:Gh} {vs ks:List Value},eC P G args vs->eC P G (kw.map (·.2)) ks->(∀x v u,(x,Src.dv v u)∈out->DR P G v u)->Na P G bl (out.map λp=>(p.1,p.2.val vs ks))
def Yr {args:List DV} {kw:List (Str×DV)} {s:Src} {v:DV} {P:Params} {G:Gh} {vs ks:List Value} (h:s.get args kw=some v) (ha:eC P G args vs) (hk:eC P G (kw.map (·.2)) ks) (hv:∀v u,s=.dv v u->DR P G v u):DR P G v (s.val vs ks):=by
 have g:∀{l:List DV} {us:List Value} {i:Nat},eC P G l us->l[i]?=some v->DR P G v (us.getD i .none):=λh e=>bz (h.at _ _ e) λu e q=>by rw[Y5,e];exact q
 cases s with
 |arg i=>exact g ha h
 |kw i=>exact g hk (Rf.trans h)
 |dv v' u=>exact eN h▸hv v' u rfl
def FT {args:List DV} {kw:List (Str×DV)} (out:List (Str×Src)):On (Rm args kw out) (getAll args kw out):=
 List.rec (motive:=λout=>On (Rm args kw out) (getAll args kw out)) ⟨rfl,λ_ _ _=>.nil⟩
  (λp r ih=>(aY (p.2.get args kw)).b λv h1=>ih.b λl h2=>⟨aT (p.1::·) h2.1,λha hk hv=>.cons (Yr h1 ha hk λv u e=>hv p.1 v u (e▸.head _)) (h2.2 ha hk λx v u q=>hv x v u (.tail _ q))⟩) out
def CO {xs:List Str}:∀{kw:List (Str×DV)},EE xs kw=true->xs=kw.map (·.1):=by
 induction xs with
 |nil=>exactλh=>bT h▸rfl
 |cons x r ih=>
  intro kw h
  cases kw with
  |nil=>exact ft h
  |cons y r'=>exact a2 (aw h) λh1 h2=>by rw[w6,<-ih h2,(bF _ _).mp h1]
def Ag {f:Nat} {args:List DV} {kw:List (Str×DV)} (rows:List k6):On (λb=>b∈rows/\b.f=f/\b.n=args.length/\b.da=kw.map (·.1)) (cR rows f args kw):=
 List.rec (motive:=λrows=>On (λb:k6=>b∈rows/\b.f=f/\b.n=args.length/\b.da=kw.map (·.1)) (cR rows f args kw)) trivial
  (λr rs ih=>dY (λc=>a2 (aw c) λc c3=>a2 (aw c) λc1 c2=>⟨.head _,iS c1,iS c2,CO c3⟩) λ_=>ih.up λ_ h=>⟨.tail _ h.1,h.2⟩) rows
def I2 (K:Frag) (f:Nat):On (λI=>∃fd,fdOf K f=some fd/\fd.body=.stmts I.body/\fd.scope=I.sc) (qh K f):=(aY (fdOf K f)).b λfd e=>(Ft fd.body).b λb h=>⟨fd,e,h,rfl⟩
include O
theorem IA {f:Nat} {I:Zb} (h1:B.fns f=true) (h2:qh B.K f=some I):∀x k,I.sc.names.lookup x=some k->(x==("__debug__":Str))=false:=λx k e=>
 t9 ((I2 _ _).get h2) λ_ e1 _ e2=>((uf (O.fns f h1) e1).nm _ (lookup_mem (e2▸e))).2
theorem callee {f:Nat} {args:List DV} {kw:List (Str×DV)} {I:Zb} {row:k6} {bl:List (Str×DV)} (h1:B.fns f=true) (h2:qh B.K f=some I) (h3:cR B.rows f args kw=some row) (h4:getAll args kw row.out=some bl):
 ∃fd,fdOf B.K f=some fd/\fd.scope=I.sc/\Callee w B.K Y f args kw bl fd I.body:=by
 refine t9 ((I2 _ _).get h2) λfd e1 e2 e3=>a4 ((Ag _).get h3) λr1 r2 r3 r4=>a3 (O.rows row r1) λrg rb rv=>bz ((DN _ _).get e1) λo ho hd=>a2 ((FT _).get h4) λnm drb=>a2 (CM rg (r2.symm▸e1)) λrg1 rg2=>?_
 have g:=uf (O.fns f h1) e1
 exact⟨fd,e1,e3,⟨o,O.T.Jx _ _ ho,hd⟩,g.cd,e2,g.gl,g.bt,λx hx=>(g.nm x hx).1,λx hx=>bz (Ht.mp (nm▸List.mem_map_of_mem hx:x.1∈row.out.map (·.1))) λy y1 y2=>y2▸rg1 y y1,by rw[nm];exact rg2,
  λG s vs ks X hb ha hkw=>⟨row.out.map λp=>(p.1,p.2.val vs ks),by
   rw[<-r4]
   exact kp_binds X λS=>rb S fd vs ks (by rw[r2];exact e1) (by rw[r3,ha.length]) (by rw[r4,mG,<-hkw.length,mG]),drb ha hkw λx v u q=>rv x v u q G hb⟩,g.co,g.ge,g.kd⟩
theorem IC {n C f:Nat} {args:List DV} {kw:List (Str×DV)} {aq:bU} {I:Zb} {row:k6} {bl:List (Str×DV)} {fl:au} {ba:aj} {v:DV} (h1:B.fns f=true) (h2:qh B.K f=some I) (h3:cR B.rows f args kw=some row) (h4:getAll args kw row.out=some bl)
 (run:aF U w C Y I.sc n I.body ⟨aq,bl.map λp=>(p.1,.pv p.2)⟩ fl ba) (h6:ue fl=some v):af U w C Y (n+1) (.ref f) args kw aq v ba.aq:=
 t9 (callee O h1 h2 h3 h4) λ_ _ e c=>(xZ fl).get h6▸Qo O.T c (e.symm▸run)
def HI (U:Program) (w:World) (Y:Base) (n:Nat) (ih:ny):Prop:=∀C f args kw aq r aX,ih C f args kw aq=some (r,aX)->af U w C Y n (.ref f) args kw aq r aX
omit O in
theorem Tz {n C f:Nat} {args:List DV} {kw:List (Str×DV)} {aq:bU} {r:DV×bU} (h:af U w C Y n (.ref f) args kw aq r.1 r.2):af U w C Y n (.ref f) args kw aq (N6 r).1 (N6 r).2:=by
 have k:=nT r.1
 unfold N6
 cases q:uo r.1 with
 |none=>exact h
 |some p=>exact(k.get q▸h:af U w C Y n (.ref f) args kw aq (.inst p.1 p.2) r.2).Om
variable {n C f:Nat} {args:List DV} {kw:List (Str×DV)} {aq:bU} {ih:ny} (RD:HI U w Y n ih)
include RD
theorem mV:On (λq=>af U w C Y (n+1) (.ref f) args kw aq q.1 q.2) (qz B ih C f args kw aq):=
 ak λh1=>(aY (qh B.K f)).b λI h2=>(aY (cR ..)).b λrow h3=>(aY (getAll ..)).b λbl h4=>(iB (qE (Ry O (C:=C) (d:=n) (sc:=I.sc) (code:=ih C) (IA O h1 h2) (RD C)) 60) _ _).b λq h5=>(aY (ue q.1)).b λv h6=>
  IC O h1 h2 h3 h4 h5 h6
omit O RD in
theorem GV (as:List (Str×ae)):On (λfs=>(fs.map λp=>(p.1,.pv p.2))=as) (CH as):=
 List.rec (motive:=λas=>On (λfs:List (Str×DV)=>(fs.map λp=>(p.1,.pv p.2))=as) (CH as)) rfl (λp r ih=>(iA p.2).b λv h=>ih.b λl h'=>by rw[<-h'];exact aT (λk=>(p.1,k)::_) h) as
theorem zW {fI:Nat} (hm:B.yO f=some fI):On (λq=>af U w C Y (n+1) (.ref f) args kw aq q.1 q.2) (DB ih f fI args kw aq):=
 (aY (ih f fI (.self::args) kw (some []))).b λr h1=>ak λer=>(aY r.2).b λas ea=>(GV as).b λfs h2=>ak λh3=>ak λh4=>ak λh5=>L1 O.T (O.yO _ _ hm) h3 h4 h5 (RD _ _ _ _ _ _ _ (h1.trans (aT some (show r=(.none,some (fs.map λp=>(p.1,.pv p.2))) from by rw[h2,<-ea,lW er]))))
omit O RD in
theorem mj (l:List DV):On (λr=>.self::r=l) (te l):=by
 cases l with
 |nil=>exact trivial
 |cons v r=>exact ak λh=>hU h▸rfl
theorem xJ:On (λq=>af U w C Y (n+1) (.ref f) args kw aq q.1 q.2) (xI B ih C f args kw aq):=
 (mj args).b λrest h=>h▸(aY aq).b λas e=>e.symm▸(mV O RD).b λq h1=>ak λhn=>ak λh2=>ak λh3=>ak λh4=>(SK.mp hn▸h1:af U w C Y (n+1) (.ref f) _ kw none q.1 none).aiU h2 h3 h4
omit RD in
theorem Ik (n:Nat):∀(C f:Nat) (args:List DV) (kw:List (Str×DV)) (aq:bU),On (λq=>af U w C Y n (.ref f) args kw aq q.1 q.2) (fN B n C f args kw aq):=
 Nat.rec (motive:=λn=>∀(C f:Nat) (args:List DV) (kw:List (Str×DV)) (aq:bU),On (λq:DV×bU=>af U w C Y n (.ref f) args kw aq q.1 q.2) (fN B n C f args kw aq)) (λ_ _ _ _ _=>trivial) (λn ih C f args kw aq=>
  have ih:HI U w Y n (fN B n):=λC f args kw aq _ _ h=>(ih C f args kw aq).get h
  (aY (B.spec n C f args kw aq)).or (λr h=>O.spec _ _ _ _ _ _ _ _ h) λ_=>(aY (B.yO f)).or (λfI h=>zW O ih h) λ_=>dY (λ_=>xJ O ih) λ_=>dY (λ_=>(mV O ih).b λ_ h=>Tz h) λ_=>mV O ih) n
omit RD in
theorem gE (n C f:Nat) (args:List DV) (kw:List (Str×DV)) (aq:bU) (r:DV) (aX:bU) (h:fN B n C f args kw aq=some (r,aX)):af U w C Y n (.ref f) args kw aq r aX:=(Ik O n C f args kw aq).get h
end
structure Kn where
 ch:Nat->Int->Option Nat
 more:Nat->Int->Option Bool
 pos:Nat->Bool
 MP:Nat->Bool
structure gW (T:Kn) (V:Val):Prop where
 ch:∀t k c,T.ch t k=some c->∃n:Nat,V.β t+k=n/\(V.ς 0)[n]?=some c
 more:∀t k b,T.more t k=some b->b=decide (V.β 0<=V.β t+k)
 len:V.β 0=(V.ς 0).length
 pos:∀t,T.pos t=true->1<=V.β t
 MP:∀t,T.MP t=true->V.β t=0
def SX (a:List Nat) (l:List (List Nat)):Bool:=List.rec (motive:=λ_=>Bool) false (λh _ ih=>bif fP a h then true else ih) l
def Nl (a:List Nat) (l:List (List Nat)):SX a l=l.contains a:=by
 induction l with
 |nil=>rfl
 |cons h r ih=>
  show(bif fP a h then true else SX a r)=_
  rw[jo,List.contains_cons,ih]
  cases(a==h)<;>rfl
def K9 (o:Option Bool):Option Bool:=o.map not
def isD (x y:DV):Option Bool:=bif qo y then isNone x else(mI y).bind λk=>isBool k x
def inD (x y:DV):Option Bool:=
 aZ (IB y) ((iE x).bind λa=>aZ (iE y) ((zr y).bind λl=>(strsOf l).bind λls=>some (SX a ls)) λb=>(dJ a).bind λc=>some (bc c b)) λl=>(dictGet l x).bind λz=>some z.isSome
def ads (op:CmpOp) (a b:List Nat):Option Bool:=CmpOp.casesOn (motive:=λ_=>Option Bool) op (some (fP a b)) (some (!fP a b)) none ((dJ a).bind λc=>(dJ b).bind λe=>some (Nat.ble c e)) none none none none none none
def isEq (op:CmpOp):Bool:=Nat.beq op.ctorIdx 0
def acG (T:Kn) (op:CmpOp) (p q:Option Nat×Int):Option Bool:=
 bif decide (p.1=q.1) then z4 op p.2 q.2 else p.1.bind λt=>aZ q.1 (bif T.pos t&&(decide (0<=p.2)&&decide (q.2=0)) then bif isEq op then some false else bif Nat.beq op.ctorIdx 1 then some true else none else bif T.MP t then z4 op p.2 q.2 else none)
  λt'=>bif Nat.beq op.ctorIdx 5 then bif Nat.beq t' 0 then bif decide (q.2=0) then T.more t p.2 else none else none else none
def CC (T:Kn) (op:CmpOp) (x y:DV):Option Bool:=
 aZ (Cz y) ((iE y).bind λb=>aZ (iE x) (bif qo x then bif isEq op then some false else none else none) λa=>ads op a b)
  λq=>aZ (Cz x) (bif qo x then bif isEq op then some false else none else none) λp=>acG T op p q
def Tt (T:Kn) (op:CmpOp) (x y:DV):Option Bool:=CmpOp.casesOn (motive:=λ_=>Option Bool) op (CC T .Eq x y) (CC T .NotEq x y) (CC T .Lt x y) (CC T .LtE x y) (CC T .Gt x y) (CC T .GtE x y) (isD x y) (K9 (isD x y)) (inD x y) (K9 (inD x y))
def S5 (op:Operator) (x y:DV):Option DV:=aZ (iE x) (aZ (intD x) (Fm op x y) λa=>aZ (intD y) (Fm op x y) λb=>(binI op a b).bind λc=>some (.int c))
 λa=>(iE y).bind λb=>bif Nat.beq op.ctorIdx 0 then bif Nat.ble (a.length+b.length) 4194304 then some (.str (a++b)) else none else none
def adj (x:DV):Option (List DV):=aZ (zr x) (yn x) some
def Yz (T:Kn) (x i:DV):Option DV:=
 aZ (sO x) (aZ (IB x) ((intD i).bind λi=>aZ (iE x) ((adj x).bind λl=>(idx i l.length).bind λn=>l[n]?) λl=>(idx i l.length).bind λn=>(l[n]?).bind λc=>some (.str [c]))
  λl=>(dictGet l i).bind λz=>z) λn=>(iC i).bind λp=>bif Nat.beq n 0 then(T.ch p.1 p.2).bind λc=>some (.str [c]) else none
def chars (T:Kn) (t:Nat) (n:Nat):Int->Option (List Nat):=
 Nat.rec (motive:=λ_=>Int->Option (List Nat)) (λ_=>some []) (λ_ ih k=>(T.ch t k).bind λc=>(ih (k+1)).bind λl=>some (c::l)) n
def slD (T:Kn) (x lo hi:DV):Option DV:=(sO x).bind λn=>(iC lo).bind λp=>(iC hi).bind λq=>
 bif Nat.beq n 0 then bif Nat.beq p.1 q.1 then bif decide (p.2<=q.2) then bif (T.ch p.1 p.2).isSome then(chars T p.1 (q.2 - p.2).toNat p.2).bind λl=>some (.str l) else none else none else none else none
def zU:Value->Option String:=iP Value.ctorIdx 9 λv h=>@Value.builtin.elim (λ_=>String) v h id
def Sz:Value->Option String:=iP Value.ctorIdx 8 λv h=>@Value.type.elim (λ_=>String) v h id
def Og (f:Value) (args:List DV):Option Res:=
 aZ (zU f) ((Sz f).bind λn=>(dJ args).bind λx=>aZ (IB x) ((iE x).bind λl=>(dJ l).bind λc=>bif decide (n="int") then bif Nat.ble 48 c then bif Nat.ble c 57 then some (.pv (.int ((c - 48:Nat):Int))) else none else none else none)
  λl=>bif decide (n="list") then(q6 l).bind λl'=>bif decide (l'.map (·.1)).Nodup then bif Nat.ble l'.length 1000 then some (.fl (l'.map λp=>.int p.1)) else none else none else none)
  λn=>aZ (dJ args) ((two2 args).bind λp=>(intD p.1).bind λa=>(intD p.2).bind λb=>bif decide (n="max") then some (.pv (.int (if b>a then b else a))) else none)
   λx=>(sO x).bind λk=>bif decide (n="len") then bif Nat.beq k 0 then some (.pv (.sint 0 0)) else none else none
section
variable {U:Program} {w:World} {V:Val} {T:Kn}
def Jw (x y:DV):On (λb=>fh U w V .In x y b/\fh U w V .NotIn x y (!b)) (inD x y):=
 (qD y).or (λl h=>h▸(ie (U:=U) (w:=w) l x).b λz hz=>hz _ λ_ _ _ _ _ _ _ D e1 e2 MX e3=>e1▸e2▸e3▸⟨z6 D MX,tv D MX⟩)
   λ_=>(cT x).b λa ha=>ha▸(cT y).or (λb hb=>hb▸(bp a).b λc hc=>hc▸nY ..▸⟨jZ rfl,jZ rfl⟩)
    λ_=>(qP y).b λl hl=>hl▸(aY (strsOf l)).b λls h=>Nl ..▸⟨z7 h,tw h⟩
def JF (x y:DV):On (λb=>fh U w V .Is x y b/\fh U w V .IsNot x y (!b)) (isD x y):=
 dY (λc=>.mk λb h=>lW c▸⟨oU (.inl ⟨rfl,rfl⟩) λP G u v=>qI h P G u v,oU (.inr ⟨rfl,rfl⟩) λP G u v=>qI h P G u v⟩)
  λ_=>(k8 y).b λk hk=>hk▸.mk λb h=>⟨oU (.inl ⟨rfl,rfl⟩) λP G u v=>Dz h P G u v,oU (.inr ⟨rfl,rfl⟩) λP G u v=>Dz h P G u v⟩
def UD (a b:Nat):(!decide ([b]<[a]))=Nat.ble a b:=by
 cases h:Nat.ble a b with
 |true=>exact(Rc _).mpr (Hv λq=>by
  cases q with
  |cons q=>exact nomatch q
  |rel q=>exact xk.mpr (e9 h) q)
 |false=>exact aT not (HF (.rel (Nat.not_le.mp λq=>tf ((Nat.ble_eq.mpr q).symm.trans h))))
def QB (op:CmpOp) (a b:List Nat):On (fh U w V op (.str a) (.str b)) (ads op a b):=by
 cases op with
 |Eq=>exact jZ (aT some (jo a b).symm)
 |NotEq=>exact jZ (aT (λc=>some (!c)) (jo a b).symm)
 |LtE=>exact(bp a).b λc h=>(bp b).b λe h'=>h▸h'▸jZ (aT some (UD c e))
 |_=>exact trivial
def vH {op:CmpOp} (h:isEq op=true):.Eq=op:=by cases op<;>first|rfl|exact ft h
def DD {op:CmpOp} {x y:DV} {a b a' b':Int} {c:Bool} (hx:intOf V x=some a') (hy:intOf V y=some b') (z:Int) (e:a'=z+a) (e':b'=z+b) (h:z4 op a b=some c):fh U w V op x y c:=lg hx hy (by rw[e,e',z5];exact h)
def O0 {op:CmpOp} (h:Nat.beq op.ctorIdx 1=true):.NotEq=op:=by cases op<;>first|rfl|exact ft h
def OY {op:CmpOp} (h:Nat.beq op.ctorIdx 5=true):.GtE=op:=by cases op<;>first|rfl|exact ft h
def PY (O:gW T V) {op:CmpOp} {x y:DV} {p q:Option Nat×Int} (hx:intOf V x=some (wJ V p.1+p.2)) (hy:intOf V y=some (wJ V q.1+q.2)):On (fh U w V op x y) (acG T op p q):=
 dY (λc=>.mk λb h=>DD hx hy (wJ V p.1) rfl (aT (wJ V · +q.2) (mQ c).symm) h) λ_=>(aY p.1).b λt et=>
  have hx:intOf V x=some (V.β t+p.2):=hx.trans (aT (λo=>some (wJ V o+p.2)) et)
  (aY q.1).or (λt' e'=>ak λc=>OY c▸ak λc=>ak λc'=>.mk λb h=>lg hx (b:=V.β 0) (hy.trans (aT some (by rw[e',mQ c',iS c];exact zA _))) (aT some (O.more _ _ _ h).symm))
  λe'=>
   have hy:intOf V y=some q.2:=hy.trans (aT some (by rw[e'];exact zL _))
   dY (λc=>a2 (aw c) λc1 c=>a2 (aw c) λc2 c3=>
    have hy:intOf V y=some 0:=hy.trans (aT some (mQ c3))
    have ne:V.β t+p.2≠0:=Int.ne_of_gt (Int.lt_of_lt_of_le (Int.lt_of_lt_of_le Int.zero_lt_one (O.pos _ c1)) (Int.le_add_of_nonneg_right (mQ c2)))
    dY (λc=>vH c▸lg hx hy (aT some (HE.mpr ne))) λ_=>ak λc=>O0 c▸lg hx hy (aT some (bne_iff_ne.mpr ne)))
    λ_=>ak λc=>.mk λb h=>DD hx hy 0 (aT (· +p.2) (O.MP _ c)) (zL _).symm h
def PX (O:gW T V) (op:CmpOp) (x y:DV):On (fh U w V op x y) (CC T op x y):=
 (qK V y).or (λq hy=>(qK V x).or (λp hx=>PY O hx hy) λ_=>ak λhx=>ak λho=>lW hx▸vH ho▸tr hy)
   λ_=>(cT y).b λb hb=>hb▸(cT x).or (λa ha=>ha▸QB op a b) λ_=>ak λhx=>ak λho=>lW hx▸vH ho▸vk
def Ei {P:Bool->Prop} {o:Option Bool} (h:On (λb=>P (!b)) o):On P (K9 o):=by cases o;exact trivial;exact h
def N0 (O:gW T V) (op:CmpOp) (x y:DV):On (fh U w V op x y) (Tt T op x y):=by
 cases op with
 |Is=>exact(JF x y).up λ_ h=>h.1
 |IsNot=>exact Ei ((JF x y).up λ_ h=>h.2)
 |In=>exact(Jw x y).up λ_ h=>h.1
 |NotIn=>exact Ei ((Jw x y).up λ_ h=>h.2)
 |_=>exact PX O _ x y
def NZ (O:gW T V) {op:CmpOp} {x y:DV} {b:Bool} (h:Tt T op x y=some b):fh U w V op x y b:=(N0 O op x y).get h
def JD {op:Operator} (h:Nat.beq op.ctorIdx 0=true):.Add=op:=by cases op<;>first|rfl|exact ft h
def Ny (op:Operator) (x y:DV):On (qe U w op x y) (S5 op x y):=
 (cT x).or (λa ha=>(cT y).b λb hb=>ak λc=>ak λh=>JD c▸ha▸hb▸lN (e9 h))
   λ_=>(bQ x).or (λa ha=>(bQ y).or (λb hb=>(aY (binI op a b)).b λc h=>ha▸hb▸jT h) λ_=>.mk λ_ h=>Dt h) λ_=>.mk λ_ h=>Dt h
def Nx {op:Operator} {x y z:DV} (h:S5 op x y=some z):qe U w op x y z:=(Ny op x y).get h
def Qs (x:DV):On (λl=>.tup l=x\/.lst l=x) (adj x):=(qP x).or (λl h=>.inl h) λ_=>(kc x).up λl h=>.inr h
def QF (O:gW T V) (x i:DV):On (qf U w V x i) (Yz T x i):=
 (jK x).or (λn h=>h▸(dw i).b λp h'=>h'▸ak λc=>(aY (T.ch p.1 p.2)).b λc' hc=>bz (O.ch _ _ _ hc) λ_ e1 e2=>iS c▸X7 e1 e2)
   λ_=>(qD x).or (λl h=>h▸(ie (U:=U) (w:=w) l i).b λz hz=>.mk λz' e=>hz _ λ_ _ _ _ _ _ _ D e1 e2 MX e3=>e1▸e2▸ac2 D MX (e3.trans e))
    λ_=>(bQ i).b λk hk=>hk▸(cT x).or (λl h=>h▸(aY (idx ..)).b λn h1=>(aY l[n]?).b λc h2=>LQ h1 h2)
     λ_=>(Qs x).b λl h=>(aY (idx ..)).b λn h1=>.mk λz h2=>h.elim (λh=>h▸ac7 h1 h2) λh=>h▸ED h1 h2
def EU (O:gW T V) {x i z:DV} (h:Yz T x i=some z):qf U w V x i z:=(QF O x i).get h
def Ic (O:gW T V) {t:Nat} (n:Nat):∀(k:Int) (l:List Nat) (a:Nat),chars T t n k=some l->V.β t+k=a->a<=(V.ς 0).length->a+n<=(V.ς 0).length/\l=((V.ς 0).drop a).take n:=by
 induction n with
 |zero=>exactλk l a h _ hl=>⟨hl,(eN h).symm.trans List.take_zero.symm⟩
 |succ n ih=>
  intro k l a h e _
  refine bz (pR (show(T.ch t k).bind (λc=>(chars T t n (k+1)).bind λl=>some (c::l))=some l from h)) λc h1 h=>bz (pR h) λl' h2 h=>bz (O.ch _ _ _ h1) λm e1 e2=>?_
  have em:m=a:=Int.ofNat.inj (e1.symm.trans e)
  have lt:a<(V.ς 0).length:=em▸(M6.mp e2).1
  have⟨i1,i2⟩:=ih (k+1) l' (a+1) h2 ((Hs ..).symm.trans (aT (· +1) e)) (Nat.succ_le_of_lt lt)
  refine⟨Rg a 1 n▸i1,?_⟩
  rw[<-eN h,i2,List.drop_eq_getElem_cons lt,List.take_succ_cons,eN (e2.symm.trans ((aT (λi=>(V.ς 0)[i]?) em).trans (zM lt)))]
def QG {z a b:Int} {m:Nat} (e:z+a=m) (h:a<=b):z+b=((m+(b - a).toNat:Nat):Int):=by rw[Int.natCast_add,ad9 (Int.sub_nonneg.mpr h),<-e];omega
def Yo (O:gW T V) (x lo hi:DV):On (Df U w V x lo hi) (slD T x lo hi):=
 (jK x).b λn hx=>(dw lo).b λp hl=>(dw hi).b λq hh=>ak λh1=>ak λh2=>ak λh3=>ak λh4=>(aY (chars ..)).b λl h=>fi (Y9.mp h4) λc hc=>bz (O.ch _ _ _ hc) λm e1 e2=>
   a2 (Ic O (q.2 - p.2).toNat p.2 l m h e1 (Rh (M6.mp e2).1)) λi1 i2=>
   hx▸hl▸hh▸⟨V.ς 0,m,m+(q.2 - p.2).toNat,aT (λn=>some (V.ς n)) (iS h1),aT some e1,aT some (iS h2▸QG e1 (mQ h3)),Hu ..,i1,by rw[i2,Nat.add_sub_cancel_left]⟩
def Yn (O:gW T V) {x lo hi z:DV} (h:slD T x lo hi=some z):Df U w V x lo hi z:=(Yo O x lo hi).get h
def N5 (k:Fin 10):PySem.intText? ⟨⟨[48+k.val]⟩⟩=some (k.val:Int):=by revert k;decide+kernel
def Aa {c:Nat} (h1:48<=c) (h2:c<=57):PySem.intText? ⟨⟨[c]⟩⟩=some ((c - 48:Nat):Int):=
 (aT (λc=>PySem.intText? ⟨⟨[c]⟩⟩) (Nat.add_sub_cancel' h1).symm).trans (N5 ⟨c - 48,(Nat.sub_lt_iff_lt_add h1).mpr (Nat.lt_succ_of_le h2)⟩)
def tW:∀f:Value,On (λn=>.builtin n=f) (zU f):=cH .builtin λv h=>@Value.builtin.elim (λv=>∀h,Value.builtin (@Value.builtin.elim (λ_=>String) v h id)=v) v h (λ_ _=>rfl) h
def MI:∀f:Value,On (λn=>.type n=f) (Sz f):=cH .type λv h=>@Value.type.elim (λv=>∀h,Value.type (@Value.type.elim (λ_=>String) v h id)=v) v h (λ_ _=>rfl) h
def DT (O:gW T V) {Y:Base} (hV:Y.V=V) {C:Nat} (f:Value) (args:List DV):On (jQ U w C Y f args) (Og f args):=
 (tW f).or (λn hf=>hf▸(bp args).or (λx hx=>hx▸(jK x).b λk hk=>hk▸ak λh1=>ak λh2=>mQ h1▸Cv (by rw[hV,iS h2];exact O.len.symm.trans (zA _).symm))
   λ_=>(two_on args).b λp hp=>(bQ p.1).b λa ha=>(bQ p.2).b λb hb=>ak λh1=>by rw[<-hp,<-ha,<-hb,mQ h1];exact RW rfl)
   λ_=>(MI f).b λn hf=>(bp args).b λx hx=>hf▸hx▸(qD x).or (λl hl=>ak λh1=>(jw l).b λl' e=>ak λh2=>ak λh3=>by
    rw[<-hl,<-e,mQ h1];exact Xu rU (mQ h2) (e9 h3))
    λ_=>(cT x).b λl hl=>(bp l).b λc hc=>ak λh1=>ak λh2=>ak λh3=>by
     rw[<-hl,<-hc,mQ h1];exact acd (Aa (e9 h2) (e9 h3)) (by simp)
def aeu (O:gW T V) {Y:Base} (hV:Y.V=V) {C:Nat} {f:Value} {args:List DV} {r:Res} (h:Og f args=some r):jQ U w C Y f args r:=(DT O hV f args).get h
end
section
variable (X:Cx) (F:HM)
def ZV (as:List (Str×ae)) (x:Str):Option Nat:=aZ (aS as x) (X.B.bj X.C x) λk=>(uE k).bind λv=>(J4 v).bind λf=>bif X.B.RX X.C x&&X.B.ye f then some f else none
def nB (e:Expr) (Z:aj):Option (Nat×List DV×aj):=
 (gR e).bind λc=>(ve c.1).bind λq=>bif c.2.2.1.isEmpty then bif cS q.1 then bif dR c.2.1 [] q.2.2 c.2.2.2 then(F.E q.1 Z).bind λs0=>bif o6 s0.1.rest then s0.2.aq.bind λas=>(ZV X as q.2.1).bind λf=>(vp F c.2.1 s0.2).bind λa=>some (f,.self::a.1,a.2) else none else none else none else none
def tU (t v:Expr) (r:DV) (Z:aj):Option aj:=
 aZ (dW t) (aZ (Fn t) ((mF t).bind λes=>bif si v then(zr r).bind λvs=>(names X.sc es).bind λxs=>bif Nat.beq xs.length vs.length then some ⟨Z.aq,putAll Z.loc xs vs⟩ else none else none)
  λq=>(pF X Z q.1 q.2).bind λas=>bif Nat.ble as.length 900 then bif !fq.contains q.2||(aS as q.2).isNone then some ⟨some (bS as q.2 (.pv r)),Z.loc⟩ else none else none)
  λx=>bif fO X x then some ⟨Z.aq,bS Z.loc x (.pv r)⟩ else none
def ua:Stmt->Option Expr:=iP Stmt.ctorIdx 24 λe h=>@Stmt.Expr.elim (λ_=>Expr) e h λv _=>v
def vc:Stmt->Option (List Expr×Expr):=iP Stmt.ctorIdx 5 λe h=>@Stmt.Assign.elim (λ_=>List Expr×Expr) e h λts v _=>(ts,v)
def kr (st:Stmt):Expr:=Option.rec (motive:=λ_=>Expr) (Option.rec (motive:=λ_=>Expr) default (λq=>q.2) (vc st)) id (ua st)
def tL (st:Stmt) (r:DV) (Z:aj):Option aj:=
 aZ (ua st) ((vc st).bind λq=>(dJ q.1).bind λt=>bif cY q.2 then tU X t q.2 r Z else none) λv=>bif cY v then some Z else none
def CF (x:Str) (st:Stmt) (Z:aj):Option (Pl×Expr):=
 (ua st).bind λv=>(nC v).bind λq=>(dJ q.2.2.2.1).bind λe=>bif cS q.1 then bif dR [e] [] q.2.2.1 q.2.2.2.2 then bif cU q.2.1 x then(placeOf X Z q.1).bind λp=>((g8 Z p).bind vQ).bind λ_=>bif p.fix then some (p,e) else none else none else none else none
def jv:Stmt->aj->Option (Pl×Expr):=CF X Ef
def xV:Stmt->aj->Option (Pl×Expr):=CF X Eg
end
section
def xU:∀st:Stmt,On (λv=>∃p,.Expr v p=st) (ua st):=eK (P:=λe c=>∃p,Stmt.Expr c p=e) λe h=>@Stmt.Expr.elim (λe=>∀h,∃p,Stmt.Expr (@Stmt.Expr.elim (λ_=>Expr) e h λv _=>v) p=e) e h (λ_ p _=>⟨p,rfl⟩) h
def jR:∀st:Stmt,On (λq=>∃p,.Assign q.1 q.2 p=st) (vc st):=eK (P:=λe (q:List Expr×Expr)=>∃p,Stmt.Assign q.1 q.2 p=e) λe h=>@Stmt.Assign.elim (λe=>∀h,(λq:List Expr×Expr=>∃p,Stmt.Assign q.1 q.2 p=e) (@Stmt.Assign.elim (λ_=>List Expr×Expr) e h λts v _=>(ts,v))) e h (λ_ _ p _=>⟨p,rfl⟩) h
variable {U:Program} {w:World} {Y:Base} {d:Nat} {X:Cx} {F:HM} (O:mR U w Y d X) (FO:qV U w X.C Y X.sc d F)
def Nq (O:mR U w Y d X) (as:List (Str×ae)) (x:Str):On (λf=>(X.B.bj X.C x=some f/\look as x=none)\/look as x=some (.pv (.bj f))/\v3 X.B.K X.C x=true/\fnIn X.B.K f=true) (ZV X as x):=
 (aY (aS as x)).or (λk ek=>(iA k).b λv hv=>(yp v).b λf hm=>ak λh=>a2 (aw h) λh2 h3=>.inr ⟨(aG ..).symm.trans (ek.trans (aT some (hv.symm.trans (aT ae.pv hm.symm)))),O.t.RX _ _ h2,O.t.ye _ h3⟩)
   λek=>(aY (X.B.bj X.C x)).up λf hm=>.inl ⟨hm,(aG ..).symm.trans ek⟩
include O FO
theorem Np (e:Expr) (Z:aj):On (λq=>∀{r aX},af U w X.C Y d (.ref q.1) q.2.1 [] q.2.2.aq r aX->aC U w X.C Y X.sc d e Z r ⟨aX,q.2.2.loc⟩) (nB X F e Z):=
 (ib e).b λc h=>(qu c.1).b λq h'=>ak λz=>ak λh1=>ak λh2=>(fE FO q.1 Z).b λs0 h0=>ak λes=>(aY s0.2.aq).b λas ea=>(Nq O as q.2.1).b λf hf=>(fA FO _ _).b λa ha=>λhc=>h▸h'▸bT z▸hf.elim (λm=>sL O.t.T h1 h2 (O.t.bj _ _ _ m.1).1 (hU es▸h0.rest) ea m.2 ha .nil hc) λm=>mN O.t.T h1 h2 m.2.1 m.2.2 (hU es▸h0.rest) ea m.1 ha hc
theorem Nn {e:Expr} {Z aa:aj} {f:Nat} {vs:List DV} {r:DV} {aX:bU} (h:nB X F e Z=some (f,vs,aa)) (hc:af U w X.C Y d (.ref f) vs [] aa.aq r aX):aC U w X.C Y X.sc d e Z r ⟨aX,aa.loc⟩:=(Np O FO e Z).get h hc
omit FO in
theorem vd {t v:Expr} {pos:Pos} {Z aa:aj} {r:DV} (hc:aC U w X.C Y X.sc d v Z r aa) (h1:cY v=true):On (aU U w X.C Y X.sc d (.Assign [t] v pos) Z .next) (tU X t v r aa):=
 (dm t).or (λx h=>h▸ak λh2=>bk aa.loc x (.pv r)▸gw (r:=.pv r) hc.plain (aP h2) h1)
   λ_=>(nD t).or (λq h=>dk h λ_ _ h=>h▸(jI O _ _ _).b λas m=>ak λh3=>ak λh4=>bk as q.2 (.pv r)▸Mq (r:=.pv r) O.t.T hc.plain h1 m.l m.s m.db m.ea m.c (Ri (e9 h3) (by decide)) λhm=>(aG ..).symm.trans (SK.mp (oe h4 hm)))
   λ_=>(qQ t).b λes h=>dk h λ_ _ h=>h▸ak λh2=>(qP r).b λvs hv=>(aY (names X.sc es)).b λxs hx=>ak λh3=>pJ (hv▸hc) hx (iS h3) h1 (i8 h2)
omit FO in
theorem P7 {st:Stmt} {Z aa ba:aj} {r:DV} (hc:aC U w X.C Y X.sc d (kr st) Z r aa) (h:tL X st r aa=some ba):aU U w X.C Y X.sc d st Z .next ba:=
 On.get (P:=aU U w X.C Y X.sc d st Z .next) ((aY (ua st)).or (λv e=>ak λh1=>fi ((xU st).get e) λ_ e=>by subst e;exact EW hc h1)
  λ_=>(jR st).b λq e=>(bp q.1).b λt e'=>ak λh1=>fi e λ_ e=>by rw[<-e'] at e;subst e;exact vd O hc h1) h
omit FO
theorem uB (x:Str) (st:Stmt) (Z:aj):On (λq=>∃o apos pos qq,.Expr (.Call (.Attribute o x apos) [q.2] [] pos) qq=st/\cS o=true/\dR [q.2] [] apos pos=true/\gA U w X.C Y X.sc d o Z q.1/\q.1.fix=true/\∃ly,q.1.get Z=some (.ml ly)) (CF X x st Z):=
 (xU st).b λv h=>(mU v).b λq h'=>(bp q.2.2.2.1).b λe FV=>ak λg1=>ak λg2=>ak λg3=>(bZ O Z q.1).b λp hp=>(i6 (cv ..)).b λl0 e0=>ak λh4=>fi h λqq h=>⟨q.1,q.2.2.1,q.2.2.2.2,qq,by rw[<-h,<-h',<-FV,(bF _ _).mp g3],g1,g2,hp.1,h4,l0,e0⟩
theorem xp {st:Stmt} {Z aa:aj} {p:Pl} {e:Expr} {v:DV} {l:List DV} (h:jv X st Z=some (p,e)) (hc:aC U w X.C Y X.sc d e Z v aa) (hl:p.get aa=some (.ml l)) (hz:l.length+1<=lim):aU U w X.C Y X.sc d st Z .next (p.set aa (.ml (l++[v]))):=
 dk ((uB O _ _ _).get h) λ_ _ q=>dk q λ_ _ q=>a6 q λe a b c f g=>e▸uR a b c f hc g hl hz
theorem IT {st:Stmt} {Z aa:aj} {p:Pl} {e:Expr} {l l':List DV} (h:xV X st Z=some (p,e)) (hc:aC U w X.C Y X.sc d e Z (.lst l') aa) (hl:p.get aa=some (.ml l)) (hz:l.length+l'.length<=lim):aU U w X.C Y X.sc d st Z .next (p.set aa (.ml (l++l'))):=
 dk ((uB O _ _ _).get h) λ_ _ q=>dk q λ_ _ q=>a6 q λe a b c f g=>e▸uS a b c f hc g hl hz
end
abbrev Tg:=Nat->Option (Nat×Int)
def Val.tag (V:Val) (θ:Tg):Val:=⟨λt=>Option.rec (motive:=λ_=>Int) (V.β t) (λp=>V.β p.1+p.2) (θ t),V.ς⟩
def Base.tag (b:Base) (θ:Tg):Base:=⟨b.hp,b.V.tag θ,b.sys⟩
def Q0 (θ:Tg) (t:Nat) (k:Int):DV:=Option.rec (motive:=λ_=>DV) (.sint t k) (λp=>.sint p.1 (p.2+k)) (θ t)
def DV.tg (θ:Tg) (d:DV):DV:=DV.rec (motive_1:=λ_=>DV) (motive_2:=λ_=>List DV) (motive_3:=λ_=>List (DV×DV)) (motive_4:=λ_=>List (Str×DV)) (motive_5:=λ_=>DV×DV) (motive_6:=λ_=>Str×DV)
 .any .rf .none .bool .int .str (Q0 θ) .gO (λ_=>.tup) (λ_=>.lst) (λ_=>.iI) (λc _=>.inst c) .self .cls .fn .bj [] (λ_ _ d l=>d::l) [] (λ_ _ p l=>p::l) [] (λ_ _ p l=>p::l) (λk _ _ d=>(k,d)) (λx _ d=>(x,d)) d
def oL (θ:Tg) (l:List DV):List DV:=l.map (DV.tg θ)
def Zt (θ:Tg) (l:List (DV×DV)):List (DV×DV):=l.map λp=>(p.1,p.2.tg θ)
def tgF (θ:Tg) (l:List (Str×DV)):List (Str×DV):=l.map λp=>(p.1,p.2.tg θ)
def MA (θ:Tg) (l:List DV):(DV.tup l).tg θ=.tup (oL θ l):=by
 refine aT DV.tup ?_
 induction l with
 |nil=>rfl
 |cons d r ih=>exact aT (d.tg θ::·) ih
def C5 (θ:Tg) (l:List DV):(DV.lst l).tg θ=.lst (oL θ l):=by
 refine aT DV.lst ?_
 induction l with
 |nil=>rfl
 |cons d r ih=>exact aT (d.tg θ::·) ih
def Mz (θ:Tg) (l:List (DV×DV)):(DV.iI l).tg θ=.iI (Zt θ l):=by
 refine aT DV.iI ?_
 induction l with
 |nil=>rfl
 |cons d r ih=>exact aT ((d.1,d.2.tg θ)::·) ih
def E6 (θ:Tg) (c:Nat) (l:List (Str×DV)):(DV.inst c l).tg θ=.inst c (tgF θ l):=by
 refine aT (DV.inst c) ?_
 induction l with
 |nil=>rfl
 |cons d r ih=>exact aT ((d.1,d.2.tg θ)::·) ih
def nX (θ:Tg) (fs:List (Str×DV)) (x:Str):look (tgF θ fs) x=(look fs x).map (DV.tg θ):=f6 _ _ _
def ae.tg (θ:Tg) (k:ae):ae:=ae.casesOn (motive:=λ_=>ae) k (λv=>.pv (v.tg θ)) (λl=>.ml (oL θ l)) λl=>.md (Zt θ l)
def ae.wM (θ:Tg) (k:ae):(k.tg θ).mut=k.mut:=by cases k<;>rfl
def kY (θ:Tg) (l:List (Str×ae)):List (Str×ae):=l.map λp=>(p.1,p.2.tg θ)
def jC (θ:Tg) (l:List (Str×ae)) (x:Str):look (kY θ l) x=(look l x).map (ae.tg θ):=f6 _ _ _
def xh (θ:Tg) (a:bU):bU:=a.map (kY θ)
def aj.tg (θ:Tg) (Z:aj):aj:=⟨xh θ Z.aq,kY θ Z.loc⟩
def au.tg (θ:Tg) (f:au):au:=au.casesOn (motive:=λ_=>au) f .next .brk .cont λv=>.ret (v.tg θ)
def Sv (θ:Tg) (kw:List (Str×DV)):List (Str×DV):=kw.map λp=>(p.1,p.2.tg θ)
def Gh.ji (G:Gh) (V:Val):Gh:={G with V:=V}
abbrev Gh.tag (G:Gh) (θ:Tg):Gh:=G.ji (G.V.tag θ)
def zip_map {α β γ:Type} {R:γ->β->Prop} (f:α->γ) (l:List α) (m:List β):Zip R (l.map f) m↔Zip (λa=>R (f a)) l m:=by
 induction l generalizing m with
 |nil=>exact(oH m).trans (oH m).symm
 |cons a l ih=>exact(lL ih m).trans (lL (R:=λa=>R (f a)) (λ_=>Iff.rfl) m).symm
section
variable {P:Params} {G:Gh} {V:Val} {θ:Tg} {h:Heap} {O:Addr->Prop} {m:Str->Option Value}
def Qu (t:Nat) (k:Int) (v:Value):DR P G (Q0 θ t k) v↔DR P (G.tag θ) (.sint t k) v:=by
 show DR P G (Option.rec (motive:=λ_=>DV) (.sint t k) (λp=>.sint p.1 (p.2+k)) (θ t)) v↔∃tk,v=.int (Option.rec (motive:=λ_=>Int) (G.V.β t) (λp=>G.V.β p.1+p.2) (θ t)+k) tk
 cases θ t with
 |none=>exact .rfl
 |some p=>exact(Hs (G.V.β p.1) p.2 k).symm▸Iff.rfl
def nI (d:DV):∀v,DR P G (d.tg θ) v↔DR P (G.tag θ) d v:=DV.ind (M:=λd=>∀v,DR P G (d.tg θ) v↔DR P (G.tag θ) d v) (λ_=>.rfl) (λ_=>.rfl) (λ_=>.rfl) (λ_ _=>.rfl) (λ_ _=>.rfl) (λ_ _=>.rfl) Qu (λ_ _=>.rfl)
 (λl ih v=>MA θ l▸⟨λh=>h.mF λa vs n g z r=>.tup (G:=G.tag θ) g z (((zip_map ..).mp r).imp λd m b=>(ih d m b).mp),λh=>h.mF λa vs n g z r=>.tup (G:=G) g z ((zip_map ..).mpr (r.imp λd m b=>(ih d m b).mpr))⟩)
 (λl ih v=>C5 θ l▸⟨λh=>h.lu λa vs n g z r=>.lst (G:=G.tag θ) g z (((zip_map ..).mp r).imp λd m b=>(ih d m b).mp),λh=>h.lu λa vs n g z r=>.lst (G:=G) g z ((zip_map ..).mpr (r.imp λd m b=>(ih d m b).mpr))⟩)
 (λl ih v=>Mz θ l▸⟨λh=>h.vm λa es n q g r=>.iI (G:=G.tag θ) q g (((zip_map ..).mp r).imp λd m b x=>⟨x.1,(ih d m _).mp x.2⟩),λh=>h.vm λa es n q g r=>.iI (G:=G) q g ((zip_map ..).mpr (r.imp λd m b x=>⟨x.1,(ih d m _).mpr x.2⟩))⟩)
 (λc fs ih v=>E6 θ c fs▸⟨λh=>h.nU λa d es n g g' k2 k1=>.inst (G:=G.tag θ) g g' (λx e=>k2 x ((nX ..).trans (aT _ e))) λx dv e=>bz (k1 x _ ((nX ..).trans (aT _ e))) λu e' q=>⟨u,e',(ih x dv e u).mp q⟩,
   λh=>h.nU λa d es n g g' k2 k1=>.inst (G:=G) g g' (λx e=>k2 x (Option.map_eq_none_iff.mp ((nX ..).symm.trans e))) λx dv e=>bz (xl.mp ((nX ..).symm.trans e)) λd' h1 h2=>bz (k1 x d' h1) λu e' q=>⟨u,e',h2▸(ih x d' h1 u).mpr q⟩⟩)
 (λ_=>.rfl) (λ_ _=>.rfl) (λ_ _=>.rfl) (λ_ _=>.rfl) d
def oY (l:List DV) (vs:List Value):eC P G (oL θ l) vs↔eC P (G.tag θ) l vs:=(zip_map ..).trans ⟨λr=>Zip.mono (λd v=>(nI d v).mp) r,λr=>Zip.mono (λd v=>(nI d v).mpr) r⟩
def II (l:List (DV×DV)) (es:List DictEntry):qU P G (Zt θ l) es↔qU P (G.tag θ) l es:=(zip_map ..).trans ⟨λr=>Zip.mono (λd v x=>⟨x.1,(nI d.2 _).mp x.2⟩) r,λr=>Zip.mono (λd v x=>⟨x.1,(nI d.2 _).mpr x.2⟩) r⟩
def EM (k:ae) (v:Value):bD P G h O (k.tg θ) v↔bD P (G.tag θ) h O k v:=by
 cases k with
 |pv d=>exact nI d v
 |ml l=>exact⟨λx=>gm x λa vs n q=>a5 q λe g r z o=>⟨a,vs,n,e,g,(oY l vs).mp r,z,o⟩,λx=>gm x λa vs n q=>a5 q λe g r z o=>⟨a,vs,n,e,g,(oY l vs).mpr r,z,o⟩⟩
 |md l=>exact⟨λx=>DL x λa es n e g r o=>⟨a,es,n,e,g,(II l es).mp r,o⟩,λx=>DL x λa es n e g r o=>⟨a,es,n,e,g,(II l es).mpr r,o⟩⟩
def oB {sl:List (Str×ae)}:cj P G h O (kY θ sl) m↔cj P (G.tag θ) h O sl m:=
 have up:∀{y k},look sl y=some k->look (kY θ sl) y=some (k.tg θ):=λe=>(jC ..).trans (aT _ e)
 ⟨λx=>⟨λy e=>x.miss y ((jC ..).trans (aT _ e)),λy k e=>bz (x.hit y _ (up e)) λv h1 h2=>⟨v,h1,(EM k v).mp h2⟩,λy z ky kz ey ez my mz e=>x.once y z _ _ (up ey) (up ez) ((ae.wM ..).trans my) ((ae.wM ..).trans mz) e⟩,
   λx=>⟨λy e=>x.miss y (Option.map_eq_none_iff.mp ((jC ..).symm.trans e)),λy k e=>bz (xl.mp ((jC ..).symm.trans e)) λk' e1 e2=>bz (x.hit y k' e1) λv h1 h2=>⟨v,h1,e2▸(EM k' v).mpr h2⟩,
    λy z ky kz ey ez my mz e=>bz (xl.mp ((jC ..).symm.trans ey)) λa e1 e2=>bz (xl.mp ((jC ..).symm.trans ez)) λb e3 e4=>x.once y z a b e1 e3 ((ae.wM ..).symm.trans ((aT ae.mut e2).trans my)) ((ae.wM ..).symm.trans ((aT ae.mut e4).trans mz)) e⟩⟩
def Dp {C:Nat} {aq:bU}:Fl P C G h (xh θ aq)↔Fl P C (G.tag θ) h aq:=by
 cases aq with
 |none=>exact .rfl
 |some as=>
  have e:(kY θ as).length=as.length:=mG _
  exact⟨λx=>dk x λp d x=>dk x λes n A=>⟨p,d,es,n,A.par,A.inst,A.own,A.dict,e▸A.len,A.str,oB.mp A.sl⟩,λx=>dk x λp d x=>dk x λes n A=>⟨p,d,es,n,A.par,A.inst,A.own,A.dict,fa e▸A.len,A.str,oB.mpr A.sl⟩⟩
def DQ (f:au) (r:Flow):dN P G (f.tg θ) r↔dN P (G.tag θ) f r:=by
 cases f with
 |ret d=>exact⟨λx=>bz x λv e q=>⟨v,e,(nI d v).mp q⟩,λx=>bz x λv e q=>⟨v,e,(nI d v).mpr q⟩⟩
 |_=>exact .rfl
def jL {G':Gh} (e:G'.V=V.tag θ):(G'.ji V).tag θ=G':=by
 obtain⟨V',g,p,a,l⟩:=G'
 cases e
 rfl
end
section
variable {U:Program} {w:World} {C:Nat} {Y:Base} {θ:Tg} {d:Nat} {sc:Scope} {G G':Gh} {L:Addr} {Z ba:aj} {s:Shared} {aq aX:bU} {P:Params}
def ow (e:G.V=Y.V):cp P C Y G (xh θ aq) s↔cp P C (Y.tag θ) (G.tag θ) aq s:=
 ⟨λR=>⟨R.pins,R.dQ,aT (·.tag θ) e,R.fL,R.fF,R.apart,Dp.mp R.attr⟩,λR=>⟨R.pins,R.dQ,e,R.fL,R.fF,R.apart,Dp.mpr R.attr⟩⟩
def sv (e:G.V=Y.V):Rep P C Y G L (Z.tg θ) s↔Rep P C (Y.tag θ) (G.tag θ) L Z s:=
 ⟨λR=>⟨(ow e).mp R.tocp,R.fz,bz R.locs λm h q=>⟨m,h,oB.mp q⟩⟩,λR=>⟨(ow e).mpr R.tocp,R.fz,bz R.locs λm h q=>⟨m,h,oB.mpr q⟩⟩⟩
def Rep.tQ (R:Rep P C (Y.tag θ) G' L Z s):Rep P C Y (G'.ji Y.V) L (Z.tg θ) s:=(sv rfl).mpr (fa (jL R.val)▸R)
def cp.tQ (R:cp P C (Y.tag θ) G' aq s):cp P C Y (G'.ji Y.V) (xh θ aq) s:=(ow rfl).mpr (fa (jL R.val)▸R)
def DR.tQ {x:DV} {v:Value} (e:G'.V=Y.V.tag θ) (q:DR P G' x v):DR P (G'.ji Y.V) (x.tg θ) v:=(nI x v).mpr (fa (jL e)▸q)
def Later.ji {O:Addr->Prop} {s':Shared} {V V':Val} (l:Later O (G.ji V) s G' s') (e:G.V=V'):Later O G s (G'.ji V') s':=⟨⟨e.symm,l.sub.g,l.sub.par⟩,l.qj,l.anew,l.pe,l.kept,l.tM,l.size,l.gens,l.os⟩
def aF.lC {l:List Stmt} {f:au} (h:aF U w C (Y.tag θ) sc d l Z f ba):aF U w C Y sc d l (Z.tg θ) (f.tg θ) (ba.tg θ):=λA G L s env ro eo R Q k=>
 h A (G.tag θ) L s env ro eo ((sv R.val).mp R) Q λG' r s' R' l q=>k _ r s' R'.tQ (l.ji R.val) ((DQ f r).mpr (fa (jL R'.val)▸q))
def aC.lC {e:Expr} {v:DV} (h:aC U w C (Y.tag θ) sc d e Z v ba):aC U w C Y sc d e (Z.tg θ) (v.tg θ) (ba.tg θ):=λA G L s env ro eo R Q k=>
 h A (G.tag θ) L s env ro eo ((sv R.val).mp R) Q λG' u s' R' l q=>k _ u s' R'.tQ (l.ji R.val) (q.tQ R'.val)
def bu.lC {e:Expr} {b:Bool} (h:bu U w C (Y.tag θ) sc d e Z b ba):bu U w C Y sc d e (Z.tg θ) b (ba.tg θ):=λA G L s env ro eo R Q k=>
 h A (G.tag θ) L s env ro eo ((sv R.val).mp R) Q λG' s' R' l=>k _ s' R'.tQ (l.ji R.val)
def E4 (kw:List (Str×DV)):(Sv θ kw).map (·.1)=kw.map (·.1):=List.map_map
def E5 (kw:List (Str×DV)):(Sv θ kw).map (·.2)=oL θ (kw.map (·.2)):=by unfold Sv oL;rw[List.map_map,List.map_map];rfl
def af.lC {f:Value} {args:List DV} {kw:List (Str×DV)} {r:DV} (h:af U w C (Y.tag θ) d f args kw aq r aX):af U w C Y d f (oL θ args) (Sv θ kw) (xh θ aq) (r.tg θ) (xh θ aX):=λA G s vs ks ro R ha hk Q k=>
 fa (E4 kw)▸h A (G.tag θ) s vs ks ro ((ow R.val).mp R) ((oY ..).mp ha) ((oY ..).mp (E5 kw▸hk)) Q λG' v s' R' l e q=>k _ v s' R'.tQ (l.ji R.val) e (q.tQ R'.val)
def af.adG {f:Value} {args:List DV} {kw:List (Str×DV)} {r:DV} (h:af U w C Y d f (oL θ args) (Sv θ kw) (xh θ aq) (r.tg θ) (xh θ aX)):af U w C (Y.tag θ) d f args kw aq r aX:=λA G s vs ks ro R ha hk Q k=>
 have b:=fa (jL R.val)
 E4 kw▸h A (G.ji Y.V) s vs ks ro R.tQ ((oY ..).mpr (b▸ha)) (fa (E5 kw)▸(oY ..).mpr (b▸hk)) Q λG' v s' R' l e q=>k (G'.tag θ) v s' ((ow R'.val).mp R') ⟨⟨(aT (·.tag θ) R'.val).trans R.val.symm,l.sub.g,l.sub.par⟩,l.qj,l.anew,l.pe,l.kept,l.tM,l.size,l.gens,l.os⟩ e ((nI r v).mp q)
end
def kfT:List Nat:=[690,706,713,813,806,792,799,698,820,1100,834,827,727,841,848,855,862,1278,1404,1382,1016,1023,1030,1177,1107,1114,1121,1128,1135,1142,1418,1411,1439,1432,1446,1361,1354,1347,1368,1375,1340,960,967,974,981,988,995,1002,1009,1037,1044,1051,1058,1065,1072,1079,1086,1093,1149,1156,1163,1170,1184,1191,1198,1205,1212,1521,1520,1281,1280,730,729,53,52,67,66,95,94,114,113,135,134,147,146,159,158,179,178,191,190,203,202,215,214,227,226,239,238,251,250,263,262,275,274,287,286,299,298,311,310,323,322,342,341,361,360,380,379,400,399,427,426,449,448,469,468,481,480,501,500,513,512,533,532,553,552,565,564,585,584,597,596,609,608,621,620,633,632,659,658,744,743,763,762,1293,1292,0,1,2,3,4,5,6,7,8,9,10,21,35,43,50,85,92,111,132,176,339,358,377,397,417,424,446,466,498,530,550,582,649,656,668,682,720,760,783,869,876,883,890,897,904,911,918,925,932,939,946,953,1222,1229,1236,1243,1250,1257,1264,1271,1312,1319,1326,1333,1389,1396,1425,1453,1461,1468,1475,1482,1489,1497,1504,1511,1518,1531,1538,1545,1550,1557,1564,1569,1296,1304,1519,768,1213,1215,1279,669,728,731,732,51,54,55,58,65,68,71,93,98,112,115,116,119,133,138,145,150,157,162,177,182,189,194,201,206,213,218,225,230,237,242,249,254,261,266,273,278,285,290,297,302,309,314,321,326,340,345,359,364,378,383,398,403,425,428,429,432,447,452,467,472,479,484,499,504,511,516,531,536,551,556,563,568,583,588,595,600,607,612,619,624,631,636,657,735,742,761,764,765,1284,1291,1524,20,34,36,42,49,78,84,91,110,131,169,175,338,357,376,390,396,410,416,423,439,445,459,465,491,497,523,529,543,549,575,581,648,655,667,681,683,689,691,697,699,705,712,719,726,759,782,776,785,791,798,805,812,819,826,833,840,847,854,861,868,875,882,889,896,903,910,917,924,931,938,945,952,959,966,973,980,987,994,1001,1008,1015,1022,1029,1036,1043,1050,1057,1064,1071,1078,1085,1092,1099,1106,1113,1120,1127,1134,1141,1148,1155,1162,1169,1176,1183,1190,1197,1204,1211,1221,1228,1235,1242,1249,1256,1263,1270,1277,1311,1305,1318,1325,1332,1339,1346,1353,1360,1367,1374,1381,1388,1395,1397,1403,1410,1417,1424,1431,1438,1445,1452,1454,1460,1467,1474,1481,1488,1490,1496,1503,1510,1517,1530,1537,1544,1549,1556,1563,1568]
def KF (H:Array Nat->Int):Frag:=kfT.map λa=>(a,((zJ H).get a).getD o7)
def J5:List (Str×Nat):=[(aM,1312),(BV,1319),(BW,1326),(BY,1333),(BZ,1340),(B1,1347),(B3,1354),(B5,1361),(B6,1368),(B7,1375),(B8,1382),(B9,1389),(Ca,1396),(Cb,1404),(Cc,1411),(Cd,1418),(Ce,1425),(Cf,1432),(Cg,1439),(Ci,1446),(Cj,1453),(Ck,1461),(Cm,1468),(Cn,1475),(Co,1482),(Cp,1489),(Cq,1497),(Cr,1504),(Cs,1511),(Ct,1518),(AI,792),(AJ,799),(AK,806),(AL,813),(AM,820),(AN,827),(AP,834),(AQ,841),(AR,848),(AS,855),(AU,862),(AV,869),(AW,876),(AX,883),(AY,890),(AZ,897),(A0,904),(A1,911),(A2,918),(A3,925),(A4,932),(A5,939),(A6,946),(A7,953),(A8,960),(A9,967),(Ba,974),(Bb,981),(Bc,988),(Bd,995),(Be,1002),(Bf,1009),(Bg,1016),(Bh,1023),(Bi,1030),(Bj,1037),(Bk,1044),(Bl,1051),(Bm,1058),(Bn,1065),(Bo,1072),(Bp,1079),(Bq,1086),(Br,1093),(Bs,1100),(Bu,1107),(Bv,1114),(Bw,1121),(Bx,1128),(By,1135),(Bz,1142),(BA,1149),(BB,1156),(BC,1163),(BD,1170),(BE,1177),(BF,1184),(BG,1191),(BH,1198),(BI,1205),(BJ,1212),(BK,1222),(BL,1229),(BM,1236),(BN,1243),(BO,1250),(BP,1257),(BQ,1264),(BR,1271),(BS,1278),(AD,690),(sd,698),(AE,706),(AF,713),(AG,720),(AH,727)]
def X2:List Nat:=[53,114,135,147,159,179,191,203,215,227,239,251,263,275,287,299,311,323,342,361,380,400,427,449,469,481,501,513,533,553,565,585,597,609,621,633,763]
def RJ:List (Nat×Nat):=[(53,35),(114,111),(135,132),(147,111),(159,111),(179,176),(191,111),(203,111),(215,111),(227,111),(239,111),(251,111),(263,111),(275,111),(287,111),(299,111),(311,111),(323,111),(342,339),(361,358),(380,377),(400,397),(427,417),(449,446),(469,466),(481,417),(501,498),(513,417),(533,530),(553,550),(565,446),(585,582),(597,466),(609,417),(621,466),(633,417),(763,760)]
def vr:List Nat:=[21,35,111,132,176,339,358,377,397,417,446,466,498,530,550,582,668,682,690,698,706,713,720,727,760,783,792,799,806,813,820,827,834,841,848,855,862,869,876,883,890,897,904,911,918,925,932,939,946,953,960,967,974,981,988,995,1002,1009,1016,1023,1030,1037,1044,1051,1058,1065,1072,1079,1086,1093,1100,1107,1114,1121,1128,1135,1142,1149,1156,1163,1170,1177,1184,1191,1198,1205,1212,1222,1229,1236,1243,1250,1257,1264,1271,1278,1312,1326,1333,1340,1347,1354,1361,1368,1375,1382,1389,1396,1404,1411,1418,1425,1432,1439,1446,1453,1461,1468,1475,1482,1489,1497,1504,1511,1518,1531,1538,1545,1550,1557,1564,1569]
def gz:Str:=⟨#[115,99,114,105,112,116]⟩
def ZT (xs:List Str):Nat->List (Str×Src):=List.rec (motive:=λ_=>Nat->List (Str×Src)) (λ_=>[]) (λx _ ih k=>(x,.arg k)::ih (k+1)) xs
def aI (f n:Nat) (xs:List Str):k6:=⟨f,n,[],ZT xs 0⟩
def jt (f n:Nat) (k xs:List Str) (r:List (Str×Src)):k6:=⟨f,n,k,ZT xs 0++r⟩
def lD:List k6:=[aI 1569 1 [gz],aI 682 2 [ag,nf],aI 783 2 [ag,nf],aI 1312 2 [ag,nf],aI 21 1 [Px],aI 35 7 [ag,iu,iM,pj,mB,n6,n7],aI 111 3 [ag,aK,bg],aI 132 5 [ag,iu,dU,aK,bg],jt 176 3 [kK] [ag,aK,bg] [(kK,.kw 0)],aI 339 4 [ag,dU,aK,bg],aI 358 4 [ag,dU,aK,bg],aI 377 4 [ag,dU,aK,bg],jt 397 5 [] [ag,dU,Az,aK,bg] [(fD,.dv .none .none)],aI 397 6 [ag,dU,Az,aK,bg,fD],aI 417 3 [ag,aK,bg],aI 446 4 [ag,ke,aK,bg],jt 466 6 [] [ag,ke,mC,pz,aK,bg] [(AA,.dv .none .none)],jt 466 6 [AA] [ag,ke,mC,pz,aK,bg] [(AA,.kw 0)],jt 498 3 [kK] [ag,aK,bg] [(kK,.kw 0)],jt 530 3 [n8] [ag,aK,bg] [(n8,.kw 0),(yu,.dv .none .none),(yw,.dv .none .none)],jt 530 3 [n8,yu,yw] [ag,aK,bg] [(n8,.kw 0),(yu,.kw 1),(yw,.kw 2)],jt 550 3 [n8] [ag,aK,bg] [(n8,.kw 0)],jt 582 7 [] [ag,ke,mC,pz,dU,aK,bg] [(fD,.dv .none .none)],jt 582 7 [fD] [ag,ke,mC,pz,dU,aK,bg] [(fD,.kw 0)],aI 668 1 [iN],jt 690 1 [] [ag] [(iM,.dv (.int (0)) (.int (0) 1211))],aI 690 2 [ag,iM],aI 698 2 [ag,gN],jt 706 1 [] [ag] [(gN,.dv (.int (1)) (.int (1) 1229))],aI 706 2 [ag,gN],aI 713 1 [ag],aI 720 2 [ag,Kv],aI 727 2 [ag,gN],aI 760 7 [ag,KC,KG,iM,pj,mB,pA],aI 792 2 [ag,abS],aI 799 1 [ag],aI 806 1 [ag],aI 813 1 [ag],aI 820 1 [ag],aI 827 1 [ag],aI 834 1 [ag],aI 841 1 [ag],aI 848 1 [ag],aI 855 2 [ag,mB],aI 862 2 [ag,mB],aI 869 1 [ag],aI 876 1 [ag],aI 883 1 [ag],aI 890 1 [ag],aI 897 1 [ag],aI 904 2 [ag,yx],aI 911 1 [ag],aI 918 1 [ag],aI 925 2 [ag,yx],aI 932 1 [ag],aI 939 1 [ag],aI 946 2 [ag,yx],aI 953 1 [ag],aI 960 1 [ag],aI 967 1 [ag],aI 974 1 [ag],aI 981 1 [ag],aI 988 1 [ag],aI 995 1 [ag],aI 1002 1 [ag],aI 1009 1 [ag],jt 1016 1 [fD] [ag] [(fD,.kw 0)],aI 1023 1 [ag],aI 1030 1 [ag],jt 1037 1 [fD] [ag] [(fD,.kw 0)],aI 1044 1 [ag],aI 1051 1 [ag],aI 1058 1 [ag],aI 1065 1 [ag],aI 1072 1 [ag],aI 1079 1 [ag],aI 1086 1 [ag],aI 1093 1 [ag],aI 1100 1 [ag],aI 1107 1 [ag],aI 1114 2 [ag,aK],aI 1121 2 [ag,aK],aI 1128 2 [ag,aK],aI 1135 2 [ag,aK],aI 1142 2 [ag,aK],aI 1149 2 [ag,aK],aI 1156 2 [ag,aK],aI 1163 2 [ag,yx],aI 1170 1 [ag],aI 1177 2 [ag,fD],aI 1184 2 [ag,aK],aI 1191 2 [ag,aK],aI 1198 1 [ag],aI 1205 2 [ag,gG],aI 1212 2 [ag,fD],aI 1222 3 [ag,BU,aK],aI 1229 3 [ag,BU,aK],aI 1236 3 [ag,BU,aK],aI 1243 1 [ag],aI 1250 3 [ag,gG,aK],aI 1257 3 [ag,iu,aK],aI 1264 3 [ag,iu,aK],aI 1271 3 [ag,iu,aK],aI 1278 1 [ag],aI 1326 1 [ag],aI 1333 1 [ag],aI 1340 1 [ag],aI 1347 1 [ag],aI 1354 1 [ag],aI 1361 1 [ag],aI 1368 1 [ag],aI 1375 1 [ag],aI 1382 1 [ag],aI 1389 1 [ag],aI 1396 1 [ag],jt 1404 1 [] [ag] [(GG,.dv (.bool false) (.bool false)),(KS,.dv (.bool false) (.bool false))],jt 1404 1 [GG] [ag] [(GG,.kw 0),(KS,.dv (.bool false) (.bool false))],jt 1404 1 [GG,KS] [ag] [(GG,.kw 0),(KS,.kw 1)],aI 1411 1 [ag],aI 1418 1 [ag],aI 1425 1 [ag],aI 1432 1 [ag],aI 1439 1 [ag],aI 1446 1 [ag],aI 1453 1 [ag],jt 1461 1 [] [ag] [(yB,.dv (.bool false) (.bool false))],jt 1461 1 [yB] [ag] [(yB,.kw 0)],aI 1468 1 [ag],aI 1475 1 [ag],aI 1482 1 [ag],aI 1489 1 [ag],jt 1497 1 [] [ag] [(yB,.dv (.bool false) (.bool false))],jt 1497 1 [yB] [ag] [(yB,.kw 0)],aI 1504 1 [ag],aI 1511 1 [ag],aI 1518 2 [ag,pA],aI 1531 0 [],aI 1538 0 [],aI 1545 2 [fm,hA],aI 1550 6 [(⟨#[114,111,119,115]⟩:PySem.Str),(⟨#[99,108,111,115,101]⟩:PySem.Str),fD,(⟨#[108,101,97,115,116]⟩:PySem.Str),hA,(⟨#[110,108]⟩:PySem.Str)],aI 1557 1 [aca],aI 1564 1 [pB]]
def idT:List (Nat×Str×Nat):=[(135,US,366),(147,UU,399),(159,UW,417),(179,UX,435),(191,UZ,466),(203,U0,484),(215,U1,502),(227,U2,520),(239,U3,538),(251,U4,556),(263,U5,574),(275,U6,592),(287,U7,610),(299,U8,628),(311,U9,646),(323,Va,664),(342,Vb,682),(361,Vd,713),(380,Vf,744),(400,Vh,775)]
def aW {α β:Type} {f g:α->β} {l:List α} (h:l.map f=l.map g):∀x∈l,f x=g x:=by
 induction l with
 |nil=>exactλ_ h=>nomatch h
 |cons a r ih=>exact a2 (List.cons.inj h) λh1 h2=>e8.mpr ⟨h1,ih h2⟩
def Qc {α:Type} (n:Nat) (V:Nat->α):List α:=(List.range n).map V
def EB {α:Type} (u:α) (l:List α):Qc l.length (l.getD · u)=l:=show(List.range l.length).map (l.getD · u)=l from List.ext_getElem (by rw[mG,List.length_range]) λi h1 h2=>by
 rw[List.getElem_map,List.getElem_range,Y5,zM h2];rfl
def rq (H:Array Nat->Int) (S:Setting) (V W:Nat->Value):lD.map (λr=>(fdOf (KF H) r.f).map λfd=>peek (KF H) S (bindArgs fd ⟨Qc r.n V,r.da.zip (Qc r.da.length W)⟩))=lD.map λr=>some (some (r.out.map λp=>(p.1,p.2.val (Qc r.n V) (Qc r.da.length W)))):=KK
def G3 (H:Array Nat->Int):∀r∈lD,yP (KF H) r:=λr hr S fd vs ks hf h1 h2=>by
 have q:=aW (rq H S (vs.getD · .none) (ks.getD · .none)) r hr
 rw[<-h1,<-h2,EB,EB,hf] at q
 exact eN q
def Lv:List Str:=[iu,nf,KA,Kw,n6,n7,Kx,Kz,kK,iM,pj,mB,KL,KN,KQ,GD,gG,KO,KJ,KP,KU,KX,tK,KW,KV,GH]
def LD:List Str:=[iu,iM,pj,mB,n6,n7,aK,bg,dU,kK,Az,fD,ke,mC,pz,AA,n8,yu,yw,KC,KG,pA]
def globT:List (Str×DV):=[(Gi,.fn 21),(yr,.cls 53),(qp,.cls 67),(m9,.cls 95),(ph,.cls 114),(Gj,.cls 135),(J8,.cls 147),(J9,.cls 159),(Gm,.cls 179),(Kb,.cls 191),(Kc,.cls 203),(Kd,.cls 215),(Ke,.cls 227),(Kf,.cls 239),(Kg,.cls 251),(Kh,.cls 263),(Ki,.cls 275),(Kj,.cls 287),(Kk,.cls 299),(Kl,.cls 311),(Km,.cls 323),(Gn,.cls 342),(Gp,.cls 361),(Gq,.cls 380),(Gr,.cls 400),(tI,.cls 427),(vW,.cls 449),(vX,.cls 469),(yt,.cls 481),(Gs,.cls 501),(Ko,.cls 513),(Gu,.cls 533),(Gv,.cls 553),(Kp,.cls 565),(Gw,.cls 585),(Kq,.cls 597),(Kr,.cls 609),(Ks,.cls 621),(Kt,.cls 633),(AB,.cls 659),(Gy,.fn 668),(kf,.cls 730),(Ku,.cls 744),(Gz,.cls 763),(bq,.cls 1281),(KR,.cls 1293),(eW,.cls 1521),(GI,.fn 1531),(GJ,.fn 1538),(GK,.fn 1545),(KZ,.fn 1550),(GL,.fn 1557),(GN,.fn 1564),(K0,.fn 1569)]
def RL:List Nat:=[53,114,135,147,159,179,191,203,215,227,239,251,263,275,287,299,311,323,342,361,380,400,427,449,469,481,501,513,533,553,565,585,597,609,621,633,730,763,1281,1521,21,668,1531,1538,1545,1550,1557,1564,1569]
def K2:Str:=GH
def nId:Str:=Zm
def RV:Str:=WU
def zT:List (Str×Value):=[(n34,.builtin "len"),(n68,.type "list"),(n67,.type "int"),(n36,.builtin "max"),(n30,.builtin "isinstance"),(n71,.type "range"),(n62,.type "enumerate"),(n76,.type "str")]
def refOf (v:DV):Value:=Option.rec (motive:=λ_=>Value) .none .ref (mW v)
def XQ (H:Array Nat->Int):vr.all (Ai (KF H))=true:=KK
def PT (H:Array Nat->Int):lD.all (wk (KF H))=true:=KK
def PS (H:Array Nat->Int):RJ.all (λp=>lY (KF H) p.1 p.2)=true:=KK
def Eo (H:Array Nat->Int):J5.all (λp=>CP (KF H) 1521 p.1 p.2&&(oy (KF H) 1521 p.1 p.2&&fnIn (KF H) p.2))=true:=KK
def Lo (H:Array Nat->Int):(bN (KF H) 1521&&Lv.all (λx=>d8 (KF H) 1521 x&&hG (KF H) 1521 x))=true:=KK
def Ep (H:Array Nat->Int):X2.all (λc=>bN (KF H) c&&LD.all (λx=>d8 (KF H) c x&&hG (KF H) c x))=true:=KK
def Lq (H:Array Nat->Int):(v3 (KF H) 1521 K2&&jl (KF H) 1521 RV (.ref 1304))=true:=KK
def acF (H:Array Nat->Int):idT.all (λp=>jl (KF H) p.1 nId (.str p.2.1 p.2.2)&&vi (KF H) p.1 nId (.str p.2.1 p.2.2))=true:=KK
def PO (H:Array Nat->Int):globT.all (λp=>(mW p.2).isSome&&nsIn (KF H) mainGlobals p.1==some (some (refOf p.2)))=true:=KK
def PR (H:Array Nat->Int):RL.all (λa=>keepIn (KF H) (.ref a))=true:=KK
def Lp (H:Array Nat->Int):zT.all (λp=>nsIn (KF H) mainGlobals p.1==some none&&(bootBuiltins p.1==some p.2&&(!(p.1==("__name__":Str))&&noRef p.2)))=true:=KK
def fH {x:Nat} {l:List Nat} (h:bc x l=true):x∈l:=mQ ((nY x l).symm.trans h)
def TH:List Nat:=[501,513,533,553,585,597,609,621,633]
def ahh (K:Frag) (c:Nat):Bool:=plainGet K c "__class__"&&(hasDictIn K c&&(findIn K (.ref c) "__class__"==some (some (.builtin "object.__class__"))&&(specialIn K (.builtin "object.__class__") "__get__"==some (some (.builtin "getset_descriptor.__get__"))&&(takesIn K (.builtin "object.__class__")==some true&&mroIn K c (.type "object")==some true))))
def XR (H:Array Nat->Int):TH.all (λc=>ahh (KF H) c)=true:=KK
def PQ (H:Array Nat->Int):TH.all (λc=>TH.all λk=>kitOne (KF H) (.ref c) (.ref k)==some (Nat.beq c k))=true:=KK
def Uk (f:Value) (args:List DV):Option Res:=(zU f).bind λn=>(two2 args).bind λp=>(uo p.1).bind λq=>(NX p.2).bind λk=>bif decide (n="isinstance") then bif bc q.1 TH then bif bc k TH then some (.pv (.bool (Nat.beq q.1 k))) else none else none else none
section
variable {U:Program} {w:World} {Y:Base} {C:Nat}
def O4 (T:cQ (KF w.params.strHash) Y) {c k:Nat} {fs:List (Str×DV)} (hc:c∈TH) (hk:k∈TH):jQ U w C Y (.builtin "isinstance") [.inst c fs,.cls k] (.pv (.bool (Nat.beq c k))):=λA G L Z s us ro R hd Q kk=>
 a2 (aw (gk.mp (XR w.params.strHash) c hc)) λg1 e=>a2 (aw e) λg2 e=>a2 (aw e) λg3 e=>a2 (aw e) λg4 e=>a2 (aw e) λg5 g6=>
 hd.fy λu _ d1 d2=>d2.fy λv _ d3 d4=>d4.jr (d3.NY (d1.nU λa dd es n h1 h2 _ _=>kia_one (kitx_own g1 g2 (iG.mp g3) (iG.mp g4) (iG.mp g5) (iG.mp g6)) (fk T R) ⟨R.pins _ _ h1,rfl,rfl,R.pins _ _ h2⟩ (iG.mp (gk.mp (gk.mp (PQ w.params.strHash) c hc) k hk)) (λe=>nomatch e)
  λ_=>kk _ _ R.toks bb rfl))
def O3 (T:cQ (KF w.params.strHash) Y) (f:Value) (args:List DV):On (jQ U w C Y f args) (Uk f args):=
 (tW f).b λn hn=>(two_on args).b λp hp=>(nT p.1).b λq hq=>(qA p.2).b λk hk=>ak λh1=>ak λh2=>ak λh3=>hn▸hp▸hq▸hk▸mQ h1▸O4 T (fH h2) (fH h3)
end
def J3 (x:Str) (l:List Str):Bool:=List.rec (motive:=λ_=>Bool) false (λh _ ih=>bif cU h x then true else ih) l
def vP {x:Str} {l:List Str} (h:J3 x l=true):x∈l:=by
 induction l with
 |nil=>exact ft h
 |cons a r ih=>
  revert h
  show(bif cU a x then true else J3 x r)=true->_
  cases c:cU a x with
  |true=>exactλ_=>(bF _ _).mp c▸.head _
  |false=>exactλh=>.tail _ (ih h)
def mT {α:Type} (l:List (Nat×α)) (k:Nat):Option α:=List.rec (motive:=λ_=>Option α) none (λp _ ih=>bif Nat.beq p.1 k then some p.2 else ih) l
def tV {α:Type} (l:List (Nat×α)) (k:Nat):On (λv=>(k,v)∈l) (mT l k):=List.rec (motive:=λl=>On (λv=>(k,v)∈l) (mT l k)) trivial (λp r ih=>dY (λc=>iS c▸.head _) λ_=>ih.up λ_=>.tail _) l
def rZ {α:Type} (l:List (Str×α)) (x:Str):On (λv=>(x,v)∈l) (aS l x):=List.rec (motive:=λl=>On (λv=>(x,v)∈l) (aS l x)) trivial (λp r ih=>dY (λc=>(bF _ _).mp c▸.head _) λ_=>ih.up λ_=>.tail _) l
def acN:List Nat:=[827,834]
def Sr:List (Str×DV):=[(GF,MZ GF),(WV,MZ WW)]
def Xs:Str:=n34
def rR:List Nat:=[690,698,706,713,720,727,792,799,806,813,820,827,834,841,848,855,862,869,876,883,890,897,904,911,918,925,932,939,946,953,960,967,974,981,988,995,1002,1009,1016,1023,1030,1037,1044,1051,1058,1065,1072,1079,1086,1093,1100,1107,1114,1121,1128,1135,1142,1149,1156,1163,1170,1177,1184,1191,1198,1205,1212,1222,1229,1236,1243,1250,1257,1264,1271,1278,1312,1319,1326,1333,1340,1347,1354,1361,1368,1375,1382,1389,1396,1404,1411,1418,1425,1432,1439,1446,1453,1461,1468,1475,1482,1489,1497,1504,1511,1518]
def Nr (C:Nat) (x:Str):Bool:=bif Nat.beq C 1521 then J3 x Lv else bc C X2&&J3 x LD
def idB (c:Nat) (x:Str):Option DV:=bif cU nId x then(mT idT c).bind λp=>some (MZ p.1) else none
def tabs (H:Array Nat->Int) (T:Kn) (spec:Nat->Nat->Nat->List DV->List (Str×DV)->bU->Option (DV×bU)):tp where
 K:=KF H
 fns:=λf=>bc f vr
 pure:=λf=>bc f acN
 dim:=λf=>Nat.beq f 713
 rows:=lD
 yO:=λc=>mT RJ c
 glob:=λx=>aS globT x
 kept:=λa=>bc a RL
 nE:=λx=>aS zT x
 yj:=λx=>cU Xs x
 vf:=Nr
 bj:=λC x=>bif Nat.beq C 1521 then aS J5 x else none
 ye:=λf=>bc f rR
 RX:=λC x=>Nat.beq C 1521&&cU K2 x
 uG:=λC x=>bif Nat.beq C 1521&&cU RV x then some (.iI (dl MZ Sr)) else none
 CJ:=Nr
 GY:=idB
 Fx:=idB
 cmp:=Tt T
 bin:=S5
 MY:=Fm
 sub:=Yz T
 sl:=slD T
 TN:=λf args=>aZ (Uk f args) (Og f args) some
 spec:=spec
def abb:Value->Option (Int×Tok):=iP Value.ctorIdx 4 λv h=>@Value.int.elim (λ_=>Int×Tok) v h Prod.mk
def OX:∀v:Value,On (λp=>.int p.1 p.2=v) (abb v):=cH (λp:Int×Tok=>Value.int p.1 p.2) λv h=>@Value.int.elim (λv=>∀h,(λp:Int×Tok=>Value.int p.1 p.2) (@Value.int.elim (λ_=>Int×Tok) v h Prod.mk)=v) v h (λ_ _ _=>rfl) h
def Yq (v:DV) (u:Value):Bool:=bif qo v then u==.none else Option.rec (motive:=λ_=>Bool) (gX (intD v) λi=>gX (abb u) λp=>i==p.1) (λb=>u==.bool b) (mI v)
def Qw {P:Params} {G:Gh} {v:DV} {u:Value}:Yq v u=true->DR P G v u:=by
 unfold Yq
 cases c:qo v with
 |true=>exactλh=>lW c▸iG.mp h
 |false=>
  cases b:mI v with
  |some b'=>exactλh=>(k8 v).get b▸iG.mp h
  |none=>exactλh=>bz (dM h) λi e h=>bz (dM h) λp e' h=>(bQ v).get e▸⟨p.2,((OX u).get e').symm.trans (aT (Value.int · p.2) (iG.mp h).symm)⟩
def aiF (s:Src):Bool:=Src.casesOn (motive:=λ_=>Bool) s (λ_=>true) (λ_=>true) Yq
def Qx:(lD.all λr=>r.out.all λp=>aiF p.2)=true:=KK
def QW {w:World} {Y:Heap} (hK:(KF w.params.strHash).In Y) (G:Gh) (hb:∀b o,Y.get? b=some o->G.g b=some o):DR w.params G (.iI (dl MZ Sr)) (.ref 1304):=
 .iI (es:=[eS w.params.strHash GF 2128 (vS GF 2129),eS w.params.strHash WV 2130 (vS WW 2131)]) (n:=2) (by decide) (hb _ _ (hK _ _ KK)) (.cons ⟨⟨by decide,_,rfl,rfl⟩,.str _ _ (by decide)⟩ (.cons ⟨⟨by decide,_,rfl,rfl⟩,.str _ _ (by decide)⟩ .nil))
def OJ:idT.all (λp=>bc p.1 X2&&Nat.ble p.2.1.cps.toList.length 4194304)=true:=KK
def O1:rR.all (λf=>gX (J5.find? λp=>Nat.beq p.2 f) λ_=>true)=true:=KK
def F9:aS zT Xs=some (.builtin "len"):=KK
def FU {P:Params} {G:Gh} {v:DV} (h:(mW v).isSome=true):DR P G v (refOf v):=by
 unfold refOf
 cases e:mW v with
 |none=>rw[e] at h;exact ft h
 |some a=>exact On.get (P:=λa=>DR P G v (.ref a)) ((qA v).or (λa h=>h▸DR.cls (P:=P) (G:=G) a) λ_=>(I1 v).up λa h=>h▸DR.fn (P:=P) (G:=G) a) e
section
variable {U:Program} {w:World} {Y:Base} {T:Kn} {spec:Nat->Nat->Nat->List DV->List (Str×DV)->bU->Option (DV×bU)}
def Dn {H:Array Nat->Int} {C:Nat} {x:Str}:Nr C x=true->bN (KF H) C=true/\d8 (KF H) C x=true/\hG (KF H) C x=true:=by
 unfold Nr
 cases c:Nat.beq C 1521 with
 |true=>exactλh=>a2 (aw (Lo H)) λb1 b2=>fa (iS c)▸⟨b1,aw (gk.mp b2 x (vP h))⟩
 |false=>exactλh=>a2 (aw h) λh1 h2=>a2 (aw (gk.mp (Ep H) C (fH h1))) λb1 b2=>⟨b1,aw (gk.mp b2 x (vP h2))⟩
def Jt (H:Array Nat->Int) (c:Nat) (x:Str):On (λv=>∃u,bN (KF H) c=true/\jl (KF H) c x u=true/\vi (KF H) c x u=true/\∀(P:Params) (G:Gh),DR P G v u) (idB c x):=
 ak λh=>(tV idT c).b λp m=>a2 (aw (gk.mp (acF H) _ m)) λb1 b2=>a2 (aw (gk.mp OJ _ m)) λb3 b4=>(bF _ _).mp h▸⟨.str p.1 p.2,(aw (gk.mp (Ep H) c (fH b3))).1,b1,b2,λP G=>.str _ _ (e9 b4)⟩
def tabs_ok (T0:cQ (KF w.params.strHash) Y) (O:gW T Y.V) (aa5:∀n C f args kw aq r aX,spec n C f args kw aq=some (r,aX)->af U w C Y (n+1) (.ref f) args kw aq r aX):TabsOk U w Y (tabs w.params.strHash T spec) where
 T:=T0
 fns:=λf h=>gk.mp (XQ _) f (fH h)
 rows:=λr hr=>⟨gk.mp (PT _) r hr,G3 _ r hr,λx v u m G _=>Qw (gk.mp (gk.mp Qx r hr) _ m)⟩
 yO:=λc fI h=>gk.mp (PS _) _ ((tV ..).get h)
 glob:=λx v h=>a2 (aw (gk.mp (PO w.params.strHash) _ ((rZ ..).get h))) λg e=>⟨refOf v,iG.mp e,λG _=>FU g⟩
 kept:=λa h=>gk.mp (PR _) a (fH h)
 nE:=λx f h=>a2 (aw (gk.mp (Lp w.params.strHash) _ ((rZ ..).get h))) λe1 e=>a2 (aw e) λe2 e=>a2 (aw e) λe3 e4=>⟨iG.mp e1,iG.mp e2,Rc _▸e3,e4⟩
 yj:=λx h=>(bF Xs x).mp h▸F9
 vf:=λ_ _=>Dn
 bj:=λC x f h=>a2 (Rw h) λh1 h=>a2 (aw (gk.mp (Eo w.params.strHash) _ ((rZ ..).get h))) λb1 b2=>fa (iS h1)▸⟨b1,(aw b2).1⟩
 ye:=λf h=>bz (dM (gk.mp O1 f (fH h))) λp e _=>iS (List.find?_some (p:=λp:Str×Nat=>Nat.beq p.2 f) e)▸(aw (aw (gk.mp (Eo w.params.strHash) p (List.mem_of_find?_eq_some e))).2).2
 RX:=λC x h=>a2 (aw h) λh1 h2=>fa (iS h1)▸(bF _ _).mp h2▸(aw (Lq _)).1
 uG:=λC x v h=>a2 (Rw h) λh1 h=>a2 (aw h1) λh1 h2=>fa (iS h1)▸(bF _ _).mp h2▸eN h▸⟨.ref 1304,(aw (Lo _)).1,(aw (Lq _)).2,λG hb=>QW T0.Jx G hb⟩
 CJ:=λ_ _ h=>a3 (Dn h) λa b _=>⟨a,b⟩
 GY:=λc x v h=>fi ((Jt w.params.strHash c x).get h) λu q=>a4 q λb1 b2 _ b4=>⟨u,b1,b2,λG _=>b4 _ G⟩
 Fx:=λc x v h=>fi ((Jt w.params.strHash c x).get h) λu q=>a4 q λ_ _ b3 b4=>⟨u,b3,λG _=>b4 _ G⟩
 cmp:=λ_ _ _ _ h=>NZ O h
 bin:=λ_ _ _ _ h=>Nx h
 MY:=λ_ _ _ _ h=>OU h
 sub:=λ_ _ _ h=>EU O h
 sl:=λ_ _ _ _ h=>Yn O h
 TN:=λ_ f args r h=>On.get (P:=jQ U w _ Y f args) (o:=aZ (Uk f args) (Og f args) some) ((O3 T0 f args).or (f:=some) (λ_ h=>h) λ_=>DT O rfl f args) h
 spec:=aa5
end
def XB (l:List Nat) (n:Nat):Option Nat:=List.rec (motive:=λ_=>Nat->Option Nat) (λ_=>none) (λc _ ih n=>Nat.rec (motive:=λ_=>Option Nat) (some c) (λm _=>ih m) n) l n
def Ej (l:List Nat):∀n:Nat,XB l n=l[n]?:=by
 induction l with
 |nil=>exactλn=>rfl
 |cons c r ih=>exactλn=>by cases n;exact rfl;exact ih _
def GP (k:Int):Option Nat:=Int.casesOn (motive:=λ_=>Option Nat) k some λ_=>none
def n9 (k:Int):On (λn:Nat=>(n:Int)=k) (GP k):=by cases k<;>first|exact rfl|exact trivial
def Pp {p n l m:Nat} (a2:p+l<=m) (c:Nat.blt n l=true):false=decide ((m:Int)<=(p:Int)+n):=(Hv λh=>xk.mpr (zK.mp h) (qt (Nat.add_lt_add_left (e9 c) p) a2)).symm
def eY:Nat->Nat->Nat->List DV->List (Str×DV)->bU->Option (DV×bU):=λ_ _ _ _ _ _=>none
structure Rs where
 tokens:List DV
 keys:List (DV×DV)
 taken:DV
 indent:DV
 lV:List DV
 allow:DV
 done:DV
 state:DV
 pI:List DV
 marks:List DV
 ev:DV
 tags:ae
 yv:DV
def iz (p l c:DV) (r:Rs):List (Str×ae):=[(n7,.pv p),(n6,.pv (.gO 0)),(iM,.pv p),(pj,.pv l),(mB,.pv c),(KQ,.ml r.tokens),(KN,.pv (.int 0)),(KP,.md r.keys),(GD,.pv r.taken),(gG,.pv r.indent),(KO,.ml r.lV),(KJ,.pv r.allow),(KL,.pv r.done),(nf,.pv .none),(Kx,.pv .none),(iu,.pv .any),(GH,.pv r.state),(KW,.ml r.pI),(KV,.ml r.marks),(KU,.pv r.ev),(tK,r.tags),(KX,.pv r.yv),(kK,.pv .none),(Kw,.pv (.bool true)),(KA,.pv (.int 0)),(Kz,.pv .none)]
abbrev aN (b lt:Nat) (k j c:Int) (r:Rs):bU:=some (iz (.sint b k) (.sint lt j) (.int c) r)
def Rs.tg (θ:Tg) (r:Rs):Rs:=⟨oL θ r.tokens,Zt θ r.keys,r.taken.tg θ,r.indent.tg θ,oL θ r.lV,r.allow.tg θ,r.done.tg θ,r.state.tg θ,oL θ r.pI,oL θ r.marks,r.ev.tg θ,r.tags.tg θ,r.yv.tg θ⟩
def aii (θ:Tg) (p l c:DV) (r:Rs):kY θ (iz p l c r)=iz (p.tg θ) (l.tg θ) (c.tg θ) (r.tg θ):=rfl
def DV.clean (d:DV):Bool:=DV.rec (motive_1:=λ_=>Bool) (motive_2:=λ_=>Bool) (motive_3:=λ_=>Bool) (motive_4:=λ_=>Bool) (motive_5:=λ_=>Bool) (motive_6:=λ_=>Bool)
 true true true (λ_=>true) (λ_=>true) (λ_=>true) (λt _=>Nat.ble 16 t) (λ_=>true) (λ_ b=>b) (λ_ b=>b) (λ_ b=>b) (λ_ _ b=>b) true (λ_=>true) (λ_=>true) (λ_=>true)
 true (λ_ _ a b=>a&&b) true (λ_ _ a b=>a&&b) true (λ_ _ a b=>a&&b) (λ_ _ _ b=>b) (λ_ _ b=>b) d
def ic (l:List DV):Bool:=(DV.tup l).clean
def oQ (l:List (DV×DV)):Bool:=(DV.iI l).clean
def Ie (l:List (Str×DV)):Bool:=(DV.inst 0 l).clean
def ae.clean (k:ae):Bool:=ae.casesOn (motive:=λ_=>Bool) k DV.clean ic oQ
def low (θ:Tg):Prop:=∀t,16<=t->θ t=none
def t7 {α:Type} {a b:α} {l m:List α} (h:a=b) (k:l=m):a::l=b::m:=by rw[h,k]
section
variable {θ:Tg} (h:low θ)
include h
theorem DV.bO {d:DV}:d.clean=true->d.tg θ=d:=
 DV.rec (motive_1:=λd=>d.clean=true->d.tg θ=d) (motive_2:=λl=>ic l=true->oL θ l=l) (motive_3:=λl=>oQ l=true->Zt θ l=l) (motive_4:=λl=>Ie l=true->tgF θ l=l) (motive_5:=λp=>p.2.clean=true->p.2.tg θ=p.2) (motive_6:=λp=>p.2.clean=true->p.2.tg θ=p.2)
  (λ_=>rfl) (λ_=>rfl) (λ_=>rfl) (λ_ _=>rfl) (λ_ _=>rfl) (λ_ _=>rfl) (λt k q=>by show Q0 θ t k=_;rw[Q0,h t (e9 q)]) (λ_ _=>rfl)
  (λl ih q=>(MA θ l).trans (aT DV.tup (ih q))) (λl ih q=>(C5 θ l).trans (aT DV.lst (ih q))) (λl ih q=>(Mz θ l).trans (aT DV.iI (ih q))) (λc l ih q=>(E6 θ c l).trans (aT (DV.inst c) (ih q)))
  (λ_=>rfl) (λ_ _=>rfl) (λ_ _=>rfl) (λ_ _=>rfl) (λ_=>rfl) (λd r a b q=>a2 (aw (b:=ic r) q) λx y=>t7 (a x) (b y)) (λ_=>rfl) (λp r a b q=>a2 (aw (b:=oQ r) q) λx y=>t7 (b:=p) (aT (Prod.mk p.1) (a x)) (b y))
  (λ_=>rfl) (λp r a b q=>a2 (aw (b:=Ie r) q) λx y=>t7 (b:=p) (aT (Prod.mk p.1) (a x)) (b y)) (λ_ _ _ b=>b) (λ_ _ b=>b) d
theorem gx {l:List DV} (q:ic l=true):oL θ l=l:=by
 induction l with
 |nil=>rfl
 |cons d r ih=>exact a2 (aw (b:=ic r) q) λx y=>t7 (DV.bO h x) (ih y)
theorem uU {l:List (DV×DV)} (q:oQ l=true):Zt θ l=l:=by
 induction l with
 |nil=>rfl
 |cons d r ih=>exact a2 (aw (b:=oQ r) q) λx y=>t7 (b:=d) (aT (Prod.mk d.1) (DV.bO h x)) (ih y)
theorem ae.bO {k:ae} (q:k.clean=true):k.tg θ=k:=by
 cases k with
 |pv v=>exact aT ae.pv (DV.bO h q)
 |ml l=>exact aT ae.ml (gx h q)
 |md l=>exact aT ae.md (uU h q)
end
def Rs.clean (r:Rs):Bool:=ic r.tokens&&(oQ r.keys&&(r.taken.clean&&(r.indent.clean&&(ic r.lV&&(r.allow.clean&&(r.done.clean&&(r.state.clean&&(ic r.pI&&(ic r.marks&&(r.ev.clean&&(r.tags.clean&&r.yv.clean)))))))))))
def Rs.bO {θ:Tg} (h:low θ) {r:Rs} (q:r.clean=true):r.tg θ=r:=
 a2 (aw q) λb1 q=>a2 (aw q) λb2 q=>a2 (aw q) λb3 q=>a2 (aw q) λb4 q=>a2 (aw q) λb5 q=>a2 (aw q) λb6 q=>a2 (aw q) λb7 q=>a2 (aw q) λb8 q=>a2 (aw q) λb9 q=>a2 (aw q) λb10 q=>a2 (aw q) λb11 q=>a2 (aw q) λb12 b13=>
 congr (congr (congr (congr (congr (congr (congr (congr (congr (congr (congr (congr (aT Rs.mk (gx h b1)) (uU h b2)) (DV.bO h b3)) (DV.bO h b4)) (gx h b5)) (DV.bO h b6)) (DV.bO h b7)) (DV.bO h b8)) (gx h b9)) (gx h b10)) (DV.bO h b11)) (ae.bO h b12)) (DV.bO h b13)
def mL (cs:List Nat) (m:List (Option Bool)):Kn where
 ch:=λt k=>bif Nat.beq t 1 then(GP k).bind (XB cs) else none
 more:=λt k=>bif Nat.beq t 1 then(GP k).bind λn=>(m[n]?).bind id else none
 pos:=λ_=>false
 MP:=λ_=>false
def UC {m p n:Nat}:decide (m<=p+n)=decide ((m:Int)<=(p:Int)+n):=decide_eq_decide.mpr zK.symm
def Uq {V:Val} {cs:List Nat} {m:List (Option Bool)} {p:Nat} (h1:V.β 1=p) (h2:∀n c,cs[n]?=some c->(V.ς 0)[p+n]?=some c) (h3:∀n b,m[n]?=some (some b)->b=decide ((V.ς 0).length<=p+n)) (hl:V.β 0=(V.ς 0).length):gW (mL cs m) V where
 ch:=λt k c e=>On.get (P:=λc=>∃n:Nat,V.β t+k=n/\(V.ς 0)[n]?=some c) (ak λa=>(n9 k).b λn hn=>.mk λc e=>⟨p+n,by rw[iS a,h1,<-hn];rfl,h2 n c ((Ej ..).symm.trans e)⟩) e
 more:=λt k b e=>On.get (P:=λb=>b=decide (V.β 0<=V.β t+k)) (ak λa=>(n9 k).b λn hn=>(aY m[n]?).b λo q=>.mk λb e=>by rw[iS a,h1,hl,<-hn,<-UC];exact h3 n b (q.trans (aT some e))) e
 len:=hl
 pos:=λ_ e=>ft e
 MP:=λ_ e=>ft e
def mn (b:Nat) (k:Int) (lt:Nat) (j:Int):Tg:=λt=>bif Nat.beq t 1 then some (b,k) else bif Nat.beq t 2 then some (lt,j) else none
def qw {t n:Nat} (h:n<t):Nat.beq t n=false:=Bool.eq_false_iff.mpr λq=>Nat.lt_irrefl _ (iS q▸h)
def Gf (b:Nat) (k:Int) (lt:Nat) (j:Int):low (mn b k lt j):=λt h=>by
 unfold mn
 rw[qw (qt (by decide:1<16) h),qw (qt (by decide:2<16) h)];rfl
def Txt (S:List Nat) (p:Nat) (cs:List Nat):Prop:=∀n c,cs[n]?=some c->S[p+n]?=some c
section
variable {S:List Nat} {p:Nat} {c:Nat} {cs a b:List Nat}
def Txt.lt (h:Txt S p cs) (hn:cs≠[]):p+cs.length<=S.length:=by
 cases hl:cs.length with
 |zero=>exact absurd (List.length_eq_zero_iff.mp hl) hn
 |succ m=>exact(M6.mp (h m _ (zM (hl▸MT m)))).1
def Txt.tail (h:Txt S p (c::cs)):Txt S (p+1) cs:=λn c' e=>Rg p n 1▸h (n+1) c' e
def Txt.head (h:Txt S p (c::cs)):S[p]?=some c:=h 0 c rfl
def Txt.of1 (h:S[p]?=some c):Txt S p [c]:=λn c' e=>by
 cases n with
 |zero=>exact h.trans e
 |succ n=>exact ns e
def Txt.app (h:Txt S p (a++b)):Txt S p a/\Txt S (p+a.length) b:=
 ⟨λn c e=>h n c ((List.getElem?_append_left (M6.mp e).1).trans e),λn c e=>(zN p a.length n).symm▸h (a.length+n) c (by rw[List.getElem?_append_right (Hu ..),Nat.add_sub_cancel_left];exact e)⟩
end
section
variable {U:Program} {w:World} {Y:Base}
def cQ.tag {K:Frag} (T:cQ K Y) (θ:Tg):cQ K (Y.tag θ):=⟨T.Jx,T.nolimit,T.glob,T.blt⟩
abbrev HH (w:World):Array Nat->Int:=w.params.strHash
def bw (Y:Base):Prop:=Y.V.β 0=(Y.V.ς 0).length
def dO (S:List Nat) (p:Nat) (m:List (Option Bool)):Prop:=∀n c,m[n]?=some (some c)->c=decide (S.length<=p+n)
def dO.nil {S:List Nat} {p:Nat}:dO S p []:=λ_ _ h=>ns h
def dO.snoc {S:List Nat} {p:Nat} {m:List (Option Bool)} (h:dO S p m) {o:Option Bool} (k:∀c,o=some c->c=decide (S.length<=p+m.length)):dO S p (m++[o]):=λn c e=>by
 rw[List.getElem?_append] at e
 by_cases q:n<m.length
 ·rw[d7 q] at e;exact h n c e
 ·rw[dX q] at e
  cases z:n - m.length with
  |zero=>rw[z] at e;rw[Nat.le_antisymm (Nat.le_of_sub_eq_zero z) (xk.mp q)];exact k c (eN e)
  |succ=>rw[z] at e;exact ns e
def RT {S:List Nat} {p:Nat} {o:Option Bool} (k:∀c,o=some c->c=decide (S.length<=p+2)):dO S p [none,none,o]:=(dO.nil.snoc (o:=none) λ_=>ns).snoc (o:=none) (λ_=>ns) |>.snoc k
def mZ {b lt:Nat} {k j:Int} {p:Nat} {cs:List Nat} {m:List (Option Bool)} (hl:bw Y) (hp:Y.V.β b+k=p) (h2:Txt (Y.V.ς 0) p cs) (h3:dO (Y.V.ς 0) p m):
    gW (mL cs m) (Y.tag (mn b k lt j)).V:=Uq (V:=(Y.tag (mn b k lt j)).V) hp h2 h3 hl
def closed {b lt:Nat} {k j:Int} {p:Nat} {cs:List Nat} {m:List (Option Bool)} {n f:Nat} {args:List DV} {kw:List (Str×DV)} {aq aX:bU} {r:DV} (T0:cQ (KF (HH w)) Y) (hl:bw Y) (hp:Y.V.β b+k=p) (h2:Txt (Y.V.ς 0) p cs)
    (h3:dO (Y.V.ς 0) p m) (run:fN (tabs (HH w) (mL cs m) eY) n 1521 f args kw aq=some (r,aX)):
    af U w 1521 Y n (.ref f) (oL (mn b k lt j) args) (Sv (mn b k lt j) kw) (xh (mn b k lt j) aq) (r.tg (mn b k lt j)) (xh (mn b k lt j) aX):=
 af.lC (gE (tabs_ok (T0.tag _) (mZ hl hp h2 h3) λ_ _ _ _ _ _ _ _ h=>ns h) n 1521 f args kw aq r aX run)
end
def after:List Nat:=[32,13,45,35,46,0]
def fwL:List Nat:=[32,33,35,38,45,46,58,63,107,110,114,115,116]
def iH:List (List Nat):=[[10],[13,10],[13],[133]]
section
variable (H:Array Nat->Int) (c:Nat) (col:Int) (r:Rs)
def LP:fN (tabs H (mL [c] []) eY) 4 1521 690 [.self] [] (aN 1 2 0 0 col r)=some (.str [c],aN 1 2 0 0 col r):=KK
def Qg:fwL.map (λc=>[true,false].map λb=>fN (tabs H (mL [c] [none,none,some b]) eY) 4 1521 706 [.self] [] (aN 1 2 0 0 col r))=fwL.map λ_=>[true,false].map λ_=>some (.none,aN 1 2 1 0 (col+1) r):=KK
def uw (nl:List Nat) (c:Nat) (b b':Bool):Option (DV×bU):=fN (tabs H (mL (nl++[c]) [none,none,some b,some b']) eY) 6 1521 1278 [.self] [] (aN 1 2 0 0 col r)
def Qh:[[10],[133]].map (λnl=>[true,false].map λb=>[true,false].map λb'=>uw H col r nl c b b')=[[10],[133]].map λnl=>[true,false].map λ_=>[true,false].map λ_=>some (.str [10],aN 1 2 nl.length 1 0 r):=KK
def LO:[true,false].map (λb'=>uw H col r [13,10] c false b')=[true,false].map λ_=>some (.str [10],aN 1 2 2 1 0 r):=KK
def X4:after.map (λc=>[true,false].map λb=>[true,false].map λb'=>uw H col r [13] c b b')=after.map λ_=>[true,false].map λ_=>[true,false].map λ_=>some (.str [10],aN 1 2 1 1 0 r):=KK
def bools {b:Bool}:b∈[true,false]:=by cases b;exact .tail _ (.head _);exact .head _
def X5 {nl:List Nat} (hn:nl∈iH) {b b':Bool} (hc:nl=[13]->c∈after) (hb:nl=[13,10]->b=false):uw H col r nl c b b'=some (.str [10],aN 1 2 nl.length 1 0 r):=
 have lf:∀nl∈[[10],[133]],uw H col r nl c b b'=some (.str [10],aN 1 2 nl.length 1 0 r):=λnl m=>aW (aW (aW (Qh H c col r) nl m) b bools) b' bools
 have all:∀nl∈iH,(nl=[13]->c∈after)->(nl=[13,10]->b=false)->uw H col r nl c b b'=some (.str [10],aN 1 2 nl.length 1 0 r):=e8.mpr ⟨λ_ _=>lf _ (.head _),e8.mpr ⟨λ_ h=>h rfl▸aW (LO H c col r) b' bools,e8.mpr ⟨λh _=>aW (aW (aW (X4 H col r) c (h rfl)) b bools) b' bools,
  e8.mpr ⟨λ_ _=>lf _ (.tail _ (.head _)),qT _⟩⟩⟩⟩
 all nl hn hc hb
end
section
variable {U:Program} {w:World} {Y:Base} {b lt:Nat} {k j:Int} {p:Nat} {col:Int} {r:Rs} (T0:cQ (KF (HH w)) Y) (hl:bw Y) (hp:Y.V.β b+k=p) (hr:r.clean=true)
include hr
theorem oZ {q n:Int}:xh (mn b k lt j) (aN 1 2 q n col r)=aN b lt (k+q) (j+n) col r:=aT (λr=>aN b lt (k+q) (j+n) col r) (Rs.bO (Gf b k lt j) hr)
theorem FK:xh (mn b k lt j) (aN 1 2 0 0 col r)=aN b lt k j col r:=(oZ hr).trans (by rw[zA,zA])
theorem xY {l l':List (Str×ae)} (e:kY (mn b k lt j) l=l'):aj.tg (mn b k lt j) ⟨aN 1 2 0 0 col r,l⟩=⟨aN b lt k j col r,l'⟩:=congr (aT aj.mk (FK hr)) e
theorem Ah {q n:Int} {l l':List (Str×ae)} (e:kY (mn b k lt j) l=l'):aj.tg (mn b k lt j) ⟨aN 1 2 q n col r,l⟩=⟨aN b lt (k+q) (j+n) col r,l'⟩:=congr (aT aj.mk (oZ hr)) e
include T0 hl hp
theorem ae1 {c:Nat} (h:Txt (Y.V.ς 0) p [c]):af U w 1521 Y 4 (.ref 690) [.self] [] (aN b lt k j col r) (.str [c]) (aN b lt k j col r):=
 FK (b:=b) (lt:=lt) (k:=k) (j:=j) (col:=col) hr▸closed T0 hl hp h .nil (LP (HH w) c col r)
theorem Se {c:Nat} (hc:c∈fwL) (h:Txt (Y.V.ς 0) p [c]):af U w 1521 Y 4 (.ref 706) [.self] [] (aN b lt k j col r) .none (aN b lt (k+1) j (col+1) r):=by
 have:=closed (U:=U) (b:=b) (lt:=lt) (k:=k) (j:=j) T0 hl hp h (RT λc e=>(eN e).symm) (aW (aW (Qg (HH w) col r) c hc) _ bools)
 rw[FK hr,oZ hr,zA] at this
 exact this
theorem Sf (h:Txt (Y.V.ς 0) p [32]):af U w 1521 Y 4 (.ref 706) [.self] [] (aN b lt k j col r) .none (aN b lt (k+1) j (col+1) r):=Se T0 hl hp hr (.head _) h
theorem Ez {nl:List Nat} (hn:nl∈iH) {c:Nat} (h:Txt (Y.V.ς 0) p (nl++[c])) (hc:nl=[13]->c∈after):
 af U w 1521 Y 6 (.ref 1278) [.self] [] (aN b lt k j col r) (.str [10]) (aN b lt (k+nl.length) (j+1) 0 r):=by
 have lt0:=h.lt (List.append_ne_nil_of_right_ne_nil _ λq=>cn q)
 have:=closed (U:=U) (b:=b) (lt:=lt) (k:=k) (j:=j) (m:=[none,none,some _,some _]) T0 hl hp h ((RT λc e=>(eN e).symm).snoc λc e=>(eN e).symm) (X5 (HH w) c col r hn hc λe=>Hv (Nat.not_le.mpr (by rw[e] at lt0;exact lt0)))
 rw[FK hr,oZ hr] at this
 exact this
end
def FI (H:Array Nat->Int) (f:Nat):Zb:=(qh (KF H) f).getD ⟨[],default⟩
def bY:Kn:=⟨λ_ _=>none,λ_ _=>none,λ_=>false,λ_=>false⟩
def mY {V:Val} (hl:V.β 0=(V.ς 0).length):gW bY V:=⟨(λ_ _ _ h=>nomatch h),(λ_ _ _ h=>nomatch h),hl,(λ_ h=>nomatch h),(λ_ h=>nomatch h)⟩
def eQ (H:Array Nat->Int) (T:Kn) (n f:Nat):Cx:=(tabs H T eY).cx 1521 (FI H f).sc (fN (tabs H T eY) n 1521)
@[irreducible] def fR (H:Array Nat->Int) (T:Kn) (n f:Nat):HM:=Oh (eQ H T n f) 60
@[irreducible] def ai (l:List Stmt) (n:Nat):Stmt:=(l[n]?).getD (.Pass default)
def whS:Stmt->Option (Expr×List Stmt):=iP Stmt.ctorIdx 11 λe h=>@Stmt.While.elim (λ_=>Expr×List Stmt) e h λt b _ _=>(t,b)
def rL:Stmt->Option (Expr×List Stmt×List Stmt):=iP Stmt.ctorIdx 12 λe h=>@Stmt.If.elim (λ_=>Expr×List Stmt×List Stmt) e h λt b o _=>(t,b,o)
@[irreducible] def wT (s:Stmt):Expr:=Option.rec (motive:=λ_=>Expr) (Option.rec (motive:=λ_=>Expr) default (·.1) (rL s)) (·.1) (whS s)
@[irreducible] def wB (s:Stmt):List Stmt:=Option.rec (motive:=λ_=>List Stmt) (Option.rec (motive:=λ_=>List Stmt) [] (·.2.1) (rL s)) (·.2) (whS s)
@[irreducible] def wO (s:Stmt):List Stmt:=Option.rec (motive:=λ_=>List Stmt) [] (·.2.2) (rL s)
def wP (s:Stmt):Pos:=s.pos
@[irreducible] def bE (e:Expr) (i:Nat):Expr:=((k9 e).bind λq=>q.2[i]?).getD default
def bP (e:Expr):Pos:=e.pos
section
variable {U:Program} {w:World} {Y:Base} {f:Nat} (hf:bc f vr=true) (hI:qh (KF (HH w)) f=some (FI (HH w) f)) {n:Nat}
include hf hI
theorem Iz {T:Kn} (T0:cQ (KF (HH w)) Y) (O:gW T Y.V):mR U w Y n (eQ (HH w) T n f):=by
 have O':TabsOk U w Y (tabs (HH w) T eY):=tabs_ok T0 O λ_ _ _ _ _ _ _ _ h=>ns h
 exact Ry O' (IA O' (f:=f) (I:=FI (HH w) f) hf hI) λ_ _ _ _ _ _ h=>gE O' _ _ _ _ _ _ _ _ h
theorem zD (T0:cQ (KF (HH w)) Y) (hl:bw Y):mR U w Y n (eQ (HH w) bY n f):=Iz hf hI T0 (mY hl)
theorem ub {θ:Tg} {T:Kn} (T0:cQ (KF (HH w)) Y) (O:gW T (Y.tag θ).V):qV U w 1521 (Y.tag θ) (FI (HH w) f).sc n (fR (HH w) T n f):=by
 unfold fR
 exact qE (Iz hf hI (T0.tag θ) O) 60
theorem zQ (T0:cQ (KF (HH w)) Y) (hl:bw Y):qV U w 1521 Y (FI (HH w) f).sc n (fR (HH w) bY n f):=by
 unfold fR
 exact qE (zD hf hI T0 hl) 60
theorem aiC {b lt:Nat} {k j:Int} {p:Nat} {cs:List Nat} {m:List (Option Bool)} (T0:cQ (KF (HH w)) Y) (hl:bw Y) (hp:Y.V.β b+k=p) (h2:Txt (Y.V.ς 0) p cs) (h3:dO (Y.V.ς 0) p m)
 {l:List Stmt} {Z ba:aj} {fl:au} (run:cg (fR (HH w) (mL cs m) n f) l Z=some (fl,ba)):aF U w 1521 Y (FI (HH w) f).sc n l (Z.tg (mn b k lt j)) (fl.tg (mn b k lt j)) (ba.tg (mn b k lt j)):=
 aF.lC (sy (X:=eQ (HH w) (mL cs m) n f) (ub hf hI T0 (mZ hl hp h2 h3)) _ _ _ _ run)
theorem adi {b lt:Nat} {k j:Int} {p:Nat} {cs:List Nat} {m:List (Option Bool)} (T0:cQ (KF (HH w)) Y) (hl:bw Y) (hp:Y.V.β b+k=p) (h2:Txt (Y.V.ς 0) p cs) (h3:dO (Y.V.ς 0) p m)
 {e:Expr} {Z ba:aj} {r:Res} (run:(fR (HH w) (mL cs m) n f).E e Z=some (r,ba)):aC U w 1521 Y (FI (HH w) f).sc n e (Z.tg (mn b k lt j)) (r.rest.tg (mn b k lt j)) (ba.tg (mn b k lt j)):=
 aC.lC ((ub hf hI T0 (mZ hl hp h2 h3)).E _ _ _ _ run).rest
theorem yT {b lt:Nat} {k j:Int} {p:Nat} {cs:List Nat} {m:List (Option Bool)} (T0:cQ (KF (HH w)) Y) (hl:bw Y) (hp:Y.V.β b+k=p) (h2:Txt (Y.V.ς 0) p cs) (h3:dO (Y.V.ς 0) p m)
 {e:Expr} {Z ba:aj} {r:Bool} (run:(fR (HH w) (mL cs m) n f).T e Z=some (r,ba)):bu U w 1521 Y (FI (HH w) f).sc n e (Z.tg (mn b k lt j)) r (ba.tg (mn b k lt j)):=
 bu.lC ((ub hf hI T0 (mZ hl hp h2 h3)).T _ _ _ _ run)
theorem nh (T0:cQ (KF (HH w)) Y) (hl:bw Y) {l:List Stmt} {Z ba:aj} {fl:au} (run:cg (fR (HH w) bY n f) l Z=some (fl,ba)):aF U w 1521 Y (FI (HH w) f).sc n l Z fl ba:=sy (X:=eQ (HH w) bY n f) (zQ hf hI T0 hl) _ _ _ _ run
theorem gV (T0:cQ (KF (HH w)) Y) (hl:bw Y) {e:Expr} {Z ba:aj} {r:Res} (run:(fR (HH w) bY n f).E e Z=some (r,ba)):aC U w 1521 Y (FI (HH w) f).sc n e Z r.rest ba:=((zQ hf hI T0 hl).E _ _ _ _ run).rest
theorem kG (T0:cQ (KF (HH w)) Y) (hl:bw Y) {e:Expr} {Z ba:aj} {r:Bool} (run:(fR (HH w) bY n f).T e Z=some (r,ba)):bu U w 1521 Y (FI (HH w) f).sc n e Z r ba:=(zQ hf hI T0 hl).T _ _ _ _ run
theorem eZ (T0:cQ (KF (HH w)) Y) (hl:bw Y) {e:Expr} {Z aa:aj} {g:Nat} {vs:List DV} {r:DV} {aX:bU} (h:nB (eQ (HH w) bY n f) (fR (HH w) bY n f) e Z=some (g,vs,aa)) (hc:af U w 1521 Y n (.ref g) vs [] aa.aq r aX):
 aC U w 1521 Y (FI (HH w) f).sc n e Z r ⟨aX,aa.loc⟩:=Nn (zD hf hI T0 hl) (zQ hf hI T0 hl) h hc
theorem f9 (T0:cQ (KF (HH w)) Y) (hl:bw Y) {args:List DV} {kw bl:List (Str×DV)} {aq:bU} {fl:au} {ba:aj} {v:DV} (h:((cR lD f args kw).bind λrow=>getAll args kw row.out)=some bl)
 (run:aF U w 1521 Y (FI (HH w) f).sc n (FI (HH w) f).body ⟨aq,bl.map λp=>(p.1,.pv p.2)⟩ fl ba) (hv:ue fl=some v):af U w 1521 Y (n+1) (.ref f) args kw aq v ba.aq:=
 bz (pR h) λ_ h3 h4=>IC (tabs_ok T0 (mY hl) λ_ _ _ _ _ _ _ _ h=>ns h:TabsOk U w Y (tabs (HH w) bY eY)) hf hI h3 h4 run hv
theorem kh (T0:cQ (KF (HH w)) Y) (hl:bw Y) {st:Stmt} {Z aa ba:aj} {r:DV} (hc:aC U w 1521 Y (FI (HH w) f).sc n (kr st) Z r aa) (h:tL (eQ (HH w) bY n f) st r aa=some ba):aU U w 1521 Y (FI (HH w) f).sc n st Z .next ba:=by
 have:=zD (U:=U) (n:=n) hf hI T0 hl
 exact P7 (X:=eQ (HH w) bY n f) this hc h
theorem qJ (T0:cQ (KF (HH w)) Y) (hl:bw Y) {st:Stmt} {Z aa:aj} {p:Pl} {e:Expr} {v:DV} {l:List DV} (h:jv (eQ (HH w) bY n f) st Z=some (p,e)) (hc:aC U w 1521 Y (FI (HH w) f).sc n e Z v aa) (hg:p.get aa=some (.ml l)) (hz:l.length+1<=lim):
 aU U w 1521 Y (FI (HH w) f).sc n st Z .next (p.set aa (.ml (l++[v]))):=xp (zD hf hI T0 hl) h hc hg hz
theorem PD (T0:cQ (KF (HH w)) Y) (hl:bw Y) {st:Stmt} {Z aa:aj} {p:Pl} {e:Expr} {l l':List DV} (h:xV (eQ (HH w) bY n f) st Z=some (p,e)) (hc:aC U w 1521 Y (FI (HH w) f).sc n e Z (.lst l') aa) (hg:p.get aa=some (.ml l)) (hz:l.length+l'.length<=lim):
 aU U w 1521 Y (FI (HH w) f).sc n st Z .next (p.set aa (.ml (l++l'))):=IT (zD hf hI T0 hl) h hc hg hz
end
section
variable {U:Program} {w:World} {Y:Base} {C:Nat}
def aU.lC {sc:Scope} {d:Nat} {θ:Tg} {st:Stmt} {Z ba:aj} {f:au} (h:aU U w C (Y.tag θ) sc d st Z f ba):aU U w C Y sc d st (Z.tg θ) (f.tg θ) (ba.tg θ):=λA G L s env ro eo R Q k=>
 h A (G.tag θ) L s env ro eo ((sv R.val).mp R) Q λG' r s' R' l q=>k _ r s' R'.tQ (l.ji R.val) ((DQ f r).mpr (fa (jL R'.val)▸q))
def LV {sc:Scope} {d:Nat} {F:HM} {l':List Stmt} {aa ah:aj} {f:au} (g:aj->aj) (FO:∀st Z ba,F.X st Z=some (.next,ba)->aU U w C Y sc d st (g Z) .next (g ba)) (k:aF U w C Y sc d l' (g aa) f ah) (l:List Stmt):∀Z:aj,cg F l Z=some (.next,aa)->aF U w C Y sc d (l++l') (g Z) f ah:=by
 induction l with
 |nil=>exactλZ h=>by rw[show Z=aa from aT Prod.snd (eN h)];exact k
 |cons st r ih=>
  exactλZ h=>bz (pR (show(F.X st Z).bind (λp=>bif p.1.p7 then some p else cg F r p.2)=some (.next,aa) from h)) λp h0 h=>by
   cases c:p.1.p7 with
   |true=>rw[c] at h;rw[show p.1=.next from aT Prod.fst (eN h)] at c;exact ft c
   |false=>rw[c] at h;exact ao (FO st Z p.2 (h0.trans (aT (λf=>some (f,p.2)) (kj c)))) (ih _ h)
def eH {sc:Scope} {d:Nat} {F:HM} (FO:qV U w C Y sc d F) {l':List Stmt} {aa ah:aj} {f:au} (k:aF U w C Y sc d l' aa f ah) (l:List Stmt) (Z:aj) (h:cg F l Z=some (.next,aa)):aF U w C Y sc d (l++l') Z f ah:=LV id (λ_ _ _ h=>FO.X _ _ _ _ h) k l Z h
def sG {sc:Scope} {d:Nat} {F:HM} {θ:Tg} (FO:qV U w C (Y.tag θ) sc d F) {l':List Stmt} {aa ah:aj} {f:au} (k:aF U w C Y sc d l' (aa.tg θ) f ah) (l:List Stmt) (Z:aj) (h:cg F l Z=some (.next,aa)):aF U w C Y sc d (l++l') (Z.tg θ) f ah:=LV (aj.tg θ) (λ_ _ _ h=>aU.lC (FO.X _ _ _ _ h)) k l Z h
def dH.dn {A:Around} {d d':Nat} (h:dH A d') (le:d<=d'):dH A d:=
 have r:∀{x k c L:Nat},x+k*d'+c<=L->x+k*d+c<=L:=λh=>bB (ZA (xj (Nat.mul_le_mul_left _ le) _) _) h
 ⟨r h.depth,r h.units,h.handled⟩
def aU.up {sc:Scope} {d d':Nat} {st:Stmt} {Z ba:aj} {f:au} (h:aU U w C Y sc d st Z f ba) (le:d<=d'):aU U w C Y sc d' st Z f ba:=λA G L s env ro=>h A G L s env (ro.dn le)
def af.up {d d':Nat} {f:Value} {args:List DV} {kw:List (Str×DV)} {aq aX:bU} {r:DV} (h:af U w C Y d f args kw aq r aX) (le:d<=d'):af U w C Y d' f args kw aq r aX:=λA G s vs ks ro=>h A G s vs ks (ro.dn le)
end
section
variable {z k:Int} {p:Nat}
def zG (k:Int):k+((0:Nat):Int)=k:=zA k
def RI (k:Int) (n:Nat):k+((n+1:Nat):Int)=k+1+n:=(aT (k+·) (Int.add_comm (n:Int) 1)).trans (Hs k 1 n).symm
def qm (hp:z+k=(p:Int)) (n:Nat):z+(k+n)=((p+n:Nat):Int):=(Hs z k n).symm.trans (aT (· +(n:Int)) hp)
def hpS (hp:z+k=(p:Int)):z+(k+1)=((p+1:Nat):Int):=qm hp 1
def ahe {c i:Int} {n:Nat} (h:c+((n+1:Nat):Int)<=i):c<i:=Int.lt_of_lt_of_le (Int.lt_add_of_pos_right c (Int.ofNat_lt.mpr (MU n))) h
end
def Txt.one {S:List Nat} {p c:Nat} {cs:List Nat} (h:Txt S p (c::cs)):Txt S p [c]:=(Txt.app (a:=[c]) h).1
section
variable {U:Program} {w:World} {C:Nat} {Y:Base} {sc:Scope} {d:Nat} {Z ba:aj} {dx cu:Expr} {pos:Pos} {c:Bool}
def sZ {b:Bool} (cf:bu U w C Y sc d dx Z c Z) (cP:bu U w C Y sc d cu Z b Z):bu U w C Y sc d (.BoolOp .And [dx,cu] pos) Z (c&&b) Z:=jf cf (by
 cases c with
 |false=>exact⟨rfl,rfl⟩
 |true=>exact jf cP (by cases b;exact⟨rfl,rfl⟩;exact jh))
end
def aF.at {U:Program} {w:World} {C:Nat} {Y:Base} {sc:Scope} {d:Nat} {l l':List Stmt} {f:au} {Z ba:aj} (e:l=l') (h:aF U w C Y sc d l' Z f ba):aF U w C Y sc d l Z f ba:=fa e▸h
section
variable {U:Program} {w:World} {C:Nat} {Y:Base} {sc:Scope} {d:Nat} {t:Expr} {b o:List Stmt} {pos:Pos} {f:au} {Z aa ah:aj}
def iF (h:bu U w C Y sc d t Z true aa) (k:aF U w C Y sc d b aa f ah):aU U w C Y sc d (.If t b o pos) Z f ah:=p9 h k
def lI (h:bu U w C Y sc d t Z false aa) (k:aF U w C Y sc d o aa f ah):aU U w C Y sc d (.If t b o pos) Z f ah:=p9 h k
end
def IP (a b:Nat):fP [a] [b]=Nat.beq a b:=by show(bif Nat.beq a b then true else false)=_;cases Nat.beq a b<;>rfl
section
variable (H:Array Nat->Int)
def j6:qh (KF H) 1205=some (FI H 1205):=KK
def j7:bc 1205 vr=true:=KK
abbrev jx:List Stmt:=(FI H 1205).body
def fS (ind:Int) (cs:List DV):List (Str×ae):=[(ag,.pv .self),(gG,.pv (.int ind)),(eA,.ml cs),(bg,.pv .rf)]
def vK (θ:Tg) (ind:Int) (cs:List DV):kY θ (fS ind cs)=fS ind (oL θ cs):=rfl
def Fu:jx H=[ai (jx H) 0,ai (jx H) 1,ai (jx H) 2,ai (jx H) 3,ai (jx H) 4]:=KK
abbrev iV:List Stmt:=wB (ai (jx H) 3)
def Tp:ai (jx H) 3=.While (wT (ai (jx H) 3)) (iV H) [] (wP (ai (jx H) 3)):=KK
def Tj:iV H=[ai (iV H) 0,ai (iV H) 1,ai (iV H) 2]:=KK
structure xo (f:Nat) (L:Int->List DV->List (Str×ae)) (s:Stmt):Prop where
 shape:s=.While (.BoolOp .And [bE (wT s) 0,bE (wT s) 1] (bP (wT s))) (wB s) [] (wP s)
 one:wB s=[ai (wB s) 0]
 t0:∀(b:Nat) (k:Int) (lt:Nat) (j c ind:Int) (r:Rs) (cs:List DV),(fR H bY 5 f).T (bE (wT s) 0) ⟨aN b lt k j c r,L ind cs⟩=some (decide (c<ind),⟨aN b lt k j c r,L ind cs⟩)
 t1:∀(c0:Nat) (c ind:Int) (r:Rs) (cs:List DV),(fR H (mL [c0] []) 5 f).T (bE (wT s) 1) ⟨aN 1 2 0 0 c r,L ind cs⟩=some (fP [c0] [32],⟨aN 1 2 0 0 c r,L ind cs⟩)
 b0:∀(b:Nat) (k:Int) (lt:Nat) (j c ind:Int) (r:Rs) (cs:List DV),nB (eQ H bY 5 f) (fR H bY 5 f) (kr (ai (wB s) 0)) ⟨aN b lt k j c r,L ind cs⟩=some (706,[.self],⟨aN b lt k j c r,L ind cs⟩)
 b1:∀(b:Nat) (k:Int) (lt:Nat) (j c ind:Int) (r:Rs) (cs:List DV),tL (eQ H bY 5 f) (ai (wB s) 0) .none ⟨aN b lt k j c r,L ind cs⟩=some ⟨aN b lt k j c r,L ind cs⟩
 tg:∀(θ:Tg) (ind:Int) (cs:List DV),oL θ cs=cs->kY θ (L ind cs)=L ind cs
def Yl:xo H 1205 fS (ai (jx H) 2):=⟨KK,KK,λ_ _ _ _ _ _ _ _=>KK,λ_ _ _ _ _=>KK,λ_ _ _ _ _ _ _ _=>KK,λ_ _ _ _ _ _ _ _=>KK,λθ ind cs h=>(vK θ ind cs).trans (aT (fS ind) h)⟩
def Ym:xo H 1205 fS (ai (iV H) 2):=⟨KK,KK,λ_ _ _ _ _ _ _ _=>KK,λ_ _ _ _ _=>KK,λ_ _ _ _ _ _ _ _=>KK,λ_ _ _ _ _ _ _ _=>KK,λθ ind cs h=>(vK θ ind cs).trans (aT (fS ind) h)⟩
end
section
variable {U:Program} {w:World} {Y:Base} {f:Nat} (hf:bc f vr=true) (hI:qh (KF (HH w)) f=some (FI (HH w) f)) {L:Int->List DV->List (Str×ae)} {b lt:Nat} {j:Int} {r:Rs} (T0:cQ (KF (HH w)) Y) (hl:bw Y) (hr:r.clean=true)
def Ih (n:Nat) (x:List Nat):ic (List.replicate n (.str x))=true:=by
 induction n with
 |zero=>rfl
 |succ n ih=>exact ih
include hf hI T0 hl hr
theorem y5 {s:Stmt} (W:xo (HH w) f L s) {ind:Int} {cs:List DV} (Zg:∀θ,low θ->oL θ cs=cs) {c1:Nat} {k c:Int} {p:Nat} (hp:Y.V.β b+k=p) (ht:Txt (Y.V.ς 0) p [c1]) {v:Bool} (hv:(decide (c<ind)&&Nat.beq c1 32)=v):
 bu U w 1521 Y (FI (HH w) f).sc 5 (.BoolOp .And [bE (wT s) 0,bE (wT s) 1] (bP (wT s))) ⟨aN b lt k j c r,L ind cs⟩ v ⟨aN b lt k j c r,L ind cs⟩:=
 hv▸IP c1 32▸sZ (kG hf hI T0 hl (W.t0 b k lt j c ind r cs)) (xY (b:=b) (lt:=lt) (k:=k) (j:=j) (col:=c) hr (W.tg _ ind cs (Zg _ (Gf b k lt j)))▸yT (b:=b) (lt:=lt) (k:=k) (j:=j) hf hI T0 hl hp ht .nil (W.t1 c1 c ind r cs))
theorem CR {s:Stmt} (W:xo (HH w) f L s) {ind:Int} {cs:List DV} (Zg:∀θ,low θ->oL θ cs=cs) {c0:Nat} (n:Nat):∀(k c:Int) (p:Nat),Y.V.β b+k=p->c+n<=ind->(c+n=ind\/c0≠32)->Txt (Y.V.ς 0) p (List.replicate n 32++[c0])->
 cI U w 1521 Y (FI (HH w) f).sc 5 (.BoolOp .And [bE (wT s) 0,bE (wT s) 1] (bP (wT s))) (wB s) n ⟨aN b lt k j c r,L ind cs⟩ .next ⟨aN b lt (k+n) j (c+n) r,L ind cs⟩:=by
 induction n with
 |zero=>
  intro k c p hp _ h2 ht
  rw[zG] at h2
  rw[zG,zG]
  exact .stop (y5 hf hI T0 hl hr W Zg hp ht (h2.elim (λe=>by rw[e,Hv (Int.lt_irrefl ind)];rfl) λn=>by rw[Bool.eq_false_iff.mpr λq=>n (iS q),Bool.and_false]))
 |succ n ih=>
  intro k c p hp h1 h2 ht
  have lt0:=ahe h1
  rw[RI] at h1 h2
  rw[RI,RI]
  exact .next (y5 hf hI T0 hl hr W Zg hp ht.one (by rw[HF lt0];rfl)) (W.one▸ao (kh hf hI T0 hl (eZ hf hI T0 hl (W.b0 b k lt j c ind r cs) ((Sf T0 hl hp hr ht.one).up (by decide))) (W.b1 b (k+1) lt j (c+1) ind r cs)) bx) (ih _ _ _ (hpS hp) h1 h2 ht.tail)
theorem EL {s:Stmt} (W:xo (HH w) f L s) {ind:Int} {cs:List DV} (Zg:∀θ,low θ->oL θ cs=cs) {c0 n:Nat} {k c:Int} {p:Nat} (hp:Y.V.β b+k=p) (h1:c+n<=ind) (h2:c+n=ind\/c0≠32) (ht:Txt (Y.V.ς 0) p (List.replicate n 32++[c0])):
 aU U w 1521 Y (FI (HH w) f).sc 5 s ⟨aN b lt k j c r,L ind cs⟩ .next ⟨aN b lt (k+n) j (c+n) r,L ind cs⟩:=fa W.shape▸oG (CR hf hI T0 hl hr W Zg n k c p hp h1 h2 ht)
end
def aQ (n:Nat):List Nat:=List.replicate n 32
def gH (nl ss:List Nat) (e c0:Nat):List Nat:=List.rec (motive:=λ_=>List Nat) (aQ e++[c0]) (λs _ ih=>aQ s++(nl++ih)) ss
def dj (nl ss:List Nat):Nat:=List.rec (motive:=λ_=>Nat) 0 (λs _ ih=>s+nl.length+ih) ss
def cJ:List Nat:=[13,10,133,8232,8233]
def Xx:iH.all (λnl=>List.casesOn (motive:=λ_=>Bool) nl false λa _=>bc a cJ&&(!Nat.beq a 32&&(!fP nl [13]||bc a after)))=true:=KK
def ob {nl:List Nat} (hn:nl∈iH):∃a r,nl=a::r/\bc a cJ=true/\a≠32/\(nl=[13]->a∈after):=by
 have h:=gk.mp Xx nl hn
 cases nl with
 |nil=>exact ft h
 |cons a r=>exact a2 (aw h) λh1 h=>a2 (aw h) λh2 h3=>⟨a,r,rfl,h1,oa (iy h2),λe=>fH ((show(!fP (a::r) [13]||bc a after)=bc a after by rw[jo,iG.mpr e];rfl)▸h3)⟩
@[irreducible] def k7 (s:Stmt):Expr:=((ua s).bind λe=>(gR e).bind λq=>dJ q.2.1).getD default
section
variable (H:Array Nat->Int)
def Th (b:Nat) (k:Int) (lt:Nat) (j c ind:Int) (r:Rs):cg (fR H bY 6 1205) [ai (jx H) 0,ai (jx H) 1] ⟨aN b lt k j c r,[(ag,.pv .self),(gG,.pv (.int ind))]⟩=some (.next,⟨aN b lt k j c r,fS ind []⟩):=KK
def To (c0:Nat) (c ind:Int) (r:Rs) (cs:List DV):(fR H (mL [c0] []) 6 1205).T (wT (ai (jx H) 3)) ⟨aN 1 2 0 0 c r,fS ind cs⟩=some (bc c0 cJ,⟨aN 1 2 0 0 c r,fS ind cs⟩):=KK
def NO (b:Nat) (k:Int) (lt:Nat) (j c ind:Int) (r:Rs) (cs:List DV):jv (eQ H bY 6 1205) (ai (iV H) 0) ⟨aN b lt k j c r,fS ind cs⟩=some (.loc eA,k7 (ai (iV H) 0)):=KK
def NP (b:Nat) (k:Int) (lt:Nat) (j c ind:Int) (r:Rs) (cs:List DV):nB (eQ H bY 6 1205) (fR H bY 6 1205) (k7 (ai (iV H) 0)) ⟨aN b lt k j c r,fS ind cs⟩=some (1278,[.self],⟨aN b lt k j c r,fS ind cs⟩):=KK
def Ti (b:Nat) (k:Int) (lt:Nat) (j c ind:Int) (r:Rs) (cs:List DV):cg (fR H bY 6 1205) [ai (iV H) 1] ⟨aN b lt k j c r,fS ind cs⟩=some (.next,⟨aN b lt k j c r,fS ind cs⟩):=KK
def NQ (b:Nat) (k:Int) (lt:Nat) (j c ind:Int) (r:Rs) (cs:List DV):cg (fR H bY 6 1205) [ai (jx H) 4] ⟨aN b lt k j c r,fS ind cs⟩=some (.ret (.tup [.lst cs,.rf]),⟨aN b lt k j c r,[(ag,.pv .self),(gG,.pv (.int ind)),(eA,.pv (.lst cs)),(bg,.pv .rf)]⟩):=KK
end
def JP (ind:Int) (cs l:List DV) (aq:bU):(Pl.loc eA).set ⟨aq,fS ind cs⟩ (.ml l)=⟨aq,fS ind l⟩:=aT (aj.mk aq) ((bk ..).symm.trans (show bS (fS ind cs) eA (ae.ml l)=fS ind l by kernel_rfl))
def JO (ind:Int) (cs:List DV) (aq:bU):(Pl.loc eA).get ⟨aq,fS ind cs⟩=some (.ml cs):=(aG ..).symm.trans (show aS (fS ind cs) eA=some (.ml cs) by kernel_rfl)
abbrev bW (n:Nat) (x:List Nat):List DV:=List.replicate n (.str x)
def qL (n:Nat) (x:List Nat) (θ:Tg) (h:low θ):oL θ (bW n x)=bW n x:=gx h (Ih n x)
def DO {n:Nat} (h:n<=1000):n<=lim:=bB h (by decide)
def fM {S:List Nat} {p s c:Nat} {t:List Nat} (h:Txt S p (aQ s++c::t)):Txt S p (List.replicate s 32++[c])/\Txt S (p+s) (c::t):=
 ⟨(Txt.app (a:=List.replicate s 32++[c]) (b:=t) (by rw[fb];exact h)).1,tj (n:=s) (a:=32)▸h.app.2⟩
section
variable {U:Program} {w:World} {Y:Base} {b lt:Nat} {r:Rs} (T0:cQ (KF (HH w)) Y) (hl:bw Y) (hr:r.clean=true)
include T0 hl hr
theorem qy {c1:Nat} {k j c ind:Int} {p n:Nat} (hp:Y.V.β b+k=p) (ht:Txt (Y.V.ς 0) p [c1]) {v:Bool} (hv:bc c1 cJ=v):bu U w 1521 Y (FI (HH w) 1205).sc 6 (wT (ai (jx (HH w)) 3)) ⟨aN b lt k j c r,fS ind (bW n [10])⟩ v ⟨aN b lt k j c r,fS ind (bW n [10])⟩:=
 hv▸xY (b:=b) (lt:=lt) (k:=k) (j:=j) (col:=c) hr ((vK ..).trans (aT (fS ind) (qL n [10] _ (Gf b k lt j))))▸yT (b:=b) (lt:=lt) (k:=k) (j:=j) j7 (j6 (HH w)) T0 hl hp ht .nil (To (HH w) c1 c ind r (bW n [10]))
theorem xA {nl:List Nat} (hn:nl∈iH) {ind:Int} {sp c1:Nat} {t:List Nat} {k j c:Int} {p n:Nat} (hp:Y.V.β b+k=p) (h1:(sp:Int)<=ind) (h2:(sp:Int)=ind\/c1≠32) (hh:nl=[13]->sp=0->c1∈after) (hx:Txt (Y.V.ς 0) p (nl++(aQ sp++c1::t))) (hz:n+1<=1000):
 aF U w 1521 Y (FI (HH w) 1205).sc 6 (iV (HH w)) ⟨aN b lt k j c r,fS ind (bW n [10])⟩ .next ⟨aN b lt (k+nl.length+sp) (j+1) sp r,fS ind (bW (n+1) [10])⟩:=by
 have first:∃a t',aQ sp++c1::t=a::t'/\(nl=[13]->a∈after):=by
  cases sp with
  |zero=>exact⟨c1,t,rfl,λe=>hh e rfl⟩
  |succ sp=>exact⟨32,aQ sp++c1::t,rfl,λ_=>.head _⟩
 refine mw first λa t' ea ha=>?_
 have s0:=qJ (U:=U) j7 (j6 (HH w)) T0 hl (NO (HH w) b k lt j c ind r (bW n [10])) (eZ j7 (j6 (HH w)) T0 hl (NP (HH w) b k lt j c ind r (bW n [10])) (Ez T0 hl hp hr hn (Txt.app (a:=nl++[a]) (b:=t') (by rw[fb];exact(ea▸hx:Txt (Y.V.ς 0) p (nl++a::t')))).1 ha)) (JO _ _ _) (DO (by rw[tj];exact hz))
 rw[JP,show bW n [10]++[DV.str [10]]=bW (n+1) [10] from(List.replicate_succ' ..).symm] at s0
 have s2:=EL (U:=U) j7 (j6 (HH w)) (b:=b) (lt:=lt) (j:=j+1) T0 hl hr (Ym (HH w)) (ind:=ind) (qL (n+1) [10]) (c:=0) (qm hp nl.length) (by rw[zL];exact h1) (by rw[zL];exact h2) (fM hx.app.2).1
 rw[zL] at s2
 exact aF.at (Tj (HH w)) <| ao s0 (eH (zQ j7 (j6 (HH w)) T0 hl) (ao (s2.up (by decide)) bx) [ai (iV (HH w)) 1] _ (Ti (HH w) b (k+nl.length) lt (j+1) 0 ind r (bW (n+1) [10])))
theorem Fv {nl:List Nat} (hn:nl∈iH) {ind:Int} {e c0:Nat} (he:(e:Int)<=ind) (h0:(e:Int)=ind\/c0≠32) (xe:bc c0 cJ=false) (xf:nl=[13]->e=0->c0∈after) (ss:List Nat):
 ∀(k j c:Int) (p n:Nat),Y.V.β b+k=p->(∀s∈ss,(s:Int)<=ind)->Txt (Y.V.ς 0) p (nl++gH nl ss e c0)->n+1+ss.length<=1000->
 cI U w 1521 Y (FI (HH w) 1205).sc 6 (wT (ai (jx (HH w)) 3)) (iV (HH w)) (ss.length+1) ⟨aN b lt k j c r,fS ind (bW n [10])⟩ .next ⟨aN b lt (k+nl.length+dj nl ss+e) (j+1+ss.length) e r,fS ind (bW (n+1+ss.length) [10])⟩:=
 Zd (ob hn) λa nr ea hm D3 haf=>by
  have one:∀{p t},Txt (Y.V.ς 0) p (nl++t)->Txt (Y.V.ς 0) p [a]:=λh=>by rw[ea] at h;exact Txt.one h
  induction ss with
  |nil=>
   intro k j c p n hp _ hx hz
   have x2:=(fM hx.app.2).2
   have st:=qy (U:=U) (lt:=lt) (c:=e) (ind:=ind) (j:=j+1) (n:=n+1) T0 hl hr (qm (qm hp nl.length) e) x2 xe
   show cI U w 1521 Y _ 6 _ _ _ _ _ ⟨aN b lt (k+nl.length+((0:Nat):Int)+e) (j+1+((0:Nat):Int)) e r,_⟩
   rw[zG,zG]
   exact .next (qy T0 hl hr hp (one hx) hm) (xA T0 hl hr hn hp he h0 xf hx hz) (.stop st)
  |cons s ss ih=>
   intro k j c p n hp hs hx hz
   have⟨hs1,hs2⟩:=e8.mp hs
   have hx:Txt (Y.V.ς 0) p (nl++(aQ s++a::(nr++gH nl ss e c0))):=by rw[<-De,<-ea];exact hx
   have x2:=(fM hx.app.2).2
   rw[<-De,<-ea] at x2
   have hz:n+1+1+ss.length<=1000:=Rg (n+1) 1 ss.length▸hz
   have:=ih (k+nl.length+s) (j+1) s (p+nl.length+s) (n+1) (qm (qm hp nl.length) s) hs2 x2 hz
   rw[<-RI (j+1),Rg (n+1) 1 ss.length,Hs (k+nl.length+s),Hs (k+nl.length),<-Hs (s:Int)] at this
   exact .next (qy T0 hl hr hp (one hx) hm) (xA T0 hl hr hn hp hs1 (.inr D3) (λe _=>haf e) hx (bB (Hu (n+1) 1) (bB (Hu _ _) hz))) this
end
def lJ {U:Program} {w:World} {C:Nat} {Y:Base} {sc:Scope} {d:Nat} {s:Stmt} {t:Expr} {b:List Stmt} {pos:Pos} {n:Nat} {f:au} {Z aa:aj} (e:s=.While t b [] pos) (h:cI U w C Y sc d t b n Z f aa):aU U w C Y sc d s Z f aa:=fa e▸oG h
def NR (ind:Int):((cR lD 1205 [.self,.int ind] []).bind λrow=>getAll [.self,.int ind] [] row.out)=some [(ag,.self),(gG,.int ind)]:=KK
section
variable {U:Program} {w:World} {Y:Base} {b lt:Nat} {r:Rs} (T0:cQ (KF (HH w)) Y) (hl:bw Y) (hr:r.clean=true)
include T0 hl hr
theorem DA {ind:Int} {sp c1 m n:Nat} {t:List Nat} {k j k' j' c':Int} {p:Nat} (hp:Y.V.β b+k=p) (h1:(sp:Int)<=ind) (h2:(sp:Int)=ind\/c1≠32) (hx:Txt (Y.V.ς 0) p (aQ sp++c1::t))
 (ht:cI U w 1521 Y (FI (HH w) 1205).sc 6 (wT (ai (jx (HH w)) 3)) (iV (HH w)) m ⟨aN b lt (k+sp) j sp r,fS ind []⟩ .next ⟨aN b lt k' j' c' r,fS ind (bW n [10])⟩):
 af U w 1521 Y 7 (.ref 1205) [.self,.int ind] [] (aN b lt k j 0 r) (.tup [.lst (bW n [10]),.rf]) (aN b lt k' j' c' r):=by
 have s2:=EL (U:=U) j7 (j6 (HH w)) (b:=b) (lt:=lt) (j:=j) T0 hl hr (Yl (HH w)) (ind:=ind) (cs:=[]) (λ_ _=>rfl) (c:=0) hp (by rw[zL];exact h1) (by rw[zL];exact h2) (fM hx).1
 rw[zL] at s2
 exact f9 j7 (j6 (HH w)) T0 hl (NR ind) (aF.at (Fu (HH w)) <| eH (zQ j7 (j6 (HH w)) T0 hl) (ao (s2.up (by decide)) (ao (lJ (Tp (HH w)) ht) (nh j7 (j6 (HH w)) T0 hl (NQ (HH w) b k' lt j' c' ind r (bW n [10]))))) [ai (jx (HH w)) 0,ai (jx (HH w)) 1] _ (Th (HH w) b k lt j 0 ind r)) rfl
theorem xy {nl:List Nat} (hn:nl∈iH) {ind:Int} {e c0:Nat} (he:(e:Int)<=ind) (h0:(e:Int)=ind\/c0≠32) (xe:bc c0 cJ=false) (xf:nl=[13]->e=0->c0∈after)
 (ss:List Nat) {k j:Int} {p:Nat} (hp:Y.V.β b+k=p) (hs:∀s∈ss,(s:Int)<=ind) (hx:Txt (Y.V.ς 0) p (gH nl ss e c0)) (hz:ss.length<=1000):
 af U w 1521 Y 7 (.ref 1205) [.self,.int ind] [] (aN b lt k j 0 r) (.tup [.lst (bW ss.length [10]),.rf]) (aN b lt (k+dj nl ss+e) (j+ss.length) e r):=by
 cases ss with
 |nil=>
  have t:=DA (U:=U) (lt:=lt) (j:=j) (n:=0) (m:=0) T0 hl hr hp he h0 hx (.stop (qy (n:=0) T0 hl hr (qm hp e) (fM hx).2 xe))
  show af U w 1521 Y 7 _ _ _ _ _ (aN b lt (k+((0:Nat):Int)+e) (j+((0:Nat):Int)) e r)
  rw[zG,zG]
  exact t
 |cons s ss=>
  refine Zd (ob hn) λa nr ea hm D3 haf=>?_
  have⟨hs1,hs2⟩:=e8.mp hs
  have hx:Txt (Y.V.ς 0) p (aQ s++a::(nr++gH nl ss e c0)):=by rw[<-De,<-ea];exact hx
  have x2:=(fM hx).2
  rw[<-De,<-ea] at x2
  have t:=DA (U:=U) (lt:=lt) (j:=j) T0 hl hr hp hs1 (.inr D3) hx (Fv T0 hl hr hn he h0 xe xf ss (k+s) j s (p+s) 0 (qm hp s) hs2 x2 (by rw[HD,Nat.add_comm];exact hz))
  rw[<-RI j,HD,Nat.add_comm 1,Hs k,Hs k] at t
  exact t
end
section
variable (H:Array Nat->Int)
def gK:qh (KF H) 1198=some (FI H 1198):=KK
def gL:bc 1198 vr=true:=KK
abbrev iK:List Stmt:=(FI H 1198).body
def dE (mx:Int) (cs:List DV):List (Str×ae):=[(ag,.pv .self),(eA,.ml cs),(yy,.pv (.int mx)),(bg,.pv .rf)]
def Pf (θ:Tg) (mx:Int) (cs:List DV):kY θ (dE mx cs)=dE mx (oL θ cs):=rfl
def F2:iK H=[ai (iK H) 0,ai (iK H) 1,ai (iK H) 2,ai (iK H) 3,ai (iK H) 4]:=KK
abbrev pU:List Stmt:=wB (ai (iK H) 3)
def aba:ai (iK H) 3=.While (wT (ai (iK H) 3)) (pU H) [] (wP (ai (iK H) 3)):=KK
abbrev gj:Stmt:=ai (pU H) 0
def JB:pU H=[.If (wT (gj H)) [ai (wB (gj H)) 0,ai (wB (gj H)) 1] [ai (wO (gj H)) 0,.If (wT (ai (wO (gj H)) 1)) (wB (ai (wO (gj H)) 1)) [] (wP (ai (wO (gj H)) 1))] (wP (gj H))]:=KK
variable (b:Nat) (k:Int) (lt:Nat) (j c mx:Int) (r:Rs) (cs:List DV)
def Ua:cg (fR H bY 6 1198) [ai (iK H) 0,ai (iK H) 1,ai (iK H) 2] ⟨aN b lt k j c r,[(ag,.pv .self)]⟩=some (.next,⟨aN b lt k j c r,dE 0 []⟩):=KK
def cy:List Nat:=[32,13,10,133,8232,8233]
def aa9 (c0:Nat):(fR H (mL [c0] []) 6 1198).T (wT (ai (iK H) 3)) ⟨aN 1 2 0 0 c r,dE mx cs⟩=some (bc c0 cy,⟨aN 1 2 0 0 c r,dE mx cs⟩):=KK
def Ue (c0:Nat):(fR H (mL [c0] []) 6 1198).T (wT (gj H)) ⟨aN 1 2 0 0 c r,dE mx cs⟩=some (!fP [c0] [32],⟨aN 1 2 0 0 c r,dE mx cs⟩):=KK
def OQ:jv (eQ H bY 6 1198) (ai (wB (gj H)) 0) ⟨aN b lt k j c r,dE mx cs⟩=some (.loc eA,k7 (ai (wB (gj H)) 0)):=KK
def OR:nB (eQ H bY 6 1198) (fR H bY 6 1198) (k7 (ai (wB (gj H)) 0)) ⟨aN b lt k j c r,dE mx cs⟩=some (1278,[.self],⟨aN b lt k j c r,dE mx cs⟩):=KK
def Ub:(fR H bY 6 1198).X (ai (wB (gj H)) 1) ⟨aN b lt k j c r,dE mx cs⟩=some (.next,⟨aN b lt k j c r,dE mx cs⟩):=KK
def Ud:nB (eQ H bY 6 1198) (fR H bY 6 1198) (kr (ai (wO (gj H)) 0)) ⟨aN b lt k j c r,dE mx cs⟩=some (706,[.self],⟨aN b lt k j c r,dE mx cs⟩):=KK
def Uc:tL (eQ H bY 6 1198) (ai (wO (gj H)) 0) .none ⟨aN b lt k j c r,dE mx cs⟩=some ⟨aN b lt k j c r,dE mx cs⟩:=KK
def Uj:(fR H bY 6 1198).T (wT (ai (wO (gj H)) 1)) ⟨aN b lt k j c r,dE mx cs⟩=some (decide (mx<c),⟨aN b lt k j c r,dE mx cs⟩):=KK
def Ug:cg (fR H bY 6 1198) (wB (ai (wO (gj H)) 1)) ⟨aN b lt k j c r,dE mx cs⟩=some (.next,⟨aN b lt k j c r,dE c cs⟩):=KK
def OS:cg (fR H bY 6 1198) [ai (iK H) 4] ⟨aN b lt k j c r,dE mx cs⟩=some (.ret (.tup [.lst cs,.int mx,.rf]),⟨aN b lt k j c r,[(ag,.pv .self),(eA,.pv (.lst cs)),(yy,.pv (.int mx)),(bg,.pv .rf)]⟩):=KK
end
def OT:((cR lD 1198 [.self] []).bind λrow=>getAll [.self] [] row.out)=some [(ag,.self)]:=KK
def JS (mx:Int) (cs l:List DV) (aq:bU):(Pl.loc eA).set ⟨aq,dE mx cs⟩ (.ml l)=⟨aq,dE mx l⟩:=aT (aj.mk aq) ((bk ..).symm.trans (show bS (dE mx cs) eA (ae.ml l)=dE mx l by kernel_rfl))
def JR (mx:Int) (cs:List DV) (aq:bU):(Pl.loc eA).get ⟨aq,dE mx cs⟩=some (.ml cs):=(aG ..).symm.trans (show aS (dE mx cs) eA=some (.ml cs) by kernel_rfl)
def wide (mx:Int) (ss:List Nat) (e:Nat):Int:=List.rec (motive:=λ_=>Int->Int) (λmx=>max mx e) (λ(s:Nat) _ ih mx=>ih (max mx (s:Int))) ss mx
def Pw (a b:Int) (e:Nat):max (max a b) (b+e)=max a (b+e):=by rw[Int.max_assoc,Int.max_eq_right (Int.le_add_of_nonneg_right (MS e))]
section
variable {U:Program} {w:World} {Y:Base} {b lt:Nat} {r:Rs} (T0:cQ (KF (HH w)) Y) (hl:bw Y) (hr:r.clean=true)
include T0 hl hr
theorem JC {k j c mx:Int} {n:Nat}:aj.tg (mn b k lt j) ⟨aN 1 2 0 0 c r,dE mx (bW n [10])⟩=⟨aN b lt k j c r,dE mx (bW n [10])⟩:=xY hr ((Pf ..).trans (aT (dE mx) (qL n [10] _ (Gf b k lt j))))
theorem vG {c1:Nat} {k j c mx:Int} {p n:Nat} (hp:Y.V.β b+k=p) (ht:Txt (Y.V.ς 0) p [c1]) {v:Bool} (hv:bc c1 cy=v):bu U w 1521 Y (FI (HH w) 1198).sc 6 (wT (ai (iK (HH w)) 3)) ⟨aN b lt k j c r,dE mx (bW n [10])⟩ v ⟨aN b lt k j c r,dE mx (bW n [10])⟩:=
 hv▸JC (k:=k) (j:=j) (c:=c) (mx:=mx) (n:=n) T0 hl hr▸yT (b:=b) (lt:=lt) (k:=k) (j:=j) gL (gK (HH w)) T0 hl hp ht .nil (aa9 (HH w) c mx r (bW n [10]) c1)
theorem D5 {c1:Nat} {k j c mx:Int} {p n:Nat} (hp:Y.V.β b+k=p) (ht:Txt (Y.V.ς 0) p [c1]) {v:Bool} (hv:(!Nat.beq c1 32)=v):bu U w 1521 Y (FI (HH w) 1198).sc 6 (wT (gj (HH w))) ⟨aN b lt k j c r,dE mx (bW n [10])⟩ v ⟨aN b lt k j c r,dE mx (bW n [10])⟩:=
 hv▸IP c1 32▸JC (k:=k) (j:=j) (c:=c) (mx:=mx) (n:=n) T0 hl hr▸yT (b:=b) (lt:=lt) (k:=k) (j:=j) gL (gK (HH w)) T0 hl hp ht .nil (Ue (HH w) c mx r (bW n [10]) c1)
theorem Ui {k j c mx:Int} {p n:Nat} (hp:Y.V.β b+k=p) (ht:Txt (Y.V.ς 0) p [32]):aF U w 1521 Y (FI (HH w) 1198).sc 6 (pU (HH w)) ⟨aN b lt k j c r,dE mx (bW n [10])⟩ .next ⟨aN b lt (k+1) j (c+1) r,dE (max mx (c+1)) (bW n [10])⟩:=by
 have t:=D5 (U:=U) (lt:=lt) (j:=j) (c:=c) (mx:=mx) (n:=n) (c1:=32) T0 hl hr hp ht (v:=false) rfl
 have s0:=kh gL (gK (HH w)) T0 hl (eZ gL (gK (HH w)) T0 hl (Ud (HH w) b k lt j c mx r (bW n [10])) ((Sf (U:=U) T0 hl hp hr ht).up (by decide))) (Uc (HH w) b (k+1) lt j (c+1) mx r _)
 have s1:=kG (U:=U) gL (gK (HH w)) T0 hl (Uj (HH w) b (k+1) lt j (c+1) mx r (bW n [10]))
 refine aF.at (JB (HH w)) ?_
 refine ao (lI t ?_) bx
 refine ao s0 (ao (p9 s1 ?_) bx)
 by_cases q:mx<c+1
 ·rw[HF q,Int.max_eq_right (Int.le_of_lt q)];exact nh gL (gK (HH w)) T0 hl (Ug (HH w) b (k+1) lt j (c+1) mx r _)
 ·rw[Hv q,Int.max_eq_left (Int.not_lt.mp q)];exact bx
theorem Uh {nl:List Nat} (hn:nl∈iH) {k j c mx:Int} {p n c1:Nat} (hp:Y.V.β b+k=p) (ht:Txt (Y.V.ς 0) p (nl++[c1])) (hc:nl=[13]->c1∈after) (hz:n+1<=1000):aF U w 1521 Y (FI (HH w) 1198).sc 6 (pU (HH w)) ⟨aN b lt k j c r,dE mx (bW n [10])⟩ .next
 ⟨aN b lt (k+nl.length) (j+1) 0 r,dE mx (bW (n+1) [10])⟩:=Zd (ob hn) λa nr ea _ D3 _=>by
 have s0:=qJ (U:=U) gL (gK (HH w)) T0 hl (OQ (HH w) b k lt j c mx r (bW n [10])) (eZ gL (gK (HH w)) T0 hl (OR (HH w) b k lt j c mx r (bW n [10])) (Ez T0 hl hp hr hn ht hc)) (JR _ _ _) (DO (by rw[tj];exact hz))
 rw[JS,show bW n [10]++[DV.str [10]]=bW (n+1) [10] from(List.replicate_succ' ..).symm] at s0
 exact aF.at (JB (HH w)) <| ao (iF (D5 T0 hl hr hp (c1:=a) (Txt.one (cs:=nr++[c1]) (by rw[<-De,<-ea];exact ht)) (aT not (Bool.eq_false_iff.mpr λq=>D3 (iS q))))
  (ao s0 (ao ((zQ gL (gK (HH w)) T0 hl).X _ _ _ _ (Ub (HH w) b (k+nl.length) lt (j+1) 0 mx r _)) bx))) bx
theorem rN {fl:au} {iR:aj} {j:Int} {n m:Nat} (e:Nat):∀(k c mx:Int) (p:Nat),Y.V.β b+k=p->c<=mx->Txt (Y.V.ς 0) p (List.replicate e 32)->
 cI U w 1521 Y (FI (HH w) 1198).sc 6 (wT (ai (iK (HH w)) 3)) (pU (HH w)) m ⟨aN b lt (k+e) j (c+e) r,dE (max mx (c+e)) (bW n [10])⟩ fl iR->
 cI U w 1521 Y (FI (HH w) 1198).sc 6 (wT (ai (iK (HH w)) 3)) (pU (HH w)) (m+e) ⟨aN b lt k j c r,dE mx (bW n [10])⟩ fl iR:=by
 induction e with
 |zero=>
  intro k c mx p _ hc _ hm
  rw[zG,zG,Int.max_eq_left hc] at hm
  exact hm
 |succ e ih=>
  intro k c mx p hp _ ht hm
  rw[RI,RI,<-Pw] at hm
  exact .next (vG T0 hl hr hp ht.one rfl) (Ui T0 hl hr hp ht.one) (ih _ _ _ _ (hpS hp) (Int.le_max_right ..) ht.tail hm)
end
def Xv:iH.all (λnl=>List.casesOn (motive:=λ_=>Bool) nl false λa _=>bc a cy)=true:=KK
def ni {nl:List Nat} (hn:nl∈iH) {e c0:Nat} (xf:nl=[13]->e=0->c0∈after) (ss:List Nat):∃a t,gH nl ss e c0=a::t/\(nl=[13]->a∈after):=by
 cases ss with
 |nil=>
  cases e with
  |zero=>exact⟨c0,[],rfl,λq=>xf q rfl⟩
  |succ e=>exact⟨32,aQ e++[c0],rfl,λ_=>.head _⟩
 |cons s ss=>
  cases s with
  |zero=>exact Zd (ob hn) λa r ea _ _ haf=>⟨a,r++gH nl ss e c0,by show nl++gH nl ss e c0=_;rw[<-De,<-ea],haf⟩
  |succ s=>exact⟨32,aQ s++(nl++gH nl ss e c0),rfl,λ_=>.head _⟩
def Fo (k:Int) (s L B e:Nat):k+s+L+B+e=k+((s+L+B:Nat):Int)+e:=aT (· +(e:Int)) (by rw[Hs k,Hs k];rfl)
section
variable {U:Program} {w:World} {Y:Base} {b lt:Nat} {r:Rs} (T0:cQ (KF (HH w)) Y) (hl:bw Y) (hr:r.clean=true)
include T0 hl hr
theorem F3 {nl:List Nat} (hn:nl∈iH) {e c0:Nat} (xe:bc c0 cy=false) (xf:nl=[13]->e=0->c0∈after) (ss:List Nat):∀(k j mx:Int) (p n:Nat),Y.V.β b+k=p->0<=mx->Txt (Y.V.ς 0) p (gH nl ss e c0)->n+ss.length<=1000->
 ∃m,cI U w 1521 Y (FI (HH w) 1198).sc 6 (wT (ai (iK (HH w)) 3)) (pU (HH w)) m ⟨aN b lt k j 0 r,dE mx (bW n [10])⟩ .next ⟨aN b lt (k+dj nl ss+e) (j+ss.length) e r,dE (wide mx ss e) (bW (n+ss.length) [10])⟩:=by
 induction ss with
 |nil=>
  intro k j mx p n hp hm hx _
  have t:=vG (U:=U) (lt:=lt) (j:=j) (c:=0+e) (mx:=max mx (0+e)) (n:=n) T0 hl hr (qm hp e) (fM hx).2 xe
  have tu:=rN (U:=U) (m:=0) T0 hl hr e k 0 mx p hp hm (Txt.app hx).1 (.stop t)
  rw[zL] at tu
  show ∃m,cI U w 1521 Y _ 6 _ _ m _ _ ⟨aN b lt (k+((0:Nat):Int)+e) (j+((0:Nat):Int)) e r,dE (max mx e) (bW n [10])⟩
  rw[zG,zG]
  exact⟨_,tu⟩
 |cons s ss ih=>
  intro k j mx p n hp hm hx hz
  have x2:Txt (Y.V.ς 0) (p+s) (nl++gH nl ss e c0):=tj (n:=s) (a:=32)▸(Txt.app (a:=aQ s) hx).2
  have hz:n+1+ss.length<=1000:=Rg n 1 ss.length▸hz
  have Zh:=qm hp s
  refine mw (ni hn xf ss) λa t q=>λha=>Zd (ob hn) λa' r' ea _ _ _=>fi (ih (k+s+nl.length) (j+1) (max mx s) (p+s+nl.length) (n+1) (qm Zh nl.length) (Int.le_trans hm (Int.le_max_left ..)) x2.app.2 hz) λm zF=>?_
  have hi:bc a' cy=true:=(show(List.casesOn (motive:=λ_=>Bool) (a'::r') false λa _=>bc a cy)=true from ea▸gk.mp Xv nl hn)
  have bd:=Uh (U:=U) (lt:=lt) (j:=j) (c:=s) (mx:=max mx s) T0 hl hr hn Zh (Txt.app (a:=nl++[a]) (b:=t) (by rw[fb];exact(q▸x2:Txt (Y.V.ς 0) (p+s) (nl++a::t)))).1 ha (bB (Hu ..) hz)
  have ts:=vG (U:=U) (lt:=lt) (j:=j) (c:=s) (mx:=max mx s) (n:=n) T0 hl hr Zh (Txt.one (c:=a') (cs:=r'++gH nl ss e c0) (by rw[<-De,<-ea];exact x2)) hi
  have tu:=cI.next ts bd zF
  rw[Fo,<-RI,Rg n 1] at tu
  have tu:=rN (U:=U) T0 hl hr s k 0 mx p hp hm (Txt.app (a:=aQ s) hx).1 (by rw[zL];exact tu)
  exact⟨_,tu⟩
theorem JA {nl:List Nat} (hn:nl∈iH) {e c0:Nat} (xe:bc c0 cy=false) (xf:nl=[13]->e=0->c0∈after) (ss:List Nat) {k j:Int} {p:Nat} (hp:Y.V.β b+k=p) (hx:Txt (Y.V.ς 0) p (gH nl ss e c0)) (hz:ss.length<=1000):
 af U w 1521 Y 7 (.ref 1198) [.self] [] (aN b lt k j 0 r) (.tup [.lst (bW ss.length [10]),.int (wide 0 ss e),.rf]) (aN b lt (k+dj nl ss+e) (j+ss.length) e r):=
 fi (F3 (U:=U) (lt:=lt) T0 hl hr hn xe xf ss k j 0 p 0 hp (Int.le_refl _) hx (by rw[HD];exact hz)) λm hm=>by
  rw[HD] at hm
  exact f9 gL (gK (HH w)) T0 hl OT (aF.at (F2 (HH w)) <| eH (zQ gL (gK (HH w)) T0 hl) (ao (lJ (aba (HH w)) hm) (nh gL (gK (HH w)) T0 hl (OS (HH w) b (k+dj nl ss+e) lt (j+ss.length) e (wide 0 ss e) r (bW ss.length [10]))))
   [ai (iK (HH w)) 0,ai (iK (HH w)) 1,ai (iK (HH w)) 2] _ (Ua (HH w) b k lt j 0 r)) rfl
end
section
variable {U:Program} {w:World} {Y:Base} {C:Nat}
def Rep.sr {P:Params} {G:Gh} {L:Addr} {aq:bU} {l l':List (Str×ae)} {s:Shared} (h:∀x,look l x=look l' x) (R:Rep P C Y G L ⟨aq,l⟩ s):Rep P C Y G L ⟨aq,l'⟩ s:=
 ⟨R.tocp,R.fz,bz R.locs λm hm hs=>⟨m,hm,λx e=>hs.miss x ((h x).trans e),λx k e=>hs.hit x k ((h x).trans e),λx y kx ky ex ey=>hs.once x y kx ky ((h x).trans ex) ((h y).trans ey)⟩⟩
def aF.sr {sc:Scope} {d:Nat} {b:List Stmt} {aq:bU} {l l':List (Str×ae)} {f:au} {ba:aj} (h:∀x,look l x=look l' x) (k:aF U w C Y sc d b ⟨aq,l'⟩ f ba):aF U w C Y sc d b ⟨aq,l⟩ f ba:=λA G L s env ro eo R=>k A G L s env ro eo (R.sr h)
end
section
variable (H:Array Nat->Int)
def bI:qh (KF H) 1177=some (FI H 1177):=KK
def bJ:bc 1177 vr=true:=KK
abbrev cM:List Stmt:=(FI H 1177).body
def Fq:cM H=[ai (cM H) 0,ai (cM H) 1,ai (cM H) 2,ai (cM H) 3,ai (cM H) 4,ai (cM H) 5,ai (cM H) 6,ai (cM H) 7,ai (cM H) 8,ai (cM H) 9,ai (cM H) 10,ai (cM H) 11,ai (cM H) 12,ai (cM H) 13]:=KK
abbrev rh:Stmt:=ai (cM H) 10
abbrev bV:List Stmt:=wB (rh H)
def Ru:rh H=.While (.BoolOp .And [bE (wT (rh H)) 0,bE (wT (rh H)) 1] (bP (wT (rh H)))) (bV H) [] (wP (rh H)):=KK
def Tc:bV H=[ai (bV H) 0,ai (bV H) 1,ai (bV H) 2,ai (bV H) 3,ai (bV H) 4,ai (bV H) 5,ai (bV H) 6,ai (bV H) 7,ai (bV H) 8]:=KK
abbrev iU:Stmt:=ai (bV H) 8
abbrev jm:Stmt:=ai (wB (iU H)) 0
abbrev jU:Stmt:=ai (wB (jm H)) 0
def HZ:iU H=.If (.BoolOp .And [bE (wT (iU H)) 0,bE (wT (iU H)) 1] (bP (wT (iU H)))) [jm H] [ai (wO (iU H)) 0] (wP (iU H)):=KK
def NH:jm H=.If (wT (jm H)) [jU H] [ai (wO (jm H)) 0] (wP (jm H)):=KK
def NI:jU H=.If (wT (jU H)) [ai (wB (jU H)) 0] [] (wP (jU H)):=KK
end
structure Lc where
 zk:DV
 fold:Bool
 xN:DV
 Jz:DV
 J6:DV
 ind:Int
def D7 (q:Lc) (lb:List Nat) (cs:List DV) (bl:DV) (tl:List (Str×ae)):List (Str×ae):=
 (ag,.pv .self)::(fD,.pv q.zk)::(Wy,.pv (.bool q.fold))::(eA,.ml cs)::(aK,.pv .rf)::(KH,.pv q.xN)::(KI,.pv q.Jz)::(Wz,.pv q.J6)::(GC,.pv bl)::(bg,.pv .rf)::(gG,.pv (.int q.ind))::(yz,.pv (.str lb))::tl
abbrev bK (q:Lc) (lb:List Nat) (cs:List DV) (bs:List DV) (tl:List (Str×ae)):List (Str×ae):=D7 q lb cs (.lst bs) tl
def tB (ln:Bool) (n:Int) (mi:List (Str×ae)):List (Str×ae):=(yA,.pv (.bool ln))::(gN,.pv (.int n))::mi
def Lc.tg (θ:Tg) (q:Lc):Lc:=⟨q.zk.tg θ,q.fold,q.xN.tg θ,q.Jz.tg θ,q.J6.tg θ,q.ind⟩
def JN (θ:Tg) (q:Lc) (lb:List Nat) (cs:List DV) (bl:DV) (tl:List (Str×ae)):kY θ (D7 q lb cs bl tl)=D7 (q.tg θ) lb (oL θ cs) (bl.tg θ) (kY θ tl):=rfl
def Pe (θ:Tg) (q:Lc) (lb:List Nat) (cs bs:List DV) (tl:List (Str×ae)):kY θ (bK q lb cs bs tl)=bK (q.tg θ) lb (oL θ cs) (oL θ bs) (kY θ tl):=(JN ..).trans (aT (D7 _ _ _ · _) (C5 θ bs))
def Mt (θ:Tg) (ln:Bool) (n:Int) (mi:List (Str×ae)):kY θ (tB ln n mi)=tB ln n (kY θ mi):=rfl
section
variable (H:Array Nat->Int) (b:Nat) (k:Int) (lt:Nat) (j c:Int) (r:Rs) (q:Lc) (lb:List Nat) (cs bs:List DV) (mi:List (Str×ae))
def Te (tl:List (Str×ae)):(fR H bY 8 1177).T (bE (wT (rh H)) 0) ⟨aN b lt k j c r,bK q lb cs bs tl⟩=some (c==q.ind,⟨aN b lt k j c r,bK q lb cs bs tl⟩):=KK
def Tf (c0:Nat) (tl:List (Str×ae)):(fR H (mL [c0] []) 8 1177).T (bE (wT (rh H)) 1) ⟨aN 1 2 0 0 c r,bK q lb cs bs tl⟩=some (!fP [c0] [0],⟨aN 1 2 0 0 c r,bK q lb cs bs tl⟩):=KK
def HY (tl:List (Str×ae)):(fR H bY 8 1177).T (bE (wT (iU H)) 0) ⟨aN b lt k j c r,bK q lb cs bs tl⟩=some (c==q.ind,⟨aN b lt k j c r,bK q lb cs bs tl⟩):=KK
def S9 (c0:Nat) (tl:List (Str×ae)):(fR H (mL [c0] []) 8 1177).T (bE (wT (iU H)) 1) ⟨aN 1 2 0 0 c r,bK q lb cs bs tl⟩=some (!fP [c0] [0],⟨aN 1 2 0 0 c r,bK q lb cs bs tl⟩):=KK
def NG (tl:List (Str×ae)):xV (eQ H bY 8 1177) (ai (bV H) 0) ⟨aN b lt k j c r,bK q lb cs bs tl⟩=some (.loc eA,k7 (ai (bV H) 0)):=KK
def NF (tl:List (Str×ae)):(fR H bY 8 1177).E (k7 (ai (bV H) 0)) ⟨aN b lt k j c r,bK q lb cs bs tl⟩=some (.pv (.lst bs),⟨aN b lt k j c r,bK q lb cs bs tl⟩):=KK
def M3:List Nat:=[32,9]
def HV (c0:Nat):cg (fR H (mL [c0] []) 8 1177) [ai (bV H) 1,ai (bV H) 2] ⟨aN 1 2 0 0 c r,bK q lb cs bs mi⟩=some (.next,⟨aN 1 2 0 0 c r,bK q lb cs bs (bS (bS mi yA (.pv (.bool (!bc c0 M3)))) gN (.pv (.int 0)))⟩):=KK
def HW (c0:Nat) (ln:Bool) (n:Int):cg (fR H (mL [c0] []) 8 1177) [ai (bV H) 1,ai (bV H) 2] ⟨aN 1 2 0 0 c r,bK q lb cs bs (tB ln n mi)⟩=some (.next,⟨aN 1 2 0 0 c r,bK q lb cs bs (tB (!bc c0 M3) 0 mi)⟩):=KK
def NA (tl:List (Str×ae)):jv (eQ H bY 8 1177) (ai (bV H) 4) ⟨aN b lt k j c r,bK q lb cs bs tl⟩=some (.loc eA,k7 (ai (bV H) 4)):=KK
def Td (tl:List (Str×ae)):nB (eQ H bY 8 1177) (fR H bY 8 1177) (kr (ai (bV H) 6)) ⟨aN b lt k j c r,bK q lb cs bs tl⟩=some (1278,[.self],⟨aN b lt k j c r,bK q lb cs bs tl⟩):=KK
def NK (tl:List (Str×ae)) (x:List Nat):tL (eQ H bY 8 1177) (ai (bV H) 6) (.str x) ⟨aN b lt k j c r,bK q lb cs bs tl⟩=some ⟨aN b lt k j c r,bK q x cs bs tl⟩:=KK
def S8 (tl:List (Str×ae)):nB (eQ H bY 8 1177) (fR H bY 8 1177) (kr (ai (bV H) 7)) ⟨aN b lt k j c r,bK q lb cs bs tl⟩=some (1205,[.self,.int q.ind],⟨aN b lt k j c r,bK q lb cs bs tl⟩):=KK
def NC (tl:List (Str×ae)) (x:List DV):tL (eQ H bY 8 1177) (ai (bV H) 7) (.tup [.lst x,.rf]) ⟨aN b lt k j c r,bK q lb cs bs tl⟩=some ⟨aN b lt k j c r,bK q lb cs x tl⟩:=KK
def Ta (c0:Nat) (ln fo:Bool) (n:Int):(fR H (mL [c0] []) 8 1177).T (wT (jm H)) ⟨aN 1 2 0 0 c r,bK ⟨q.zk,fo,q.xN,q.Jz,q.J6,q.ind⟩ [10] cs bs (tB ln n mi)⟩=some (fo&&ln&&!bc c0 M3,⟨aN 1 2 0 0 c r,bK ⟨q.zk,fo,q.xN,q.Jz,q.J6,q.ind⟩ [10] cs bs (tB ln n mi)⟩):=by
 have g:∀x:Bool,∀Z:aj,(bif x then some (true,Z) else some (false,Z))=some (x,Z):=λx Z=>by cases x<;>rfl
 cases fo
 ·kernel_rfl
 ·cases ln
  ·kernel_rfl
  ·refine Eq.trans ?_ (g (!bc c0 M3) _)
   kernel_rfl
def Tb (x:List DV) (tl:List (Str×ae)):(fR H bY 8 1177).T (wT (jU H)) ⟨aN b lt k j c r,bK q lb cs x tl⟩=some (!(!x.isEmpty),⟨aN b lt k j c r,bK q lb cs x tl⟩):=KK
def S7 (tl:List (Str×ae)):jv (eQ H bY 8 1177) (ai (wB (jU H)) 0) ⟨aN b lt k j c r,bK q lb cs bs tl⟩=some (.loc eA,k7 (ai (wB (jU H)) 0)):=KK
def NB (tl:List (Str×ae)):(fR H bY 8 1177).E (k7 (ai (wB (jU H)) 0)) ⟨aN b lt k j c r,bK q lb cs bs tl⟩=some (.pv (.str [32]),⟨aN b lt k j c r,bK q lb cs bs tl⟩):=KK
def S6 (tl:List (Str×ae)):jv (eQ H bY 8 1177) (ai (wO (jm H)) 0) ⟨aN b lt k j c r,bK q lb cs bs tl⟩=some (.loc eA,k7 (ai (wO (jm H)) 0)):=KK
def Nz (tl:List (Str×ae)):(fR H bY 8 1177).E (k7 (ai (wO (jm H)) 0)) ⟨aN b lt k j c r,bK q lb cs bs tl⟩=some (.pv (.str lb),⟨aN b lt k j c r,bK q lb cs bs tl⟩):=KK
def ND (tl:List (Str×ae)):(fR H bY 8 1177).X (ai (wO (iU H)) 0) ⟨aN b lt k j c r,bK q lb cs bs tl⟩=some (.brk,⟨aN b lt k j c r,bK q lb cs bs tl⟩):=KK
end
def yh (q:Lc) (lb:List Nat) (cs bs:List DV) (tl:List (Str×ae)) (l:List DV) (aq:bU):(Pl.loc eA).set ⟨aq,bK q lb cs bs tl⟩ (.ml l)=⟨aq,bK q lb l bs tl⟩:=aT (aj.mk aq) ((bk ..).symm.trans (show bS (bK q lb cs bs tl) eA (ae.ml l)=bK q lb l bs tl by kernel_rfl))
def rV (q:Lc) (lb:List Nat) (cs bs:List DV) (tl:List (Str×ae)) (aq:bU):(Pl.loc eA).get ⟨aq,bK q lb cs bs tl⟩=some (.ml cs):=(aG ..).symm.trans (show aS (bK q lb cs bs tl) eA=some (.ml cs) by kernel_rfl)
def va (n:Nat) (c:Int):Int:=Nat.rec (motive:=λ_=>Int) c (λ_ x=>x+1) n
def aef (n:Nat) (c:Int):va n c=c+n:=by
 induction n with
 |zero=>exact(zG c).symm
 |succ n ih=>exact(aT (· +1) ih).trans (Hs c n 1)
def dZ:List (List Nat):=[[97],[98,32,99],[98],[99],[32,32,100,32,101],[9,117,32,118],[102,32,32,103],[102,32],[103],[35,32,104,58,32,105],[35,32,104,58],[105],[35],[104,58,32,105],[32],[45,32,106,32,107,32,108],[45],[106],[107],[108],[109,32,110,32,111,32,112],[109],[110],[111],[112]]
section
variable (H:Array Nat->Int) (c:Int) (r:Rs) (q:Lc) (lb:List Nat) (cs bs:List DV) (ln:Bool) (mi:List (Str×ae))
def Ze (c:Int) (k:Nat) (n:Int):aj:=⟨aN 1 2 k 0 c r,bK q lb cs bs (tB ln n mi)⟩
def Ak:dZ.map (λf=>[10,13,133].map λn0=>cg (fR H (mL (f++[n0]) []) 8 1177) [ai (bV H) 3] (Ze r q lb cs bs ln mi c 0 0))=dZ.map λf=>[10,13,133].map λ_=>some (.next,Ze r q lb cs bs ln mi c 0 f.length):=KK
def FP:dZ.map (λf=>(fR H (mL f (List.replicate f.length none++[some false])) 8 1177).E (k7 (ai (bV H) 4)) (Ze r q lb cs bs ln mi c 0 f.length))=dZ.map λf=>some (.pv (.str f),Ze r q lb cs bs ln mi c 0 f.length):=KK
def FN:dZ.map (λf=>cg (fR H (mL f (List.replicate (f.length+1) none++[some false])) 8 1177) [ai (bV H) 5] (Ze r q lb cs bs ln mi c 0 f.length))=dZ.map λf=>some (.next,Ze r q lb cs bs ln mi (va f.length c) f.length f.length):=KK
end
structure SQ (H:Array Nat->Int) (f:List Nat):Prop where
 scan:∀(n0:Nat),n0∈[10,13,133]->∀(c:Int) (r:Rs) (q:Lc) (lb:List Nat) (cs bs:List DV) (ln:Bool) (mi:List (Str×ae)),cg (fR H (mL (f++[n0]) []) 8 1177) [ai (bV H) 3] ⟨aN 1 2 0 0 c r,bK q lb cs bs (tB ln 0 mi)⟩=some (.next,⟨aN 1 2 0 0 c r,bK q lb cs bs (tB ln f.length mi)⟩)
 pre:∀(c:Int) (r:Rs) (q:Lc) (lb:List Nat) (cs bs:List DV) (ln:Bool) (mi:List (Str×ae)),(fR H (mL f (List.replicate f.length none++[some false])) 8 1177).E (k7 (ai (bV H) 4)) ⟨aN 1 2 0 0 c r,bK q lb cs bs (tB ln f.length mi)⟩=some (.pv (.str f),⟨aN 1 2 0 0 c r,bK q lb cs bs (tB ln f.length mi)⟩)
 fwd:∀(c:Int) (r:Rs) (q:Lc) (lb:List Nat) (cs bs:List DV) (ln:Bool) (mi:List (Str×ae)),cg (fR H (mL f (List.replicate (f.length+1) none++[some false])) 8 1177) [ai (bV H) 5] ⟨aN 1 2 0 0 c r,bK q lb cs bs (tB ln f.length mi)⟩=some (.next,⟨aN 1 2 f.length 0 (va f.length c) r,bK q lb cs bs (tB ln f.length mi)⟩)
def Oq (H:Array Nat->Int) (f:List Nat) (m:f∈dZ):SQ H f:=⟨λn0 h c r q lb cs bs ln mi=>aW (aW (Ak H c r q lb cs bs ln mi) f m) n0 h,λc r q lb cs bs ln mi=>aW (FP H c r q lb cs bs ln mi) f m,λc r q lb cs bs ln mi=>aW (FN H c r q lb cs bs ln mi) f m⟩
abbrev Item:=List Nat×List Nat
def jY (nl ss:List Nat):List Nat:=List.rec (motive:=λ_=>List Nat) [] (λs _ ih=>aQ s++(nl++ih)) ss
def LI (nl:List Nat) (e c0:Nat) (ss:List Nat):gH nl ss e c0=jY nl ss++(aQ e++[c0]):=by
 induction ss with
 |nil=>rfl
 |cons s ss ih=>show aQ s++(nl++gH nl ss e c0)=(aQ s++(nl++jY nl ss))++_;rw[ih,fb,fb]
def nF (nl ss:List Nat):(jY nl ss).length=dj nl ss:=by
 induction ss with
 |nil=>rfl
 |cons s ss ih=>show(aQ s++(nl++jY nl ss)).length=s+nl.length+dj nl ss;rw[c9,c9,aQ,tj,ih,zN]
def lead (ind e:Nat) (aR:List Item):Nat:=List.casesOn (motive:=λ_=>Nat) aR e λ_ _=>ind
def qG (c0:Nat) (aR:List Item):Nat:=List.casesOn (motive:=λ_=>Nat) aR c0 λit _=>it.1.headD 0
def gu (nl:List Nat) (ind e c0:Nat) (aR:List Item):List Nat:=List.rec (motive:=λ_=>List Nat) [c0] (λit aR ih=>it.1++(nl++(jY nl it.2++(aQ (lead ind e aR)++ih)))) aR
def j9 (nl:List Nat) (ind e:Nat) (aR:List Item):Nat:=List.rec (motive:=λ_=>Nat) 0 (λit aR ih=>it.1.length+nl.length+dj nl it.2+lead ind e aR+ih) aR
def m8 (aR:List Item):Nat:=List.rec (motive:=λ_=>Nat) 0 (λit _ ih=>1+it.2.length+ih) aR
def yl (f:List Nat):Bool:=!bc (f.headD 0) M3
def gap (fold:Bool) (it:Item) (aR:List Item):List (List Nat):=List.casesOn (motive:=λ_=>List (List Nat)) aR [] λit' _=>if fold&&yl it.1&&yl it'.1 then(if it.2.isEmpty then[[32]] else[]) else[[10]]
def xd (fold:Bool) (n:Nat) (aR:List Item):List (List Nat):=List.rec (motive:=λ_=>Nat->List (List Nat)) (λ_=>[]) (λit aR ih n=>List.replicate n [10]++(it.1::(gap fold it aR++ih it.2.length))) aR n
def i5 (n:Nat) (aR:List Item):Nat:=List.rec (motive:=λ_=>Nat->Nat) id (λit _ ih _=>ih it.2.length) aR n
def Ho (aR:List Item):Nat:=List.rec (motive:=λ_=>Nat) 0 (λit _ ih=>2+it.2.length+ih) aR
def FL:dZ.all (λf=>List.casesOn (motive:=λ_=>Bool) f false λa _=>!bc a cJ&&!fP [a] [0])=true:=KK
def lQ {f:List Nat} (m:f∈dZ):∃a l,f=a::l/\bc a cJ=false/\fP [a] [0]=false:=by
 have h:=gk.mp FL f m
 cases f with
 |nil=>exact ft h
 |cons a l=>exact a2 (aw h) λh1 h2=>⟨a,l,rfl,iy h1,iy h2⟩
def lr (nl:List Nat) (ind e c0:Nat) (aR:List Item) (h:∀it∈aR,it.1∈dZ):∃t,gu nl ind e c0 aR=qG c0 aR::t:=by
 cases aR with
 |nil=>exact⟨[],rfl⟩
 |cons it aR=>exact mw (lQ (h it (.head _))) λa l e1 _=>⟨l++(nl++(jY nl it.2++(aQ (lead ind e aR)++gu nl ind e c0 aR))),by show it.1++_=it.1.headD 0::_;rw[e1];rfl⟩
def nv (o:Option Int):List (Str×ae):=Option.casesOn (motive:=λ_=>List (Str×ae)) o [] λv=>[(yy,.pv (.int v))]
def pg (θ:Tg) (o:Option Int):kY θ (nv o)=nv o:=by cases o<;>rfl
def Lc.clean (q:Lc):Bool:=q.zk.clean&&(q.xN.clean&&(q.Jz.clean&&q.J6.clean))
def Lc.bO {θ:Tg} (h:low θ) {q:Lc} (c:q.clean=true):q.tg θ=q:=
 a2 (aw c) λh1 c=>a2 (aw c) λh2 c=>a2 (aw c) λh3 h4=>congr (congr (congr (aT (λs c i m=>Lc.mk s q.fold c i m q.ind) (DV.bO h h1)) (DV.bO h h2)) (DV.bO h h3)) (DV.bO h h4)
def Ig (l:List (List Nat)):ic (l.map .str)=true:=by
 induction l with
 |nil=>rfl
 |cons a l ih=>exact ih
def tF (ln:Bool) (o:Option Int):List (Str×ae):=bS (bS (nv o) yA (.pv (.bool ln))) gN (.pv (.int 0))
def E0 (ln:Bool):tF ln none=[(yA,.pv (.bool ln)),(gN,.pv (.int 0))]:=KK
def E1 (ln:Bool) (v:Int):tF ln (some v)=[(yy,.pv (.int v)),(yA,.pv (.bool ln)),(gN,.pv (.int 0))]:=KK
def adz (θ:Tg) (ln:Bool) (o:Option Int):kY θ (tF ln o)=tF ln o:=by
 cases o
 ·rw[E0];rfl
 ·rw[E1];rfl
def uv {α:Type} {p:Str×α} {l l':List (Str×α)} {x:Str} (h:look l x=look l' x):look (p::l) x=look (p::l') x:=aT (λo=>if p.1=x then some p.2 else o) h
def r6 {α:Type} {a a':List (Str×α)} {x:Str} (h:look a x=look a' x) (l:List (Str×α)):look (l++a) x=look (l++a') x:=by
 induction l with
 |nil=>exact h
 |cons p l ih=>exact uv ih
def Ge {α:Type} {l:List (Str×α)} {a b:Str×α} {x:Str} (ne:b.1≠a.1):look (a::b::l) x=look (b::a::l) x:=by
 show(if a.1=x then some a.2 else if b.1=x then some b.2 else look l x)=if b.1=x then some b.2 else if a.1=x then some a.2 else look l x
 by_cases h:a.1=x
 ·rw[d7 h,dX λq=>ne (q.trans h.symm),d7 h]
 ·rw[dX h,dX h]
def qH {α:Type} {p:Str×α} {x:Str} (t:List (Str×α)):∀l:List (Str×α),l.all (λy=>!cU y.1 p.1)=true->look (p::(l++t)) x=look (l++p::t) x
 |[],_=>rfl
 |_::l,h=>(Ge (i9 (iy (aw h).1))).trans (uv (qH t l (aw h).2))
def aih (q:Lc) (lb:List Nat) (cs bs:List DV):List (Str×ae):=bK q lb cs bs []
def Eu (q:Lc) (lb:List Nat) (cs bs:List DV) (tl:List (Str×ae)):bK q lb cs bs tl=aih q lb cs bs++tl:=KK
def Gb {q:Lc} {lb:List Nat} {cs bs:List DV} {a a':List (Str×ae)} {x:Str} (h:look a x=look a' x):look (bK q lb cs bs a) x=look (bK q lb cs bs a') x:=by
 rw[Eu q lb cs bs a,Eu q lb cs bs a']
 exact r6 h _
def QP (ln:Bool):tB ln 0 (nv none)=[(yA,.pv (.bool ln)),(gN,.pv (.int 0))]:=KK
def QQ (ln:Bool) (v:Int):tB ln 0 (nv (some v))=[(yA,.pv (.bool ln)),(gN,.pv (.int 0)),(yy,.pv (.int v))]:=KK
def Pj (ln:Bool) (o:Option Int) (q:Lc) (lb:List Nat) (cs bs:List DV) (x:Str):look (bK q lb cs bs (tF ln o)) x=look (bK q lb cs bs (tB ln 0 (nv o))) x:=Gb (by
 cases o
 ·rw[E0,QP]
 ·rw[E1,QQ];exact qH [] [_,_] KK)
section
variable {U:Program} {w:World} {Y:Base} {b lt:Nat} {r:Rs} (T0:cQ (KF (HH w)) Y) (hl:bw Y) (hr:r.clean=true) {q:Lc} (hq:q.clean=true)
abbrev SB (b:Nat) (k:Int) (lt:Nat) (j c:Int) (r:Rs) (q:Lc) (lb:List Nat) (bX:List (List Nat)) (n:Nat) (tl:List (Str×ae)):aj:=⟨aN b lt k j c r,bK q lb (bX.map .str) (bW n [10]) tl⟩
include hr hq
theorem HO {k j x y c:Int} {lb:List Nat} {bX:List (List Nat)} {n:Nat} {tl:List (Str×ae)} (ht:∀θ,kY θ tl=tl):(SB 1 x 2 y c r q lb bX n tl).tg (mn b k lt j)=SB b (k+x) lt (j+y) c r q lb bX n tl:=
 have z:=Gf b k lt j
 Ah hr (by rw[Pe,Lc.bO z hq,ht,qL n [10] _ z,gx z (Ig bX)])
theorem u7 {k j c:Int} {lb:List Nat} {bX:List (List Nat)} {n:Nat} {tl:List (Str×ae)} (ht:∀θ,kY θ tl=tl):(SB 1 0 2 0 c r q lb bX n tl).tg (mn b k lt j)=SB b k lt j c r q lb bX n tl:=(HO hr hq ht).trans (by rw[zA,zA])
include T0 hl
theorem Dx {k j:Int} {p:Nat} {cs:List Nat} {m:List (Option Bool)} (hp:Y.V.β b+k=p) (h2:Txt (Y.V.ς 0) p cs) (h3:dO (Y.V.ς 0) p m)
 {l l':List Stmt} {x y c c':Int} {lb lb':List Nat} {bX Ir:List (List Nat)} {n n':Nat} {tl Q1:List (Str×ae)} {fl:au} {ah:aj} (ht:∀θ,kY θ tl=tl) (ht':∀θ,kY θ Q1=Q1)
 (run:cg (fR (HH w) (mL cs m) 8 1177) l (SB 1 0 2 0 c r q lb bX n tl)=some (.next,SB 1 x 2 y c' r q lb' Ir n' Q1))
 (kk:aF U w 1521 Y (FI (HH w) 1177).sc 8 l' (SB b (k+x) lt (j+y) c' r q lb' Ir n' Q1) fl ah):aF U w 1521 Y (FI (HH w) 1177).sc 8 (l++l') (SB b k lt j c r q lb bX n tl) fl ah:=
 u7 hr hq ht▸sG (θ:=mn b k lt j) (ub bJ (bI (HH w)) T0 (mZ hl hp h2 h3)) (fa (HO hr hq ht')▸kk) l _ run
theorem rj {k j:Int} {p:Nat} {cs:List Nat} (hp:Y.V.β b+k=p) (h2:Txt (Y.V.ς 0) p cs) {e:Expr} {c:Int} {lb:List Nat} {bX:List (List Nat)} {n:Nat} {tl:List (Str×ae)} {v v':Bool} (ht:∀θ,kY θ tl=tl)
 (run:(fR (HH w) (mL cs []) 8 1177).T e (SB 1 0 2 0 c r q lb bX n tl)=some (v,SB 1 0 2 0 c r q lb bX n tl)) (hv:v=v'):bu U w 1521 Y (FI (HH w) 1177).sc 8 e (SB b k lt j c r q lb bX n tl) v' (SB b k lt j c r q lb bX n tl):=
 hv▸u7 (b:=b) (lt:=lt) (k:=k) (j:=j) (c:=c) (lb:=lb) (bX:=bX) (n:=n) hr hq ht▸yT (b:=b) (lt:=lt) (k:=k) (j:=j) bJ (bI (HH w)) T0 hl hp h2 .nil run
omit hr hq
theorem qx {st:Stmt} {e:Expr} {x lb:List Nat} {bX:List (List Nat)} {n:Nat} {tl:List (Str×ae)} {k j c:Int} (a:jv (eQ (HH w) bY 8 1177) st (SB b k lt j c r q lb bX n tl)=some (.loc eA,e)) (s:aC U w 1521 Y (FI (HH w) 1177).sc 8 e (SB b k lt j c r q lb bX n tl) (.str x) (SB b k lt j c r q lb bX n tl))
 (hz:bX.length+1<=1000000):aU U w 1521 Y (FI (HH w) 1177).sc 8 st (SB b k lt j c r q lb bX n tl) .next (SB b k lt j c r q lb (bX++[x]) n tl):=by
 have s:=qJ bJ (bI (HH w)) T0 hl a s (rV ..) (by rw[mG];exact bB hz (by decide))
 rw[yh,show bX.map DV.str++[.str x]=(bX++[x]).map .str from(@M8 _ _ _ bX [x]).symm] at s
 exact s
theorem Du {st:Stmt} {e:Expr} {lb:List Nat} {bX:List (List Nat)} {n:Nat} {tl:List (Str×ae)} {k j c:Int} (a:xV (eQ (HH w) bY 8 1177) st (SB b k lt j c r q lb bX n tl)=some (.loc eA,e)) (s:aC U w 1521 Y (FI (HH w) 1177).sc 8 e (SB b k lt j c r q lb bX n tl) (.lst (bW n [10])) (SB b k lt j c r q lb bX n tl))
 (hz:bX.length+n<=1000000):aU U w 1521 Y (FI (HH w) 1177).sc 8 st (SB b k lt j c r q lb bX n tl) .next (SB b k lt j c r q lb (bX++List.replicate n [10]) n tl):=by
 have s:=PD bJ (bI (HH w)) T0 hl a s (rV ..) (by rw[mG,tj];exact bB hz (by decide))
 rw[yh,show bX.map DV.str++bW n [10]=(bX++List.replicate n [10]).map .str by rw[M8,List.map_replicate]] at s
 exact s
theorem xv {k j c:Int} {lb:List Nat} {bX:List (List Nat)} {n:Nat} {tl:List (Str×ae)} (h:c≠q.ind):aF U w 1521 Y (FI (HH w) 1177).sc 8 [iU (HH w)] (SB b k lt j c r q lb bX n tl) .brk (SB b k lt j c r q lb bX n tl):=by
 have t:=kG (U:=U) bJ (bI (HH w)) T0 hl (HY (HH w) b k lt j c r q lb (bX.map .str) (bW n [10]) tl)
 rw[HE.mpr h] at t
 refine jc ?_ rfl
 rw[HZ]
 exact lI (jf t ⟨rfl,rfl⟩) (jc ((zQ bJ (bI (HH w)) T0 hl).X _ _ _ _ (ND (HH w) b k lt j c r q lb (bX.map .str) (bW n [10]) tl)) rfl)
include hr hq
theorem xw {k j c:Int} {p:Nat} (hp:Y.V.β b+k=p) {c1:Nat} {bX:List (List Nat)} {n:Nat} {ln:Bool} {le:Int} {o:Option Int} (h:c=q.ind) (h2:Txt (Y.V.ς 0) p [c1]) (h1:fP [c1] [0]=false) (hz:bX.length+1<=1000000):
 aF U w 1521 Y (FI (HH w) 1177).sc 8 [iU (HH w)] (SB b k lt j c r q [10] bX n (tB ln le (nv o))) .next (SB b k lt j c r q [10] (bX++(bif q.fold&&ln&&!bc c1 M3 then(if n=0 then[[32]] else[]) else[[10]])) n (tB ln le (nv o))):=by
 have RH:∀θ,kY θ (tB ln le (nv o))=tB ln le (nv o):=λθ=>(Mt ..).trans (aT (tB ln le) (pg θ o))
 have t:=kG (U:=U) bJ (bI (HH w)) T0 hl (HY (HH w) b k lt j c r q [10] (bX.map .str) (bW n [10]) (tB ln le (nv o)))
 rw[iG.mpr h] at t
 have t1:=rj (U:=U) (lt:=lt) (j:=j) T0 hl hr hq hp h2 RH (S9 (HH w) c r q [10] (bX.map .str) (bW n [10]) c1 (tB ln le (nv o))) (aT (!·) h1)
 have t2:=rj (U:=U) (lt:=lt) (j:=j) T0 hl hr hq hp h2 RH (Ta (HH w) c r q (bX.map .str) (bW n [10]) (nv o) c1 ln q.fold le) rfl
 rw[HZ]
 refine ao (iF (sZ t t1) (ao ?_ bx)) bx
 rw[NH]
 revert t2
 cases q.fold&&ln&&!bc c1 M3 with
 |false=>exactλt2=>lI t2 (ao (qx T0 hl (S6 ..) (gV bJ (bI (HH w)) T0 hl (Nz ..)) hz) bx)
 |true=>
  refineλt2=>iF t2 (ao ?_ bx)
  rw[NI]
  have t3:=kG (U:=U) bJ (bI (HH w)) T0 hl (Tb (HH w) b k lt j c r q [10] (bX.map .str) (bW n [10]) (tB ln le (nv o)))
  cases n with
  |zero=>exact iF t3 (ao (qx T0 hl (S7 ..) (gV bJ (bI (HH w)) T0 hl (NB ..)) hz) bx)
  |succ n=>exact lI t3 (by rw[show(bif true then(if n+1=0 then[[32]] else[]) else[[10]]:List (List Nat))=[] from(dX (Nat.succ_ne_zero n):(if n+1=0 then([[32]]:List (List Nat)) else[])=[]),ti];exact bx)
end
def ux:∀nl∈iH,∃n0 nr,nl=n0::nr/\n0∈[10,13,133]:=
 e8.mpr ⟨⟨_,_,rfl,.head _⟩,e8.mpr ⟨⟨_,_,rfl,.tail _ (.head _)⟩,e8.mpr ⟨⟨_,_,rfl,.tail _ (.head _)⟩,e8.mpr ⟨⟨_,_,rfl,.tail _ (.tail _ (.head _))⟩,qT _⟩⟩⟩⟩
def D9 {ind e:Nat} (he:e<ind) (aR:List Item):lead ind e aR<=ind:=by
 cases aR with
 |nil=>exact Rh he
 |cons _ _=>exact fu _
section
variable {S:List Nat} {p:Nat}
def dO.rep (l:Nat):dO S p (List.replicate l none):=λn c h=>by
 rw[List.getElem?_replicate] at h
 by_cases q:n<l
 ·rw[d7 q] at h;cases h
 ·rw[dX q] at h;cases h
def Ee {l:Nat} (h:p+l<S.length):dO S p (List.replicate l none++[some false]):=(dO.rep l).snoc λc e=>(eN e).symm.trans (Hv (by rw[tj];exact Nat.not_le.mpr h)).symm
def Txt.C6 {a t:List Nat} {c:Nat} (h:Txt S p (a++c::t)):Txt S p (a++[c]):=(Txt.app (List.append_cons a c t▸h)).1
def Txt.SA {a b t:List Nat} {c:Nat} (h:Txt S p (a++(b++c::t))):Txt S p (a++(b++[c])):=fb a b [c]▸Txt.C6 (a:=a++b) ((fb a b (c::t)).symm▸h)
def Txt.nl2 {nl:List Nat} (hn:nl∈iH) {t:List Nat} {c:Nat} (h:Txt S p (t++(nl++[c]))):p+(t.length+2)<=S.length:=mw (ux nl hn) λ_ nr en _=>by
 have:=h.lt (List.append_ne_nil_of_right_ne_nil _ (List.append_ne_nil_of_right_ne_nil _ λq=>cn q))
 rw[en,c9,c9] at this
 exact bB (xj (xj (oJ 2 nr.length) _) p) this
end
def sx (nl:List Nat) (e c0:Nat) (ss t:List Nat):jY nl ss++(aQ e++c0::t)=gH nl ss e c0++t:=by rw[LI,fb,fb];rfl
section
variable {U:Program} {w:World} {Y:Base} {b lt:Nat} {r:Rs} (T0:cQ (KF (HH w)) Y) (hl:bw Y) (hr:r.clean=true) {q:Lc} (hq:q.clean=true)
abbrev BX (U:Program) (w:World) (Y:Base):List Stmt->aj->au->aj->Prop:=aF U w 1521 Y (FI (HH w) 1177).sc 8
include T0 hl hr hq
theorem H3 {k j:Int} {p:Nat} {cs:List Nat} {m:List (Option Bool)} (hp:Y.V.β b+k=p) (h2:Txt (Y.V.ς 0) p cs) (h3:dO (Y.V.ς 0) p m) {e:Expr} {c:Int} {lb f:List Nat} {bX:List (List Nat)} {n:Nat} {tl:List (Str×ae)} (ht:∀θ,kY θ tl=tl)
 (run:(fR (HH w) (mL cs m) 8 1177).E e (SB 1 0 2 0 c r q lb bX n tl)=some (.pv (.str f),SB 1 0 2 0 c r q lb bX n tl)):aC U w 1521 Y (FI (HH w) 1177).sc 8 e (SB b k lt j c r q lb bX n tl) (.str f) (SB b k lt j c r q lb bX n tl):=
 u7 (b:=b) (lt:=lt) (k:=k) (j:=j) (c:=c) (lb:=lb) (bX:=bX) (n:=n) hr hq ht▸adi (b:=b) (lt:=lt) (k:=k) (j:=j) bJ (bI (HH w)) T0 hl hp h2 h3 run
theorem ri {k j:Int} {p:Nat} {cs:List Nat} (hp:Y.V.β b+k=p) (h2:Txt (Y.V.ς 0) p cs)
 {l l':List Stmt} {c c':Int} {lb lb':List Nat} {bX Ir:List (List Nat)} {n n':Nat} {tl Q1:List (Str×ae)} {fl:au} {ah:aj} (ht:∀θ,kY θ tl=tl) (ht':∀θ,kY θ Q1=Q1)
 (run:cg (fR (HH w) (mL cs []) 8 1177) l (SB 1 0 2 0 c r q lb bX n tl)=some (.next,SB 1 0 2 0 c' r q lb' Ir n' Q1))
 (kk:BX U w Y l' (SB b k lt j c' r q lb' Ir n' Q1) fl ah):BX U w Y (l++l') (SB b k lt j c r q lb bX n tl) fl ah:=
 Dx T0 hl hr hq hp h2 .nil ht ht' run (by rw[zA,zA];exact kk)
variable {nl:List Nat} (hn:nl∈iH) {ind e c0:Nat} (he:e<ind) (Jo:q.ind=ind) (xe:bc c0 cJ=false) (D3:c0≠32) (xf:nl=[13]->e=0->c0∈after)
include hn he Jo xe D3 xf
theorem H4 {f:List Nat} {ss:List Nat} {aR:List Item} (hf:f∈dZ) (hits:∀it∈aR,it.1∈dZ) (hss:∀s∈ss,s<=ind) (ya:ss.length<=1000) {k j:Int} {p:Nat} (hp:Y.V.β b+k=p)
 (hx:Txt (Y.V.ς 0) p (gu nl ind e c0 ((f,ss)::aR))) {bX:List (List Nat)} {lb:List Nat} {n:Nat} {ln:Bool} {o:Option Int} (hz:bX.length+1<=1000000) {fl:au} {ah:aj}
 (c8:BX U w Y [iU (HH w)] (SB b (k+f.length+nl.length+dj nl ss+lead ind e aR) lt (j+1+ss.length) (lead ind e aR) r q [10] (bX++[f]) ss.length (tB ln f.length (nv o))) fl ah):
 BX U w Y [ai (bV (HH w)) 3,ai (bV (HH w)) 4,ai (bV (HH w)) 5,ai (bV (HH w)) 6,ai (bV (HH w)) 7,ai (bV (HH w)) 8] (SB b k lt j ind r q lb bX n (tB ln 0 (nv o))) fl ah:=by
 have RH:∀(x:Int) θ,kY θ (tB ln x (nv o))=tB ln x (nv o):=λx θ=>(Mt ..).trans (aT (tB ln x) (pg θ o))
 have F:=Oq (HH w) f hf
 have hle:=zK.mpr (D9 he aR)
 have hh:bc (qG c0 aR) cJ=false:=by
  cases aR with
  |nil=>exact xe
  |cons it aR=>exact zE (lQ (hits _ (.head _))) λa l e1 h _=>(show bc (it.1.headD 0) cJ=false by rw[e1];exact h)
 have h0:(lead ind e aR:Int)=q.ind\/qG c0 aR≠32:=by
  cases aR with
  |nil=>exact .inr D3
  |cons it aR=>exact .inl Jo.symm
 have aaN:nl=[13]->lead ind e aR=0->qG c0 aR∈after:=by
  cases aR with
  |nil=>exact xf
  |cons it aR=>exactλ_ h=>absurd (Eq.trans h.symm rfl:0=ind) (Fj (Nat.zero_lt_of_lt he))
 refine mw (ux nl hn) λn0 nr en hn0=>fi (lr nl ind e c0 aR hits) λt ht=>mw (ni hn aaN ss) λa t' ea ha=>?_
 have hx:Txt (Y.V.ς 0) p (f++(nl++(gH nl ss (lead ind e aR) (qG c0 aR)++t))):=sx ..▸ht▸hx
 have x2:=hx.app.2
 have x3:Txt (Y.V.ς 0) (p+f.length) (nl++[a]):=Txt.C6 (t:=t'++t) (by rw[ea] at x2;exact x2)
 have len:p+(f.length+1)<(Y.V.ς 0).length:=Txt.nl2 hn (t:=f) (c:=a) (Txt.SA (t:=t'++t) (by rw[ea] at hx;exact hx))
 have hp3:=qm (qm hp f.length) nl.length
 have s7:=xy (U:=U) (b:=b) (lt:=lt) (r:=r) (j:=j+1) T0 hl hr hn (Jo▸hle) h0 hh aaN ss hp3 (λs hs=>Jo▸zK.mpr (hss s hs)) x2.app.2.app.1 ya
 have s6:=Ez (U:=U) (b:=b) (lt:=lt) (j:=j) (col:=va f.length ind) T0 hl (qm hp f.length) hr hn x3 ha
 have c7:=ao (kh bJ (bI (HH w)) T0 hl (eZ bJ (bI (HH w)) T0 hl (S8 (bs:=bW n [10]) ..) (s7.up (by decide))) (NC (bs:=bW n [10]) ..)) c8
 have c6:=ao (kh bJ (bI (HH w)) T0 hl (eZ bJ (bI (HH w)) T0 hl (Td (lb:=lb) ..) (s6.up (by decide))) (NK (lb:=lb) ..)) c7
 have c5:=Dx (lt:=lt) (j:=j) (x:=f.length) (y:=0) T0 hl hr hq hp hx.app.1 (Ee len) (RH f.length) (RH f.length) (F.fwd ..) (by rw[zA];exact c6)
 exact ri T0 hl hr hq hp (Txt.C6 (a:=f) (c:=n0) (t:=nr++(gH nl ss (lead ind e aR) (qG c0 aR)++t)) (by rw[<-De,<-en];exact hx)) (RH 0) (RH f.length) (F.scan n0 hn0 ..) (ao (qx T0 hl (NA ..) (H3 (j:=j) T0 hl hr hq hp hx.app.1 (Ee (Nat.lt_of_succ_lt len)) (RH f.length) (F.pre ..)) hz) c5)
end
def in3 (j:Int) (a b c:Nat):j+((a+b+c:Nat):Int)=j+a+b+c:=OO
def in5 (j:Int) (a b c d e:Nat):j+((a+b+c+d+e:Nat):Int)=j+a+b+c+d+e:=OO
def Jc (fold:Bool) (it g:Item) (aR:List Item):gap fold it (g::aR)=bif fold&&yl it.1&&!bc (g.1.headD 0) M3 then(if it.2.length=0 then[[32]] else[]) else[[10]]:=by
 show(if fold&&yl it.1&&yl g.1 then(if it.2.isEmpty then[[32]] else[]) else[[10]])=bif fold&&yl it.1&&yl g.1 then _ else _
 cases fold&&yl it.1&&yl g.1 with
 |false=>rfl
 |true=>cases it.2<;>rfl
def D0 (fold:Bool) (it g:Item) (aR:List Item):(gap fold it (g::aR)).length<=1:=by
 rw[Jc]
 cases fold&&yl it.1&&!bc (g.1.headD 0) M3 with
 |false=>exact fu 1
 |true=>
  cases it.2 with
  |nil=>exact fu 1
  |cons=>exact jP 1
def Ox (bX:List (List Nat)) (fold:Bool) (n:Nat) (it g:Item) (aR:List Item):bX++xd fold n (it::g::aR)=bX++List.replicate n [10]++[it.1]++gap fold it (g::aR)++xd fold it.2.length (g::aR):=by
 show bX++(List.replicate n [10]++(it.1::(gap fold it (g::aR)++xd fold it.2.length (g::aR))))=_
 simp
def D1 {c n s w g M:Nat} (h:c+n+(2+s+w)<=M) (hg:g<=1):c+n+1+1<=M/\c+n+1+g+s+w<=M:=OO
def Oy (bX G:List (List Nat)) (n:Nat) (f:List Nat):(bX++List.replicate n [10]++[f]).length=bX.length+n+1/\(bX++List.replicate n [10]++[f]++G).length=bX.length+n+1+G.length:=by
 have h:(bX++List.replicate n [10]++[f]).length=bX.length+n+1:=by rw[c9,c9,tj];rfl
 exact⟨h,by rw[c9,h]⟩
def Txt.items {S:List Nat} {p:Nat} {nl:List Nat} {ind e c0:Nat} {aR:List Item} (h:∀it∈aR,it.1∈dZ) (hx:Txt S p (gu nl ind e c0 aR)):Txt S p [qG c0 aR]:=fi (lr nl ind e c0 aR h) λ_ q=>by rw[q] at hx;exact hx.one
def DW {f:List Nat} (h:f∈dZ):fP [f.headD 0] [0]=false:=zE (lQ h) λ_ _ e _ g=>by rw[e];exact g
section
variable {U:Program} {w:World} {Y:Base} {b lt:Nat} {r:Rs} (T0:cQ (KF (HH w)) Y) (hl:bw Y) (hr:r.clean=true) {q:Lc} (hq:q.clean=true)
structure C12 (U:Program) (w:World) (Y:Base) (b lt:Nat) (r:Rs) (q:Lc) (o:Option Int) (tl:List (Str×ae)):Prop where
 fix:∀θ,kY θ tl=tl
 go:∀{k j c:Int} {p c1:Nat} {bX:List (List Nat)} {n:Nat} {lb:List Nat} {l':List Stmt} {fl:au} {ah:aj},Y.V.β b+k=p->Txt (Y.V.ς 0) p [c1]->
  BX U w Y l' (SB b k lt j c r q lb bX n (tB (!bc c1 M3) 0 (nv o))) fl ah->BX U w Y ([ai (bV (HH w)) 1,ai (bV (HH w)) 2]++l') (SB b k lt j c r q lb bX n tl) fl ah
def C4 (ln:Bool) (n:Int) (o:Option Int) (θ:Tg):kY θ (tB ln n (nv o))=tB ln n (nv o):=(Mt ..).trans (aT (tB ln n) (pg θ o))
include T0 hl hr hq
theorem aae (o:Option Int):C12 U w Y b lt r q o (nv o):=
 ⟨λθ=>pg θ o,λhp h2 kk=>ri T0 hl hr hq hp h2 (λθ=>pg θ o) (λθ=>adz θ _ o) (HV ..) (aF.sr (Pj _ _ _ _ _ _) kk)⟩
theorem aaf (o:Option Int) (ln:Bool) (le:Int):C12 U w Y b lt r q o (tB ln le (nv o)):=
 ⟨C4 ln le o,λhp h2 kk=>ri T0 hl hr hq hp h2 (C4 ln le o) (C4 _ 0 o) (HW ..) kk⟩
abbrev aaa (H:Array Nat->Int):Expr:=.BoolOp .And [bE (wT (rh H)) 0,bE (wT (rh H)) 1] (bP (wT (rh H)))
theorem Dy {k j c:Int} {p c1:Nat} (hp:Y.V.β b+k=p) (h2:Txt (Y.V.ς 0) p [c1]) {bX:List (List Nat)} {n:Nat} {lb:List Nat} {tl:List (Str×ae)} (ht:∀θ,kY θ tl=tl) {v:Bool} (hv:((c==q.ind)&&!fP [c1] [0])=v):
 bu U w 1521 Y (FI (HH w) 1177).sc 8 (aaa (HH w)) (SB b k lt j c r q lb bX n tl) v (SB b k lt j c r q lb bX n tl):=
 hv▸sZ (kG bJ (bI (HH w)) T0 hl (Te ..)) (rj T0 hl hr hq hp h2 ht (Tf ..) rfl)
variable {nl:List Nat} (hn:nl∈iH) {ind e c0:Nat} (he:e<ind) (Jo:q.ind=ind) (xe:bc c0 cJ=false) (D3:c0≠32) (xf:nl=[13]->e=0->c0∈after)
include hn he Jo xe D3 xf
theorem H0 {it:Item} {aR:List Item} (hf:it.1∈dZ) (hits:∀it∈aR,it.1∈dZ) (hss:∀s∈it.2,s<=ind) (ya:it.2.length<=1000) {k j:Int} {p:Nat} (hp:Y.V.β b+k=p)
 (hx:Txt (Y.V.ς 0) p (gu nl ind e c0 (it::aR))) {bX:List (List Nat)} {lb:List Nat} {n:Nat} {o:Option Int} {tl:List (Str×ae)} (ht:C12 U w Y b lt r q o tl) (hz:bX.length+n+1<=1000000) {fl:au} {ah:aj}
 (c8:BX U w Y [iU (HH w)] (SB b (k+it.1.length+nl.length+dj nl it.2+lead ind e aR) lt (j+1+it.2.length) (lead ind e aR) r q [10] (bX++List.replicate n [10]++[it.1]) it.2.length (tB (yl it.1) it.1.length (nv o))) fl ah):
 BX U w Y (bV (HH w)) (SB b k lt j ind r q lb bX n tl) fl ah:=by
 exact aF.at (Tc (HH w)) (ao (Du T0 hl (NG ..) (gV bJ (bI (HH w)) T0 hl (NF ..)) (Y8 hz)) (ht.go hp (hx.items (e8.mpr ⟨hf,hits⟩)) (H4 T0 hl hr hq hn he Jo xe D3 xf hf hits hss ya hp hx (by rw[c9,tj];exact hz) c8)))
theorem H2 (aR:List Item):aR≠[]->(∀it∈aR,it.1∈dZ/\(∀s∈it.2,s<=ind)/\it.2.length<=1000)->∀(k j:Int) (p:Nat),Y.V.β b+k=p->Txt (Y.V.ς 0) p (gu nl ind e c0 aR)->
 ∀(bX:List (List Nat)) (lb:List Nat) (n:Nat) (o:Option Int) (tl:List (Str×ae)),C12 U w Y b lt r q o tl->bX.length+n+Ho aR<=1000000->
 ∃m ln le,cI U w 1521 Y (FI (HH w) 1177).sc 8 (aaa (HH w)) (bV (HH w)) m (SB b k lt j ind r q lb bX n tl) .next
  (SB b (k+j9 nl ind e aR) lt (j+m8 aR) e r q [10] (bX++xd q.fold n aR) (i5 n aR) (tB ln le (nv o))):=by
 induction aR with
 |nil=>exactλh=>absurd rfl h
 |cons it aR ih=>
  intro _ hits k j p hp hx bX lb n o tl ht hz
  have⟨h1,hs⟩:=e8.mp hits
  have Jq:∀it∈aR,it.1∈dZ:=λi h=>(hs i h).1
  have t:=Dy (U:=U) (lt:=lt) (j:=j) (c:=ind) (bX:=bX) (n:=n) (lb:=lb) (v:=true) T0 hl hr hq hp (hx.items (e8.mpr ⟨h1.1,Jq⟩)) ht.fix
   (by rw[Jo,beq_self_eq_true];exact aT (!·) (DW h1.1))
  have line:=λ{fl ah}=>H0 (U:=U) (j:=j) (lb:=lb) (n:=n) (fl:=fl) (ah:=ah) T0 hl hr hq hn he Jo xe D3 xf h1.1 Jq h1.2.1 h1.2.2 hp hx ht (Y8 (D1 hz (jP 1)).1)
  cases aR with
  |nil=>
   refine⟨1,yl it.1,it.1.length,?_⟩
   rw[show bX++xd q.fold n [it]=bX++List.replicate n [10]++[it.1] from(fb ..).symm,show j9 nl ind e [it]=it.1.length+nl.length+dj nl it.2+e+0 from rfl,in5,zG,show m8 [it]=1+it.2.length+0 from rfl,in3,zG]
   exact .brk t (line (xv T0 hl λh=>Fj he (Int.ofNat.inj (h.trans Jo))))
  |cons g aR=>
   have hx2:Txt (Y.V.ς 0) (p+it.1.length+nl.length+dj nl it.2+ind) (gu nl ind e c0 (g::aR)):=by
    have hx:Txt (Y.V.ς 0) p (it.1++(nl++(jY nl it.2++(aQ ind++gu nl ind e c0 (g::aR))))):=hx
    have:=hx.app.2.app.2.app.2.app.2
    rw[nF,show(aQ ind).length=ind from tj] at this
    exact this
   have Zh:=qm (qm (qm (qm hp it.1.length) nl.length) (dj nl it.2)) ind
   have L:=D1 hz (D0 q.fold it g aR)
   have e2:=Oy bX (gap q.fold it (g::aR)) n it.1
   refine gm (ih (λq=>cn q) hs _ (j+1+it.2.length) _ Zh hx2 (bX++List.replicate n [10]++[it.1]++gap q.fold it (g::aR)) [10] it.2.length o _ (aaf T0 hl hr hq o (yl it.1) it.1.length) (by rw[e2.2];exact L.2)) λm ln le hm=>⟨m+1,ln,le,?_⟩
   rw[Ox,show j9 nl ind e (it::g::aR)=it.1.length+nl.length+dj nl it.2+ind+j9 nl ind e (g::aR) from rfl,in5,show m8 (it::g::aR)=1+it.2.length+m8 (g::aR) from rfl,in3]
   exact .next t (line (xw T0 hl hr hq Zh Jo.symm (hx2.items Jq) (DW (Jq g (.head _))) (by rw[e2.1];exact L.1))) (Jc ..▸hm)
end
structure Hd where
 txt:List Nat
 ch:DV
 inc:DV
def vz:List Hd:=⟨[],.none,.none⟩::⟨[45],.bool false,.none⟩::⟨[43],.bool true,.none⟩::
 [1,2,3].flatMap λi=>[⟨[48+i],.none,.int i⟩,⟨[48+i,45],.bool false,.int i⟩,⟨[45,48+i],.bool false,.int i⟩,⟨[48+i,43],.bool true,.int i⟩,⟨[43,48+i],.bool true,.int i⟩]
def DM:List Nat:=[32,10,13,133]
def qa:List (List Nat):=[[],[32],[32,32,35,32,99],[32,35,32,45,32,120,58,32,124]]
def vt:bc 1191 vr=true:=KK
section
variable (H:Array Nat->Int)
def Jj (c:Int) (r:Rs):vz.map (λh=>DM.map λc0=>fN (tabs H (mL (h.txt++[c0]) (List.replicate (h.txt.length+2) (some false))) eY) 5 1521 1184 [.self,.rf] [] (aN 1 2 0 0 c r))=
 vz.map λh=>DM.map λ_=>some (.tup [h.ch,h.inc],aN 1 2 h.txt.length 0 (va h.txt.length c) r):=KK
def vq:qh (KF H) 1191=some (FI H 1191):=KK
abbrev mv:List Stmt:=(FI H 1191).body
def F1:mv H=[ai (mv H) 0,ai (mv H) 1,ai (mv H) 2,ai (mv H) 3,ai (mv H) 4]:=KK
abbrev JQ:List (Str×ae):=[(ag,.pv .self),(aK,.pv .rf)]
abbrev F7 (n0:Nat):List (Str×ae):=[(ag,.pv .self),(aK,.pv .rf),(iN,.pv (.str [n0]))]
def Hk (c:Int) (r:Rs):qa.map (λt=>[10,13,133].map λn0=>cg (fR H (mL (t++[n0]) (List.replicate (t.length+2) (some false))) 6 1191) [ai (mv H) 0,ai (mv H) 1,ai (mv H) 2,ai (mv H) 3] ⟨aN 1 2 0 0 c r,JQ⟩)=
 qa.map λt=>[10,13,133].map λn0=>some (.next,⟨aN 1 2 t.length 0 (va t.length c) r,F7 n0⟩):=KK
variable (b:Nat) (k:Int) (lt:Nat) (j c:Int) (r:Rs) (n0:Nat)
def OK:nB (eQ H bY 6 1191) (fR H bY 6 1191) (kr (ai (mv H) 4)) ⟨aN b lt k j c r,F7 n0⟩=some (1278,[.self],⟨aN b lt k j c r,F7 n0⟩):=KK
def OM:tL (eQ H bY 6 1191) (ai (mv H) 4) (.str [10]) ⟨aN b lt k j c r,F7 n0⟩=some ⟨aN b lt k j c r,F7 n0⟩:=KK
end
def ON:((cR lD 1191 [.self,.rf] []).bind λrow=>getAll [.self,.rf] [] row.out)=some [(ag,.self),(aK,.rf)]:=KK
def x8:vz.all (λh=>(DV.tup [h.ch,h.inc]).clean)=true:=KK
def dO.all {S:List Nat} {p l:Nat} (h:p+l<=S.length):dO S p (List.replicate l (some false)):=λn c e=>by
 rw[List.getElem?_replicate] at e
 by_cases q:n<l
 ·rw[d7 q] at e;cases e;exact(Hv (Nat.not_le.mpr (qt (Nat.add_lt_add_left q p) h))).symm
 ·rw[dX q] at e;cases e
section
variable {U:Program} {w:World} {Y:Base} {b lt:Nat} {k j c:Int} {p:Nat} {r:Rs} (T0:cQ (KF (HH w)) Y) (hl:bw Y) (hp:Y.V.β b+k=p) (hr:r.clean=true)
include T0 hl hp hr
theorem OC {h:Hd} (hh:h∈vz) {c0:Nat} (hc:c0∈DM) (hx:Txt (Y.V.ς 0) p (h.txt++[c0])) (hm:p+(h.txt.length+2)<=(Y.V.ς 0).length):
 af U w 1521 Y 5 (.ref 1184) [.self,.rf] [] (aN b lt k j c r) (.tup [h.ch,h.inc]) (aN b lt (k+h.txt.length) j (va h.txt.length c) r):=by
 have:=closed (U:=U) (b:=b) (lt:=lt) (k:=k) (j:=j) T0 hl hp hx (.all hm) (aW (aW (Jj (HH w) c r) h hh) c0 hc)
 rw[FK hr,oZ hr,zA,DV.bO (Gf b k lt j) (gk.mp x8 h hh)] at this
 exact this
theorem Jv {t:List Nat} (ht:t∈qa) {nl:List Nat} (hn:nl∈iH) {c1:Nat} (hx:Txt (Y.V.ς 0) p (t++(nl++[c1]))) (hc:nl=[13]->c1∈after):
 af U w 1521 Y 7 (.ref 1191) [.self,.rf] [] (aN b lt k j c r) .none (aN b lt (k+t.length+nl.length) (j+1) 0 r):=
 mw (ux nl hn) λn0 nr en hn0=>by
  have x2:=hx.app.2
  have x1:Txt (Y.V.ς 0) p (t++[n0]):=Txt.C6 (t:=nr++[c1]) (by rw[en] at hx;exact hx)
  have s4:=kh (U:=U) vt (vq (HH w)) T0 hl (eZ vt (vq (HH w)) T0 hl (OK (HH w) b (k+t.length) lt j (va t.length c) r n0) (Ez T0 hl (qm hp t.length) hr hn x2 hc)) (OM ..)
  have fx:=Ah (b:=b) (lt:=lt) (k:=k) (j:=j) (q:=t.length) (n:=0) (col:=va t.length c) (l:=F7 n0) hr rfl
  rw[zA] at fx
  exact f9 vt (vq (HH w)) T0 hl ON (aF.at (F1 (HH w)) (xY (b:=b) (lt:=lt) (k:=k) (j:=j) (col:=c) hr (show kY (mn b k lt j) JQ=JQ from rfl)▸sG (θ:=mn b k lt j) (ub vt (vq (HH w)) T0 (mZ hl hp x1 (.all (hx.nl2 hn))))
   (fa fx▸ao s4 bx) [ai (mv (HH w)) 0,ai (mv (HH w)) 1,ai (mv (HH w)) 2,ai (mv (HH w)) 3] _ (aW (aW (Hk (HH w) c r) t ht) n0 hn0))) rfl
end
abbrev rX (H:Array Nat->Int) (n f:Nat) (l:List Stmt) (Z:aj) (fl:au) (ba:aj):Prop:=cg (fR H bY n f) l Z=some (fl,ba)
abbrev tX (H:Array Nat->Int) (n f:Nat) (e:Expr) (Z:aj) (c:Bool):Prop:=(fR H bY n f).T e Z=some (c,Z)
abbrev eX (H:Array Nat->Int) (n f:Nat) (e:Expr) (Z:aj) (v:DV):Prop:=(fR H bY n f).E e Z=some (.pv v,Z)
abbrev cX (H:Array Nat->Int) (n f:Nat) (st:Stmt) (Z:aj) (g:Nat) (vs:List DV) (v:DV) (aq:bU) (ba:aj):Prop:=(nB (eQ H bY n f) (fR H bY n f) (kr st) Z,tL (eQ H bY n f) st v ⟨aq,Z.loc⟩)=(some (g,vs,Z),some ba)
def wj (st:Stmt):Option Expr:=(iP Stmt.ctorIdx 3 (λe h=>@Stmt.Return.elim (λ_=>Option Expr) e h λv _=>v) st).bind id
def CK (st:Stmt):On (λe=>∃p,.Return (some e) p=st) (wj st):=(eK (P:=λe (c:Option Expr)=>∃p,Stmt.Return c p=e) (λe h=>@Stmt.Return.elim (λe=>∀h,∃p,Stmt.Return (@Stmt.Return.elim (λ_=>Option Expr) e h λv _=>v) p=e) e h (λ_ p _=>⟨p,rfl⟩) h) st).b λc h=>.mk λa e=>fa (show c=some a from e)▸h
def newOf (st:Stmt):Option (Expr×Expr×List Expr):=(wj st).bind λe=>(gR e).bind λc=>(dW c.1).bind λ_=>bif c.2.2.1.isEmpty then List.casesOn (motive:=λ_=>Option (Expr×Expr×List Expr)) c.2.1 none λj es=>bif noStar j then some (c.1,j,es) else none else none
def vJ (X:Cx) (e:Expr) (Z:aj):Option (Str×Pl):=(nC e).bind λq=>bif cU q.2.1 RU then bif dR q.2.2.2.1 [] q.2.2.1 q.2.2.2.2 then(gg q.1).bind λsep=>(dJ q.2.2.2.1).bind λa=>bif noStar a then(placeOf X Z a).bind λp=>some (sep,p) else none else none else none
def F5 {U:Program} {w:World} {Y:Base} {d:Nat} {X:Cx} (O:mR U w Y d X) (e:Expr) (Z:aj):On (λq=>∃k p apos a pos,e=.Call (.Attribute (.Constant (.str q.1) k p) "join" apos) [a] [] pos/\dR [a] [] apos pos=true/\noStar a=true/\gA U w X.C Y X.sc d a Z q.2) (vJ X e Z):=
 (mU e).b λq h=>ak λh1=>ak λh2=>(wD q.1).b λsep h3=>(bp q.2.2.2.1).b λa h4=>ak λh5=>(bZ O Z a).b λp hp=>dk h3 λk p0 h3=>⟨k,p0,q.2.2.1,a,q.2.2.2.2,by rw[<-h,<-h3,<-h4,(bF _ _).mp h1];rfl,h4▸h2,h5,hp.1⟩
def K4 (st:Stmt):On (λq=>∃x p rp pos,st=.Return (some (.Call (.Name x p) (q.2.1::q.2.2) [] pos)) rp/\.Name x p=q.1/\noStar q.2.1=true) (newOf st):=
 (CK st).b λe h=>fi h λp h=>(ib e).b λc h1=>(dm c.1).b λx h2=>ak λh3=>by
   rw[<-h,<-h1,bT h3]
   cases c.2.1 with
   |nil=>exact trivial
   |cons j es=>exact ak λh5=>⟨x,_,p,_,by rw[h2],h2,h5⟩
section
variable {U:Program} {w:World} {Y:Base} {f:Nat} (hf:bc f vr=true) (hI:qh (KF (HH w)) f=some (FI (HH w) f)) {n:Nat} (T0:cQ (KF (HH w)) Y) (hl:bw Y)
include hf hI T0 hl
theorem pD {st:Stmt} {Z ba:aj} {g:Nat} {vs:List DV} {v:DV} {aq:bU} {m:Nat} (h:cX (HH w) n f st Z g vs v aq ba) (hc:af U w 1521 Y m (.ref g) vs [] Z.aq v aq) (le:m<=n:=by decide):aU U w 1521 Y (FI (HH w) f).sc n st Z .next ba:=
 kh hf hI T0 hl (eZ hf hI T0 hl (kS h).1 (hc.up le)) (kS h).2
theorem yF {e:Expr} {Z:aj} {sep:Str} {p:Pl} {ss:List (List Nat)} (h:vJ (eQ (HH w) bY n f) e Z=some (sep,p)) (hg:p.get Z=some (.ml (ss.map .str))) (hz:cZ ss+ss.length*sep.cps.toList.length<=lim):aC U w 1521 Y (FI (HH w) f).sc n e Z (.str (gU sep.cps.toList ss)) Z:=
 gm ((F5 (zD (U:=U) hf hI T0 hl) e Z).get h) λ_ _ _ q=>dk q λ_ _ q=>a4 q λe a b c=>uK e a b c hg hz
theorem lZ {es:List Expr} {Z ba:aj} {vs:List DV} (h:vp (fR (HH w) bY n f) es Z=some (vs,ba)):dI U w 1521 Y (FI (HH w) f).sc n es Z vs ba:=TF (X:=eQ (HH w) bY n f) (zQ hf hI T0 hl) _ _ _ _ h
theorem YD {st:Stmt} {g:Nat} {fj:Expr×Expr×List Expr} {Z aa ah:aj} {v r:DV} {vs:List DV} {aX:bU} (h:newOf st=some fj) (hk:(eQ (HH w) bY n f).B.kept g=true) (h0:aC U w 1521 Y (FI (HH w) f).sc n fj.1 Z (.cls g) Z) (hj:aC U w 1521 Y (FI (HH w) f).sc n fj.2.1 Z v aa) (ha:dI U w 1521 Y (FI (HH w) f).sc n fj.2.2 aa vs ah)
 (hc:af U w 1521 Y n (.ref g) (v::vs) [] ah.aq r aX):aU U w 1521 Y (FI (HH w) f).sc n st Z (.ret r) ⟨aX,ah.loc⟩:=
 gm ((K4 st).get h) λx p rp q=>fi q λpos q=>a3 q λe e0 hs=>by rw[e];exact sV (mf T0 ((zD (U:=U) (n:=n) hf hI T0 hl).t.kept _ hk) ru (e0▸h0) (.cons hs hj ha) .nil hc)
end
def Rs.ind (r:Rs) (i:Int):Rs:=⟨r.tokens,r.keys,r.taken,.int i,r.lV,r.allow,r.done,r.state,r.pI,r.marks,r.ev,r.tags,r.yv⟩
def Rs.Au {r:Rs} {i:Int} (h:r.indent=.int i):r.ind i=r:=by cases r;cases h;rfl
inductive eB where
 |clip|strip|keep
def eB.dv (ch:eB):DV:=eB.rec (motive:=λ_=>DV) .none (.bool false) (.bool true) ch
def wN (v:List Nat) (st:Nat):DV:=.inst 400 [(dU,.str v),(Az,.bool false),(aK,.rf),(bg,.rf),(fD,.str [st])]
section
variable (H:Array Nat->Int) (b:Nat) (k:Int) (lt:Nat) (j c:Int) (r:Rs)
def lz0 (st:Nat):List (Str×ae):=[(ag,.pv .self),(fD,.pv (.str [st]))]
def lzC (st:Nat) (tl:List (Str×ae)):List (Str×ae):=(ag,.pv .self)::(fD,.pv (.str [st]))::(Wy,.pv (.bool (fP [st] [62])))::(eA,.ml [])::(aK,.pv .rf)::tl
def lz3 (st:Nat):List (Str×ae):=lzC st []
def lz4 (st:Nat) (ch inc:DV):List (Str×ae):=lzC st [(KH,.pv ch),(KI,.pv inc)]
def xg (st:Nat) (ch inc:DV) (M:Int) (tl:List (Str×ae)):List (Str×ae):=lzC st ((KH,.pv ch)::(KI,.pv inc)::(Wz,.pv (.int M))::tl)
def f03:[124,62].map (λst=>cg (fR H (mL [st] (List.replicate 3 (some false))) 8 1177) [ai (cM H) 0,ai (cM H) 1,ai (cM H) 2,ai (cM H) 3] ⟨aN 1 2 0 0 c r,lz0 st⟩)=[124,62].map λst=>some (.next,⟨aN 1 2 1 0 (c+1) r,lz3 st⟩):=KK
variable (st:Nat) (ch inc:DV)
def f4 (b':Nat) (k':Int) (l':Nat) (j' c':Int):cX H 8 1177 (ai (cM H) 4) ⟨aN b lt k j c r,lz3 st⟩ 1184 [.self,.rf] (.tup [ch,inc]) (aN b' l' k' j' c' r) ⟨aN b' l' k' j' c' r,lz4 st ch inc⟩:=KK
def f5 (b':Nat) (k':Int) (l':Nat) (j' c':Int):cX H 8 1177 (ai (cM H) 5) ⟨aN b lt k j c r,lz4 st ch inc⟩ 1191 [.self,.rf] .none (aN b' l' k' j' c' r) ⟨aN b' l' k' j' c' r,lz4 st ch inc⟩:=KK
def MV:List (Int×Nat):=[(-1,1),(0,1),(2,3)]
def f67:MV.map (λq=>cg (fR H bY 8 1177) [ai (cM H) 6,ai (cM H) 7] ⟨aN b lt k j c (r.ind q.1),lz4 st ch inc⟩)=MV.map λq=>some (.next,⟨aN b lt k j c (r.ind q.1),xg st ch inc q.2 []⟩):=KK
abbrev gQ:Stmt:=ai (cM H) 8
def f8:gQ H=.If (wT (gQ H)) [ai (wB (gQ H)) 0,ai (wB (gQ H)) 1] [ai (wO (gQ H)) 0,ai (wO (gQ H)) 1] (wP (gQ H)):=KK
variable (M:Int)
def agl:tX H 8 1177 (wT (gQ H)) ⟨aN b lt k j c r,xg st ch .none M []⟩ true:=KK
def agm (d:Int):tX H 8 1177 (wT (gQ H)) ⟨aN b lt k j c r,xg st ch (.int d) M []⟩ false:=KK
def Zl (bs:List DV) (m:Int) (tl:List (Str×ae)):List (Str×ae):=(GC,.pv (.lst bs))::(yy,.pv (.int m))::(bg,.pv .rf)::tl
def lb1 (i:Int) (bs:List DV) (tl:List (Str×ae)):List (Str×ae):=(gG,.pv (.int i))::(GC,.pv (.lst bs))::(bg,.pv .rf)::tl
def agh (bs:List DV) (m:Int) (b':Nat) (k':Int) (l':Nat) (j' c':Int):cX H 8 1177 (ai (wB (gQ H)) 0) ⟨aN b lt k j c r,xg st ch inc M []⟩ 1198 [.self] (.tup [.lst bs,.int m,.rf]) (aN b' l' k' j' c' r) ⟨aN b' l' k' j' c' r,xg st ch inc M (Zl bs m [])⟩:=KK
def agi (bs:List DV) (m:Int):rX H 8 1177 [ai (wB (gQ H)) 1] ⟨aN b lt k j c r,xg st ch inc M (Zl bs m [])⟩ .next ⟨aN b lt k j c r,xg st ch inc M (Zl bs m [(gG,.pv (.int (if m>M then m else M)))])⟩:=KK
def agj (d:Int):rX H 8 1177 [ai (wO (gQ H)) 0] ⟨aN b lt k j c r,xg st ch (.int d) M []⟩ .next ⟨aN b lt k j c r,xg st ch (.int d) M [(gG,.pv (.int (M+d - 1)))]⟩:=KK
def agk (i:Int) (bs:List DV) (b':Nat) (k':Int) (l':Nat) (j' c':Int):cX H 8 1177 (ai (wO (gQ H)) 1) ⟨aN b lt k j c r,xg st ch inc M [(gG,.pv (.int i))]⟩ 1205 [.self,.int i] (.tup [.lst bs,.rf]) (aN b' l' k' j' c' r) ⟨aN b' l' k' j' c' r,xg st ch inc M (lb1 i bs [])⟩:=KK
def f9a (i m:Int) (bs:List DV):rX H 8 1177 [ai (cM H) 9] ⟨aN b lt k j c r,xg st ch inc M (Zl bs m [(gG,.pv (.int i))])⟩ .next ⟨aN b lt k j c r,xg st ch inc M (Zl bs m [(gG,.pv (.int i)),(yz,.pv (.str []))])⟩:=KK
def f9b (i:Int) (bs:List DV):rX H 8 1177 [ai (cM H) 9] ⟨aN b lt k j c r,xg st ch inc M (lb1 i bs [])⟩ .next ⟨aN b lt k j c r,xg st ch inc M (lb1 i bs [(yz,.pv (.str []))])⟩:=KK
abbrev qS (st:Nat) (ch inc:DV) (M i:Int):Lc:=⟨.str [st],fP [st] [62],ch,inc,.int M,i⟩
variable (i:Int) (lb:List Nat) (cs bs:List DV) (tl:List (Str×ae))
abbrev jV:Stmt:=ai (cM H) 11
abbrev jW:Stmt:=ai (cM H) 12
abbrev vg:Stmt:=ai (cM H) 13
def f11:jV H=.If (wT (jV H)) [ai (wB (jV H)) 0] [] (wP (jV H)):=KK
def f12:jW H=.If (wT (jW H)) [ai (wB (jW H)) 0] [] (wP (jW H)):=KK
def af7 (x:eB):tX H 8 1177 (wT (jV H)) ⟨aN b lt k j c r,bK (qS st x.dv inc M i) lb cs bs tl⟩ (eB.rec (motive:=λ_=>Bool) true false true x):=by cases x<;>kernel_rfl
def agb (x:eB):tX H 8 1177 (wT (jW H)) ⟨aN b lt k j c r,bK (qS st x.dv inc M i) lb cs bs tl⟩ (eB.rec (motive:=λ_=>Bool) false false true x):=by cases x<;>kernel_rfl
variable (q:Lc)
def af5:jv (eQ H bY 8 1177) (ai (wB (jV H)) 0) ⟨aN b lt k j c r,bK q lb cs bs tl⟩=some (.loc eA,k7 (ai (wB (jV H)) 0)):=KK
def af6:eX H 8 1177 (k7 (ai (wB (jV H)) 0)) ⟨aN b lt k j c r,bK q lb cs bs tl⟩ (.str lb):=KK
def af9:xV (eQ H bY 8 1177) (ai (wB (jW H)) 0) ⟨aN b lt k j c r,bK q lb cs bs tl⟩=some (.loc eA,k7 (ai (wB (jW H)) 0)):=KK
def aga:eX H 8 1177 (k7 (ai (wB (jW H)) 0)) ⟨aN b lt k j c r,bK q lb cs bs tl⟩ (.lst bs):=KK
def jB:Expr×Expr×List Expr:=(newOf (vg H)).getD default
def f13:newOf (vg H)=some (jB H):=KK
def agf:eX H 8 1177 (jB H).1 ⟨aN b lt k j c r,bK q lb cs bs tl⟩ (.cls 400):=KK
def age:(eQ H bY 8 1177).B.kept 400=true:=KK
def agd:vJ (eQ H bY 8 1177) (jB H).2.1 ⟨aN b lt k j c r,bK q lb cs bs tl⟩=some (Cu,.loc eA):=KK
def agg:vp (fR H bY 8 1177) (jB H).2.2 ⟨aN b lt k j c r,bK (qS st ch inc M i) lb cs bs tl⟩=some ([.bool false,.rf,.rf,.str [st]],⟨aN b lt k j c r,bK (qS st ch inc M i) lb cs bs tl⟩):=KK
def agc (v:List Nat) (as:List (Str×ae)):fN (tabs H bY eY) 8 1521 400 [.str v,.bool false,.rf,.rf,.str [st]] [] (some as)=some (wN v st,some as):=KK
end
def yD:Cu.cps.toList=[]:=KK
structure gf where
 st:Nat
 h:Hd
 t:List Nat
 nl:List Nat
 ss:List Nat
 aR:List Item
 ind:Nat
 e:Nat
 c0:Nat
abbrev gf.ld (B:gf):Nat:=lead B.ind B.e B.aR
def gf.txt (B:gf):List Nat:=B.st::(B.h.txt++(B.t++(B.nl++(jY B.nl B.ss++(aQ B.ld++gu B.nl B.ind B.e B.c0 B.aR)))))
def gf.len (B:gf):Nat:=1+B.h.txt.length+B.t.length+B.nl.length+dj B.nl B.ss+B.ld+j9 B.nl B.ind B.e B.aR
def gf.lines (B:gf):Nat:=1+B.ss.length+m8 B.aR
def tD (ch:eB) (lb:List Nat) (n:Nat):List (List Nat):=eB.rec (motive:=λ_=>List (List Nat)) [lb] [] (lb::List.replicate n [10]) ch
def gf.cF (B:gf) (ch:eB):List (List Nat):=xd (fP [B.st] [62]) B.ss.length B.aR++tD ch (if B.aR.isEmpty then[] else[10]) (i5 B.ss.length B.aR)
structure gf.Ok (B:gf) (ch:eB) (M:Nat):Prop where
 st:B.st∈[124,62]
 h:B.h∈vz
 hch:B.h.ch=ch.dv
 t:B.t∈qa
 nl:B.nl∈iH
 ss:(∀s∈B.ss,s<=B.ind)/\B.ss.length<=1000
 aR:∀it∈B.aR,it.1∈dZ/\(∀s∈it.2,s<=B.ind)/\it.2.length<=1000
 e:B.e<M
 mi:M<=B.ind
 c0:bc B.c0 cy=false
 ca:B.nl=[13]->B.e=0->B.c0∈after
 inc:B.h.inc=.int ((B.ind:Int) - M+1)\/(B.h.inc=.none/\bc (qG B.c0 B.aR) cy=false)
 size:B.ss.length+Ho B.aR<=100000
 sum:cZ (B.cF ch)<=lim
def nS {c:Nat} (h:bc c cy=false):bc c cJ=false/\c≠32:=by
 rw[nY,ZC] at h
 rw[nY,ZC]
 simp[cy,cJ] at*
 omega
def Jd (fo:Bool) (aR:List Item):∀n:Nat,(xd fo n aR).length+i5 n aR<=n+Ho aR:=by
 induction aR with
 |nil=>exactλn=>jk (HD n)
 |cons x l ih=>
  intro n
  have h:=ih x.2.length
  have g:(gap fo x l).length<=1:=by
   cases l with
   |nil=>exact jP 1
   |cons y l=>exact D0 ..
  show(List.replicate n [10]++(x.1::(gap fo x l++xd fo x.2.length l))).length+i5 x.2.length l<=n+(2+x.2.length+Ho l)
  rw[c9,M7,c9,tj]
  omega
def aU.at {U:Program} {w:World} {C:Nat} {Y:Base} {sc:Scope} {d:Nat} {s s':Stmt} {f:au} {Z aa:aj} (e:s=s') (h:aU U w C Y sc d s' Z f aa):aU U w C Y sc d s Z f aa:=fa e▸h
def ahH {a b Nk:Nat} (h:a+b<=Nk) (hN:Nk<=999999):a+1<=1000000/\a+1+b<=1000000:=OO
section
variable {U:Program} {w:World} {Y:Base} {b lt:Nat} {r:Rs} (T0:cQ (KF (HH w)) Y) (hl:bw Y) (hr:r.clean=true)
include T0 hl
theorem vh {st:Nat} {ch inc:DV} {M i k j c:Int} {lb:List Nat} {bX:List (List Nat)} {n:Nat} {tl:List (Str×ae)} (hs:cZ bX<=lim):BX U w Y [vg (HH w)] (SB b k lt j c r (qS st ch inc M i) lb bX n tl) (.ret (wN bX.flatten st)) (SB b k lt j c r (qS st ch inc M i) lb bX n tl):=by
 have hj:=yF (U:=U) bJ (bI (HH w)) T0 hl (agd (HH w) b k lt j c r lb (bX.map .str) (bW n [10]) tl (qS st ch inc M i)) (ss:=bX) (rV ..) (by rw[yD];exact hs)
 rw[yD,F4] at hj
 have hc:af U w 1521 Y 8 (.ref 400) [.str bX.flatten,.bool false,.rf,.rf,.str [st]] [] (aN b lt k j c r) (wN bX.flatten st) (aN b lt k j c r):=gE (tabs_ok T0 (mY hl) λ_ _ _ _ _ _ _ _ h=>ns h) 8 1521 400 _ _ _ _ _ (agc ..)
 have s:=YD (ah:=SB b k lt j c r (qS st ch inc M i) lb bX n tl) bJ (bI (HH w)) T0 hl (f13 (HH w)) (age (HH w)) (gV bJ (bI (HH w)) T0 hl (agf ..)) hj (lZ bJ (bI (HH w)) T0 hl (agg ..)) hc
 exact jc s rfl
theorem Dv {st:Nat} {inc:DV} {M i k j c:Int} {ch:eB} {lb:List Nat} {bX:List (List Nat)} {n:Nat} {tl:List (Str×ae)} (hz:bX.length+n<=200000) (hs:cZ (bX++tD ch lb n)<=lim):
 BX U w Y [jV (HH w),jW (HH w),vg (HH w)] (SB b k lt j c r (qS st ch.dv inc M i) lb bX n tl) (.ret (wN (bX++tD ch lb n).flatten st)) (SB b k lt j c r (qS st ch.dv inc M i) lb (bX++tD ch lb n) n tl):=by
 have L:=ahH hz (by decide)
 have t1:=kG (U:=U) bJ (bI (HH w)) T0 hl (af7 (HH w) b k lt j c r st inc M i lb (bX.map .str) (bW n [10]) tl ch)
 have t2:=λbX:List (List Nat)=>kG (U:=U) bJ (bI (HH w)) T0 hl (agb (HH w) b k lt j c r st inc M i lb (bX.map .str) (bW n [10]) tl ch)
 have a1:=ao (qx (U:=U) (r:=r) (b:=b) (lt:=lt) (q:=qS st ch.dv inc M i) (n:=n) T0 hl (af5 (HH w) b k lt j c r lb (bX.map .str) (bW n [10]) tl _) (gV bJ (bI (HH w)) T0 hl (af6 ..)) L.1) bx
 cases ch with
 |clip=>exact ao (.at (f11 _) (iF t1 a1)) (ao (.at (f12 _) (lI (t2 _) bx)) (vh T0 hl hs))
 |strip=>
  rw[show bX++tD .strip lb n=bX from ti bX] at hs ⊢
  exact ao (.at (f11 _) (lI t1 bx)) (ao (.at (f12 _) (lI (t2 _) bx)) (vh T0 hl hs))
 |keep=>
  rw[show bX++tD .keep lb n=bX++[lb]++List.replicate n [10] from List.append_cons ..] at hs ⊢
  exact ao (.at (f11 _) (iF t1 a1)) (ao (.at (f12 _) (iF (t2 _) (ao (Du T0 hl (af9 ..) (gV bJ (bI (HH w)) T0 hl (aga ..)) (by rw[c9];exact L.2)) bx))) (vh T0 hl hs))
include hr
theorem Dw {B:gf} {ch:eB} {M:Nat} (O:B.Ok ch M) {i:Int} (h1:B.aR≠[]->i=B.ind) (h2:(B.e:Int)≠i) {o:Option Int} {k j:Int} {p:Nat} (hp:Y.V.β b+k=p) (hx:Txt (Y.V.ς 0) p (gu B.nl B.ind B.e B.c0 B.aR)):
 ∃cs lb n tl,BX U w Y [ai (cM (HH w)) 10,ai (cM (HH w)) 11,ai (cM (HH w)) 12,ai (cM (HH w)) 13] (SB b k lt j B.ld r (qS B.st B.h.ch B.h.inc M i) [] [] B.ss.length (nv o)) (.ret (wN (B.cF ch).flatten B.st))
  (SB b (k+j9 B.nl B.ind B.e B.aR) lt (j+m8 B.aR) B.e r (qS B.st B.h.ch B.h.inc M i) lb cs n tl):=by
 have hq:(qS B.st B.h.ch B.h.inc M i).clean=true:=show(B.h.ch.clean&&(B.h.inc.clean&&true))=true from gk.mp x8 _ O.h
 have hs:=O.sum
 have sz:=bB (Jd (fP [B.st] [62]) B.aR B.ss.length) (bB O.size (by decide:100000<=200000))
 have cb:=nS O.c0
 unfold gf.cF at hs ⊢
 rw[O.hch] at hq ⊢
 have loop:=H2 (U:=U) (b:=b) (lt:=lt) T0 hl hr hq O.nl (ind:=B.ind) (e:=B.e) (c0:=B.c0) (qt O.e O.mi)
 unfold gf.ld
 cases hi:B.aR with
 |nil=>
  rw[hi] at hx hs sz
  have t:=Dy (U:=U) (lt:=lt) (j:=j) (c:=B.e) (bX:=[]) (n:=B.ss.length) (lb:=[]) (tl:=nv o) (v:=false) T0 hl hr hq hp hx (λθ=>pg θ o) (by rw[HE.mpr h2];rfl)
  exact⟨_,_,_,_,by rw[show j9 B.nl B.ind B.e []=0 from rfl,show m8 []=0 from rfl,zG,zG];exact ao (lJ (Ru (HH w)) (.stop (n:=0) t)) (Dv (bX:=[]) T0 hl sz hs)⟩
 |cons it aR=>
  rw[hi] at hx hs sz
  exact gm (loop (h1 (by rw[hi];exactλq=>cn q)) cb.1 cb.2 O.ca (it::aR) (λq=>cn q) (hi▸O.aR) k j p hp hx [] [] B.ss.length o (nv o) (aae T0 hl hr hq o) (by rw[<-hi];exact bB (bB (jk (aT (· +_) (HD _))) O.size) (by decide))) λm ln le hm=>⟨_,_,_,_,ao (lJ (Ru (HH w)) hm) (Dv T0 hl sz hs)⟩
end
def NL (st:Nat):((cR lD 1177 [.self,.str [st]] []).bind λrow=>getAll [.self,.str [st]] [] row.out)=some [(ag,.self),(fD,.str [st])]:=KK
def Fe {ind:Int}:∀(ss:List Nat) (m:Int),(∀s∈ss,(s:Int)<=ind)->m<=ind->∀n:Nat,(n:Int)=ind->wide m ss n=ind
 |[],_,_,hm,_,hn=>hn▸Int.max_eq_right (hn▸hm)
 |_::ss,_,h,hm,n,hn=>Fe ss _ (λx hx=>h x (.tail _ hx)) (Int.max_le.mpr ⟨hm,h _ (.head _)⟩) n hn
def Pq {st:Nat} {ch inc:DV} {M i m:Int} {n:Nat} (x:Str):look (xg st ch inc M (Zl (bW n [10]) m [(gG,.pv (.int i)),(yz,.pv (.str []))])) x=look (bK (qS st ch inc M i) [] [] (bW n [10]) (nv (some m))) x:=
 r6 (qH [] [_,_,_] KK) [_,_,_,_,_,_,_,_,_]
def Pr {st:Nat} {ch inc:DV} {M i:Int} {n:Nat} (x:Str):look (xg st ch inc M (lb1 i (bW n [10]) [(yz,.pv (.str []))])) x=look (bK (qS st ch inc M i) [] [] (bW n [10]) (nv none)) x:=
 r6 (qH [_] [_,_] KK) [_,_,_,_,_,_,_,_]
def Hj:∀t∈qa,t=[]\/∃l,t=32::l:=e8.mpr ⟨.inl rfl,e8.mpr ⟨.inr ⟨_,rfl⟩,e8.mpr ⟨.inr ⟨_,rfl⟩,e8.mpr ⟨.inr ⟨_,rfl⟩,qT _⟩⟩⟩⟩
def zS {S:List Nat} {p:Nat} {h t nl x:List Nat} (ht:t∈qa) (hn:nl∈iH) (hx:Txt S p (h++(t++(nl++x)))):∃c1,c1∈DM/\Txt S p (h++[c1]):=
 mw (ux nl hn) λn0 nr en hn0=>(Hj t ht).elim (λe=>⟨n0,.tail _ hn0,.C6 (t:=nr++x) (by rw[e,en] at hx;exact hx)⟩) λq=>fi q λl e=>⟨32,.head _,.C6 (t:=l++(nl++x)) (by rw[e] at hx;exact hx)⟩
def in7 (k:Int) (a b c d e f:Nat):k+1+a+b+c+d+e+f=k+((1+a+b+c+d+e+f:Nat):Int):=OO
def abG (a M:Int):M<=if a>M then a else M:=by split<;>omega
def abF {a M:Int} (h:M<=a):(if a>M then a else M)=a:=by split<;>omega
def Au (M i:Int):M+(i - M+1) - 1=i:=OO
section
variable {U:Program} {w:World} {Y:Base} {b lt:Nat} {r:Rs} (T0:cQ (KF (HH w)) Y) (hl:bw Y) (hr:r.clean=true) {B:gf} {ch:eB} {M:Nat} (O:B.Ok ch M)
include O
theorem gf.Ok.dZ:∀it∈B.aR,it.1∈dZ:=λit h=>(O.aR it h).1
theorem gf.Ok.pos:B.e<B.ind:=qt O.e O.mi
theorem gf.Ok.ca':B.nl=[13]->B.ld=0->qG B.c0 B.aR∈after:=by
 have h:=O.ca
 have p:=O.pos
 unfold gf.ld
 cases B.aR with
 |nil=>exact h
 |cons it aR=>exactλ_ h=>absurd (Eq.trans h.symm rfl:0=B.ind) (Fj (Nat.zero_lt_of_lt p))
theorem gf.Ok.hd:bc (qG B.c0 B.aR) cJ=false/\((B.ld:Int)=B.ind\/qG B.c0 B.aR≠32):=by
 have f:=O.dZ
 have cb:=nS O.c0
 unfold gf.ld
 cases h:B.aR with
 |nil=>exact⟨cb.1,.inr cb.2⟩
 |cons it aR=>exact zE (lQ (f it (h▸.head _))) λa l e1 g _=>⟨(show bc (it.1.headD 0) cJ=false by rw[e1];exact g),.inl rfl⟩
include T0 hl hr
theorem Fp {I:Int} (hI:(I,M)∈MV) (hri:r.indent=.int I) {k j c:Int} {p:Nat} (hp:Y.V.β b+k=p) {x:List Nat} {a:Nat} (hx:Txt (Y.V.ς 0) p (B.st::(B.h.txt++(B.t++(B.nl++a::x))))) (ha:B.nl=[13]->a∈after) {fl:au} {ah:aj}
 (kk:BX U w Y [gQ (HH w),ai (cM (HH w)) 9,ai (cM (HH w)) 10,ai (cM (HH w)) 11,ai (cM (HH w)) 12,ai (cM (HH w)) 13] ⟨aN b lt (k+1+B.h.txt.length+B.t.length+B.nl.length) (j+1) 0 r,xg B.st B.h.ch B.h.inc M []⟩ fl ah):
 BX U w Y (cM (HH w)) ⟨aN b lt k j c r,lz0 B.st⟩ fl ah:=by
 have hx1:=hx.tail
 have hp1:=hpS hp
 have x4:=Txt.SA hx1.app.2
 have len:=x4.nl2 O.nl
 have abD:p+1+(B.h.txt.length+2)<=(Y.V.ς 0).length:=bB (jk (zN ..).symm) (bB (xj (oJ 2 B.t.length) _) len)
 have len0:p+3<=(Y.V.ς 0).length:=bB (xj (oJ 2 B.h.txt.length) (p+1)) abD
 have r67:=aW (f67 (HH w) b (k+1+B.h.txt.length+B.t.length+B.nl.length) lt (j+1) 0 r B.st B.h.ch B.h.inc) _ hI
 rw[show r.ind (I,M).1=r from Rs.Au hri] at r67
 refine bz (zS O.t O.nl hx1) λc1 hc1 hx2=>?_
 have fx:=Ah (b:=b) (lt:=lt) (k:=k) (j:=j) (q:=1) (n:=0) (col:=c+1) (r:=r) hr (show kY (mn b k lt j) (lz3 B.st)=lz3 B.st from rfl)
 rw[zA] at fx
 exact aF.at (Fq (HH w)) (xY (b:=b) (lt:=lt) (k:=k) (j:=j) (col:=c) (r:=r) hr (show kY (mn b k lt j) (lz0 B.st)=lz0 B.st from rfl)▸sG (θ:=mn b k lt j) (ub bJ (bI (HH w)) T0 (mZ hl hp hx.one (.all len0)))
  (fa fx▸ao (pD bJ (bI (HH w)) T0 hl (f4 ..) (OC T0 hl hp1 hr O.h hc1 hx2 abD)) (ao (pD bJ (bI (HH w)) T0 hl (f5 ..) (Jv T0 hl (qm hp1 B.h.txt.length) hr O.t O.nl x4 ha))
    (eH (zQ bJ (bI (HH w)) T0 hl) kk [ai (cM (HH w)) 6,ai (cM (HH w)) 7] _ r67))) [ai (cM (HH w)) 0,ai (cM (HH w)) 1,ai (cM (HH w)) 2,ai (cM (HH w)) 3] _ (aW (f03 (HH w) c r) _ O.st))
theorem HX {I:Int} (hI:(I,M)∈MV) (hri:r.indent=.int I) {k j c:Int} {p:Nat} (hp:Y.V.β b+k=p) (hx:Txt (Y.V.ς 0) p B.txt):
 af U w 1521 Y 9 (.ref 1177) [.self,.str [B.st]] [] (aN b lt k j c r) (wN (B.cF ch).flatten B.st) (aN b lt (k+B.len) (j+B.lines) B.e r):=by
 refine fi (lr B.nl B.ind B.e B.c0 B.aR O.dZ) λt0 ht0=>mw (ni O.nl O.ca' B.ss) λa t' ea ha=>?_
 have hx0:Txt (Y.V.ς 0) p (B.st::(B.h.txt++(B.t++(B.nl++(jY B.nl B.ss++(aQ B.ld++gu B.nl B.ind B.e B.c0 B.aR)))))):=hx
 have hx5:=hx0.tail.app.2.app.2.app.2.app.2.app.2
 rw[nF,show(aQ B.ld).length=B.ld from tj] at hx5
 rw[ht0,sx] at hx0
 have RG:=hx0.tail.app.2.app.2.app.2.app.1
 have hx1:=hx0
 rw[ea] at hx1
 have hp3:=qm (qm (qm (hpS hp) B.h.txt.length) B.t.length) B.nl.length
 have hp4:=qm (qm hp3 (dj B.nl B.ss)) B.ld
 have F:=zQ (U:=U) (n:=8) bJ (bI (HH w)) T0 hl
 have done:=λ{ah:aj} (h:BX U w Y _ _ (.ret (wN (B.cF ch).flatten B.st)) ah)=>f9 (args:=[.self,.str [B.st]]) (aq:=aN b lt k j c r) bJ (bI (HH w)) T0 hl (NL B.st) (Fp T0 hl hr O hI hri hp hx1 ha h) rfl
 rw[show k+(B.len:Int)=_ from(in7 ..).symm,show j+(B.lines:Int)=_ from in3 ..]
 refine O.inc.elim (λJl=>?_) λJl=>?_
 ·have s8:=xy (U:=U) (b:=b) (lt:=lt) (j:=j+1) T0 hl hr O.nl (zK.mpr (D9 O.pos B.aR)) O.hd.2 O.hd.1 O.ca' B.ss hp3 (λs hs=>zK.mpr (O.ss.1 s hs)) RG O.ss.2
  refine dk (Dw (U:=U) (lt:=lt) (j:=j+1+B.ss.length) T0 hl hr O (i:=B.ind) (λ_=>rfl) (λh=>Fj O.pos (Int.ofNat.inj h)) (o:=none) hp4 hx5) λcs lb h=>dk h λn tl h=>?_
  have b8:=agj (HH w) b (k+1+B.h.txt.length+B.t.length+B.nl.length) lt (j+1) 0 r B.st B.h.ch M (B.ind - M+1)
  rw[Au,<-Jl] at b8
  exact done (ah:=⟨_,_⟩) <| ao (.at (f8 _) (lI (kG bJ (bI (HH w)) T0 hl (fa Jl▸agm ..)) (eH F (ao (pD bJ (bI (HH w)) T0 hl (agk ..) s8) bx) [ai (wO (gQ (HH w))) 0] _ b8))) (eH F (aF.sr Pr h) [ai (cM (HH w)) 9] _ (f9b ..))
 ·have s8:=JA (U:=U) (b:=b) (lt:=lt) (j:=j+1) T0 hl hr O.nl Jl.2 O.ca' B.ss hp3 RG O.ss.2
  refine dk (Dw (U:=U) (lt:=lt) (j:=j+1+B.ss.length) T0 hl hr O (i:=if wide 0 B.ss B.ld>M then wide 0 B.ss B.ld else M) (λh=>by
   rw[Fe (ind:=B.ind) B.ss 0 (λs hs=>zK.mpr (O.ss.1 s hs)) (zK.mpr (jP _)) B.ld (by unfold gf.ld;cases q:B.aR;exact absurd q h;rfl)]
   exact abF (zK.mpr O.mi)) (λh=>Int.not_le.mpr (Int.ofNat_lt.mpr O.e) (Int.le_trans (abG ..) (Int.le_of_eq h.symm))) (o:=some (wide 0 B.ss B.ld)) hp4 hx5) λcs lb h=>dk h λn tl h=>?_
  exact done (ah:=⟨_,_⟩) <| ao (.at (f8 _) (iF (kG bJ (bI (HH w)) T0 hl (fa Jl.1▸agl ..)) (ao (pD bJ (bI (HH w)) T0 hl (agh ..) s8) (eH F bx [ai (wB (gQ (HH w))) 1] _ (agi ..))))) (eH F (aF.sr Pq h) [ai (cM (HH w)) 9] _ (f9a ..))
end
def adC (st:Stmt):Option (List Stmt):=(iP Stmt.ctorIdx 17 (λe h=>@Stmt.Try.elim (λ_=>List Stmt×List ExceptHandler×List Stmt×List Stmt) e h λb hs os fs _=>(b,hs,os,fs)) st).bind λq=>bif !q.2.1.isEmpty then bif q.2.2.1.isEmpty then bif q.2.2.2.isEmpty then some q.1 else none else none else none
def Q2 (st:Stmt):On (λb=>∃hs p,.Try b hs [] [] p=st/\(!hs.isEmpty)=true) (adC st):=
 (eK (P:=λe (q:List Stmt×List ExceptHandler×List Stmt×List Stmt)=>∃p,Stmt.Try q.1 q.2.1 q.2.2.1 q.2.2.2 p=e) (λe h=>@Stmt.Try.elim (λe=>∀h,(λq:List Stmt×List ExceptHandler×List Stmt×List Stmt=>∃p,Stmt.Try q.1 q.2.1 q.2.2.1 q.2.2.2 p=e) (@Stmt.Try.elim (λ_=>List Stmt×List ExceptHandler×List Stmt×List Stmt) e h λb hs os fs _=>(b,hs,os,fs))) e h (λ_ _ _ _ p _=>⟨p,rfl⟩) h) st).b
   λq h=>ak λh1=>ak λh2=>ak λh3=>fi h λp h=>⟨q.2.1,p,(congr (aT (λo f=>Stmt.Try q.1 q.2.1 o f p) (bT h2)) (bT h3)).trans h,h1⟩
def wV (l:List Stmt):Option (Expr×Expr):=(dJ l).bind λst=>(adC st).bind λb=>(dJ b).bind λst=>(wj st).bind λe=>(uQ e).bind λq=>bif eG q.2 then some q else none
def Hm {U:Program} {w:World} {C:Nat} {Y:Base} {sc:Scope} {d:Nat} {Z aa ah:aj} {x y z:DV} {q:Expr×Expr} {l:List Stmt} (h:wV l=some q) (cf:aC U w C Y sc d q.1 Z x aa) (cP:aC U w C Y sc d q.2 aa y ah) (hs:qf U w Y.V x y z):aF U w C Y sc d l Z (.ret z) ah:=
 (((bp l).b λst e=>(Q2 st).b λb e1=>(bp b).b λzH e2=>(CK zH).b λv e3=>(lH v).b λq e4=>ak λhn=>show aC U w C Y sc d q.1 Z x aa->aC U w C Y sc d q.2 aa y ah->aF U w C Y sc d l Z (.ret z) ah from
   λcf cP=>mw e1 λJq p e1 ht=>fi e3 λp' e3=>by rw[<-e,<-e1,<-e2,<-e3,<-e4];exact jc (ME ht (jc (sV (oz hn cf cP hs)) rfl)) rfl:On _ (wV l))).get h cf cP
section
variable (H:Array Nat->Int)
def pkS:Expr×Expr:=(wV (FI H 690).body).getD default
def aif:wV (FI H 690).body=some (pkS H):=KK
def IX:qh (KF H) 690=some (FI H 690):=KK
def I4:bc 690 vr=true:=KK
variable (t:Nat) (q k:Int) (rest:List (Str×ae))
abbrev pkA:bU:=some ((n7,.pv (.sint t q))::(n6,.pv (.gO 0))::rest)
abbrev pkL:List (Str×ae):=[(ag,.pv .self),(iM,.pv (.int k))]
def aid:eX H 2 690 (pkS H).1 ⟨pkA t q rest,pkL k⟩ (.gO 0):=KK
def aic:eX H 2 690 (pkS H).2 ⟨pkA t q rest,pkL k⟩ (.sint t (q+k)):=KK
def pkR (args:List DV):Option (List (Str×DV)):=(cR lD 690 args []).bind λrow=>getAll args [] row.out
def P1:pkR [.self]=some [(ag,.self),(iM,.int 0)]:=KK
def P2:pkR [.self,.int k]=some [(ag,.self),(iM,.int k)]:=KK
end
section
variable {U:Program} {w:World} {Y:Base} (T0:cQ (KF (HH w)) Y) {T:Kn} (O:gW T Y.V)
include T0 O
theorem Lx {t:Nat} {q k:Int} {c:Nat} {rest:List (Str×ae)} {args:List DV} (ha:pkR args=some [(ag,.self),(iM,.int k)]) (hc:T.ch t (q+k)=some c):af U w 1521 Y 3 (.ref 690) args [] (pkA t q rest) (.str [c]) (pkA t q rest):=
 f9 (ba:=⟨pkA t q rest,pkL k⟩) I4 (IX (HH w)) T0 O.len ha (Hm (aif (HH w)) (gV I4 (IX (HH w)) T0 O.len (aid ..)) (gV I4 (IX (HH w)) T0 O.len (aic (HH w) t q k rest)) (EU (T:=T) O (aT (Option.bind · λc=>some (DV.str [c])) hc))) rfl
end
def t8 {α:Type} (l:List α):Option (α×List α):=List.casesOn (motive:=λ_=>Option (α×List α)) l none λa l=>some (a,l)
def qC {α:Type} (l:List α):On (λp=>p.1::p.2=l) (t8 l):=by cases l;exact trivial;exact rfl
def DF {α:Type} {l:List α} (h:t8 l=none):[]=l:=by cases l;exact rfl;exact sn h
def pkK (args:List DV):Option Int:=(te args).bind λl=>aZ (t8 l) (some 0) λ_=>(dJ l).bind intD
def XU (args:List DV):On (λk=>pkR args=some [(ag,.self),(iM,.int k)]) (pkK args):=
 (mj args).b λl h=>h▸(qC l).or (λ_ _=>(bp l).b λv h'=>(bQ v).up λk FV=>h'▸FV▸P2 k) λh'=>DF h'▸P1
def slV (x:Str) (p:Str×ae):Option DV:=bif cU p.1 x then uE p.2 else none
def Mc (x:Str) (p:Str×ae):On (λv=>(x,.pv v)=p) (slV x p):=ak λh=>(iA p.2).up λv e=>(bF _ _).mp h▸aT (Prod.mk p.1) e
def pkQ (T:Kn) (args:List DV) (aq:bU):Option DV:=aq.bind λas=>(t8 as).bind λa=>(t8 a.2).bind λb=>(slV n7 a.1).bind λv=>(iC v).bind λp=>(slV n6 b.1).bind λv'=>(sO v').bind λz=>bif Nat.beq z 0 then
 (pkK args).bind λk=>(T.ch p.1 (p.2+k)).bind λc=>some (.str [c]) else none
def XW {U:Program} {w:World} {Y:Base} (T0:cQ (KF (HH w)) Y) {T:Kn} (O:gW T Y.V) (args:List DV) (aq:bU):On (λr=>af U w 1521 Y 3 (.ref 690) args [] aq r aq) (pkQ T args aq):=
 (aY aq).b λas e=>(qC as).b λa ha=>(qC a.2).b λb hb=>(Mc n7 a.1).b λv hv=>(dw v).b λp hp=>(Mc n6 b.1).b λv' hv'=>(jK v').b λz hz=>ak λh3=>(XU args).b λk hk=>(aY (T.ch p.1 (p.2+k))).b λc hc=>
   show af .. from by rw[e,<-ha,<-hb,<-hv,<-hv',<-hp,<-hz,iS h3];exact Lx T0 O hk hc
structure Un where
 p:DV
 l:DV
 c:DV
 r:Rs
structure Sp where
 x:Str
 t:ae->Bool
 g:ae->ae
 ok:∀k,t k=true->k=g k
def ofS {α:Type} (f:ae->Option α) (d:α) (k:ae):α:=(f k).getD d
def Mg {α:Type} (x:Str) (f:ae->Option α) (d:α) (c:α->ae) (ok:∀k,On (λv=>c v=k) (f k)):Sp:=⟨x,λk=>(f k).isSome,λk=>c (ofS f d k),λk h=>fi (Y9.mp h) λv e=>by rw[ofS,e];exact((ok k).get e).symm⟩
def Mh (x:Str):Sp:=Mg x uE .none .pv iA
def spM (x:Str):Sp:=Mg x vQ [] .ml Ax
def afR (f:DV->Bool) (k:ae):Option Unit:=(uE k).bind λv=>bif f v then some () else none
def spC (x:Str) (f:DV->Bool) (d:DV) (ok:∀v,f v=true->d=v):Sp:=Mg x (afR f) () (λ_=>.pv d) λk=>(iA k).b λv h=>ak λh'=>(aT ae.pv (ok v h')).trans h
def isAny (v:DV):Bool:=Nat.beq v.ctorIdx 0
def JE (v:DV) (h:isAny v=true):.any=v:=@DV.any.elim (λv=>.any=v) v (iS h) rfl
def isQ {α:Type} [DecidableEq α] (f:DV->Option α) (i:α) (v:DV):Bool:=gX (f v) λj=>decide (i=j)
def rQ {α:Type} [DecidableEq α] {f:DV->Option α} {c:α->DV} (ok:∀v,On (λi=>c i=v) (f v)) (i:α) (v:DV) (h:isQ f i v=true):c i=v:=bz (dM h) λ_ e h=>fa (mQ h)▸(ok v).get e
def spN (x:Str):Sp:=spC x qo .none λ_=>lW
def spI (x:Str) (i:Int):Sp:=spC x (isQ intD i) (.int i) (rQ bQ i)
def spec:List Sp:=[Mh n7,spC n6 (isQ sO 0) (.gO 0) (rQ jK 0),Mh iM,Mh pj,Mh mB,spM KQ,spI KN 0,Mg KP RQ [] .md J2,Mh GD,Mh gG,spM KO,Mh KJ,Mh KL,spN nf,spN Kx,spC iu isAny .any JE,Mh GH,spM KW,spM KV,Mh KU,Mg tK some (.pv .none) id λ_=>rfl,Mh KX,spN kK,spC Kw (isQ mI true) (.bool true) (rQ k8 true),spI KA 0,spN Kz]
def fits (sp:List Sp):List (Str×ae)->Bool:=List.rec (motive:=λ_=>List (Str×ae)->Bool) (·.isEmpty) (λs _ ih as=>List.casesOn (motive:=λ_=>Bool) as false λp as=>cU p.1 s.x&&(s.t p.2&&ih as)) sp
def slots (sp:List Sp):List (Str×ae)->List (Str×ae):=List.rec (motive:=λ_=>List (Str×ae)->List (Str×ae)) (λ_=>[]) (λs _ ih as=>(s.x,s.g (as.headD ("",.pv .none)).2)::ih as.tail) sp
def Od (sp:List Sp):∀as,fits sp as=true->as=slots sp as:=
 List.rec (motive:=λsp=>∀as,fits sp as=true->as=slots sp as) (λ_ h=>(bT h).symm) (λs _ ih as h=>by
  cases as with
  |nil=>exact ft h
  |cons p as=>exact a2 (aw h) λh1 h=>a2 (aw h) λh2 h3=>t7 (congr (aT Prod.mk ((bF ..).mp h1)) (s.ok p.2 h2)) (ih as h3)) sp
def atS (as:List (Str×ae)) (i:Nat):ae:=((Nat.rec (motive:=λ_=>List (Str×ae)) as (λ_ l=>l.tail) i).headD ("",.pv .none)).2
def vv (as:List (Str×ae)) (i:Nat):DV:=ofS uE .none (atS as i)
def mm (as:List (Str×ae)) (i:Nat):List DV:=ofS vQ [] (atS as i)
def EF (a b:DV):Bool:=gX (iC a) λp=>gX (iC b) λq=>Nat.beq p.1 q.1&&decide (p.2=q.2)
def sE {a b:DV} (h:EF a b=true):a=b:=bz (dM h) λ_ e h=>bz (dM h) λ_ e' h=>a2 (aw h) λc1 c2=>((dw a).get e).symm.trans ((congr (aT DV.sint (iS c1)) (mQ c2)).trans ((dw b).get e'))
def unP (as:List (Str×ae)):Un:=⟨vv as 0,vv as 3,vv as 4,⟨mm as 5,ofS RQ [] (atS as 7),vv as 8,vv as 9,mm as 10,vv as 11,vv as 12,vv as 16,mm as 17,mm as 18,vv as 19,atS as 20,vv as 21⟩⟩
def MJ (as:List (Str×ae)):Option Un:=bif fits spec as then bif EF (vv as 0) (vv as 2) then some (unP as) else none else none
def XZ {as:List (Str×ae)} (h:vv as 0=vv as 2):slots spec as=iz (unP as).p (unP as).l (unP as).c (unP as).r:=aT (λq=>(n7,ae.pv (vv as 0))::(n6,.pv (.gO 0))::(iM,.pv q)::(slots spec as).drop 3) h.symm
def zw (as:List (Str×ae)):On (λu=>as=iz u.p u.l u.c u.r) (MJ as):=ak λh=>ak λh'=>(Od spec as h).trans (XZ (sE h'))
def selfOnly (l:List DV):Bool:=gX (te l) (·.isEmpty)
def yV {l:List DV} (h:selfOnly l=true):[.self]=l:=bz (dM h) λ_ e h=>bT h▸(mj l).get e
def nmQ (u:Un):Option DV:=(iC u.p).bind λ_=>(iC u.l).bind λ_=>(intD u.c).bind λ_=>(mI u.r.done).bind λb=>bif b then some (.bool false) else aZ (t8 u.r.tokens) (some (.bool true)) λ_=>bif u.r.keys.isEmpty then(iC u.r.taken).bind λ_=>some .none else none
def mkQ (u:Un):Option DV:=(iC u.p).bind λ_=>(iC u.l).bind λ_=>(intD u.c).bind λ_=>some .rf
def fwQ (T:Kn) (u:Un):Option bU:=(iC u.p).bind λp=>(iC u.l).bind λl=>(intD u.c).bind λc=>(T.ch p.1 p.2).bind λch=>bif bc ch fwL then bif u.r.clean then some (aN p.1 l.1 (p.2+1) l.2 (c+1) u.r) else none else none
section
variable (H:Array Nat->Int) (b:Nat) (k:Int) (lt:Nat) (j c:Int) (r:Rs) (t:Nat) (i:Int) (tk:DV) (ts:List DV)
def Rs.nm (r:Rs) (ts:List DV) (ks:List (DV×DV)) (tn d:DV):Rs:=⟨ts,ks,tn,r.indent,r.lV,r.allow,d,r.state,r.pI,r.marks,r.ev,r.tags,r.yv⟩
abbrev Qy (n f:Nat) (r:Rs) (z:DV):Prop:=fN (tabs H bY eY) n 1521 f [.self] [] (aN b lt k j c r)=some (z,aN b lt k j c r)
def Qi (ks:List (DV×DV)) (tn:DV):Qy H b k lt j c 6 813 (r.nm ts ks tn (.bool true)) (.bool false):=KK
def Qj (ks:List (DV×DV)) (tn:DV):Qy H b k lt j c 6 813 (r.nm [] ks tn (.bool false)) (.bool true):=KK
def Qk:Qy H b k lt j c 6 813 (r.nm (tk::ts) [] (.sint t i) (.bool false)) .none:=KK
def run_mk:Qy H b k lt j c 6 713 r .rf:=KK
end
section
variable {U:Program} {w:World} {Y:Base} (T0:cQ (KF (HH w)) Y) {T:Kn} (O:gW T Y.V)
include T0 O
theorem og {n f:Nat} {args:List DV} {aq aX:bU} {r:DV} (run:fN (tabs (HH w) bY eY) n 1521 f args [] aq=some (r,aX)):af U w 1521 Y n (.ref f) args [] aq r aX:=
 gE (tabs_ok T0 (mY O.len) λ_ _ _ _ _ _ _ _ h=>ns h) n 1521 f args [] aq r aX run
omit T0 O in
theorem Rs.K8 {r:Rs} {ts:List DV} {ks:List (DV×DV)} {tn d:DV} (h1:ts=r.tokens) (h2:ks=r.keys) (h3:tn=r.taken) (h4:d=r.done):r=r.nm ts ks tn d:=by rw[h1,h2,h3,h4];rfl
abbrev qX (U:Program) (w:World) (Y:Base) (n f:Nat) (u:Un) (z:DV):Prop:=af U w 1521 Y n (.ref f) [.self] [] (some (iz u.p u.l u.c u.r)) z (some (iz u.p u.l u.c u.r))
theorem Xy (u:Un):On (qX U w Y 6 813 u) (nmQ u):=
 (dw u.p).b λp h1=>(dw u.l).b λl h2=>(bQ u.c).b λc h3=>(k8 u.r.done).b λb h4=>by
   unfold qX
   rw[<-h1,<-h2,<-h3]
   exact dY (λhb=>by rw[Rs.K8 (r:=u.r) rfl rfl rfl (hb▸h4)];exact og T0 O (Qi ..))
    λhb=>(qC u.r.tokens).or (λt ht=>ak λhk=>(dw u.r.taken).b λq hq=>by rw[Rs.K8 (r:=u.r) ht (bT hk) hq (hb▸h4)];exact og T0 O (Qk ..))
     λht=>by rw[Rs.K8 (r:=u.r) (DF ht) rfl rfl (hb▸h4)];exact og T0 O (Qj ..)
theorem UK (u:Un):On (qX U w Y 6 713 u) (mkQ u):=
 (dw u.p).b λp h1=>(dw u.l).b λl h2=>(bQ u.c).b λc h3=>show qX .. from by unfold qX;rw[<-h1,<-h2,<-h3];exact og T0 O (run_mk ..)
theorem TS (u:Un):On (λa=>af U w 1521 Y 4 (.ref 706) [.self] [] (some (iz u.p u.l u.c u.r)) .none a) (fwQ T u):=
 (dw u.p).b λp h1=>(dw u.l).b λl h2=>(bQ u.c).b λc h3=>(aY (T.ch p.1 p.2)).b λch h4=>ak λh5=>ak λh6=>bz (O.ch _ _ _ h4) λn e1 e2=>show af .. from by
   rw[<-h1,<-h2,<-h3]
   exact Se T0 O.len e1 h6 (fH h5) (.of1 e2)
end
def RA (fw:Bool) (T:Kn) (f:Nat) (args:List DV) (aq:bU):Option (DV×bU):=
 bif Nat.beq f 690 then(pkQ T args aq).bind λr=>some (r,aq) else bif selfOnly args then bif Nat.beq f 813||Nat.beq f 713||(fw&&Nat.beq f 706) then aq.bind λas=>(MJ as).bind λu=>
  bif Nat.beq f 813 then(nmQ u).bind λz=>some (z,aq) else bif Nat.beq f 713 then(mkQ u).bind λz=>some (z,aq) else bif Nat.beq f 706 then(fwQ T u).bind λa=>some (.none,a) else none else none else none
def IU {fw:Bool} {U:Program} {w:World} {Y:Base} (T0:cQ (KF (HH w)) Y) {T:Kn} (O:gW T Y.V) (f:Nat) (args:List DV) (aq:bU):On (λq=>af U w 1521 Y 6 (.ref f) args [] aq q.1 q.2) (RA fw T f args aq):=
 dY (λc=>iS c▸(XW T0 O args aq).b λ_ h=>h.up (by decide))
  λ_=>ak λh1=>ak λ_=>(aY aq).b λas ea=>(zw as).b λu hu=>by
   rw[ea,hu,<-yV h1]
   exact dY (λc=>iS c▸(Xy T0 O u).b λ_ h=>h) λ_=>dY (λc=>iS c▸(UK T0 O u).b λ_ h=>h) λ_=>ak λc=>iS c▸(TS T0 O u).b λ_ h=>h.up (by decide)
structure u5 where
 n:Nat
 f:Nat
 a:Option (List Nat)
 p:DV
 l:DV
 ind:Option Int
 col:Option Int
 alw:Bool
 res:DV
 p':DV
 l':DV
 c':Int
def u5.args (J:u5):List DV:=.self::Option.rec (motive:=λ_=>List DV) [] (λs=>[.str s]) J.a
def Dj (a:Option (List Nat)) (l:List DV):Bool:=gX (te l) λr=>Option.rec (motive:=λ_=>Bool) r.isEmpty (λt=>gX (dJ r) λv=>gX (iE v) λs=>fP s t) a
def zP {J:u5} {l:List DV} (h:Dj J.a l=true):J.args=l:=bz (dM h) λr e h=>by
 rw[<-(mj l).get e]
 unfold u5.args
 cases q:J.a with
 |none=>rw[q] at h;exact bT h▸rfl
 |some t=>rw[q] at h;exact bz (dM h) λv e1 h=>bz (dM h) λs e2 h=>by rw[<-(bp r).get e1,<-(cT v).get e2,iG.mp ((jo s t).symm.trans h)]
def XS {α:Type} (o:Option α) (f:α->Bool):Bool:=Option.rec (motive:=λ_=>Bool) true f o
def Es {α:Type} {o:Option α} {f:α->Bool} {i:α} (h:XS o f=true) (e:o=some i):f i=true:=by subst e;exact h
def u5.go (J:u5) (n f:Nat) (args:List DV) (kw:List (Str×DV)) (aq:bU):Option (DV×bU):=
 bif Nat.beq f J.f&&(Nat.ble J.n (n+1)&&(Dj J.a args&&kw.isEmpty)) then aq.bind λas=>(MJ as).bind λu=>(intD u.c).bind λc=>bif EF u.p J.p&&(EF u.l J.l&&(u.r.clean&&(XS J.ind (isQ intD · u.r.indent)&&(XS J.col (λi=>decide (c=i))&&(!J.alw||isQ mI true u.r.allow))))) then
  some (J.res,some (iz J.p' J.l' (.int J.c') u.r)) else none else none
def Nb (U:Program) (w:World) (Y:Base) (J:u5):Prop:=∀(c:Int) (r:Rs),r.clean=true->(∀i,J.ind=some i->r.indent=.int i)->(∀i,J.col=some i->c=i)->(J.alw=true->r.allow=.bool true)->af U w 1521 Y J.n (.ref J.f) J.args [] (some (iz J.p J.l (.int c) r)) J.res (some (iz J.p' J.l' (.int J.c') r))
def u5.aaF {U:Program} {w:World} {Y:Base} {J:u5} (h:Nb U w Y J) (n f:Nat) (args:List DV) (kw:List (Str×DV)) (aq:bU):On (λq=>af U w 1521 Y (n+1) (.ref f) args kw aq q.1 q.2) (J.go n f args kw aq):=
 ak λc=>a2 (aw c) λc1 c=>a2 (aw c) λc2 c=>a2 (aw c) λc3 c4=>(aY aq).b λas ea=>(zw as).b λu hu=>(bQ u.c).b λc hc=>ak λd=>a2 (aw d) λd1 d=>a2 (aw d) λd2 d=>a2 (aw d) λd3 d=>a2 (aw d) λd4 d=>a2 (aw d) λd5 d6=>show af .. from by
  rw[iS c1,<-zP c3,<-bT c4,ea,hu,sE d1,sE d2,<-hc]
  exact(h c u.r d3 (λi e=>(rQ bQ i _ (Es (f:=λi=>isQ intD i u.r.indent) d4 e)).symm) (λi e=>mQ (Es (f:=λi=>decide (c=i)) d5 e)) λha=>(rQ k8 true _ (by rw[ha] at d6;exact d6)).symm).up (e9 c2)
def R9 {α:Type} {P:α->Prop} (a:α) (h:P a):On P (some a):=h
def abf (l:List u5) (n f:Nat) (args:List DV) (kw:List (Str×DV)) (aq:bU):Option (DV×bU):=List.rec (motive:=λ_=>Option (DV×bU)) none (λJ _ ih=>aZ (J.go n f args kw aq) ih some) l
def O6 {U:Program} {w:World} {Y:Base} {n f:Nat} {args:List DV} {kw:List (Str×DV)} {aq:bU} (l:List u5) (h:∀J∈l,Nb U w Y J):On (λq=>af U w 1521 Y (n+1) (.ref f) args kw aq q.1 q.2) (abf l n f args kw aq):=by
 induction l with
 |nil=>exact trivial
 |cons J l ih=>exact(u5.aaF (h J (.head _)) ..).or R9 λ_=>ih λJ hJ=>h J (.tail _ hJ)
def spc (T:Kn) (l:List u5):Nat->Nat->Nat->List DV->List (Str×DV)->bU->Option (DV×bU):=λn C f args kw aq=>
 bif Nat.beq C 1521 then aZ (bif Nat.ble 5 n&&kw.isEmpty then RA (!l.isEmpty) T f args aq else none) (abf l n f args kw aq) some else none
def Mi {U:Program} {w:World} {Y:Base} (T0:cQ (KF (HH w)) Y) {T:Kn} (O:gW T Y.V) {l:List u5} (h:∀J∈l,Nb U w Y J):∀n C f args kw aq r aX,spc T l n C f args kw aq=some (r,aX)->af U w C Y (n+1) (.ref f) args kw aq r aX:=λn C f args kw aq _ _ e=>
 On.get (P:=λq=>af U w C Y (n+1) (.ref f) args kw aq q.1 q.2) (ak λhC=>fa (iS hC)▸On.or (ak λc=>a2 (aw c) λc c'=>bT c'▸(IU T0 O f args aq).up λ_ k=>k.up (Rj (e9 c))) R9 λ_=>O6 l h) e
structure mq where
 t:Nat
 l:List Nat
 n:Nat
 e:Option Nat
 pos:Bool
 MP:Bool
def G2 (rs:List mq) (t:Nat):Option mq:=List.rec (motive:=λ_=>Option mq) none (λr _ ih=>bif Nat.beq r.t t then some r else ih) rs
def RM (rs:List mq):Kn where
 ch:=λt k=>(G2 rs t).bind λr=>(GP k).bind (XB r.l)
 more:=λt k=>(G2 rs t).bind λr=>(GP k).bind λn=>bif Nat.blt n r.n then some false else r.e.bind λm=>bif Nat.ble m n then some true else none
 pos:=λt=>gX (G2 rs t) (·.pos)
 MP:=λt=>gX (G2 rs t) (·.MP)
def mq.ok (V:Val) (r:mq):Prop:=∃p:Nat,V.β r.t=p/\p+r.n<=(V.ς 0).length/\Txt (V.ς 0) p r.l/\(∀m,r.e=some m->(V.ς 0).length<=p+m)/\(r.pos=true->1<=p)/\(r.MP=true->p=0)
def qN (rs:List mq) (t:Nat):On (λr=>r∈rs/\r.t=t) (G2 rs t):=List.rec (motive:=λrs=>On (λr:mq=>r∈rs/\r.t=t) (G2 rs t)) trivial (λa l ih=>dY (λc=>⟨.head _,iS c⟩) λ_=>ih.up λ_ h=>⟨.tail _ h.1,h.2⟩) rs
def JK {V:Val} {rs:List mq} (h:∀r∈rs,r.ok V) (hl:V.β 0=(V.ς 0).length):gW (RM rs) V where
 ch:=λt k c e=>On.get (P:=λc=>∃n:Nat,V.β t+k=n/\(V.ς 0)[n]?=some c) ((qN rs t).b λr q=>(n9 k).b λn hn=>.mk λc e=>t9 (h r q.1) λp a1 _ q'=>⟨p+n,by rw[<-q.2,a1,<-hn];rfl,q'.1 n c ((Ej ..).symm.trans e)⟩) e
 more:=λt k b e=>On.get (P:=λb=>b=decide (V.β 0<=V.β t+k)) ((qN rs t).b λr q=>(n9 k).b λn hn=>N8 (h r q.1) λp a1 a2 _ q'=>hl▸q.2▸a1▸hn▸dY (λc=>Pp a2 c) λ_=>(aY r.e).b λm hm=>ak λc=>(HF (zK.mpr (bB (q'.1 m hm) (xj (e9 c) p)))).symm) e
 len:=hl
 pos:=λt e=>bz (dM e) λr h1 h2=>a2 ((qN rs t).get h1) λhm e=>e15 (h r hm) λp a1 _ _ _ a=>e▸a1▸zK.mpr (a.1 h2)
 MP:=λt e=>bz (dM e) λr h1 h2=>a2 ((qN rs t).get h1) λhm e=>e15 (h r hm) λp a1 _ _ _ a=>e▸a1.trans (aT Int.ofNat (a.2 h2))
def tok2 (c:Nat):DV:=.inst c [(aK,.rf),(bg,.rf)]
section
variable {U:Program} {w:World} {C:Nat} {Y:Base} {θ:Tg} {d:Nat}
def Val.pM (V:Val) {θ:Tg} {t:Nat} {o:Option (Nat×Int)} (h:θ t=o):(V.tag θ).β t=Option.rec (motive:=λ_=>Int) (V.β t) (λp=>V.β p.1+p.2) o:=h▸rfl
def Base.YJ (h:∀t,On (λp=>Y.V.β p.1+p.2=Y.V.β t) (θ t)):Y.tag θ=Y:=by
 obtain⟨hp,⟨β,ς⟩,sys⟩:=Y
 have e:(Val.tag ⟨β,ς⟩ θ).β=β:=funext λt=>by
  have h:=h t
  have e:=Val.pM ⟨β,ς⟩ (Eq.refl (θ t))
  revert h e
  cases θ t with
  |none=>exactλ_ e=>e
  |some x=>exactλh e=>e.trans h
 exact aT (λβ=>Base.mk hp ⟨β,ς⟩ sys) e
def af.name {f:Value} {args:List DV} {kw:List (Str×DV)} {aq aX:bU} {r:DV} (hθ:∀t,On (λp=>Y.V.β p.1+p.2=Y.V.β t) (θ t)) (h:af U w C Y d f (oL θ args) (Sv θ kw) (xh θ aq) (r.tg θ) (xh θ aX)):af U w C Y d f args kw aq r aX:=Base.YJ hθ▸h.adG
def NW {rs:List mq} {js:List u5} {n f:Nat} {args:List DV} {kw:List (Str×DV)} {aq aX:bU} {r:DV} (T0:cQ (KF (HH w)) Y) (hl:bw Y) (h0:θ 0=none) (hr:∀x∈rs,x.ok (Y.V.tag θ)) (hj:∀J∈js,Nb U w (Y.tag θ) J)
    (run:fN (tabs (HH w) (RM rs) (spc (RM rs) js)) n 1521 f args kw aq=some (r,aX)):af U w 1521 Y n (.ref f) (oL θ args) (Sv θ kw) (xh θ aq) (r.tg θ) (xh θ aX):=
 have O:gW (RM rs) (Y.tag θ).V:=JK (V:=(Y.tag θ).V) hr ((Y.V.pM h0).trans hl)
 af.lC (gE (tabs_ok (T0.tag _) O (Mi (T0.tag _) O hj)) n 1521 f args kw aq r aX run)
end
def Hq (a t:Nat) (m:Int) (a' l:Nat) (y:Int):Tg:=λx=>bif Nat.beq x a then some (t,m) else bif Nat.beq x a' then some (l,y) else none
def ahK {a t:Nat} {m:Int} {a' l:Nat} {y:Int} (h1:a<16) (h2:a'<16):low (Hq a t m a' l y):=λx h=>by
 unfold Hq
 rw[qw (qt h1 h),qw (qt h2 h)];rfl
def wL {θ:Tg} {t:Nat} {k:Int} {o:Option (Nat×Int)} (h:θ t=o):Q0 θ t k=Option.rec (motive:=λ_=>DV) (.sint t k) (λp=>.sint p.1 (p.2+k)) o:=h▸rfl
def af.land {U:Program} {w:World} {C:Nat} {Y:Base} {d:Nat} {fv:Value} {args:List DV} {v:DV} {t lt a a':Nat} {k j m y c c':Int} {r:Rs} (h1:Y.V.β a=Y.V.β t+m) (h2:Y.V.β a'=Y.V.β lt+y) (hr:r.clean=true)
    (h:af U w C Y d fv args [] (aN t lt k j c r) v (aN t lt m y c' r)) (e1:Hq a t m a' lt y t=none:=by rfl) (e2:Hq a t m a' lt y lt=none:=by rfl) (e3:Hq a t m a' lt y a=some (t,m):=by rfl) (e4:Hq a t m a' lt y a'=some (lt,y):=by rfl) (ha:oL (Hq a t m a' lt y) args=args:=by rfl) (hv:v.tg (Hq a t m a' lt y)=v:=by rfl)
    (la:a<16:=by decide) (la':a'<16:=by decide):af U w C Y d fv args [] (aN t lt k j c r) v (aN a a' 0 0 c' r):=
 .name (θ:=Hq a t m a' lt y) (λx=>dY (λe=>fa (iS e)▸h1.symm) λ_=>ak λe=>fa (iS e)▸h2.symm) (by
  rw[ha,hv]
  show af U w C Y d fv args [] (some (iz (Q0 _ t k) (Q0 _ lt j) (.int c) (r.tg _))) v (some (iz (Q0 _ a 0) (Q0 _ a' 0) (.int c') (r.tg _)))
  rw[wL e1,wL e2,wL e3,wL e4,Rs.bO (ahK la la') hr]
  show af U w C Y d fv args [] (aN t lt k j c r) v (aN t lt (m+0) (y+0) c' r)
  rw[zA,zA]
  exact h)
def cmt:List Nat:=[35,32,114,58,32,115]
def Rs.al (r:Rs):Rs:={r with allow:=.bool true}
def Rs.ZO {r:Rs} (h:r.allow=.bool true):r.al=r:=by unfold Rs.al;rw[<-h]
def bC (g:Option (List Nat)):List Nat:=Option.rec (motive:=λ_=>List Nat) [] (cmt++·) g
def ij (g:Option (List Nat)):Nat:=Option.rec (motive:=λ_=>Nat) 0 (λ_=>1) g
def TX (g:Option (List Nat)) (c:Nat) (z:Bool):mq:=⟨1,bC g++[c],(bC g).length+1+(bif Nat.beq c 0 then 0 else 1),bif Nat.beq c 0 then some ((bC g).length+1) else none,!z,z⟩
def xT:List Nat:=[45,46,0]
def gzs:List (Option (List Nat)×Bool):=(none,true)::(none,false)::iH.map λnl=>(some nl,false)
def TZ {g:Option (List Nat)} (hg:∀nl,g=some nl->nl∈iH) {z:Bool} (hz:z=true->g=none):(g,z)∈gzs:=by
 cases g with
 |none=>cases z;exact .tail _ (.head _);exact .head _
 |some nl=>
  cases z with
  |true=>exact sn (hz rfl)
  |false=>exact .tail _ (.tail _ (List.mem_map_of_mem (f:=λnl=>(some nl,false)) (hg nl rfl)))
def Ql (H:Array Nat->Int) (r:Rs):gzs.map (λq=>xT.map λc=>fN (tabs H (RM [TX q.1 c q.2]) (spc (RM [TX q.1 c q.2]) [])) 8 1521 1100 [.self] [] (aN 1 2 0 0 0 r.al))=gzs.map λq=>xT.map λ_=>some (.none,aN 1 2 (bC q.1).length (ij q.1) 0 r.al):=KK
abbrev HL (S:List Nat) (p l c:Nat):Prop:=cond (Nat.beq c 0) (S.length=p+l+1) (p+l+2<=S.length)
def Ou {V:Val} {p:Nat} {g:Option (List Nat)} {c:Nat} (hp:V.β 1=p) (hx:Txt (V.ς 0) p (bC g++[c])) (he:HL (V.ς 0) p (bC g).length c):(TX g c (decide (p=0))).ok V:=by
 unfold HL at he
 refine⟨p,hp,?_,hx,?_,λe=>Nat.pos_of_ne_zero (of_decide_eq_false (iy e)),λe=>mQ e⟩
 ·show p+((bC g).length+1+(bif Nat.beq c 0 then 0 else 1))<=(V.ς 0).length
  revert he
  cases Nat.beq c 0 with
  |true=>exactλh=>jk (fa h)
  |false=>exactλh=>h
 ·show ∀m,(bif Nat.beq c 0 then some ((bC g).length+1) else none)=some m->(V.ς 0).length<=p+m
  revert he
  cases Nat.beq c 0 with
  |true=>exactλh m e=>eN e▸jk h
  |false=>exactλ_ _ e=>ns e
def q56 {T L:Nat} {m y:Int}:∀p∈[(1,2),(3,4)],Hq 5 T m 6 L y p.1=none/\Hq 5 T m 6 L y p.2=none:=e8.mpr ⟨⟨rfl,rfl⟩,Fi.mpr ⟨rfl,rfl⟩⟩
def q34 {T L:Nat} {m y:Int}:∀p∈[(1,2),(5,6)],Hq 3 T m 4 L y p.1=none/\Hq 3 T m 4 L y p.2=none:=e8.mpr ⟨⟨rfl,rfl⟩,Fi.mpr ⟨rfl,rfl⟩⟩
section
variable {U:Program} {w:World} {Y:Base} (T0:cQ (KF (HH w)) Y) (hl:bw Y)
include T0 hl
theorem Qz {t lt:Nat} (ht:(t,lt)∈[(1,2),(3,4)]) {p:Nat} (hp:Y.V.β t=p) {g:Option (List Nat)} (hg:∀nl,g=some nl->nl∈iH) {c:Nat} (hc:c∈xT) (hx:Txt (Y.V.ς 0) p (bC g++[c]))
 (he:HL (Y.V.ς 0) p (bC g).length c) (hz:p=0->g=none) (h5:Y.V.β 5=p+(bC g).length) (h6:Y.V.β 6=Y.V.β lt+ij g):
 Nb U w Y ⟨8,1100,none,.sint t 0,.sint lt 0,none,some 0,true,.none,.sint 5 0,.sint 6 0,0⟩:=by
 intro col r hr _ agL hal
 rw[agL 0 rfl]
 have hal:=Rs.ZO (hal rfl)
 have run:=aW (aW (Ql (HH w) r) _ (TZ (z:=decide (p=0)) hg λe=>hz (mQ e))) c hc
 rw[hal] at run
 have h:=NW (U:=U) (w:=w) (θ:=mn t 0 lt 0) (js:=[]) T0 hl rfl (Fi.mpr (Ou ((Y.V.pM (θ:=mn t 0 lt 0) (t:=1) (o:=some (t,0)) rfl).trans ((zA _).trans hp)) hx he)) (λJ h=>nomatch h) run
 rw[FK hr,oZ hr,zL,zL] at h
 exact .land (h5.trans (aT (· +_) hp.symm)) h6 hr h (q56 _ ht).1 (q56 _ ht).2
theorem NJ {t lt:Nat} (ht:(t,lt)∈[(1,2),(5,6)]) {B:gf} {ch:eB} {I:Int} {M:Nat} (O:B.Ok ch M) (hI:(I,M)∈MV) {x:Nat} {p:Nat} (hp:Y.V.β t=p) (hx:Txt (Y.V.ς 0) (p+x) B.txt) {y:Int} (h3:Y.V.β 3=Y.V.β t+(x+B.len)) (h4:Y.V.β 4=Y.V.β lt+(y+B.lines)):
 Nb U w Y ⟨9,1177,some [B.st],.sint t x,.sint lt y,some I,none,false,wN (B.cF ch).flatten B.st,.sint 3 0,.sint 4 0,B.e⟩:=λcol r hr hi _ _=>
 .land h3 h4 hr (HX (U:=U) (b:=t) (lt:=lt) (k:=x) (j:=y) T0 hl hr O hI (hi I rfl) (by rw[hp];rfl) hx) (q34 _ ht).1 (q34 _ ht).2
end
def Rs.to (r:Rs) (ev st:DV):Rs:=⟨r.tokens,r.keys,r.taken,r.indent,r.lV,r.allow,r.done,st,r.pI,r.marks,ev,r.tags,r.yv⟩
section
variable (H:Array Nat->Int) (n:Nat)
abbrev pS:Stmt:=ai (FI H 1326).body 0
abbrev Zo:Stmt:=ai (wB (pS H)) 0
abbrev pS3:Stmt:=ai (wB (Zo H)) 0
def nJ:qh (KF H) 1326=some (FI H 1326):=KK
def nK:bc 1326 vr=true:=KK
def aia:(FI H 1326).body=[pS H,ai (FI H 1326).body 1]:=KK
def ah8:pS H=.If (wT (pS H)) [Zo H] [] (wP (pS H)):=KK
def ah9:Zo H=.If (wT (Zo H)) [pS3 H] [] (wP (Zo H)):=KK
abbrev pL:List (Str×ae):=[(ag,.pv .self)]
variable (p l c:DV) (r:Rs) (f:Nat) (ev st:DV)
def acJ:tX H n 1326 (wT (pS H)) ⟨some (iz p l c (r.to .none (.bj f))),pL⟩ true:=KK
def acK:tX H n 1326 (wT (Zo H)) ⟨some (iz p l c (r.to .none (.bj f))),pL⟩ true:=KK
def aib (p' l' c':DV) (r':Rs):rR.map (λf=>(nB (eQ H bY n 1326) (fR H bY n 1326) (kr (pS3 H)) ⟨some (iz p l c (r.to .none (.bj f))),pL⟩,tL (eQ H bY n 1326) (pS3 H) ev ⟨some (iz p' l' c' (r'.to .none st)),pL⟩))=
 rR.map λf=>(some (f,[.self],⟨some (iz p l c (r.to .none (.bj f))),pL⟩),some ⟨some (iz p' l' c' (r'.to ev st)),pL⟩):=KK
def aie:rX H n 1326 [ai (FI H 1326).body 1] ⟨some (iz p l c (r.to ev st)),pL⟩ (.ret ev) ⟨some (iz p l c (r.to ev st)),pL⟩:=KK
def TY (cc:Nat) (fs:List (Str×DV)):fN (tabs H bY eY) 4 1521 1333 [.self] [] (some (iz p l c (r.to (.inst cc fs) st)))=some (.inst cc fs,some (iz p l c (r.to .none st))):=KK
def acI:fN (tabs H bY eY) 4 1521 1326 [.self] [] (some (iz p l c (r.to .none .none)))=some (.none,some (iz p l c (r.to .none .none))):=KK
def XX:((cR lD 1326 [.self] []).bind λrow=>getAll [.self] [] row.out)=some [(ag,.self)]:=KK
end
def PZ {U:Program} {w:World} {Y:Base} (T0:cQ (KF (HH w)) Y) (hl:bw Y) {n f:Nat} (hf:bc f rR=true) {p l c p' l' c' ev zH:DV} {r r':Rs} (h:af U w 1521 Y n (.ref f) [.self] [] (some (iz p l c (r.to .none (.bj f)))) ev (some (iz p' l' c' (r'.to .none zH)))):
    af U w 1521 Y (n+1) (.ref 1326) [.self] [] (some (iz p l c (r.to .none (.bj f)))) ev (some (iz p' l' c' (r'.to ev zH))):=by
 exact f9 nK (nJ (HH w)) T0 hl XX (.at (aia (HH w)) (ao (.at (ah8 (HH w)) (iF (kG nK (nJ (HH w)) T0 hl (acJ ..)) (ao (.at (ah9 (HH w)) (iF (kG nK (nJ (HH w)) T0 hl (acK ..)) (ao (pD nK (nJ (HH w)) T0 hl (aW (aib (HH w) n p l c r ev zH p' l' c' r') f (fH hf)) h (fu n)) bx))) bx)))
  (nh nK (nJ (HH w)) T0 hl (aie (HH w) n p' l' c' r' ev zH)))) rfl
section
variable {U:Program} {w:World} {C:Nat} {Y:Base} {G:Gh} {d:Nat} {s:Shared}
def cp.vw {as:List (Str×ae)} {x:Str} {l:List (DV×DV)} (R:cp w.params C Y G (some as) s) (hx:look as x=some (.md l)):
    ∃G',cp w.params C Y G' (some (put as x (.pv (.iI l)))) s/\Later G.OA G s G' s/\G'.OL=G.OL/\Sub G G':=
 dk R.attr λp dd q=>dk q λes n A=>bz (A.sl.hit x _ hx) λv hv ok=>DL ok λa tG n' e ha hd ho=>by
  have hv:=hv.trans (aT some e)
  have ng:=(R.fL a ho.1).1
  have p:=ki R.pins ha
  let G':Gh:={pinned G a (dictOf tG n') with OA:=λb=>G.OA b/\b≠a}
  have S:Sub G G':=⟨rfl,p.g,p.par⟩
  have own:∀{b},b≠a->G.g b=none->G'.g b=none:=λq e=>(cC q).trans e
  have ns:(a==sysModules)=false:=HE.mpr λe=>fi (Y9.mp Y.sys) λo h=>sn ((R.dQ _ _ h).symm.trans (e▸ng))
  have D:DR w.params G' (.iI l) (.ref a):=.iI ns dq (hd.mono S)
  exact⟨G',⟨λb o=>oq R.pins ha,λb o h=>S.g b o (R.dQ b o h),R.val,λb q=>⟨own q.2 (R.fL b q.1).1,(R.fL b q.1).2⟩,λb q=>⟨own (λe=>R.apart a ho.1 (e▸q)) (R.fF b q).1,(R.fF b q).2⟩,λb q=>R.apart b q.1,
   _,dd,es,n,A.par,S.g _ _ A.inst,⟨A.own,λe=>ho.2 e.symm⟩,A.dict,((ou as x _).2 _ hx).symm▸A.len,A.str,
   A.sl.GW x (.pv (.iI l)) _ hv (λ_ _=>rfl) D (λy ky u q e mu h=>h.keep (a:=a) S (λmy z=>q (A.sl.once y x ky _ e hx my rfl (mu.trans ((aT some z).trans hv.symm)))) (λb o _ _ e=>e) λb o n=>⟨⟨o.1,n⟩,o.2⟩) λq=>ft q⟩,
   .gh S (λb o _ n e=>(cC (λz:b=a=>n (.inl (z▸ho.1)))).symm.trans e) (λ_ _ q=>q.1) λ_ _ q=>q,rfl,S⟩
def af.vw {f:Value} {args:List DV} {kw:List (Str×DV)} {aq:bU} {as:List (Str×ae)} {r:DV} {x:Str} {l:List (DV×DV)} (h:af U w C Y d f args kw aq r (some as)) (hx:look as x=some (.md l)):
    af U w C Y d f args kw aq r (some (put as x (.pv (.iI l)))):=λA G s vs ks ro R ha hk Q k=>
 h A G s vs ks ro R ha hk Q λaz v ax aB aH el dv=>N8 (aB.vw hx) λaD aE aJ el2 S=>k aD v ax aE (aH.aO aJ) (el2.trans el) (dv.mono S)
end
abbrev ZD:DV:=tok2 203
abbrev BMS:DV:=tok2 215
abbrev BEN:DV:=tok2 227
abbrev KEY:DV:=tok2 287
abbrev VAL:DV:=tok2 299
abbrev SN:DV:=tok2 311
abbrev DST:DV:=tok2 147
abbrev DEN:DV:=tok2 159
abbrev Zc:DV:=tok2 191
def adB:DV:=.inst 400 [(dU,.str [107]),(Az,.bool true),(aK,.rf),(bg,.rf),(fD,.none)]
def Sy:DV:=.inst 179 [(aK,.rf),(bg,.rf),(kK,.none)]
def tokA:DV:=.inst 361 [(dU,.str [110]),(aK,.rf),(bg,.rf)]
def tokT:DV:=.inst 380 [(dU,.tup [.str [33],.str [116]]),(aK,.rf),(bg,.rf)]
structure Pv where
 txt:List Nat
 ZS:DV
 tag:DV
 toks:List DV
def P0:Pv:=⟨[],.none,.none,[]⟩
def Ps:List Pv:=[P0,⟨[38,110,32],.str [110],.none,[tokA]⟩,⟨[33,116,32],.none,.str [33,116],[tokT]⟩,⟨[38,110,32,33,116,32],.str [110],.str [33,116],[tokA,tokT]⟩,⟨[33,116,32,38,110,32],.str [110],.str [33,116],[tokT,tokA]⟩]
def evS (P:Pv) (v:List Nat) (st:Nat):DV:=.inst 585 [(ke,P.ZS),(mC,P.tag),(pz,.tup [.bool false,.bool (qo P.tag)]),(dU,.str v),(aK,.rf),(bg,.rf),(fD,.str [st])]
def af2:DV:=.inst 585 [(ke,.none),(mC,.none),(pz,.tup [.bool true,.bool false]),(dU,.str [107]),(aK,.rf),(bg,.rf),(fD,.none)]
def evC (c:Nat):DV:=.inst c [(ke,.none),(mC,.none),(pz,.bool true),(aK,.rf),(bg,.rf),(AA,.bool false)]
def af3:DV:=.inst 501 [(aK,.rf),(bg,.rf),(kK,.none)]
def Oa (b:Bool):DV:=.inst 533 [(aK,.rf),(bg,.rf),(n8,.bool b),(yu,.none),(yw,.none)]
def IQ (b:Bool):DV:=.inst 553 [(aK,.rf),(bg,.rf),(n8,.bool b)]
def aiS:List Nat:=[116,97,103,58,121,97,109,108,46,111,114,103,44,50,48,48,50,58]
def wI:List (DV×DV):=[(.str [33],.str [33]),(.str [33,33],.str aiS)]
abbrev TG:ae:=.pv (.iI wI)
def ac0:List Nat:=[121,101,115]
def sNo:List Nat:=[110,111]
def sure (b:Bool):DV:=.str (bif b then ac0 else sNo)
def So:List Nat:=[115,99,97,108,97,114]
def Sm:List Nat:=[114,111,119]
def Sl:List Nat:=[109,97,112]
def Sk:List Nat:=[100,111,99,117,109,101,110,116]
def QR:List Nat:=[32,101,110,100]
def Sq:List Nat:=[115,116,114,101,97,109]
def tS (P:Pv) (v:List Nat) (st:Nat):DV:=.tup [.str So,P.ZS,P.tag,.str sNo,sure (qo P.tag),.str v,.str [st]]
def Zs:DV:=.tup [.str So,.none,.none,.str ac0,.str sNo,.str [107],.none]
def sY:DV:=.tup [.str Sm,.str sNo]
def sW:DV:=.tup [.str Sl,.str sNo]
def gd:DV:=.tup [.str (Sm++QR)]
def kH:DV:=.tup [.str (Sl++QR)]
def kL (b:Bool):DV:=.tup [.str Sk,sure b]
def eI (b:Bool):DV:=.tup [.str (Sk++QR),sure b]
def tP:DV:=.tup [.str Sq]
def gJ:DV:=.tup [.str (Sq++QR)]
def TD (H:Array Nat->Int) (as:List (Str×ae)) (ev:DV):=fN (tabs H bY eY) 8 1521 1564 [ev] [] (some as)
def rr (toks:List DV) (ind:Int) (ahf:List Int) (al dn:Bool) (st:DV) (sts:List Nat) (mk:Nat) (tg:ae) (k:DV):Rs:=⟨toks,[],k,.int ind,ahf.map .int,.bool al,.bool dn,st,sts.map .bj,List.replicate mk .rf,.none,tg,.none⟩
def LS (p ln:Nat) (c:Int) (k:Nat) (r:DV->Rs):bU:=some (iz (.sint 17 p) (.sint 17 ln) (.int c) (r (.sint 17 k)))
def nu (p ln p3 l4 p5 l6 m:Nat):Tg:=λt=>(mT [(1,p),(2,ln),(3,p3),(4,l4),(5,p5),(6,l6),(16,m)] t).map λn:Nat=>(17,(n:Int))
def jb (t l st x:Nat) (I:Int) (v:List Nat) (e:Nat):u5:=⟨9,1177,some [st],.sint t x,.sint l 0,some I,none,false,wN v st,.sint 3 0,.sint 4 0,e⟩
def jg:u5:=⟨8,1100,none,.sint 1 0,.sint 2 0,none,some 0,true,.none,.sint 5 0,.sint 6 0,0⟩
def Step (U:Program) (w:World) (B0:Base) (a:bU) (t:DV) (a':bU):Prop:=∃(p l c p' l' c' zH:DV) (r r':Rs) (f cc:Nat) (fs:List (Str×DV)),a=some (iz p l c (r.to .none (.bj f)))/\a'=some (iz p' l' c' (r'.to .none zH))/\
 bc f rR=true/\af U w 1521 B0 33 (.ref f) [.self] [] a (.inst cc fs) a'/\∀as,TD (HH w) as (.inst cc fs)=some (t,some as)
abbrev HG (H:Array Nat->Int) (θ:Tg) (rs:List mq) (js:List u5) (f:Nat) (c:Int) (r:DV->Rs) (ev t:DV) (a a':bU):Prop:=∀as,
 (bc f rR&&(uo ev).isSome,TD H as ev,xh θ (aN 1 2 0 0 c (r (.sint 16 0))),(fN (tabs H (RM rs) (spc (RM rs) js)) 30 1521 f [.self] [] (aN 1 2 0 0 c (r (.sint 16 0)))).map λq=>(q.1.tg θ,xh θ q.2))=(true,some (t,some as),a,some (ev,a'))
def Fb {α β γ δ ε:Type} {a:Bool} {b x:β} {c y:γ} {o:Option δ} {F:δ->α} {K:δ->ε} {u:α} {v:ε} (h:(a,b,c,o.map λq=>(F q,K q))=(true,x,y,some (u,v))):∃z,a=true/\b=x/\c=y/\o=some z/\F z=u/\K z=v:=by
 have h1:=kS h
 have h2:=kS h1.2
 have h3:=kS h2.2
 exact bz (xl.mp h3.2) λz e q=>⟨z,h1.1,h2.1,h3.1,e,kS q⟩
def Lay (S:List Nat) (p:Nat) (r:List Nat):Prop:=p<=S.length/\S.drop p=r
section
variable {S:List Nat} {p:Nat} {a b r:List Nat}
def Lay.len (h:Lay S p r):S.length=p+r.length:=by rw[<-h.2,Zx,Nat.add_sub_cancel' h.1]
def Lay.app (h:Lay S p (a++b)):Lay S (p+a.length) b:=⟨h.len▸xj (c9▸Hu ..) p,by rw[<-List.drop_drop,h.2,List.drop_left]⟩
def Lay.txt (h:Lay S p (a++b)):Txt S p a:=λn c e=>by rw[<-List.getElem?_drop,h.2,List.getElem?_append_left (M6.mp e).1];exact e
end
def gf.rest (B:gf) (aR:List Item):List Nat:=List.rec (motive:=λ_=>List Nat) [] (λit aR ih=>it.1++(B.nl++(jY B.nl it.2++(aQ (lead B.ind B.e aR)++ih)))) aR
def gf.core (B:gf):List Nat:=B.st::(B.h.txt++(B.t++(B.nl++(jY B.nl B.ss++(aQ B.ld++B.rest B.aR)))))
def gf.rest_eq (B:gf) (aR:List Item):gu B.nl B.ind B.e B.c0 aR=B.rest aR++[B.c0]:=by
 induction aR with
 |nil=>rfl
 |cons it aR ih=>
  show it.1++(B.nl++(jY B.nl it.2++(aQ (lead B.ind B.e aR)++gu B.nl B.ind B.e B.c0 aR)))=(it.1++(B.nl++(jY B.nl it.2++(aQ (lead B.ind B.e aR)++B.rest aR))))++[B.c0]
  rw[ih,fb,fb,fb,fb]
def sN (n:Nat):(aQ n).length=n:=tj
def gf.LJ (B:gf) (aR:List Item):(B.rest aR).length=j9 B.nl B.ind B.e aR:=by
 induction aR with
 |nil=>rfl
 |cons it aR ih=>
  show(it.1++(B.nl++(jY B.nl it.2++(aQ (lead B.ind B.e aR)++B.rest aR)))).length=it.1.length+B.nl.length+dj B.nl it.2+lead B.ind B.e aR+j9 B.nl B.ind B.e aR
  rw[c9,c9,c9,c9,nF,sN,ih,zN,zN,zN]
def gf.YQ (B:gf):B.txt=B.core++[B.c0]:=by
 unfold gf.txt gf.core
 rw[B.rest_eq,De,fb,fb,fb,fb,fb]
def gf.rA (B:gf):B.core.length=B.len:=by
 unfold gf.core gf.len
 rw[M7,c9,c9,c9,c9,c9,nF,sN,B.LJ,Nat.add_comm,zN,zN,zN,zN,zN]
def pQ {α β γ:Type} {l:List α} {f g:α->β->γ} (h:l.map f=l.map g):∀a∈l,∀b,f a b=g a b:=λa m b=>congrFun (aW h a m) b
def qZ {α β γ δ:Type} {l:List α} {m:List β} {f g:α->β->γ->δ} (h:l.map (λa=>m.map (f a))=l.map λa=>m.map (g a)):∀a∈l,∀b∈m,∀c,f a b c=g a b c:=λa i b j c=>congrFun (aW (aW h a i) b j) c
section
variable {U:Program} {w:World} {B0:Base} (T0:cQ (KF (HH w)) B0) (hl:bw B0) (ck:B0.V.β 17=0) {p ln p3 l4 p5 l6 m:Nat}
def bw.adA {θ:Tg} (hl:bw B0) (h0:θ 0=none):bw (B0.tag θ):=(B0.V.pM h0).trans hl
include ck
theorem uX {l:List (Nat×Nat)} {t n:Nat} (h:mT l t=some n):(B0.V.tag λt=>(mT l t).map λn:Nat=>(17,(n:Int))).β t=n:=(B0.V.pM (o:=some (17,(n:Int))) (aT (Option.map λn:Nat=>(17,(n:Int))) h)).trans (by show B0.V.β 17+(n:Int)=n;rw[ck,zL])
theorem zy:(B0.V.tag (nu p ln p3 l4 p5 l6 m)).β 1=p/\(B0.V.tag (nu p ln p3 l4 p5 l6 m)).β 2=ln/\(B0.V.tag (nu p ln p3 l4 p5 l6 m)).β 3=p3/\(B0.V.tag (nu p ln p3 l4 p5 l6 m)).β 4=l4/\(B0.V.tag (nu p ln p3 l4 p5 l6 m)).β 5=p5/\(B0.V.tag (nu p ln p3 l4 p5 l6 m)).β 6=l6:=⟨uX ck rfl,uX ck rfl,uX ck rfl,uX ck rfl,uX ck rfl,uX ck rfl⟩
omit ck
include T0 hl
theorem RP {θ:Tg} (f:Nat) (ev:DV) {c c':Int} {r r':DV->Rs} {q' l' k':Nat} {t:DV} {rs:List mq} {js:List u5} (hr:∀x∈rs,x.ok (B0.V.tag θ)) (hj:∀J∈js,Nb U w (B0.tag θ) J)
 (xb:HG (HH w) θ rs js f c r ev t (LS p ln c m r) (LS q' l' c' k' r')) (e1:∀k,r k=(r k).to .none (.bj f):=by exactλ_=>rfl) (e2:∀k,r' k=(r' k).to .none (r' k).state:=by exactλ_=>rfl) (h0:θ 0=none:=by exact rfl):Step U w B0 (LS p ln c m r) t (LS q' l' c' k' r'):=by
 refine fi (Fb (xb [])) λx q=>a6 q λi _ h1 h3 h5 h6=>fi (Y9.mp (aw i).2) λy h9=>?_
 have O:=JK hr ((B0.V.pM h0).trans hl)
 have h:=af.lC (gE (tabs_ok (U:=U) (T0.tag θ) O (Mi (T0.tag θ) O hj)) 30 1521 f [.self] [] _ x.1 x.2 h3)
 have e:=(nT ev).get h9
 rw[h5,h6,h1,<-e] at h
 exact⟨_,_,_,_,_,_,_,r (.sint 17 m),r' (.sint 17 k'),f,y.1,y.2,aT (λr=>some (iz _ _ _ r)) (e1 _),aT (λr=>some (iz _ _ _ r)) (e2 _),(aw i).1,h.up (by decide),λas=>(Fb (xb as)).elim λ_ q=>fa e▸q.2.1⟩
end
abbrev Sh (t:Nat) (cs:List Nat) (j:Nat):mq:=⟨t,cs,cs.length+j,none,true,false⟩
section
variable {V:Val} {t q j:Nat} {cs rest:List Nat} (ht:V.β t=q)
include ht
theorem wm (h:Lay (V.ς 0) q (cs++rest)) (hj:j<=rest.length) (h1:1<=q):(Sh t cs j).ok V:=⟨q,ht,by rw[h.len,c9];exact xj (xj hj _) q,h.txt,λ_ e=>ns e,λ_=>h1,λe=>ft e⟩
theorem EC (h:Lay (V.ς 0) q cs) (h1:1<=q):(⟨t,cs,cs.length,some cs.length,true,false⟩:mq).ok V:=⟨q,ht,jk h.len.symm,(Lay.txt (b:=[]) (by rw[ti];exact h)),λ_ e=>eN e▸jk h.len,λ_=>h1,λe=>ft e⟩
theorem LM (e:q=0) (h:Lay (V.ς 0) q (cs++rest)) (hj:j<=rest.length):(⟨t,cs,cs.length+j,none,false,true⟩:mq).ok V:=⟨q,ht,by rw[h.len,c9];exact xj (xj hj _) q,h.txt,λ_ e=>ns e,λe=>ft e,λ_=>e⟩
end
section
variable {U:Program} {w:World} {B0:Base} (T0:cQ (KF (HH w)) B0) (hl:bw B0) (ck:B0.V.β 17=0) {p ln p3 l4 p5 l6 m:Nat} {t:DV} {c c':Int} {r r':DV->Rs} {q' l' k':Nat} {cs rest:List Nat} {j:Nat} {g:Option (List Nat)} {B:gf} {ch:eB} {I:Int} {M:Nat}
include ck
theorem b1:(B0.V.tag (nu p ln p3 l4 p5 l6 m)).β 1=p:=(zy ck).1
theorem b5:(B0.V.tag (nu p ln p3 l4 p5 l6 m)).β 5=p5:=(zy ck).2.2.2.2.1
include T0 hl
theorem JJ (hg:∀nl,g=some nl->nl∈iH) {x:Nat} (hc:x∈xT) (h:Lay (B0.V.ς 0) p (bC g++x::rest)) (hr:cond (Nat.beq x 0) (rest=[]) (1<=rest.length)) (h1:1<=p):Nb U w (B0.tag (nu p ln p3 l4 (p+(bC g).length) (ln+ij g) m)) jg:=
 Qz (T0.tag _) (hl.adA rfl) (.head _) (b1 ck) hg hc (Txt.C6 (t:=rest) (Lay.txt (b:=[]) (by rw[ti];exact h))) (by
  have e:=h.len
  rw[c9,<-zN] at e
  show cond (Nat.beq x 0) ((B0.V.ς 0).length=_) (_<=(B0.V.ς 0).length)
  revert hr
  cases Nat.beq x 0 with
  |true=>exactλh=>e.trans (aT (p+(bC g).length+List.length ·) (aT (x::·) h))
  |false=>exactλh=>e▸xj (Rj h) _) (λe=>absurd h1 (e▸Nat.not_succ_le_zero 0)) (b5 ck) ((zy ck).2.2.2.2.2.trans (aT (· +(ij g:Int)) (zy ck).2.1.symm))
theorem RK {t l q y:Nat} (ht:(B0.V.tag (nu p ln p3 l4 p5 l6 m)).β t=q) (hy:(B0.V.tag (nu p ln p3 l4 p5 l6 m)).β l=y) (hb:(t,l)∈[(1,2),(5,6)]) (O:B.Ok ch M) (hI:(I,M)∈MV) (h:Lay (B0.V.ς 0) q (cs++(B.core++B.c0::rest))) (e3:p3=q+cs.length+B.len) (e4:l4=y+B.lines) {e:Nat} (he:B.e=e):
 Nb U w (B0.tag (nu p ln p3 l4 p5 l6 m)) (jb t l B.st cs.length I (B.cF ch).flatten e):=
 he▸NJ (T0.tag _) (hl.adA rfl) hb O hI ht (B.YQ▸Lay.txt (b:=rest) (by rw[fb];exact h.app)) (y:=0) ((zy ck).2.2.1.trans (by rw[show(B0.tag (nu p ln p3 l4 p5 l6 m)).V.β t=q from ht,e3,<-Hs];rfl)) ((zy ck).2.2.2.1.trans (by rw[show(B0.tag (nu p ln p3 l4 p5 l6 m)).V.β l=y from hy,e4,zL];rfl))
omit ck
theorem wz (f:Nat) (ev:DV) (xb:HG (HH w) (nu p ln 0 0 0 0 m) [] [] f c r ev t (LS p ln c m r) (LS q' l' c' k' r')) (e1:∀k,r k=(r k).to .none (.bj f):=by exactλ_=>rfl) (e2:∀k,r' k=(r' k).to .none (r' k).state:=by exactλ_=>rfl):Step U w B0 (LS p ln c m r) t (LS q' l' c' k' r'):=
 RP T0 hl f ev (qT _) (qT _) xb e1 e2
include ck
theorem QA (f:Nat) (ev:DV) (h:Lay (B0.V.ς 0) p (cs++rest)) (hj:j<=rest.length) (h1:1<=p) (xb:HG (HH w) (nu p ln 0 0 0 0 m) [Sh 1 cs j] [] f c r ev t (LS p ln c m r) (LS q' l' c' k' r')) (e1:∀k,r k=(r k).to .none (.bj f):=by exactλ_=>rfl) (e2:∀k,r' k=(r' k).to .none (r' k).state:=by exactλ_=>rfl):
 Step U w B0 (LS p ln c m r) t (LS q' l' c' k' r'):=RP T0 hl f ev (Fi.mpr (wm (V:=B0.V.tag (nu p ln 0 0 0 0 m)) (b1 ck) h hj h1)) (qT _) xb e1 e2
theorem adq (f:Nat) (ev:DV) (h:Lay (B0.V.ς 0) 0 (cs++rest)) (hj:j<=rest.length) (xb:HG (HH w) (nu 0 ln 0 0 0 0 m) [⟨1,cs,cs.length+j,none,false,true⟩] [] f c r ev t (LS 0 ln c m r) (LS q' l' c' k' r')) (e1:∀k,r k=(r k).to .none (.bj f):=by exactλ_=>rfl) (e2:∀k,r' k=(r' k).to .none (r' k).state:=by exactλ_=>rfl):
 Step U w B0 (LS 0 ln c m r) t (LS q' l' c' k' r'):=RP T0 hl f ev (Fi.mpr (LM (V:=B0.V.tag (nu 0 ln 0 0 0 0 m)) (b1 ck) rfl h hj)) (qT _) xb e1 e2
theorem Hb (f:Nat) (ev:DV) (hg:∀nl,g=some nl->nl∈iH) {x:Nat} (hc:x∈xT) (hx:Nat.beq x 0=false) (h:Lay (B0.V.ς 0) p (bC g++x::(cs++rest))) (hj:j<=rest.length) (hj1:1<=rest.length) (h1:1<=p)
 (xb:HG (HH w) (nu p ln 0 0 (p+(bC g).length) (ln+ij g) m) [Sh 5 (x::cs) j] [jg] f c r ev t (LS p ln c m r) (LS q' l' c' k' r')) (e1:∀k,r k=(r k).to .none (.bj f):=by exactλ_=>rfl) (e2:∀k,r' k=(r' k).to .none (r' k).state:=by exactλ_=>rfl):Step U w B0 (LS p ln c m r) t (LS q' l' c' k' r'):=
 RP T0 hl f ev (Fi.mpr (wm (V:=B0.V.tag (nu p ln 0 0 (p+(bC g).length) (ln+ij g) m)) (cs:=x::cs) (b5 ck) h.app hj (zO h1))) (Fi.mpr (JJ T0 hl ck hg hc h (by rw[hx,c9];exact SI hj1) h1)) xb e1 e2
theorem Yx (f:Nat) (ev:DV) (hg:∀nl,g=some nl->nl∈iH) (h:Lay (B0.V.ς 0) p (bC g++[0])) (h1:1<=p)
 (xb:HG (HH w) (nu p ln 0 0 (p+(bC g).length) (ln+ij g) m) [⟨5,[0],1,some 1,true,false⟩] [jg] f c r ev t (LS p ln c m r) (LS q' l' c' k' r')) (e1:∀k,r k=(r k).to .none (.bj f):=by exactλ_=>rfl) (e2:∀k,r' k=(r' k).to .none (r' k).state:=by exactλ_=>rfl):Step U w B0 (LS p ln c m r) t (LS q' l' c' k' r'):=
 RP T0 hl f ev (Fi.mpr (EC (V:=B0.V.tag (nu p ln 0 0 (p+(bC g).length) (ln+ij g) m)) (b5 ck) h.app (zO h1))) (Fi.mpr (JJ T0 hl ck hg (.tail _ (.tail _ (.head _))) h rfl h1)) xb e1 e2
theorem CX (f:Nat) (P:Pv) (O:B.Ok ch M) (hI:(I,M)∈MV) {e:Nat} (he:B.e=e) (h:Lay (B0.V.ς 0) p (cs++(B.core++B.c0::rest))) (h1:1<=p)
 (xb:∀p3 l4 v,∀st∈[124,62],HG (HH w) (nu p ln p3 l4 0 0 m) [Sh 1 (cs++[st]) 1] [jb 1 2 st cs.length I v e] f c r (evS P v st) (tS P v st) (LS p ln c m r) (LS p3 l4 e k' r')) (e1:∀k,r k=(r k).to .none (.bj f):=by exactλ_=>rfl) (e2:∀k,r' k=(r' k).to .none (r' k).state:=by exactλ_=>rfl):
 Step U w B0 (LS p ln c m r) (tS P (B.cF ch).flatten B.st) (LS (p+cs.length+B.len) (ln+B.lines) e k' r'):=
 RP T0 hl f (evS P (B.cF ch).flatten B.st) (Fi.mpr (wm (V:=B0.V.tag (nu p ln (p+cs.length+B.len) (ln+B.lines) 0 0 m)) (rest:=B.core.tail++B.c0::rest) (b1 ck) (by rw[fb];exact h) (by rw[c9];exact SI (oJ 1 _)) h1))
  (Fi.mpr (RK T0 hl ck (b1 ck) (zy ck).2.1 (.head _) O hI h rfl rfl he)) (xb _ _ _ _ O.st) e1 e2
theorem aiG (f:Nat) (P:Pv) (O:B.Ok ch M) (hI:(I,M)∈MV) {e:Nat} (he:B.e=e) (hg:∀nl,g=some nl->nl∈iH) (h:Lay (B0.V.ς 0) p (bC g++45::(cs++(B.core++B.c0::rest)))) (h1:1<=p)
 (xb:∀p3 l4 p5 l6 v,∀st∈[124,62],HG (HH w) (nu p ln p3 l4 p5 l6 m) [Sh 5 (45::cs++[st]) 1] [jg,jb 5 6 st (45::cs).length I v e] f c r (evS P v st) (tS P v st) (LS p ln c m r) (LS p3 l4 e k' r')) (e1:∀k,r k=(r k).to .none (.bj f):=by exactλ_=>rfl) (e2:∀k,r' k=(r' k).to .none (r' k).state:=by exactλ_=>rfl):
 Step U w B0 (LS p ln c m r) (tS P (B.cF ch).flatten B.st) (LS (p+(bC g).length+(45::cs).length+B.len) (ln+ij g+B.lines) e k' r'):=
 RP T0 hl f (evS P (B.cF ch).flatten B.st) (Fi.mpr (wm (V:=B0.V.tag (nu p ln (p+(bC g).length+(45::cs).length+B.len) (ln+ij g+B.lines) (p+(bC g).length) (ln+ij g) m)) (rest:=B.core.tail++B.c0::rest) (b5 ck) (by rw[fb];exact h.app) (by rw[c9];exact SI (oJ 1 _)) (zO h1)))
  (e8.mpr ⟨JJ T0 hl ck hg (.head _) h (by show 1<=_;rw[c9,c9];exact SI (SI (oJ 1 _))) h1,Fi.mpr (RK T0 hl ck (b5 ck) (zy ck).2.2.2.2.2 (.tail _ (.head _)) O hI h.app rfl rfl he)⟩) (xb _ _ _ _ _ _ O.st) e1 e2
end
def kB (p ln k:Nat):bU:=LS p ln 1 k (rr [SN] 0 [-1] true false (.bj 1418) [1361] 1 TG)
def kC (p ln k:Nat):bU:=LS p ln 1 k (rr [ZD,SN] 0 [-1] true false (.bj 1411) [1361] 0 TG)
def kA (p ln k:Nat):bU:=LS p ln 0 k (rr [] 0 [-1] true false (.bj 1418) [1361] 1 TG)
def kIs (b:Bool):Nat:=bif b then 1439 else 1418
def kI (b:Bool) (p ln k:Nat):bU:=LS p ln 0 k (rr [] 2 [-1,0] true false (.bj (kIs b)) [1361,1418] 2 TG)
def kM (p ln k:Nat):bU:=LS p ln 4 k (rr [BMS,KEY,adB,VAL] 2 [-1,0] false false (.bj 1432) [1361,1418] 1 TG)
def kV (p ln k:Nat):bU:=LS p ln 4 k (rr [VAL] 2 [-1,0] false false (.bj 1446) [1361,1418] 2 TG)
def kR (p ln k:Nat):bU:=LS p ln 3 k (rr [ZD,SN] 2 [-1,0] true false (.bj 1411) [1361,1418] 1 TG)
def kQ (p ln k:Nat):bU:=LS p ln 3 k (rr [BMS,KEY] 2 [-1,0] true false (.bj 1432) [1361,1418] 1 TG)
def kW (p ln k:Nat):bU:=LS p ln 2 k (rr [] 2 [-1,0] true false (.bj 1446) [1361,1418] 2 TG)
def kD (p ln k:Nat):bU:=LS p ln 3 k (rr [] (-1) [] false false (.bj 1368) [1361] 0 TG)
def kO (p ln k:Nat):bU:=LS p ln 0 k (rr [] (-1) [] true false (.bj 1361) [] 0 TG)
def kZ (p ln:Nat) (c:Int) (k:Nat):bU:=LS p ln c k (rr [Zc] (-1) [] false true (.bj 1361) [] 0 TG)
def kX (p ln k:Nat):bU:=LS p ln 3 k (rr [DEN] (-1) [] false false (.bj 1361) [] 0 TG)
def k0 (tg:ae):bU:=LS 0 0 0 0 (rr [Sy] (-1) [] true false (.bj 1340) [] 0 tg)
def k1 (tg:ae):bU:=LS 0 0 0 1 (rr [] (-1) [] true false (.bj 1347) [] 0 tg)
def k2 (p ln k:Nat):bU:=LS p ln 1 k (rr [ZD,SN] 0 [-1] true false (.bj 1382) [1361] 0 TG)
def kE (p ln:Nat) (c:Int) (k:Nat) (toks:List DV) (dn:Bool) (st:Nat) (mk:Nat) (sts:List Nat):bU:=LS p ln c k (rr toks (-1) [] false dn (.bj st) sts mk TG)
def kF (p ln:Nat) (c:Int) (k:Nat) (dn:Bool):bU:=LS p ln c k (rr [] (-1) [] false dn .none [] 0 TG)
def kT (p ln k:Nat):bU:=LS p ln 3 k (rr [] (-1) [] false false (.bj 1368) [1361] 0 (.md wI))
def IL (nl:List Nat) (bL:Bool):List Nat:=bif bL then 46::46::46::(nl++[0]) else[0]
def tIn (b:Bool):DV:=bif b then kH else gd
def eIn (b:Bool):DV:=tok2 (bif b then 633 else 609)
def nl3:List Nat:=[10,13,133]
def UJ:((0:Int),1)∈MV:=.tail _ (.head _)
def Pm:((2:Int),3)∈MV:=.tail _ (.tail _ (.head _))
section
variable (p l c:DV) (r:Rs)
def Al:put (iz p l c {r with tags:=.md wI}) tK (.pv (.iI wI))=iz p l c {r with tags:=TG}:=(bk ..).symm.trans (show bS (iz p l c {r with tags:=.md wI}) tK (.pv (.iI wI))=_ by kernel_rfl)
def x5:look (iz p l c {r with tags:=.md wI}) tK=some (.md wI):=(aG ..).symm.trans (show aS (iz p l c {r with tags:=.md wI}) tK=_ by kernel_rfl)
end
section
variable {U:Program} {w:World} {B0:Base}
def af.G0 {n:Nat} {f:Value} {args:List DV} {kw:List (Str×DV)} {a:bU} {ev:DV} {p ln k:Nat} (h:af U w 1521 B0 n f args kw a ev (kT p ln k)):af U w 1521 B0 n f args kw a ev (kD p ln k):=
 show af U w 1521 B0 n f args kw a ev (some _) from Al (.sint 17 p) (.sint 17 ln) (.int 3) (rr [] (-1) [] false false (.bj 1368) [1361] 0 TG (.sint 17 k))▸af.vw (x:=tK) h (x5 ..)
def Step.rest {a:bU} {t:DV} {p ln k:Nat} (h:Step U w B0 a t (kT p ln k)):Step U w B0 a t (kD p ln k):=
 gm h λqq aH c₁ h=>gm h λp' l' c' h=>gm h λzH r r' h=>gm h λf cc fs h=>a5 h λe _ hf hc ht=>⟨qq,aH,c₁,_,_,_,_,r,rr [] (-1) [] false false (.bj 1368) [1361] 0 TG (.sint 17 k),f,cc,fs,e,rfl,hf,hc.G0,ht⟩
variable (T0:cQ (KF (HH w)) B0) (hl:bw B0) (ck:B0.V.β 17=0) {p ln k:Nat} {B:gf} {ch:eB} {rest:List Nat} {g:Option (List Nat)} (h1:1<=p) {y z:Nat} (hg:∀nl,g=some nl->nl∈iH)
include T0 hl
theorem X6:Step U w B0 (k0 (.md [])) tP (k1 (.md [])):=wz T0 hl 1340 af3 λ_=>KK
theorem aiA:Step U w B0 (k2 p ln k) sY (kC p ln k):=wz T0 hl 1382 (evC 597) λ_=>KK
theorem ac5:Step U w B0 (kM p ln k) Zs (kV p ln (k+3)):=wz T0 hl 1432 af2 λ_=>KK
theorem aiq:Step U w B0 (kE p ln 3 k [BEN,DEN] false 1418 1 [1361]) gd (kX p ln (k+1)):=wz T0 hl 1418 (tok2 609) λ_=>KK
theorem air:Step U w B0 (kE p ln 0 k [BEN,Zc] true 1418 1 [1361]) gd (kZ p ln 0 (k+1)):=wz T0 hl 1418 (tok2 609) λ_=>KK
theorem ac3:Step U w B0 (kX p ln k) (eI true) (kE p ln 3 (k+1) [] false 1354 0 []):=wz T0 hl 1361 (IQ true) λ_=>KK
theorem ac4 {c:Int}:Step U w B0 (kZ p ln c k) (eI false) (kE p ln c k [Zc] true 1354 0 []):=wz T0 hl 1361 (IQ false) λ_=>KK
theorem X9 {c:Int}:Step U w B0 (kE p ln c k [Zc] true 1354 0 []) gJ (kF p ln c (k+1) true):=wz T0 hl 1354 (tok2 513) λ_=>KK
theorem aix:Step U w B0 (kE p ln 3 k [DST] false 1354 0 []) (kL true) (kD p ln (k+1)):=.rest (wz T0 hl 1354 (Oa true) λ_=>KK)
include ck
theorem ais {x:Nat} (h:Lay (B0.V.ς 0) 0 (45::32::x::y::rest)):Step U w B0 (k1 (.md [])) (kL false) (k2 1 0 1):=adq T0 hl ck (cs:=[45,32,x]) (j:=1) 1347 (Oa false) h (oJ 1 _) λ_=>KK
theorem ac1 (x:Nat) (hx:x∈[32,10,13,133]) (h:Lay (B0.V.ς 0) 0 (45::45::45::x::y::z::rest)):Step U w B0 (k1 (.md [])) (kL true) (kD 3 0 2):=.rest (adq T0 hl ck (cs:=[45,45,45,x]) (j:=2) 1347 (Oa true) h (oJ 2 _) (by clear h;revert x;exact pQ KK))
include h1
theorem aiB (nl:List Nat) (hn:nl∈iH) (h:Lay (B0.V.ς 0) p ((nl++[45,32,x])++y::rest)):Step U w B0 (kD p ln k) sY (kC (p+(nl.length+1)) (ln+1) k):=QA T0 hl ck (cs:=nl++[45,32,x]) (j:=1) 1368 (evC 597) h (oJ 1 _) h1 (by clear h;revert nl;exact pQ KK)
theorem aiw (nl:List Nat) (hn:nl∈iH) (h:Lay (B0.V.ς 0) p ((nl++[45,45,45,32])++y::z::rest)):Step U w B0 (kE p ln 3 k [] false 1354 0 []) (kL true) (kD (p+(nl.length+3)) (ln+1) (k+1)):=.rest (QA T0 hl ck (cs:=nl++[45,45,45,32]) (j:=2) 1354 (Oa true) h (oJ 2 _) h1 (by clear h;revert nl;exact pQ KK))
theorem X8 (nl:List Nat) (hn:nl∈iH) (h:Lay (B0.V.ς 0) p (nl++[0])):Step U w B0 (kE p ln 3 k [] false 1354 0 []) gJ (kF (p+nl.length) (ln+1) 0 (k+1) true):=
 RP T0 hl 1354 (tok2 513) (Fi.mpr (EC (V:=B0.V.tag (nu p ln 0 0 0 0 k)) (b1 ck) h h1)) (qT _) (by clear h;revert nl;exact pQ KK)
theorem s_1 (P:Pv) (hP:P∈Ps) (O:B.Ok ch 3) (he:B.e=0) (h:Lay (B0.V.ς 0) p ((32::P.txt)++(B.core++B.c0::rest))):Step U w B0 (kV p ln k) (tS P (B.cF ch).flatten B.st) (kI true (p+(32::P.txt).length+B.len) (ln+B.lines) (k+(P.toks.length+2))):=CX T0 hl ck 1446 P O Pm he h h1 (by clear h;intro _ _ _;revert P;exact qZ KK)
theorem s_2 (P:Pv) (hP:P∈Ps) (O:B.Ok ch 3) (he:B.e=0) (h:Lay (B0.V.ς 0) p ((32::P.txt)++(B.core++B.c0::rest))):Step U w B0 (kR p ln k) (tS P (B.cF ch).flatten B.st) (kI false (p+(32::P.txt).length+B.len) (ln+B.lines) (k+(P.toks.length+3))):=CX T0 hl ck 1411 P O Pm he h h1 (by clear h;intro _ _ _;revert P;exact qZ KK)
theorem s_3 (P:Pv) (hP:P∈Ps) (O:B.Ok ch 3) (he:B.e=2) (h:Lay (B0.V.ς 0) p ((32::P.txt)++(B.core++B.c0::rest))):Step U w B0 (kQ p ln k) (tS P (B.cF ch).flatten B.st) (kW (p+(32::P.txt).length+B.len) (ln+B.lines) (k+(P.toks.length+3))):=CX T0 hl ck 1432 P O Pm he h h1 (by clear h;intro _ _ _;revert P;exact qZ KK)
theorem s_4 (O:B.Ok ch 3) (he:B.e=0) (h:Lay (B0.V.ς 0) p ([58,32]++(B.core++B.c0::rest))):Step U w B0 (kW p ln k) (tS P0 (B.cF ch).flatten B.st) (kI true (p+2+B.len) (ln+B.lines) (k+2)):=CX T0 hl ck 1446 P0 O Pm he h h1 λ_ _ _=>pQ KK
theorem s_5 (P:Pv) (hP:P∈Ps) (O:B.Ok ch 1) (he:B.e=0) (h:Lay (B0.V.ς 0) p ((32::P.txt)++(B.core++B.c0::rest))):Step U w B0 (kD p ln k) (tS P (B.cF ch).flatten B.st) (kO (p+(32::P.txt).length+B.len) (ln+B.lines) (k+(P.toks.length+1))):=CX T0 hl ck 1368 P O (.head _) he h h1 (by clear h;intro _ _ _;revert P;exact qZ KK)
include hg
theorem aiv {b:Bool} {x:Nat} (h:Lay (B0.V.ς 0) p (bC g++(45::32::x::y::rest))):Step U w B0 (kI b p ln k) (tIn b) (kB (p+(bC g).length+1) (ln+ij g) (k+1)):=
 Hb T0 hl ck (cs:=[32,x]) (j:=1) (kIs b) (eIn b) hg (.head _) rfl h (oJ 1 _) (oJ 1 _) h1 λ_=>by cases b<;>kernel_rfl
theorem ait {b:Bool} (x:Nat) (hx:x∈nl3) (h:Lay (B0.V.ς 0) p (bC g++(46::46::46::x::y::rest))):Step U w B0 (kI b p ln k) (tIn b) (kE (p+(bC g).length+3) (ln+ij g) 3 (k+1) [BEN,DEN] false 1418 1 [1361]):=
 Hb T0 hl ck (cs:=[46,46,x]) (j:=1) (kIs b) (eIn b) hg (.tail _ (.head _)) rfl h (oJ 1 _) (oJ 1 _) h1 (by clear h;revert x;cases b<;>exact pQ KK)
theorem aio (x:Nat) (hx:x∈nl3) (h:Lay (B0.V.ς 0) p (bC g++(46::46::46::x::y::rest))):Step U w B0 (kA p ln k) gd (kX (p+(bC g).length+3) (ln+ij g) (k+1)):=
 Hb T0 hl ck (cs:=[46,46,x]) (j:=1) 1418 (tok2 609) hg (.tail _ (.head _)) rfl h (oJ 1 _) (oJ 1 _) h1 (by clear h;revert x;exact pQ KK)
theorem ac6 (x:Nat) (hx:x∈nl3) (h:Lay (B0.V.ς 0) p (bC g++(46::46::46::x::y::rest))):Step U w B0 (kO p ln k) (eI true) (kE (p+(bC g).length+3) (ln+ij g) 3 (k+1) [] false 1354 0 []):=
 Hb T0 hl ck (cs:=[46,46,x]) (j:=1) 1361 (IQ true) hg (.tail _ (.head _)) rfl h (oJ 1 _) (oJ 1 _) h1 (by clear h;revert x;exact pQ KK)
theorem aiz (h:Lay (B0.V.ς 0) p (bC g++(45::45::45::32::y::z::rest))):Step U w B0 (kO p ln k) (eI false) (kE (p+(bC g).length+3) (ln+ij g) 3 k [DST] false 1354 0 []):=
 Hb T0 hl ck (cs:=[45,45,32]) (j:=2) 1361 (IQ false) hg (.head _) rfl h (oJ 2 _) (oJ 1 _) h1 λ_=>KK
theorem aiu {b:Bool} (h:Lay (B0.V.ς 0) p (bC g++[0])):Step U w B0 (kI b p ln k) (tIn b) (kE (p+(bC g).length) (ln+ij g) 0 (k+1) [BEN,Zc] true 1418 1 [1361]):=Yx T0 hl ck (kIs b) (eIn b) hg h h1 λ_=>by cases b<;>kernel_rfl
theorem aip (h:Lay (B0.V.ς 0) p (bC g++[0])):Step U w B0 (kA p ln k) gd (kZ (p+(bC g).length) (ln+ij g) 0 (k+1)):=Yx T0 hl ck 1418 (tok2 609) hg h h1 λ_=>KK
theorem aiy (h:Lay (B0.V.ς 0) p (bC g++[0])):Step U w B0 (kO p ln k) (eI false) (kE (p+(bC g).length) (ln+ij g) 0 k [Zc] true 1354 0 []):=Yx T0 hl ck 1361 (IQ false) hg h h1 λ_=>KK
end
inductive eP (U:Program) (w:World) (B0:Base):bU->List DV->bU->Prop
 |nil {a:bU}:eP U w B0 a [] a
 |cons {a a' ZM:bU} {t:DV} {l:List DV}:Step U w B0 a t a'->eP U w B0 a' l ZM->eP U w B0 a (t::l) ZM
def eP.app {U:Program} {w:World} {B0:Base} {a a' ZM:bU} {l l':List DV} (h:eP U w B0 a l a') (k:eP U w B0 a' l' ZM):eP U w B0 a (l++l') ZM:=by
 induction h with
 |nil=>exact k
 |cons s _ ih=>exact .cons s (ih k)
def eP.one {U:Program} {w:World} {B0:Base} {a a':bU} {t:DV} (h:Step U w B0 a t a'):eP U w B0 a [t] a':=.cons h .nil
def ZE (S:List Nat) (a:bU) (q ln:Nat):Prop:=(∃k,a=kB q ln k)\/(∃k,a=kC q ln k)\/∃k p l0 g R,a=kA p l0 k/\q=p+(bC g).length+1/\ln=l0+ij g/\(∀nl,g=some nl->nl∈iH)/\1<=p/\Lay S p (bC g++45::R)
inductive Turn:List Nat->Nat->List DV->Prop
 |a {P:Pv} (hP:P∈Ps) {B:gf} {ch:eB} (O:B.Ok ch 1) (he:B.e=0):Turn ((32::P.txt)++B.core) B.c0 [tS P (B.cF ch).flatten B.st]
 |b {P:Pv} (hP:P∈Ps) {B:gf} {ch:eB} (O:B.Ok ch 3) (he:B.e=0):Turn ([32,107,58]++((32::P.txt)++B.core)) B.c0 [sW,Zs,tS P (B.cF ch).flatten B.st,kH]
 |c {P:Pv} (hP:P∈Ps) {B:gf} {ch:eB} (O:B.Ok ch 3) (he:B.e=0):Turn ([32,45]++((32::P.txt)++B.core)) B.c0 [sY,tS P (B.cF ch).flatten B.st,gd]
 |d {P:Pv} (hP:P∈Ps) {B B2:gf} {ch ch2:eB} (O:B.Ok ch 3) (he:B.e=2) (hc:B.c0=58) (O2:B2.Ok ch2 3) (he2:B2.e=0):Turn ([32,63]++((32::P.txt)++(B.core++([58,32]++B2.core)))) B2.c0 [sW,tS P (B.cF ch).flatten B.st,tS P0 (B2.cF ch2).flatten B2.st,kH]
structure Tn where
 txt:List Nat
 c0:Nat
 told:List DV
 g:Option (List Nat)
def Tn.Ok (t:Tn):Prop:=Turn t.txt t.c0 t.told/\∀nl,t.g=some nl->nl∈iH
def SP (a:bU) (p ln:Nat) (pend:List DV):Prop:=(∃k,a=kA p ln k/\pend=[])\/∃k b,a=kI b p ln k/\pend=[tIn b]
def lP (q:Nat) (l:List Nat) (B:gf):q+l.length+B.len=q+(l++B.core).length:=by rw[c9,B.rA,zN]
def MG (q:Nat) (l:List Nat) (B B2:gf):q+2+(l++B.core).length+2+B2.len=q+([32,63]++(l++(B.core++([58,32]++B2.core)))).length:=by simp[B2.rA];omega
def wh (P:Pv) (B:gf) (r:List Nat):∃y l,P.txt++(B.core++r)=y::l:=by
 cases P.txt with
 |nil=>exact⟨B.st,_,rfl⟩
 |cons y l=>exact⟨y,_,rfl⟩
section
variable {U:Program} {w:World} {B0:Base} (T0:cQ (KF (HH w)) B0) (hl:bw B0) (ck:B0.V.β 17=0) {a:bU} {q ln:Nat} {rest:List Nat} (h1:1<=q)
include T0 hl ck h1
theorem first (hB:ZE (B0.V.ς 0) a q ln) {cs:List Nat} {y d:Nat} {ev t:DV} {c':Int} {r':DV->Rs} (h:Lay (B0.V.ς 0) q (cs++y::rest)) (cb:∀p ln k,HG (HH w) (nu p ln 0 0 0 0 k) [Sh 1 cs 1] [] 1418 1 (rr [SN] 0 [-1] true false (.bj 1418) [1361] 1 TG) ev t (kB p ln k) (LS (p+d) ln c' (k+1) r'))
 (cc:∀p ln k,HG (HH w) (nu p ln 0 0 0 0 k) [Sh 1 cs 1] [] 1411 1 (rr [ZD,SN] 0 [-1] true false (.bj 1411) [1361] 0 TG) ev t (kC p ln k) (LS (p+d) ln c' (k+2) r')) (ca:∀p ln p5 l6 k,HG (HH w) (nu p ln 0 0 p5 l6 k) [Sh 5 (45::cs) 1] [jg] 1418 0 (rr [] 0 [-1] true false (.bj 1418) [1361] 1 TG) ev t (kA p ln k) (LS (p5+1+d) l6 c' (k+1) r'))
 (e2:∀k,r' k=(r' k).to .none (r' k).state:=by exactλ_=>rfl):∃k',Step U w B0 a t (LS (q+d) ln c' k' r'):=by
 refine hB.elim (λx=>fi x λk e=>⟨k+1,e▸QA T0 hl ck 1418 ev h (oJ 1 _) h1 (cb q ln k) (λ_=>rfl) e2⟩) λx=>x.elim (λx=>fi x λk e=>⟨k+2,e▸QA T0 hl ck 1411 ev h (oJ 1 _) h1 (cc q ln k) (λ_=>rfl) e2⟩) λx=>gm x λk p l0 x=>dk x λg R x=>a6 x λe eq el hg hp hL=>⟨k+1,?_⟩
 subst e eq el
 have eR:R=cs++y::rest:=(Lay.app (a:=[45]) hL.app).2.symm.trans h.2
 exact Hb T0 hl ck (rest:=y::rest) 1418 ev hg (.head _) rfl (eR▸hL) (oJ 1 _) (oJ 1 _) hp (ca p l0 _ _ k) (λ_=>rfl) e2
theorem Oc (hB:ZE (B0.V.ς 0) a q ln) (P:Pv) (hP:P∈Ps) {B:gf} {ch:eB} (O:B.Ok ch 1) (he:B.e=0) (h:Lay (B0.V.ς 0) q ((32::P.txt)++(B.core++B.c0::rest))):∃k,Step U w B0 a (tS P (B.cF ch).flatten B.st) (kA (q+(32::P.txt).length+B.len) (ln+B.lines) k):=by
 refine hB.elim (λx=>fi x λk e=>⟨k+(P.toks.length+2),e▸CX T0 hl ck 1418 P O UJ he h h1 (by clear h;intro _ _ _;revert P;exact qZ KK)⟩) λx=>x.elim (λx=>fi x λk e=>⟨k+(P.toks.length+3),e▸CX T0 hl ck 1411 P O UJ he h h1 (by clear h;intro _ _ _;revert P;exact qZ KK)⟩)
  λx=>gm x λk p l0 x=>dk x λg R x=>a6 x λe eq el hg hp hL=>⟨k+(P.toks.length+2),?_⟩
 subst e eq el
 have eR:R=(32::P.txt)++(B.core++B.c0::rest):=(Lay.app (a:=[45]) hL.app).2.symm.trans h.2
 have s:=aiG (U:=U) (k':=k+(P.toks.length+2)) (r':=rr [] 0 [-1] true false (.bj 1418) [1361] 1 TG) T0 hl ck 1418 P O UJ he hg (eR▸hL) hp (m:=k) (ln:=l0) (c:=0) (r:=rr [] 0 [-1] true false (.bj 1418) [1361] 1 TG) (by clear h eR;intro _ _ _ _ _;revert P;exact qZ KK)
 rw[show p+(bC g).length+1+(32::P.txt).length=p+(bC g).length+(45::32::P.txt).length from Rg ..]
 exact s
theorem zu (hB:ZE (B0.V.ς 0) a q ln) {txt:List Nat} {c0:Nat} {told:List DV} (T:Turn txt c0 told) (h:Lay (B0.V.ς 0) q (txt++c0::rest)):∃a' l pend pd,eP U w B0 a l a'/\SP a' (q+txt.length) pd pend/\told=l++pend:=by
 cases T with
 |a hP O he=>
  rw[fb] at h
  exact fi (Oc (U:=U) T0 hl ck h1 hB _ hP O he h) λk s=>⟨_,_,[],_,.one s,by rw[<-lP];exact .inl ⟨k,rfl,rfl⟩,rfl⟩
 |@b P hP B ch O he=>
  rw[fb,fb] at h
  refine dk (wh P B (B.c0::rest)) λy l e=>fi (first (U:=U) T0 hl ck h1 hB (cs:=[32,107,58,32]) (d:=3) (y:=y) (rest:=l) (ev:=evC 621) (t:=sW) (c':=4) (r':=rr [BMS,KEY,adB,VAL] 2 [-1,0] false false (.bj 1432) [1361,1418] 1 TG) (e▸h) (λ_ _ _ _=>KK) (λ_ _ _ _=>KK) (λ_ _ _ _ _ _=>KK)) λk s=>?_
  have s2:=s_1 (U:=U) T0 hl ck (zO h1) (k:=k+3) (ln:=ln) P hP O he h.app
  rw[lP,zN q,<-c9] at s2
  exact⟨_,_,[kH],_,.cons s (.cons (ac5 T0 hl) (.one s2)),(.inr ⟨_,true,rfl,rfl⟩),rfl⟩
 |@c P hP B ch O he=>
  rw[fb,fb] at h
  refine dk (wh P B (B.c0::rest)) λy l e=>fi (first (U:=U) T0 hl ck h1 hB (cs:=[32,45,32]) (d:=2) (y:=y) (rest:=l) (ev:=evC 597) (t:=sY) (c':=3) (r':=rr [ZD,SN] 2 [-1,0] true false (.bj 1411) [1361,1418] 1 TG) (e▸h) (λ_ _ _ _=>KK) (λ_ _ _ _=>KK) (λ_ _ _ _ _ _=>KK)) λk s=>?_
  have s2:=s_2 (U:=U) T0 hl ck (zO h1) (k:=k) (ln:=ln) P hP O he h.app
  rw[lP,zN q,<-c9] at s2
  exact⟨_,_,[gd],_,.cons s (.one s2),(.inr ⟨_,false,rfl,rfl⟩),rfl⟩
 |@d P hP B B2 ch ch2 O he hc O2 he2=>
  rw[fb,fb,fb,fb] at h
  refine dk (wh P B ([58,32]++(B2.core++B2.c0::rest))) λy l e=>fi (first (U:=U) T0 hl ck h1 hB (cs:=[32,63,32]) (d:=2) (y:=y) (rest:=l) (ev:=evC 621) (t:=sW) (c':=3) (r':=rr [BMS,KEY] 2 [-1,0] true false (.bj 1432) [1361,1418] 1 TG) (e▸h) (λ_ _ _ _=>KK) (λ_ _ _ _=>KK) (λ_ _ _ _ _ _=>KK)) λk s=>?_
  have h2:=h.app
  have s2:=s_3 (U:=U) T0 hl ck (zO h1) (k:=k) (ln:=ln) (rest:=32::(B2.core++B2.c0::rest)) P hP O he (hc▸h2)
  have h3:=h2.app.app
  rw[lP] at s2
  rw[B.rA,lP] at h3
  have s3:=s_4 (U:=U) T0 hl ck (zO (zO h1)) (k:=k+(P.toks.length+3)) (ln:=ln+B.lines) O2 he2 h3
  rw[show q+[32,63].length+((32::P.txt)++B.core).length+2+B2.len=_ from MG ..] at s3
  exact⟨_,_,[kH],_,.cons s (.cons s2 (.one s3)),.inr ⟨_,true,rfl,rfl⟩,rfl⟩
end
def jM (nl:List Nat) (bL:Bool) (ts:List Tn):List Nat:=List.rec (motive:=λ_=>List Nat) (IL nl bL) (λt _ ih=>45::(t.txt++(bC t.g++ih))) ts
def wo (nl:List Nat) (bL:Bool) (ts:List Tn):Prop:=List.rec (motive:=λ_=>Prop) True (λt ts ih=>t.Ok/\(∃l,bC t.g++jM nl bL ts=t.c0::l)/\ih) ts
def jJ (nl:List Nat) (bL:Bool):List Nat:=bif bL then 46::46::46::nl else[]
def je (nl:List Nat) (bL:Bool) (ts:List Tn):List Nat:=List.rec (motive:=λ_=>List Nat) [0] (λt _ ih=>45::45::45::(t.txt++(bC t.g++(jJ nl bL++ih)))) ts
def Tn.DocOk (t:Tn):Prop:=(∃P B ch,P∈Ps/\gf.Ok B ch 1/\B.e=0/\t.txt=(32::P.txt)++B.core/\t.c0=B.c0/\t.told=[tS P (B.cF ch).flatten B.st])/\∀nl,t.g=some nl->nl∈iH
def vn (nl:List Nat) (bL:Bool) (ts:List Tn):Prop:=List.rec (motive:=λ_=>Prop) True (λt ts ih=>t.DocOk/\(∃l,bC t.g++(jJ nl bL++je nl bL ts)=t.c0::l)/\ih) ts
def Tn.mO (t:Tn) (bL:Bool):List DV:=kL true::(t.told++[eI bL])
def Cw:∀nl∈iH,∃x l,nl=x::l/\x∈nl3:=ux
def Iq {B:gf} {ch:eB} {M:Nat} (O:B.Ok ch M):∃x y l,B.core=x::y::l:=mw (ux _ O.nl) λx l e _=>by
 unfold gf.core
 rw[e]
 cases B.h.txt with
 |cons a b=>exact⟨_,_,_,rfl⟩
 |nil=>cases B.t<;>exact⟨_,_,_,rfl⟩
def P6 {B:gf} {ch:eB} {M:Nat} (O:B.Ok ch M) (l r:List Nat):∃x y l',l++(B.core++r)=x::y::l':=gm (Iq O) λx y l' e=>by
 rw[e]
 cases l with
 |nil=>exact⟨_,_,_,rfl⟩
 |cons a b=>cases b<;>exact⟨_,_,_,rfl⟩
def qR {txt:List Nat} {c0:Nat} {told:List DV} (T:Turn txt c0 told) (r:List Nat):∃x y l,txt++r=32::x::y::l:=by
 cases T with
 |a hP O he=>exact gm (P6 O _ r) λx y l e=>⟨x,y,l,by rw[fb];exact aT (32::·) e⟩
 |b=>exact⟨_,_,_,rfl⟩
 |c=>exact⟨_,_,_,rfl⟩
 |d=>exact⟨_,_,_,rfl⟩
section
variable {U:Program} {w:World} {B0:Base} (T0:cQ (KF (HH w)) B0) (hl:bw B0) (ck:B0.V.β 17=0) {a:bU} {ln:Nat} {nl:List Nat} (hn:nl∈iH)
include T0 hl ck
include hn in
theorem next_end {p:Nat} {pend:List DV} (hF:SP a p ln pend) {g:Option (List Nat)} {bL:Bool} (hg:∀nl,g=some nl->nl∈iH) (h1:1<=p) (h:Lay (B0.V.ς 0) p (bC g++IL nl bL)):∃p' pd c k,eP U w B0 a (pend++[gd,eI bL,gJ]) (kF p' pd c k true):=by
 cases bL with
 |true=>
  refine mw (Cw nl hn) λx l e hx=>?_
  have hz:Lay (B0.V.ς 0) (p+(bC g).length+3) (nl++[0]):=Lay.app (a:=[46,46,46]) h.app
  have hp:1<=p+(bC g).length+3:=zO (zO h1)
  have hy:∃y l',l++[0]=y::l':=by cases l<;>exact⟨_,_,rfl⟩
  refine dk hy λy l' hy=>?_
  have h:Lay (B0.V.ς 0) p (bC g++(46::46::46::x::y::l')):=hy▸(by rw[e] at h;exact h)
  exact hF.elim (λq=>bz q λk e z=>by subst e z;exact⟨_,_,_,_,.cons (aio T0 hl ck h1 hg x hx h) (.cons (ac3 T0 hl) (.one (X8 T0 hl ck hp nl hn hz)))⟩)
   λq=>mw q λk b e z=>by subst e z;exact⟨_,_,_,_,.cons (ait T0 hl ck h1 hg x hx h) (.cons (aiq T0 hl) (.cons (ac3 T0 hl) (.one (X8 T0 hl ck hp nl hn hz))))⟩
 |false=>
  exact hF.elim (λq=>bz q λk e z=>by subst e z;exact⟨_,_,_,_,.cons (aip T0 hl ck h1 hg h) (.cons (ac4 T0 hl) (.one (X9 T0 hl)))⟩) λq=>mw q λk b e z=>by subst e z;exact⟨_,_,_,_,.cons (aiu T0 hl ck h1 hg h) (.cons (air T0 hl) (.cons (ac4 T0 hl) (.one (X9 T0 hl))))⟩
theorem K6 {p x y:Nat} {pend:List DV} (hF:SP a p ln pend) {g:Option (List Nat)} {rest:List Nat} (hg:∀nl,g=some nl->nl∈iH) (h1:1<=p) (h:Lay (B0.V.ς 0) p (bC g++(45::32::x::y::rest))):∃a',eP U w B0 a pend a'/\ZE (B0.V.ς 0) a' (p+(bC g).length+1) (ln+ij g):=
 hF.elim (λq=>bz q λk e z=>by subst e z;exact⟨_,.nil,.inr (.inr ⟨k,p,ln,g,_,rfl,rfl,rfl,hg,h1,h⟩)⟩) λq=>mw q λk b e z=>by subst e z;exact⟨_,.one (aiv T0 hl ck h1 hg h),.inl ⟨_,rfl⟩⟩
include hn
theorem yR (bL:Bool) (ts:List Tn):∀(t:Tn) (a:bU) (q ln:Nat),ZE (B0.V.ς 0) a q ln->1<=q->wo nl bL (t::ts)->Lay (B0.V.ς 0) q (t.txt++(bC t.g++jM nl bL ts))->
 ∃p' pd c k,eP U w B0 a ((((t::ts).map Tn.told).flatten)++[gd,eI bL,gJ]) (kF p' pd c k true):=by
 induction ts with
 |nil=>
  exactλt a q ln hB h1 O h=>fi O.2.1 λl hc=>dk (zu (U:=U) T0 hl ck h1 hB O.1.1 (rest:=l) (by rw[<-hc];exact h)) λa' l' q=>zE q λpend pd e1 hF et=>dk (next_end (U:=U) T0 hl ck hn hF O.1.2 (zO h1) h.app) λp' UH q=>dk q λc k e2=>⟨p',UH,c,k,by
   show eP U w B0 a ((t.told++[])++_) _
   rw[ti,et,fb]
   exact e1.app e2⟩
 |cons t' ts ih=>
  exactλt a q ln hB h1 O h=>fi O.2.1 λl hc=>dk (zu (U:=U) T0 hl ck h1 hB O.1.1 (rest:=l) (by rw[<-hc];exact h)) λa' l' q=>zE q λpend pd e1 hF et=>gm (qR O.2.2.1.1 (bC t'.g++jM nl bL ts)) λx y l2 e=>bz (K6 (U:=U) T0 hl ck hF O.1.2 (zO h1) (x:=x) (y:=y) (rest:=l2) (e▸h.app)) λa2 e2 hB2=>
   dk (ih t' a2 _ _ hB2 (oJ 1 _) O.2.2 (Lay.app (a:=[45]) h.app.app)) λp' UH q=>dk q λc k e3=>⟨p',UH,c,k,by
    show eP U w B0 a ((t.told++((t'::ts).map Tn.told).flatten)++_) _
    rw[fb,et]
    exact(e1.app e2).app e3⟩
omit T0 hl ck hn in
theorem DI {t:Tn} (O:t.DocOk) (r:List Nat):∃x y l,t.txt++r=32::x::y::l:=gm O.1 λP B ch q=>a6 q λhP OB he et _ _=>et▸qR (.a hP OB he) r
theorem IF (bL:Bool) (ts:List Tn):∀(t:Tn) (p ln k:Nat),1<=p->vn nl bL (t::ts)->Lay (B0.V.ς 0) p (t.txt++(bC t.g++(jJ nl bL++je nl bL ts)))->
 ∃p' pd c k',eP U w B0 (kD p ln k) ((t.told++[eI bL])++((ts.map λt=>t.mO bL).flatten++[gJ])) (kF p' pd c k' true):=by
 have first:∀{ts} (t:Tn) (p ln k:Nat),1<=p->vn nl bL (t::ts)->Lay (B0.V.ς 0) p (t.txt++(bC t.g++(jJ nl bL++je nl bL ts)))->∃pd k' x,t.told=[x]/\Step U w B0 (kD p ln k) x (kO (p+t.txt.length) pd k'):=λt p ln k h1 O h=>fi O.2.1 λl hc=>gm O.1.1 λP B ch q=>a6 q λhP OB he et ec eo=>by
  rw[hc,ec,et,fb] at h
  rw[et,<-lP]
  exact⟨_,_,_,eo,s_5 T0 hl ck h1 P hP OB he h⟩
 refine mw (Cw nl hn) λx l e hx=>?_
 induction ts with
 |nil=>
  refineλt p ln k h1 O h=>e32 (first t p ln k h1 O h) λpd k' x' eo s5=>?_
  have h2:=h.app
  have hp:=zO (k:=t.txt.length) h1
  rw[eo]
  cases bL with
  |false=>exact⟨_,_,_,_,.cons s5 (.cons (aiy T0 hl ck hp O.1.2 h2) (.one (X9 T0 hl)))⟩
  |true=>
   have hy:∃y l',l++[0]=y::l':=by cases l<;>exact⟨_,_,rfl⟩
   exact dk hy λy l' hy=>⟨_,_,_,_,.cons s5 (.cons (ac6 T0 hl ck hp O.1.2 x hx (y:=y) (rest:=l') (hy▸(by rw[e] at h2;exact h2))) (.one (X8 T0 hl ck (zO (zO hp)) nl hn (Lay.app (a:=[46,46,46]) h2.app))))⟩
 |cons t' ts ih=>
  refineλt p ln k h1 O h=>e32 (first t p ln k h1 O h) λpd k' x' eo s5=>gm (DI O.2.2.1 (bC t'.g++(jJ nl bL++je nl bL ts))) λy z l2 e2=>?_
  have h2:=h.app
  have hp:=zO (k:=t.txt.length) h1
  have hq:1<=p+t.txt.length+(bC t.g).length+3:=SI (by decide)
  have app:∀{A F:List DV},[x']++[eI bL]++((kL true::(A++[eI bL])++F)++[gJ])=x'::eI bL::kL true::((A++[eI bL])++(F++[gJ])):=by
   intro A F
   rw[fb (kL true::_)];rfl
  rw[eo,show((t'::ts).map λt=>t.mO bL).flatten=kL true::(t'.told++[eI bL])++(ts.map λt=>t.mO bL).flatten from rfl,app]
  cases bL with
  |false=>
   have h3:Lay (B0.V.ς 0) (p+t.txt.length) (bC t.g++(45::45::45::(t'.txt++(bC t'.g++(jJ nl false++je nl false ts))))):=h2
   exact dk (ih t' _ (pd+ij t.g) (k'+1) hq O.2.2 (Lay.app (a:=[45,45,45]) h3.app)) λp' l' q=>dk q λc k'' e4=>⟨p',l',c,k'',.cons s5 (.cons (aiz T0 hl ck hp O.1.2 (e2▸h3)) (.cons (aix T0 hl) e4))⟩
  |true=>
   have h3:Lay (B0.V.ς 0) (p+t.txt.length) (bC t.g++(46::46::46::(nl++(45::45::45::(t'.txt++(bC t'.g++(jJ nl true++je nl true ts))))))):=h2
   have h4:=Lay.app (a:=[46,46,46]) h3.app
   have hy:∃y l',l++(45::45::45::(t'.txt++(bC t'.g++(jJ nl true++je nl true ts))))=y::l':=by cases l<;>exact⟨_,_,rfl⟩
   exact dk hy λy' l3 hy=>dk (ih t' _ (pd+ij t.g+1) (k'+1+1) (SI (by decide)) O.2.2 (Lay.app (a:=[45,45,45]) h4.app)) λp' l' q=>dk q λc k'' e4=>⟨p',l',c,k'',.cons s5 (.cons (ac6 T0 hl ck hp O.1.2 x hx (y:=y') (rest:=l3) (hy▸(by rw[e] at h3 ⊢;exact h3)))
    (.cons (aiw T0 hl ck hq nl hn (y:=y) (z:=z) (rest:=l2) (by rw[e2] at h4;rw[fb];exact h4)) e4))⟩
omit T0 hl ck hn in
theorem two_of (l:List Nat) (a b:Nat) (r:List Nat):∃y z r',l++a::b::r=y::z::r':=by
 cases l with
 |nil=>exact⟨_,_,_,rfl⟩
 |cons _ l=>cases l<;>exact⟨_,_,_,rfl⟩
theorem ZP (bL:Bool) {t:Tn} {ts:List Tn} (O:wo nl bL (t::ts)) (h:B0.V.ς 0=jM nl bL (t::ts)):
 ∃p' pd c k,eP U w B0 (k0 (.md [])) ([tP,kL false,sY]++(((t::ts).map Tn.told).flatten++[gd,eI bL,gJ])) (kF p' pd c k true):=gm (qR O.1.1 (bC t.g++jM nl bL ts)) λx y l e=>by
 have h0:Lay (B0.V.ς 0) 0 (45::(t.txt++(bC t.g++jM nl bL ts))):=⟨jP _,h⟩
 exact dk (yR (U:=U) T0 hl ck hn bL ts t (kC 1 0 1) 1 0 (.inr (.inl ⟨1,rfl⟩)) (fu 1) O (HD 1▸Lay.app (a:=[45]) h0)) λp' pd q=>dk q λc k e1=>⟨p',pd,c,k,.cons (X6 T0 hl) (.cons (ais T0 hl ck (e▸h0)) (.cons (aiA T0 hl) e1))⟩
theorem ZQ (bL:Bool) {t:Tn} {ts:List Tn} (O:wo nl bL (t::ts)) (h:B0.V.ς 0=45::45::45::(nl++jM nl bL (t::ts))):
 ∃p' pd c k,eP U w B0 (k0 (.md [])) ([tP,kL true,sY]++(((t::ts).map Tn.told).flatten++[gd,eI bL,gJ])) (kF p' pd c k true):=gm (qR O.1.1 (bC t.g++jM nl bL ts)) λx y l e=>mw (Cw nl hn) λz l1 en hz=>gm (two_of l1 45 32 (x::y::l)) λu v l2 e2=>by
 have h0:Lay (B0.V.ς 0) 0 (45::45::45::(nl++(45::(t.txt++(bC t.g++jM nl bL ts))))):=⟨jP _,h⟩
 have h3:Lay (B0.V.ς 0) 3 (nl++(45::(t.txt++(bC t.g++jM nl bL ts)))):=HD 3▸Lay.app (a:=[45,45,45]) h0
 have hd:Lay (B0.V.ς 0) 0 (45::45::45::z::u::v::l2):=by rw[e,en] at h0;exact e2▸h0
 exact dk (yR (U:=U) T0 hl ck hn bL ts t (kC (3+(nl.length+1)) 1 2) _ 1 (.inr (.inl ⟨2,rfl⟩)) (SI (oJ 1 _)) O (Lay.app (a:=[45]) h3.app)) λp' pd q=>dk q λc k e1=>⟨p',pd,c,k,.cons (X6 T0 hl) (.cons (ac1 T0 hl ck z (.tail _ hz) hd) (.cons (aiB T0 hl ck (by decide) nl hn (x:=x) (y:=y) (rest:=l) (by rw[e] at h3;rw[fb];exact h3)) e1))⟩
theorem ZR (bL:Bool) {t:Tn} {ts:List Tn} (O:vn nl bL (t::ts)) (h:B0.V.ς 0=je nl bL (t::ts)):
 ∃p' pd c k,eP U w B0 (k0 (.md [])) ([tP]++(((t::ts).map λt=>t.mO bL).flatten++[gJ])) (kF p' pd c k true):=gm (DI O.1 (bC t.g++(jJ nl bL++je nl bL ts))) λy z l2 e=>by
 have h0:Lay (B0.V.ς 0) 0 (45::45::45::(t.txt++(bC t.g++(jJ nl bL++je nl bL ts)))):=⟨jP _,h⟩
 refine dk (IF (U:=U) T0 hl ck hn bL ts t 3 0 2 (by decide) O (HD 3▸Lay.app (a:=[45,45,45]) h0)) λp' pd q=>dk q λc k e1=>⟨p',pd,c,k,?_⟩
 rw[show[tP]++(((t::ts).map λt=>t.mO bL).flatten++[gJ])=tP::kL true::((t.told++[eI bL])++((ts.map λt=>t.mO bL).flatten++[gJ])) from aT (tP::kL true::·) (fb ..)]
 exact .cons (X6 T0 hl) (.cons (ac1 T0 hl ck 32 (.head _) (e▸h0)) e1)
end
structure HP (U:Program) (Y:Base) (K:Frag) (C:Nat) (sc:Scope) (env:Env) (name:Str) (f2:Nat):Prop where
 hks:sc.names.lookup ("super":Str)=some .globalImplicit
 hkc:sc.names.lookup ("__class__":Str)=some .free
 hka:sc.names.lookup ag=some .local
 fn:∃f of fd ar,env.func=some f/\Y.hp.get? f=some of/\of.data=.func fd/\(fd.params.posonlyargs++fd.params.args).head?=some ar/\ar.arg=ag
 code:∃cda oc vs file tf,env.code=.ref cda/\Y.hp.get? cda=some oc/\oc.data=.fields vs/\vs[2]?=some (.str file tf)/\((U.main.file:Str)==file)=true
 ag4:(U.main.scope.names.lookup ("super":Str)).isSome=false
 cell:∃cc oc D cdD,env.cells.lookup ("__class__":Str)=some cc/\Y.hp.get? cc=some oc/\oc.data=.cell (some (.ref D))/\clsIn K D=some cdD/\mroIn K C (.ref D)=some true/\ks_superIn K C D name=some (some (.ref f2))
 T8:nsIn K mainGlobals "super"=some none
 aaL:bootBuiltins "super"=some (.type "super")
 hno:nsIn K cStatics "thirdparty.any"=some none
 ht:typeIn K (.ref f2)=some (.type "function")
 hn:(name==("__class__":Str))=false
 hfn:fnIn K f2=true
def Ii {K:Frag} {D:Nat} {cd:ClassData} (h:clsIn K D=some cd) {hh:Heap} (X:K.In hh):∃o,hh.get? D=some o/\o.data=.cls cd:=by
 unfold clsIn at h
 split at h
 ·rename_i ho
  cases h
  exact⟨_,X _ _ ho,rfl⟩
 ·cases h
def aav {K:Frag} {f:Nat} (h:typeIn K (.ref f)=some (.type "function")) {hh:Heap} (X:K.In hh):∃o,hh.get? f=some o/\o.cls=.type "function":=
 bz (xl.mp (show(K.lookup f).map (·.cls)=some (.type "function") from h)) λo e q=>⟨o,X _ _ e,q⟩
section
variable {U:Program} {w:World} {C:Nat} {K:Frag} {Y:Base} {sc:Scope} {d:Nat} {Z:aj}
def qr {A:Around} {c:Code} {s:Shared} {env:Env} {o:Expr} {x:Str} {apos pos:Pos} {args:List Expr} {da:List Keyword} {Q:Value->Shared->Prop} (hf:dR args da apos pos=true)
    (h:_root_.PySem.wpAt (model U w) A c (attributeBase o x env (eval o env)) (λov ax=>∀pl,WP U w A (getMethod ov x pl) ax λfx ay=>WP U w A (callWith pos fx.1 fx.2 (backTo pos (starEach args env)) (backToKw pos (keywordEach da env))) ay Q) (λ_ _=>False) s):
    _root_.PySem.wpAt (model U w) A c (eval (.Call (.Attribute o x apos) args da pos) env) Q (λ_ _=>False) s:=by
 show _root_.PySem.wpAt (model U w) A c (attributeBase o x env (eval o env) >>= λov=>standAt apos.atName >>= λ_=>methodCall o x apos pos env ov (args.length+da.length) (backTo pos (starEach args env)) (backToKw pos (keywordEach da env))) Q _ s
 refine _root_.PySem.wpAt_bind (_root_.PySem.wpAt_mono h (λov ax cf=>_root_.PySem.wpAt_of_wpAny (eO (Rl ?_))) λ_ _ x=>x)
 unfold methodCall
 rw[xW hf]
 refine eO (M9 (WP.mono (cf _) λfx ay cP=>?_))
 unfold methodCallPos
 rw[(aw (aw (aw hf).2).2).2]
 exact eO (k5 cP)
def CZ {A:Around} {G:Gh} {L:Addr} {s:Shared} {env:Env} {body:List Stmt} {p0 p1 apos pos:Pos} {name:Str} {e:Expr} {v r:DV} {f2:Nat} {as:List (Str×ae)} {aX:bU} (T:cQ K Y) (S:HP U Y K C sc env name f2) (eo:cN sc L env) (ro:dH A d)
    (R:Rep w.params C Y G L Z s) (hs:Z.aq=some as) (Jr:look Z.loc ag=some (.pv .self)) (ha:dI U w C Y sc d [e] Z [v] Z) (hc:af U w C Y d (.ref f2) [.self,v] [] Z.aq r aX)
    (T3:dR [e] [] apos pos=true) {Q:Value->Shared->Prop} (kk:∀G' u s',Rep w.params C Y G' L ⟨aX,Z.loc⟩ s'->Later G.OA G s G' s'->Q u s'):
    _root_.PySem.wpAt (model U w) A (.func body env) (eval (.Call (.Attribute (.Call (.Name "super" p0) [] [] p1) name apos) [e] [] pos) env) Q (λ_ _=>False) s:=by
 have kp:∀b o,Y.hp.get? b=some o->s.heap.get? b=some o:=λb o q=>R.pins b o (R.dQ b o q)
 have X:K.In s.heap:=fk T R
 have sc0:∀{x k},sc.names.lookup x=some k->env.kindOf x=some k:=λh=>by unfold Env.kindOf;rw[eo.scope];exact h
 have kd:=eo.scope▸eo.kind
 refine gm S.fn λf of fd q=>fi q λar q=>a5 q λe1 e2 e3 e4 e5=>gm S.code λcda oc vs q=>dk q λfile tk q=>a5 q λc1 c2 c3 c4 c5=>gm S.cell λcc ocl D q=>fi q λcdD q=>a6 q λd1 d2 d3 d4 d5 d6=>fi T.glob λmg hg=>bz T.blt λmb agT agU=>
  bz R.locs λm hm hsl=>bz (hsl.hit ag _ Jr) λu hu du=>bz (Ii d4 X) λoD hD1 hD2=>?_
 revert hu
 have du:DR w.params G .self u:=du
 refine gq du (oP R hs) λp dd eS n AO I hu=>?_
 refine qr T3 (ks_wpAt_super_base (env:=env) (sc0 S.hks) (sc0 S.hkc) S.hn e1 (kp _ _ e2) e3 e4 c1 (kp _ _ c2) c3 c4 c5 S.ag4 ?_)
 refine ks_loadName_global kd (sc0 S.hks) (loadGlobal_builtin (mg:=mg) (mb:=mb) (v:=.type "super") (by rw[eo.globals];exact hg.keeps kp) (mg_none_of T.Jx hg S.T8) (by rw[eo.builtins];exact agT.keeps kp) (by rw[agU _ (by decide+kernel)];exact S.aaL) ⟨rfl,?_⟩)
 refine wpAny_loadName_free kd (sc0 S.hkc) d1 ⟨_,kp _ _ d2,d3⟩ (wpAny_loadName_local (m:=m) (v:=.ref p) kd (by rw[e5];exact sc0 S.hka) (by rw[eo.locals];exact hm) (by rw[e5];exact hu) (ks_wpAny_isType_cls hD1 hD2 ⟨rfl,?_⟩))
 refine ks_wpAny_call_super hD1 hD2 I.at_ I.cls (λc e=>?_) (looks_mroIn X d5) (λh' eh k=>?_)
 ·have:=I.no
  unfold notCls at this
  rw[e] at this
  exact ft this
 ·intro pl
  have X':K.In h':=X.keeps k
  have hz:s.heap.objs.size<=h'.objs.size:=Rh (uY eh)
  have R1:Rep w.params C Y G L Z {s with heap:=h'}:=R.ext k hz
  cases RC:clsIn K C with
  |none=>unfold ks_superIn at d6;rw[RC] at d6;cases d6
  |some cd=>
   unfold ks_superIn at d6
   rw[RC] at d6
   exact bz (aav S.ht X') λo2 ho2 agV=>ks_wpAny_getMethod_super eh (looks_opaque X' S.hno) (λA Q E s k q=>eO ((looks_clsIn X' RC) A _ E s k (k5 q))) rfl X' d6 ho2 agV (ks_ne X I RC) S.hn
    (a3 (R1.wi (methodObj (.ref f2) (.ref p)) rfl (t:=s.toks+1)) λR2 l2 g2=>have l2:=(Later.keep (O:=G.OA) k hz rfl rfl:Later G.OA G s G {s with heap:=h'}).aO l2
      xK (G:=pinned G h'.objs.size (methodObj (.ref f2) (.ref p))) (λaD cA aE sb=>keeps_M S.hfn _ ⟨aE.pins _ _ (sb.g _ _ g2),fk T aE⟩) ha .nil ro eo R2 λaD cA us kw aE aJ cz lB=>lB.jr (wpAny_call (method_call (aE.pins _ _ (aJ.sub.g _ _ g2))
       (hc A aD cA _ _ ro aE.tocp (.cons ((DR.self AO.par).mono (l2.sub.trans aJ.sub)) cz) .nil _ λiJ v pK cD cL e _=>kk iJ v pK (aE.ofA (loc:=Z.loc) cD cL e) ((l2.aO aJ).aO cL)))))
end
def FE {U:Program} {w:World} {Y:Base} {B:tp} (O:TabsOk U w Y B) {n C f:Nat} {args:List DV} {kw:List (Str×DV)} {aq S0 aX:bU} {I:Zb} {row:k6} {bl:List (Str×DV)} {fl:au} {ir:List (Str×ae)} {v:DV} {p0 p1 apos pos XY:Pos} {name:Str} {e:Expr} {rest:List Stmt} {v1:DV} {f2:Nat} {as:List (Str×ae)} (h1:B.fns f=true) (h2:qh B.K f=some I) (h3:cR B.rows f args kw=some row) (h4:getAll args kw row.out=some bl)
    (aaK:I.body=.Expr (.Call (.Attribute (.Call (.Name "super" p0) [] [] p1) name apos) [e] [] pos) XY::rest)
    (S:∀fd L,fdOf B.K f=some fd->HP U Y B.K C I.sc (callEnv fd L f) name f2) (T3:dR [e] [] apos pos=true) (aaO:cY (.Call (.Attribute (.Call (.Name "super" p0) [] [] p1) name apos) [e] [] pos)=true) (hs:aq=some as) (Jr:look (bl.map λp=>(p.1,ae.pv p.2)) ag=some (.pv .self)) (ha:dI U w C Y I.sc n [e] ⟨aq,bl.map λp=>(p.1,.pv p.2)⟩ [v1] ⟨aq,bl.map λp=>(p.1,.pv p.2)⟩)
    (hc:af U w C Y n (.ref f2) [.self,v1] [] aq .none S0) (run:aF U w C Y I.sc n rest ⟨S0,bl.map λp=>(p.1,.pv p.2)⟩ fl ⟨aX,ir⟩) (h6:ue fl=some v):af U w C Y (n+1) (.ref f) args kw aq v aX:=
 t9 (callee O h1 h2 h3 h4) λfd e1 e c=>by
  rw[aaK] at c
  rw[<-e] at S ha run
  exact(xZ fl).get h6▸uJ O.T c λA G L s ro eo R Q k=>ks_wpAt_execs_cons (ks_wpAt_Expr_any (CZ O.T (S fd L e1) eo ro R hs Jr ha hc T3 λaz u ax aB aH=>_root_.PySem.wpAt_of_wpAny (run _ az _ ax _ ro eo aB _ λaD r ay aE aJ cz=>k aD r ay aE (aH.up.trans' aJ) cz)) (by unfold interactive;rw[eo.scope,eo.kind];rfl) (dp aaO))
def gD:Expr->Option (Expr×Operator×Expr):=iP Expr.ctorIdx 2 λe h=>@Expr.BinOp.elim (λ_=>Expr×Operator×Expr) e h λa o b _=>(a,o,b)
def lM:∀e:Expr,On (λq=>.BinOp q.1 q.2.1 q.2.2 e.pos=e) (gD e):=eK (P:=λe (q:Expr×Operator×Expr)=>.BinOp q.1 q.2.1 q.2.2 e.pos=e) λe h=>@Expr.BinOp.elim (λe=>∀h,(λq:Expr×Operator×Expr=>Expr.BinOp q.1 q.2.1 q.2.2 e.pos) (@Expr.BinOp.elim (λ_=>Expr×Operator×Expr) e h λa o b _=>(a,o,b))=e) e h (λ_ _ _ _ _=>rfl) h
def Aj:Stmt->Option (Expr×Expr×List Stmt×List Stmt):=iP Stmt.ctorIdx 9 λe h=>@Stmt.For.elim (λ_=>Expr×Expr×List Stmt×List Stmt) e h λt i b o _=>(t,i,b,o)
def DU:∀st:Stmt,On (λq=>∃p,.For q.1 q.2.1 q.2.2.1 q.2.2.2 p=st) (Aj st):=eK (P:=λe (q:Expr×Expr×List Stmt×List Stmt)=>∃p,Stmt.For q.1 q.2.1 q.2.2.1 q.2.2.2 p=e) λe h=>@Stmt.For.elim (λe=>∀h,(λq:Expr×Expr×List Stmt×List Stmt=>∃p,Stmt.For q.1 q.2.1 q.2.2.1 q.2.2.2 p=e) (@Stmt.For.elim (λ_=>Expr×Expr×List Stmt×List Stmt) e h λt i b o _=>(t,i,b,o))) e h (λ_ _ _ _ p _=>⟨p,rfl⟩) h
def pT (st:Stmt):Option (List Expr×Str×Expr×List Stmt):=(Aj st).bind λq=>bif q.2.2.2.isEmpty then(mF q.1).bind λes=>(gR q.2.1).bind λc=>bif c.2.2.1.isEmpty then(dW c.1).bind λx=>(dJ c.2.1).bind λe=>some (es,x,e,q.2.2.1) else none else none
@[elab_as_elim] def vo {P:Stmt->Prop} {st:Stmt} {q:List Expr×Str×Expr×List Stmt} (h:pT st=some q) (k:∀kt p pn pos' pos,P (.For (.Tuple q.1 kt p) (.Call (.Name q.2.1 pn) [q.2.2.1] [] pos') q.2.2.2 [] pos)):P st:=
  (((DU st).b λz e=>ak λh0=>(qQ z.1).b λes e1=>(ib z.2.1).b λc e2=>ak λh1=>(dm c.1).b λx e3=>(bp c.2.1).b λa e4=>show(∀kt p pn pos' pos,P (.For (.Tuple es kt p) (.Call (.Name x pn) [a] [] pos') z.2.2.1 [] pos))->P st from
    λk=>fi e λp e=>dk e1 λkt pt e1=>by rw[<-e,<-e1,<-e2,<-e3,<-e4,<-bT h0,<-bT h1];exact k ..:On (λq:List Expr×Str×Expr×List Stmt=>(∀kt p pn pos' pos,P (.For (.Tuple q.1 kt p) (.Call (.Name q.2.1 pn) [q.2.2.1] [] pos') q.2.2.2 [] pos))->P st) (pT st))).get h k
section
variable {U:Program} {w:World} {C:Nat} {K:Frag} {Y:Base} {sc:Scope} {d:Nat} {Z aa ah:aj}
def lE {e:Expr} {q:Expr×Operator×Expr} {x y z:DV} (h:gD e=some q) (h1:aC U w C Y sc d q.1 Z x aa) (h2:aC U w C Y sc d q.2.2 aa y ah) (hb:qe U w q.2.1 x y z):aC U w C Y sc d e Z z ah:=(lM e).get h▸me h1 h2 hb
def O5 {x y:Str} {p q pos:Pos} {e:Expr} {l:List Nat} (T:cQ K Y) (hb1:bA K sc x (.builtin "isinstance")=true) (hb2:bA K sc y (.type "str")=true) (n1:noStar e=true) (h1:aC U w C Y sc d e Z (.str l) Z):
    aC U w C Y sc d (.Call (.Name x p) [e,.Name y q] [] pos) Z (.bool true) Z:=λA G L s env ro eo R Q k=>
 wpAny_Call_Name_kw (lO (U:=U) (A:=A) T eo R hb1 (callWith_builtin (lG [e,.Name y q] (Y4.mpr ⟨n1,rfl⟩)).1 (by
  rw[gv n1]
  exact Calls.evalArgs_plain (Calls.spliced_cons (h1 A G L s env ro eo R _ λaz u ax aB aH aV=>by
   rw[gv (show noStar (.Name y q)=true from rfl)]
   exact Calls.spliced_cons (lO (U:=U) (A:=A) T eo aB hb2 (Calls.spliced_nil (aV.gg λt _=>kia_one (kitx_str (K:=K)) (fk T aB) trivial (by unfold kitOne;rw[d7 (by simp)]) (λe=>nomatch e) λtk=>k az _ _ aB.toks aH.tk rfl))))))))
def cp.tell {P:Params} {G:Gh} {s:Shared} {as:List (Str×ae)} {x:Str} {a b:DV} (R:cp P C Y G (some as) s) (hx:look as x=some (.pv a)) (h:∀v,DR P G a v->DR P G b v):cp P C Y G (some (put as x (.pv b))) s:=
 ⟨R.pins,R.dQ,R.val,R.fL,R.fF,R.apart,dk R.attr λp dd q=>dk q λes n A=>bz (A.sl.hit x _ hx) λv hv ok=>⟨p,dd,es,n,A.par,A.inst,A.own,A.dict,((ou as x _).2 _ hx).symm▸A.len,A.str,A.sl.GW x (.pv b) v hv (λ_ _=>rfl) (h v ok) (λ_ _ _ _ _ _ h=>h) λq=>ft q⟩⟩
def af.tell {f:Value} {args:List DV} {kw:List (Str×DV)} {aq:bU} {as vb:List (Str×ae)} {r a b:DV} {x:Str} (hd:∀G:Gh,G.V=Y.V->∀v,DR w.params G a v->DR w.params G b v) (hx:aS as x=some (.pv a)) (e:bS as x (.pv b)=vb) (h:af U w C Y d f args kw aq r (some as)):af U w C Y d f args kw aq r (some vb):=λA G s vs ks ro R ha hk Q k=>
 h A G s vs ks ro R ha hk Q λaz v ax aB aH el dv=>k az v ax (e▸bk as x (.pv b)▸aB.tell ((aG ..).symm.trans hx) (hd az aB.val)) aH el dv
def af.order {f:Value} {args:List DV} {kw:List (Str×DV)} {aq:bU} {as vb:List (Str×ae)} {r:DV} (hz:as.length=vb.length) (hk:(as.map (·.1)).map (aS as)=(as.map (·.1)).map (aS vb)) (hk':(vb.map (·.1)).all (λk=>J3 k (as.map (·.1)))=true)
    (h:af U w C Y d f args kw aq r (some as)):af U w C Y d f args kw aq r (some vb):=λA G s vs ks ro R ha hk0 Q k=>
 have lk:∀x,look as x=look vb x:=λx=>by
  have no:∀l:List (Str×ae),x ∉ l.map (·.1)->look l x=none:=λl h=>by
   induction l with
   |nil=>rfl
   |cons p l ih=>
    rw[w6,List.mem_cons,not_or] at h
    rw[dh,dX λq=>h.1 q.symm,ih h.2]
  by_cases q:x∈as.map (·.1)
  ·exact(aG ..).symm.trans ((aW hk x q).trans (aG ..))
  ·rw[no as q,no vb λq'=>q (vP (gk.mp hk' x q'))]
 h A G s vs ks ro R ha hk0 Q λaz v ax aB aH el dv=>k az v ax ⟨aB.pins,aB.dQ,aB.val,aB.fL,aB.fF,aB.apart,dk aB.attr λp dd q=>dk q λes n A=>⟨p,dd,es,n,A.par,A.inst,A.own,A.dict,hz▸A.len,A.str,
   λx e=>A.sl.miss x ((lk x).trans e),λx k e=>A.sl.hit x k ((lk x).trans e),λx y kx ky ex ey=>A.sl.once x y kx ky ((lk x).trans ex) ((lk y).trans ey)⟩⟩ aH el dv
end
def kU (c:Nat):Bool:=bc c [9,10,13,133]||(Nat.ble 32 c&&Nat.ble c 126)
def okL:List Nat:=[9,10,13,133]++(List.range 95).map (· +32)
def En {c:Nat} (h:kU c=true):c∈okL:=(Bool.or_eq_true_iff.mp h).elim (λh=>List.mem_append_left _ (fH h)) λh=>a2 (aw h) λh1 h2=>
 List.mem_append_right _ (Ht.mpr ⟨c - 32,List.mem_range.mpr (Nat.sub_lt_left_of_lt_add (e9 h1) (Nat.lt_succ_of_le (e9 h2))),Nat.sub_add_cancel (e9 h1)⟩)
section
variable (H:Array Nat->Int) (l:List Nat) (i:Int) (c:Nat) (aq:bU)
abbrev cpS:Stmt:=ai (FI H 720).body 0
def Tv:List Expr×Str×Expr×List Stmt:=(pT (cpS H)).getD default
def IW:qh (KF H) 720=some (FI H 720):=KK
def I3:bc 720 vr=true:=KK
def afU:(FI H 720).body=[cpS H]:=KK
def afX:pT (cpS H)=some (Tv H):=KK
def afW:names (FI H 720).sc (Tv H).1=some [vV,tJ]:=KK
def afV:bA (KF H) (FI H 720).sc (Tv H).2.1 (.type "enumerate")=true:=KK
abbrev cpL:List (Str×ae):=[(ag,.pv .self),(Kv,.pv (.str l))]
abbrev Tu:List (Str×ae):=[(ag,.pv .self),(Kv,.pv (.str l)),(vV,.pv (.int i)),(tJ,.pv (.str [c]))]
def afT:vp (fR H bY 5 720) [(Tv H).2.2.1] ⟨aq,cpL l⟩=some ([.str l],⟨aq,cpL l⟩):=KK
def N4:okL.map (λc=>cg (fR H bY 5 720) (Tv H).2.2.2 ⟨aq,Tu l i c⟩)=okL.map λc=>some (.next,⟨aq,Tu l i c⟩):=KK
def uD (loc:List (Str×ae)) (x y:Str) (a b:DV):putAll loc [x,y] [a,b]=bS (bS loc x (.pv a)) y (.pv b):=(put2 loc x y (ae.pv a) (.pv b)).symm
def aak:putAll (cpL l) [vV,tJ] [.int i,.str [c]]=Tu l i c:=(uD ..).trans KK
def aal (i':Int) (c':Nat):putAll (Tu l i' c') [vV,tJ] [.int i,.str [c]]=Tu l i c:=(uD ..).trans KK
def Tw:((cR lD 720 [.self,.str l] []).bind λrow=>getAll [.self,.str l] [] row.out)=some [(ag,.self),(Kv,.str l)]:=KK
end
section
variable {U:Program} {w:World} {Y:Base} (T0:cQ (KF (HH w)) Y) (hl:bw Y)
include T0 hl
theorem N3 (l:List Nat) (aq:bU) (cs:List Nat):∀(k:Nat) (loc:List (Str×ae)),cs.all kU=true->(∀i c,putAll loc [vV,tJ] [.int i,.str [c]]=Tu l i c)->∃ir,fg U w 1521 Y (FI (HH w) 720).sc 5 [vV,tJ] (Tv (HH w)).2.2.2 ((cs.zipIdx k).map λp=>[.int p.2,.str [p.1]]) ⟨aq,loc⟩ .next ⟨aq,ir⟩:=by
 induction cs with
 |nil=>exactλk loc _ _=>⟨loc,.done⟩
 |cons c cs ih=>exactλk loc h Aq=>a2 (aw h) λh1 h2=>fi (ih (k+1) (Tu l k c) h2 λi c'=>aal l i c' k c) λir h3=>⟨ir,.turn rfl (show aF U w 1521 Y (FI (HH w) 720).sc 5 (Tv (HH w)).2.2.2 ⟨aq,putAll loc [vV,tJ] [.int k,.str [c]]⟩ .next _ from fa (Aq k c)▸nh I3 (IW (HH w)) T0 hl (aW (N4 (HH w) l k aq) c (En h1))) (.inl rfl) h3⟩
theorem aaj {l:List Nat} (h:l.all kU=true) (aq:bU):af U w 1521 Y 6 (.ref 720) [.self,.str l] [] aq .none aq:=
 fi (N3 (U:=U) T0 hl l aq l 0 (cpL l) h (aak l)) λir hL=>f9 (ba:=⟨aq,ir⟩) I3 (IW (HH w)) T0 hl (Tw l) (.at (afU (HH w)) (ao (vo (afX (HH w)) λkt p pn pos' pos=>p8 T0 (afW (HH w)) (afV (HH w)) (lZ I3 (IW (HH w)) T0 hl (afT (HH w) l aq)) (λ_ _=>rfl) (by
  rw[show iW (l.map λc=>DV.str [c])=(l.zipIdx 0).map λp=>[.int p.2,.str [p.1]] by unfold iW;rw[List.zipIdx_map,List.map_map];rfl]
  exact hL)) bx)) rfl
end
def zv:List Nat:=[60,117,110,105,99,111,100,101,32,115,116,114,105,110,103,62]
section
variable (H:Array Nat->Int) (T:List Nat) (nm bf z:DV) (a:bU)
abbrev tm:List (Str×ae):=[(ag,.pv .self),(nf,.pv (.str T))]
def rdZ (nm bf z:DV) (tl:List (Str×ae)):List (Str×ae):=(iu,.pv nm)::(nf,.pv .none)::(KA,.pv (.int 0))::(Kw,.pv (.bool true))::(n6,.pv bf)::(n7,.pv z)::(Kx,.pv .none)::(Kz,.pv .none)::(kK,.pv .none)::(iM,.pv z)::(pj,.pv z)::(mB,.pv (.int 0))::tl
def LC:List (Str×ae):=rdZ nm bf (.int 0) []
def scZ (nm bf z:DV) (tl:List (Str×ae)):List (Str×ae):=rdZ nm bf z ((KL,.pv (.bool false))::(KN,.pv (.int 0))::(KQ,.ml [Sy])::(GD,.pv z)::(gG,.pv (.int (-1)))::(KO,.ml [])::(KJ,.pv (.bool true))::(KP,.md [])::tl)
def scA:List (Str×ae):=scZ nm bf (.int 0) []
def paA:List (Str×ae):=scZ nm bf z [(KU,.pv .none),(KX,.pv .none),(tK,.md []),(KW,.ml []),(KV,.ml []),(GH,.pv (.bj 1340))]
def rF:qh (KF H) 682=some (FI H 682):=KK
def rH:bc 682 vr=true:=KK
abbrev riB:List Stmt:=(FI H 682).body
abbrev CL:Stmt:=ai (riB H) 12
def Zp:Expr×List Expr×List Keyword×Pos:=(gR (wT (CL H))).getD default
def riQ:Expr×Operator×Expr:=(gD (kr (ai (wB (CL H)) 2))).getD default
def r_a:rX H 8 682 ((riB H).take 12) ⟨some [],tm T⟩ .next ⟨some (LC .none (.str [])),tm T⟩:=KK
def r_b:riB H=(riB H).take 12++[CL H]:=KK
def r_i:CL H=.If (.Call (.Name n30 (Zp H).1.pos) [(Zp H).2.1.headD default,.Name n76 ((Zp H).2.1.getD 1 default).pos] [] (Zp H).2.2.2) [ai (wB (CL H)) 0,ai (wB (CL H)) 1,ai (wB (CL H)) 2] [] (wP (CL H)):=KK
def r_n:(bA (KF H) (FI H 682).sc n30 (.builtin "isinstance")&&(bA (KF H) (FI H 682).sc n76 (.type "str")&&noStar ((Zp H).2.1.headD default)))=true:=KK
def r_e:eX H 8 682 ((Zp H).2.1.headD default) ⟨a,tm T⟩ (.str T):=KK
def r_0:rX H 8 682 [ai (wB (CL H)) 0] ⟨some (LC .none (.str [])),tm T⟩ .next ⟨some (LC (.str zv) (.str [])),tm T⟩:=KK
def r_1:cX H 8 682 (ai (wB (CL H)) 1) ⟨some (LC nm bf),tm T⟩ 720 [.self,.str T] .none (some (LC nm bf)) ⟨some (LC nm bf),tm T⟩:=KK
def r_q:gD (kr (ai (wB (CL H)) 2))=some ((riQ H).1,.Add,(riQ H).2.2):=KK
def aij:eX H 8 682 (riQ H).1 ⟨a,tm T⟩ (.str T):=KK
def aik:eX H 8 682 (riQ H).2.2 ⟨a,tm T⟩ (.str [0]):=KK
def ail (b:DV):tL (eQ H bY 8 682) (ai (wB (CL H)) 2) b ⟨some (LC nm bf),tm T⟩=some ⟨some (LC nm b),tm T⟩:=KK
def inB (f:Nat):Option (List (Str×DV)):=(cR lD f [.self,.str T] []).bind λrow=>getAll [.self,.str T] [] row.out
def acQ:inB T 682=some [(ag,.self),(nf,.str T)]:=KK
abbrev suS (f:Nat):Stmt:=ai (FI H f).body 0
def Zr (f:Nat):Expr×Str×Pos×List Expr×Pos:=(nC (kr (suS H f))).getD default
def suC (f:Nat):Expr×List Expr×List Keyword×Pos:=(gR (Zr H f).1).getD default
abbrev suA (f:Nat):List Expr:=[(Zr H f).2.2.2.1.headD default]
abbrev suE (f:Nat):Expr:=.Call (.Attribute (.Call (.Name ("super":Str) (suC H f).1.pos) [] [] (suC H f).2.2.2) aM (Zr H f).2.2.1) (suA H f) [] (Zr H f).2.2.2.2
def sus:List Nat:=[783,1312]
def Mo (n:Nat):sus.map (λf=>(qh (KF H) f,(FI H f).body,dR (suA H f) [] (Zr H f).2.2.1 (Zr H f).2.2.2.2&&cY (suE H f),(fdOf (KF H) f).map (λfd=>((fd.params.posonlyargs++fd.params.args).head?).map (·.arg)),inB T f,vp (fR H bY n f) (suA H f) ⟨some [],tm T⟩,[("super":Str),("__class__":Str),ag].map λx=>(FI H f).sc.names.lookup x))=
 sus.map λf=>(some (FI H f),.Expr (suE H f) (suS H f).pos::(FI H f).body.drop 1,true,some (some ag),some [(ag,.self),(nf,.str T)],some ([.str T],⟨some [],tm T⟩),[some .globalImplicit,some .free,some .local]):=KK
def adw (l:List Nat):rX H 12 783 ((FI H 783).body.drop 1) ⟨some (LC (.str zv) (.str l)),tm T⟩ .next ⟨some (scA (.str zv) (.str l)),tm T⟩:=KK
def adx (l:List Nat):rX H 13 1312 ((FI H 1312).body.drop 1) ⟨some (scA (.str zv) (.str l)),tm T⟩ .next ⟨some (paA (.str zv) (.str l) (.int 0)),tm T⟩:=KK
def aau:Data->Option (Array Value):=iP Data.ctorIdx 9 λv h=>@Data.fields.elim (λ_=>Array Value) v h id
def Of:∀d:Data,On (λv=>.fields v=d) (aau d):=cH .fields λv h=>@Data.fields.elim (λv=>∀h,Data.fields (@Data.fields.elim (λ_=>Array Value) v h id)=v) v h (λ_ _=>rfl) h
def Hf:List (Nat×Nat×Nat×Nat×Nat×Nat):=[(783,782,1356,771,1281,682),(1312,1311,2137,1299,1521,783)]
def Yy:Hf.map (λq=>((fdOf (KF H) q.1).map (λfd=>(fd.code,fd.closure.lookup ("__class__":Str))),(((KF H).lookup q.2.1).bind λo=>aau o.data).bind (λvs=>vs[2]?),(clsIn (KF H) q.2.2.2.2.1).isSome&&fnIn (KF H) q.2.2.2.2.2,mroIn (KF H) 1521 (.ref q.2.2.2.2.1),ks_superIn (KF H) 1521 q.2.2.2.2.1 aM,typeIn (KF H) (.ref q.2.2.2.2.2)))=
 Hf.map λq=>(some (.ref q.2.1,some q.2.2.2.1),some (.str sa q.2.2.1),true,some true,some (some (.ref q.2.2.2.2.2)),some (.type "function")):=KK
def aiJ:(nsIn (KF H) mainGlobals "super",bootBuiltins "super",nsIn (KF H) cStatics "thirdparty.any",(aM==("__class__":Str)))=(some none,some (.type "super"),some none,false):=KK
def adv:lY (KF H) 1521 1312=true:=KK
def aiK:aS (tm T) ag=some (.pv .self):=KK
def aim:[(ag,DV.self),(nf,.str T)].map (λp=>(p.1,ae.pv p.2))=tm T:=KK
end
structure Nc (U:Program) (Y:Base):Prop where
 file:((U.main.file:Str)==sa)=true
 top:(U.main.scope.names.lookup ("super":Str)).isSome=false
 cells:∀q∈Hf,∃oc,Y.hp.get? q.2.2.2.1=some oc/\oc.data=.cell (some (.ref q.2.2.2.2.1))
section
variable {U:Program} {w:World} {Y:Base} (T0:cQ (KF (HH w)) Y) (hl:bw Y) (PW:Nc U Y) {T:List Nat} (hT:T.all kU=true) (h0:Y.V.ς 0=T++[0]) (hz:T.length+1<=lim)
include T0 hl hT hz in
theorem GX:af U w 1521 Y 9 (.ref 682) [.self,.str T] [] (some []) .none (some (LC (.str zv) (.str (T++[0])))):=by
 have F:=zQ (U:=U) (n:=8) rH (rF (HH w)) T0 hl
 have⟨g1,g2⟩:=aw (r_n (HH w))
 have⟨g2,g3⟩:=aw g2
 exact f9 (ba:=⟨some (LC (.str zv) (.str (T++[0]))),tm T⟩) rH (rF (HH w)) T0 hl (acQ T) (.at (r_b (HH w)) (eH F (ao (.at (r_i (HH w)) (iF (wZ (O5 T0 g1 g2 g3 (gV rH (rF (HH w)) T0 hl (r_e (HH w) T _))) rfl λenv=>rfl)
  (eH F (l':=[ai (wB (CL (HH w))) 1,ai (wB (CL (HH w))) 2]) (ao (pD rH (rF (HH w)) T0 hl (r_1 ..) (aaj T0 hl hT _)) (ao (kh rH (rF (HH w)) T0 hl (lE (r_q (HH w)) (gV rH (rF (HH w)) T0 hl (aij ..)) (gV rH (rF (HH w)) T0 hl (aik ..)) (lN (a:=T) (b:=[0]) hz)) (ail ..)) bx)) [ai (wB (CL (HH w))) 0] _ (r_0 (HH w) T)))) bx) _ _ (r_a (HH w) T))) rfl
include T0 PW in
theorem YB {q:Nat×Nat×Nat×Nat×Nat×Nat} (hq:q∈Hf) (hf:q.1∈sus):∀fd L,fdOf (KF (HH w)) q.1=some fd->HP U Y (KF (HH w)) 1521 (FI (HH w) q.1).sc (callEnv fd L q.1) aM q.2.2.2.2.2:=λfd L hfd=>by
 have h1:=kS (aW (Yy (HH w)) q hq)
 have h2:=kS h1.2
 have h3:=kS h2.2
 have h4:=kS h3.2
 have h5:=kS h4.2
 have c:=aw h3.1
 have s1:=(kS (kS (kS (aW (Mo (HH w) [] 0) q.1 hf)).2).2).2
 have s2:=kS s1
 have s3:=List.cons.inj (kS (kS s2.2).2).2
 have s4:=List.cons.inj s3.2
 have b1:=kS (aiJ (HH w))
 have b2:=kS b1.2
 have b3:=kS b2.2
 have e1:=h1.1
 have p1:=s2.1
 rw[hfd] at e1 p1
 have e1:=kS (eN e1)
 refine bz (xl.mp (eN p1)) λar p2 p3=>bz ((DN _ _).get hfd) λo ho hd=>bz (pR h2.1) λvs v1 v2=>bz (pR v1) λoc oc1 v1=>fi (Y9.mp c.1) λcd RC=>bz (PW.cells q hq) λocl oc3 oc4=>?_
 exact⟨s3.1,s4.1,(List.cons.inj s4.2).1,⟨q.1,o,fd,ar,rfl,T0.Jx _ _ ho,hd,p2,p3⟩,⟨q.2.1,oc,vs,sa,q.2.2.1,e1.1,T0.Jx _ _ oc1,((Of _).get v1).symm,v2,PW.file⟩,PW.top,⟨q.2.2.2.1,ocl,q.2.2.2.2.1,cd,e1.2,oc3,oc4,RC,h4.1,h5.1⟩,b1.1,b2.1,b3.1,h5.2,b3.2,c.2⟩
include T0 hl PW
theorem Mp {q:Nat×Nat×Nat×Nat×Nat×Nat} (hq:q∈Hf) (hf:q.1∈sus) (hm:bc q.1 vr=true) {n:Nat} {a a':List (Str×ae)} (hc:af U w 1521 Y n (.ref q.2.2.2.2.2) [.self,.str T] [] (some []) .none (some a)) (run:rX (HH w) n q.1 ((FI (HH w) q.1).body.drop 1) ⟨some a,tm T⟩ .next ⟨some a',tm T⟩):
 af U w 1521 Y (n+1) (.ref q.1) [.self,.str T] [] (some []) .none (some a'):=by
 have s1:=kS (aW (Mo (HH w) T n) q.1 hf)
 have s2:=kS s1.2
 have s3:=kS s2.2
 have s4:=kS (kS s3.2).2
 have k:=aw s3.1
 exact bz (pR s4.1) λrow r1 r2=>FE (tabs_ok T0 (mY hl) λ_ _ _ _ _ _ _ _ h=>ns h:TabsOk U w Y (tabs (HH w) bY eY)) (as:=[]) hm s1.1 r1 r2 s2.1 (YB T0 PW hq hf) k.1 k.2 rfl ((aG ..).symm.trans (aiK T)) (lZ hm s1.1 T0 hl (kS s4.2).1) hc (nh hm s1.1 T0 hl run) rfl
include hT h0 hz
theorem Pk (ck:Y.V.β 17=0):af U w 1521 Y 15 (.ref 1521) [.str T] [] none .self (k0 (.md [])):=by
 have zz:∀G:Gh,G.V=Y.V->∀v,DR w.params G (.int 0) v->DR w.params G (.sint 17 0) v:=λG e v h=>h.fQ λt=>⟨t,by rw[e,ck];rfl⟩
 refine wt T0 (adv (HH w)) rfl rfl (.order (as:=paA .any (.gO 0) (.sint 17 0)) rfl KK KK ?_)
 have P:=Mp (n:=13) T0 hl PW (.tail _ (.head _)) (.tail _ (.head _)) KK (Mp (n:=12) T0 hl PW (.head _) (.head _) KK ((GX T0 hl hT hz).up (by decide)) (adw (HH w) T (T++[0]))) (adx (HH w) T (T++[0]))
 have P:=af.tell (x:=iu) (a:=.str zv) (b:=.any) (λ_ _ _ h=>h.handed) KK rfl P
 have P:=af.tell (x:=n6) (a:=.str (T++[0])) (b:=.gO 0) (λG e v h=>h.gg λt hz=>by rw[<-h0,<-e] at hz ⊢;exact⟨t,rfl,hz⟩) KK rfl P
 have P:=af.tell (x:=n7) zz KK rfl P
 have P:=af.tell (x:=iM) zz KK rfl P
 have P:=af.tell (x:=pj) zz KK rfl P
 exact af.tell (x:=GD) zz KK KK P
end
section
variable {U:Program} {w:World} {C:Nat} {K:Frag} {Y:Base} {sc:Scope} {d:Nat} {Z aa ah cB:aj} {G:Gh} {L:Addr} {s:Shared} {A:Around} {env:Env}
def made {eD:Gh} {eL:Shared} {h':Heap} {t:Nat} {D:Addr} {ys:List Value} {m:Nat} {l:List DV} {Q:Value->Shared->Prop} (R:Rep w.params C Y G L Z s) (ly:Later eD.OA eD eL G s) (hk:∀b o,s.heap.get? b=some o->h'.get? b=some o) (hs:s.heap.objs.size<=h'.objs.size) (hD:s.heap.objs.size<=D) (hg:h'.get? D=some (bG ys m)) (hd:eC w.params G l ys) (hz:ys.length<=lim)
    (k:∀G' v s',Rep w.params C Y G' L Z s'->Later eD.OA eD eL G' s'->nz w.params G' s'.heap eL.heap.objs.size (.fl l) v->Q v s'):Q (.ref D) {s with heap:=h',toks:=t}:=
 have q:=jQ.grown (tk:=t) R hk hs
 have f:=R.fresh hD
 k G _ _ q.1 (ly.aO q.2) ⟨D,ys,m,rfl,hg,hd,hz,f.1,f.2.1,f.2.2,bB ly.size hD⟩
def yW {a b:Expr} {op:Operator} {pos:Pos} {x y:DV} {l:List DV} (ha:aC U w C Y sc d a Z x aa) (hb:aC U w C Y sc d b aa y ah) (h:∀(A:Around) (G:Gh) (s:Shared) (u v:Value) (Q:Value->Shared->Prop),(∀b o,G.g b=some o->s.heap.get? b=some o)->DR w.params G x u->DR w.params G y v->
    (∀ys m,eC w.params G l ys->ys.length<=lim->Q (.ref s.heap.objs.size) {s with heap:=s.heap.push (bG ys m)})->WP U w A (binaryOp op u v) s Q):cO U w C Y sc d (.BinOp a op b pos) Z (.fl l) ah:=λA G L s env ro eo R Q k=>
 show WP U w A (eval a env >>= λx=>holding [x] (eval b env) >>= λy=>standAt pos >>= λ_=>operate [x,y] (binaryOp op x y)) s Q from
 eO (ha A G L s env ro eo R _ λaz u ax aB aH aV=>eO (M9 (hb A az L ax env ro eo aB _ λaD v ay aE aJ cz=>eO (Rl (wpAny_operate' (h A aD ay u v _ aE.pins (aV.mono aJ.sub) cz λys m hd hz=>
  made (t:=ay.toks) aE (aH.aO aJ) (λb o e=>MR _ e) (size_push ..) (fu _) (Hr _ rfl) hd hz k))))))
def sH {a b:Expr} {pos:Pos} {l l':List DV} (ha:aC U w C Y sc d a Z (.lst l) aa) (hb:aC U w C Y sc d b aa (.lst l') ah) (hz:l.length+l'.length<=lim):cO U w C Y sc d (.BinOp a .Add b pos) Z (.fl (l++l')) ah:=
 yW ha hb λA G s u v Q hp hu hv k=>hu.lu λx vs n hg _ hd=>hv.lu λy HC n' hg' _ Ap=>by
  have zz:vs.length+HC.length<=lim:=hd.length▸Ap.length▸hz
  refine P.add_list (items:=⟨vs⟩) (items2:=⟨HC⟩) (hp _ _ hg) (hp _ _ hg') ?_ (cK zz)
  have q:=k (vs++HC) 0 (hd.app Ap) (by rw[c9];exact zz)
  simpa using q
def Pu {l:Addr} {vs:List Value} {x:Int} {u:Tok} {Q:Value->Shared->Prop} (hl:s.heap.IsList l vs.toArray) (hlo:0<=x) (hhi:x<256) (ya:vs.length*x.toNat<=256)
    (h:Q (.ref s.heap.objs.size) {s with heap:=s.heap.push {cls:=.type "list",data:=.seq (List.replicate x.toNat vs).flatten.toArray}}):WP U w A (binaryOp .Mult (.ref l) (.int x u)) s Q:=by
 obtain⟨⟨cls,d,data,sl⟩,ho,hcl,k,hd⟩:=id hl
 simp only at hcl hd
 subst hcl hd
 have alh:vs.toArray.size*x.toNat<=256:=by simpa using ya
 refine wpAny_binaryOp_repeat_ref (T:="list") (U:="int") (by decide) ⟨_,ho,rfl⟩ (λs'=>typeIs_int s' x u) noFill_list_mul PySem.F.fills_int_mul PySem.F.slot_int_rmul repeat_list PySem.F.slot_int_index.lookup
  (call_meets PySem.F.slot_int_rmul (typeIs_int s x u) PySem.F.entry_int_rmul (PySem.F.args_int_rmul_2 _ _) (lm_int_rmul_list_any x u l vs.toArray k d sl)
    ⟨ho,rfl,⟨_,ho,rfl⟩,call_meets PySem.F.slot_list_mul ⟨_,ho,rfl⟩ PySem.F.entry_list_mul (PySem.F.args_list_mul_2 _ _)
      (lm_list_mul_any l vs.toArray k d sl x u (by simp[Builtin.List.listFitsIndex];lia) (by lia) (by simp[Builtin.List.listTooLong,sizeLine];lia))
      ⟨ho,?_⟩⟩)
 rw[listMul_foldl_if]
 exact h
def EA {P:Params} {v:DV} {u:Value} (h:DR P G v u) (n:Nat):eC P G (List.replicate n v) (List.replicate n [u]).flatten:=by
 induction n with
 |zero=>exact .nil
 |succ n ih=>rw[List.replicate_succ,List.replicate_succ,Rd];exact .cons h ih
def L3 {a b:Expr} {pos:Pos} {v:DV} {n:Nat} (ha:aC U w C Y sc d a Z (.lst [v]) aa) (hb:aC U w C Y sc d b aa (.int (n:Int)) ah) (hz:n<=200):cO U w C Y sc d (.BinOp a .Mult b pos) Z (.fl (List.replicate n v)) ah:=
 yW ha hb λA G s u v Q hp hu hv k=>hu.lu λx vs m hg _ hd=>by revert hg;exact hd.fy λu us hu h=>h.jr λhg=>hv.fQ λtk=>Pu (vs:=[u]) ⟨_,hp _ _ hg,rfl,m,rfl⟩ (MS n) (by lia) (by rw[Int.toNat_natCast];simp;lia) (by
  have e:=(EA hu n).length
  rw[tj] at e
  rw[Int.toNat_natCast]
  exact k _ _ (EA hu n) (e▸bB hz (by decide)))
def u6 (U:Program) (w:World) (C:Nat) (Y:Base) (sc:Scope) (d:Nat) (e:Option Expr) (Z:aj) (k:Option Int):Prop:=Option.rec (motive:=λ_=>Prop) (k=none) (λe=>∃i:Int,k=some i/\aC U w C Y sc d e Z (.int i) Z) e
def yK {e:Option Expr} {k:Option Int} {Q:Value->Shared->Prop} (h:u6 U w C Y sc d e Z k) (ro:dH A d) (eo:cN sc L env) (R:Rep w.params C Y G L Z s) (kk:∀G' v s',Rep w.params C Y G' L Z s'->Later G.OA G s G' s'->IsPart v k->Q v s'):WP U w A (evalPart e env) s Q:=by
 cases e with
 |none=>have h:k=none:=h;subst h;exact wpAny_evalPart_none (kk G _ s R (.refl _ _ _) .none)
 |some e=>exact bz (show ∃i:Int,k=some i/\aC U w C Y sc d e Z (.int i) Z from h) λi e1 hq=>by subst e1;exact wpAny_evalPart_some (hq A G L s env ro eo R _ λaz v ax aB aH q=>q.fQ λt=>kk az _ ax aB aH (.int _ _))
def cutD (l:List DV) (lo hi:Option Int):List DV:=(l.drop (lo.elim 0 (clipAt l.length))).take (hi.elim l.length (clipAt l.length) - lo.elim 0 (clipAt l.length))
def Iy {α:Type} {l:List α} {a n m:Nat} (h:l.length<=m):((l.drop a).take n).length<=m:=bB (List.length_take_le' ..) (bB (Zx ..▸Nat.sub_le ..) h)
def Qn {e:Expr} {a b:Option Expr} {p pos:Pos} {l:List DV} {lo hi:Option Int} (he:aC U w C Y sc d e Z (.lst l) aa) (ha:u6 U w C Y sc d a aa lo) (hb:u6 U w C Y sc d b aa hi) (hz:l.length<=lim):
    cO U w C Y sc d (.Subscript e (.Slice a b none p) pos) Z (.fl (cutD l lo hi)) aa:=λA G L s env ro eo R Q k=>
 qc (he A G L s env ro eo R _ λaz u ax aB aH aV=>wpAny_Slice (yK ha ro eo aB λaD v ay aE aJ cz=>yK hb ro eo aE λiJ x cA cD cL lB=>evalPart_none_step ((aV.mono (aJ.aO cL).sub).lu λo vs n hg _ hd=>⟨"list",_,⟨_,MR _ (cD.pins _ _ hg),rfl⟩,PySem.F.slot_list_getitem.lookup,have zz:vs.length<=lim:=hd.length▸hz;wpAny_getItem_list_slice (items:=⟨vs⟩) (Heap.IsList.push ⟨_,cD.pins _ _ hg,rfl,n,rfl⟩ _) (Heap.IsSliceOf.new ..) cz lB .none (λe=>nomatch e) (by
  rw[show slicePick ⟨vs⟩ lo hi none=_ from slicePick_plain ⟨vs⟩ lo hi]
  have dd:eC w.params iJ (cutD l lo hi) ((vs.drop (lo.elim 0 (clipAt vs.length))).take (hi.elim vs.length (clipAt vs.length) - lo.elim 0 (clipAt vs.length))):=by
   unfold cutD;rw[hd.length];exact Zip.take (Zip.drop hd _) _
  exact made (t:=cA.toks) (cD.push (t:=cA.toks) _) (((aH.aO aJ).aO cL).aO (eT (t:=cA.toks) _)) (λb o e=>MR _ e) (size_push ..) (fu _) (Hr _ rfl) dd (Iy zz) k) (cK zz)⟩)))
def I7 (c:Nat) (n:Nat):∀acc:List Nat,((List.replicate n (⟨[c]⟩:Array Nat)).foldl (· ++·) ⟨acc⟩)=(⟨acc++List.replicate n c⟩:Array Nat):=by
 induction n with
 |zero=>exactλacc=>by simp
 |succ n ih=>
  exactλacc=>by
   show(List.replicate n (⟨[c]⟩:Array Nat)).foldl (· ++·) ((⟨acc⟩:Array Nat)++⟨[c]⟩)=_
   rw[show((⟨acc⟩:Array Nat)++⟨[c]⟩)=⟨acc++[c]⟩ from by simp,ih,List.replicate_succ,fb]
   rfl
def Q3 (c n:Nat):Txt.mul ⟨⟨[c]⟩⟩ (n:Int)=⟨⟨List.replicate n c⟩⟩:=by
 unfold Txt.mul
 by_cases h1:(n:Int)<1
 ·rw[d7 h1,show n=0 by lia];rfl
 ·rw[dX h1]
  by_cases h2:n=1
  ·subst h2;rfl
  ·rw[show(((n:Int)==1)||((⟨⟨[c]⟩⟩:Str).length==0))=false from Bool.or_eq_false_iff.mpr ⟨HE.mpr (by lia),rfl⟩,dX Bool.false_ne_true,Int.toNat_natCast,<-Y6 (List.replicate n c),<-I7 c n []]
def HU {c n:Nat} (hn:n<=lim):qe U w .Mult (.str [c]) (.int n) (.str (List.replicate n c)):=λA G s u v _ hu hv Q k=>hu.gg λt hz=>hv.fQ λt'=>by
 have hn':n<=2 ^ 22:=hn
 refine SB.mul (x:=⟨⟨[c]⟩⟩) (n:=(n:Int)) ⟨?_,λh1 _=>?_,λ_ _=>?_⟩ λt' tk=>?_
 ·rw[Hv (by lia),Hv (by lia)];rfl
 ·have h3:(1:Int)<=(2 ^ 63 - 1) / n:=by
   rw[Int.le_ediv_iff_mul_le (by lia)];lia
  show ¬(((⟨⟨[c]⟩⟩:Str).length:Int)>(2 ^ 63 - 1) / n)
  rw[show((⟨⟨[c]⟩⟩:Str).length:Int)=1 from rfl];lia
 ·show decide (_>sizeLine)=false
  rw[ZC,show(⟨⟨[c]⟩⟩:Str).length=1 from rfl,Int.toNat_natCast]
  have:=cK hn
  lia
 ·rw[Q3]
  exact k _ tk (.str _ _ (by rw[tj];exact hn))
end
def Mf (e:Expr):Option (Option Expr×Option Expr):=(Me e).bind λq=>bif q.2.2.isNone then some (q.1,q.2.1) else none
def G7 (e:Expr):On (λq=>.Slice q.1 q.2 none e.pos=e) (Mf e):=
 (eK (P:=λe (q:Option Expr×Option Expr×Option Expr)=>.Slice q.1 q.2.1 q.2.2 e.pos=e) (λe h=>@Expr.Slice.elim (λe=>∀h,(λq:Option Expr×Option Expr×Option Expr=>Expr.Slice q.1 q.2.1 q.2.2 e.pos) (@Expr.Slice.elim (λ_=>Option Expr×Option Expr×Option Expr) e h λa b c _=>(a,b,c))=e) e h (λ_ _ _ _ _=>rfl) h) e).b λq h=>ak λec=>show Expr.Slice q.1 q.2.1 none e.pos=e from SK.mp ec▸h
def Iu (l:List DV) (lo hi:Option Int):(cutD l lo hi).length<=l.length:=Iy (fu _)
def HB (v:DV):Nat:=@DV.casesOn (λ_=>Nat) v 0 0 0 (λ_=>0) Int.natAbs List.length (λ_ _=>0) (λ_=>0) (λ_=>0) List.length (λ_=>0) (λ_ _=>0) 0 (λ_=>0) (λ_=>0) λ_=>0
def M0 (k:ae):Nat:=ae.rec (motive:=λ_=>Nat) HB List.length (λ_=>0) k
def zI (r:Res):Nat:=M0 r.slot
def sg (v:DV):Option Nat:=(intD v).bind GP
def i7 (v:DV):On (λn:Nat=>.int (n:Int)=v) (sg v):=(bQ v).b λi h=>(n9 i).up λn e=>(aT DV.int e).trans h
abbrev iT:=List (Str×Nat)
def hY (β:iT) (loc:List (Str×ae)):Prop:=∀x b k,aS β x=some b->look loc x=some k->M0 k<=b
def NM (β:iT) (x:Str) (n:Nat):Nat:=Option.rec (motive:=λ_=>Nat) n id (aS β x)
abbrev OV:=Option (Res×Nat)
def oI (n b:Nat):OV:=some (.pv (.int (n:Int)),b)
def oT (l:List Nat) (b:Nat):OV:=some (.pv (.str l),b)
def small (m n:Nat):Bool:=Nat.ble m 100000&&Nat.ble n 100000
def acy (k a b m n:Nat):Option (Nat×Nat):=bif Nat.beq k 0 then some (a+b,m+n) else bif Nat.beq k 1 then bif Nat.ble b a then some (a - b,m) else none else bif Nat.beq k 2 then bif small m n then some (a*b,m*n) else none else bif Nat.beq k 5 then bif Nat.ble 1 b then some (a % b,n - 1) else none
 else bif Nat.beq k 12 then bif small m n then bif Nat.ble 1 b then some (a / b,m / b) else none else none else none
def XM (op:Operator) (x y:DV) (m n:Nat):OV:=
 aZ (sg x) (aZ (iE x) ((yn x).bind λl=>bif Nat.beq op.ctorIdx 0 then(yn y).bind λl'=>bif Nat.ble (m+n) 4000000 then some (.fl (l++l'),m+n) else none else bif Nat.beq op.ctorIdx 2 then(dJ l).bind λv=>(sg y).bind λb=>bif Nat.ble n 200 then some (.fl (List.replicate b v),n) else none else none)
  λs=>bif Nat.beq op.ctorIdx 0 then(iE y).bind λs'=>bif Nat.ble (m+n) 4000000 then oT (s++s') (m+n) else none else bif Nat.beq op.ctorIdx 2 then(dJ s).bind λc=>(sg y).bind λb=>bif Nat.ble n 4000000 then oT (List.replicate b c) n else none else none)
  λa=>(sg y).bind λb=>(acy op.ctorIdx a b m n).bind λz=>oI z.1 z.2
def acA (c:Bool) (p q:Res×Nat):OV:=
 (uE p.1.slot).bind λu=>(uE q.1.slot).bind λv=>aZ (iE u) ((sg u).bind λa=>(sg v).bind λb=>oI (bif c then a else b) (p.2+q.2)) λs=>(iE v).bind λs'=>oT (bif c then s else s') (p.2+q.2)
def oAt (l:List DV) (i:DV):Option (Nat×DV×Nat):=(intD i).bind λk=>(idx k l.length).bind λj=>(l[j]?).bind λz=>some (j,z,HB z)
def Lj (l:List DV) (i:DV) (m:Nat):Option (Nat×DV×Nat):=aZ (sg i) (oAt l i) λn=>bif Nat.beq m 0 then List.casesOn (motive:=λ_=>Option (Nat×DV×Nat)) l none λz _=>some (n,z,HB z) else aZ (strsOf l) (oAt l i) λss=>bif Nat.ble (m+1) ss.length then some (n,.str (ss.getD n []),cZ ss) else none
section
variable (X:Cx) (Z:aj) (β:iT)
structure OF where
 E:Expr->OV
 T:Expr->Option Bool
variable (F:OF)
def oA (es:List Expr):Option (List DV):=List.rec (motive:=λ_=>Option (List DV)) (some []) (λe _ ih=>bif noStar e then(F.E e).bind λp=>ih.bind λr=>some (p.1.rest::r) else none) es
def R6 (x:Str):OV:=bif fO X x then((aS Z.loc x).bind uE).bind λv=>some (.pv v,NM β x (HB v)) else bif lq X x then(X.B.glob x).bind λv=>some (.pv v,HB v) else none
def acz (e:Expr):OV:=(dW e).bind λx=>bif fO X x then(aS Z.loc x).bind λk=>aZ (vQ k) ((uE k).bind λv=>(iE v).bind λs=>oI s.length (NM β x s.length)) λl=>oI l.length (NM β x l.length) else none
def PI (e:Expr):Option (Nat×List DV):=(gR e).bind λc=>(dW c.1).bind λx=>bif c.2.2.1.isEmpty then(X.B.glob x).bind λv=>bif lq X x then(mW v).bind λg=>bif X.B.kept g then bif Z.aq.isNone then(oA F c.2.1).bind λvs=>some (g,vs) else none else none else none else none
def R4 (f:Expr) (es:List Expr) (ks:List Keyword) (p:Pos):OV:=aZ (PI X Z F (.Call f es ks p)) ((dW f).bind λx=>bif ks.isEmpty then bif lq X x then bif X.B.yj x then(dJ es).bind λe=>bif noStar e then acz X Z β e else none else none else none else none) λq=>(X.code q.1 q.2 [] none).bind λr=>bif r.2.isNone then some (.pv r.1,HB r.1) else none
def acB (o i:Expr):OV:=bif eG i then(F.E i).bind λq=>aZ (placeOf X Z o)
    ((F.E o).bind λp=>aZ (iE p.1.rest) ((yn p.1.rest).bind λl=>(Lj l q.1.rest q.2).bind λz=>some (.pv z.2.1,z.2.2)) λs=>(sg q.1.rest).bind λn=>bif Nat.ble (q.2+1) s.length then oT [s.getD n 0] 1 else none)
    (λp=>bif p.fix then((g8 Z p).bind vQ).bind λl=>(Lj l q.1.rest q.2).bind λz=>some (.pv z.2.1,z.2.2) else none) else none
def Ll (o:Option Expr):Option (Option Int):=aZ o (some none) λe=>(F.E e).bind λp=>(intD p.1.rest).bind λi=>some (some i)
def acw (o:Expr) (q:Option Expr×Option Expr):OV:=(F.E o).bind λp=>(yn p.1.rest).bind λl=>bif Nat.ble p.2 4000000 then(Ll F q.1).bind λlo=>(Ll F q.2).bind λhi=>some (.fl (cutD l lo hi),p.2) else none
def XN (a:Expr) (ops:List CmpOp) (bs:List Expr):Option Bool:=(dJ ops).bind λop=>(dJ bs).bind λb=>bif behindInMarks op b then none else(F.E a).bind λp=>(F.E b).bind λq=>X.B.cmp op p.1.rest q.1.rest
def oE (e:Expr):OV:=
 @Expr.casesOn (λ_=>OV) e (λ_ _ _=>none) (λ_ _ _=>none) (λa op b _=>(F.E a).bind λp=>(F.E b).bind λq=>XM op p.1.rest q.1.rest p.2 q.2)
  (λop a _=>bif Nat.beq op.ctorIdx 3 then(F.E a).bind λp=>(intD p.1.rest).bind λi=>some (.pv (.int (-i)),p.2) else none) (λ_ _ _ _=>none) (λt a b _=>(F.T t).bind λc=>aZ ((F.E a).bind λp=>(F.E b).bind λq=>acA c p q) (bif c then F.E a else F.E b) some) (λ_ _ _=>none)
  (λ_ _ _=>none) (λ_ _ _ _=>none) (λ_ _ _ _=>none) (λ_ _ _ _ _=>none) (λ_ _ _ _=>none) (λ_ _=>none) (λ_ _=>none) (λ_ _=>none)
  (λa ops bs _=>(XN X F a ops bs).bind λc=>some (.pv (.bool c),0)) (λf es ks p=>R4 X Z β F f es ks p) (λ_ _ _ _=>none) (λ_ _=>none) (λc _ _=>(mh c Z).bind λp=>some (p.1,zI p.1)) (λ_ _ _=>none)
  (λo i _=>aZ (Mf i) (acB X Z F o i) (acw F o)) (λ_ _=>none) (λx _=>R6 X Z β x) (λes _=>(oA F es).bind λvs=>bif Nat.ble vs.length 1000 then some (.fl vs,vs.length) else none) (λes _ _=>(oA F es).bind λvs=>bif Nat.ble vs.length 1000 then some (.pv (.tup vs),0) else none) λ_ _ _ _=>none
def XK (es:List Expr):Option Bool:=List.rec (motive:=λ_=>Option Bool) (some true) (λe _ ih=>(F.T e).bind λa=>aZ ih (bif a then none else some false) λb=>some (a&&b)) es
def oOr (es:List Expr):Option Bool:=List.rec (motive:=λ_=>Option Bool) (some false) (λe _ ih=>(F.T e).bind λa=>aZ ih (bif a then some true else none) λb=>some (a||b)) es
def acC (e:Expr):Option Bool:=
 aZ (XA e) (aZ (k9 e) (aZ (N1 e) (bif C7 e then aZ (placeOf X Z e) ((F.E e).bind λp=>mE p.1.rest) (λp=>(g8 Z p).bind MC) else none) λq=>XN X F q.1 q.2.1 q.2.2) λq=>BoolOp.casesOn (motive:=λ_=>Option Bool) q.1 (XK F q.2) (oOr F q.2)) λq=>bif Nat.beq q.1.ctorIdx 1 then(F.T q.2).bind λb=>some (!b) else none
def oN (n:Nat):OF:=Nat.rec ⟨λ_=>none,λ_=>none⟩ (λ_ F=>⟨oE X Z β F,acC X Z F⟩) n
end
section
variable {U:Program} {w:World} {Y:Base} {d:Nat} {op:Operator}
def opA (h:Nat.beq op.ctorIdx 0=true):.Add=op:=by cases op<;>first|rfl|exact ft h
def opM (h:Nat.beq op.ctorIdx 2=true):.Mult=op:=by cases op<;>first|rfl|exact ft h
def y6 {m n a b:Nat} (h:small m n=true) (ha:a<=m) (hb:b<=n):a<2 ^ 28/\b<2 ^ 28:=a2 (aw h) λh1 h2=>⟨Ri (bB ha (e9 h1)) (by decide),Ri (bB hb (e9 h2)) (by decide)⟩
def v9 (a b m n:Nat) (ha:a<=m) (hb:b<=n):On (λz=>qe U w op (.int a) (.int b) (.int (z.1:Nat))/\z.1<=z.2) (acy op.ctorIdx a b m n):=by
 cases op
 case Add=>exact⟨jT rfl,xi ha hb⟩
 case Sub=>exact ak λh=>⟨jT (aT some (Int.ofNat_sub (e9 h)).symm),bB (Nat.sub_le ..) ha⟩
 case Mult=>exact ak λh=>a2 (y6 h ha hb) λh1 h2=>⟨jT ((d7 (show _/\_ from⟨Nat.lt_trans h1 (by decide),Nat.lt_trans h2 (by decide)⟩)).trans (aT some (Int.natCast_mul a b).symm)),Nat.mul_le_mul ha hb⟩
 case Mod=>exact ak λh=>have h:=e9 h;⟨jT ((dX (show ¬(b:Int)=0 by lia)).trans (aT some (Int.fmod_eq_emod_of_nonneg _ (MS b)))),bB (Nat.le_sub_one_of_lt (qd a h)) (Nat.sub_le_sub_right hb 1)⟩
 case FloorDiv=>exact ak λh=>ak λh'=>have h':=e9 h';a2 (y6 h ha hb) λh1 h2=>⟨jT ((dX (show ¬((b:Int)=0\/2 ^ 28<=(a:Int).natAbs\/2 ^ 28<=(b:Int).natAbs) by rw[Int.natAbs_natCast,Int.natAbs_natCast];lia)).trans (aT some (Int.fdiv_eq_ediv_of_nonneg _ (MS b)))),Nat.div_le_div_right ha⟩
 all_goals exact trivial
def UG {a b m n:Nat} (h:Nat.ble (m+n) 4000000=true) (ha:a<=m) (hb:b<=n):a+b<=lim:=bB (xi ha hb) (bB (e9 h) (by decide))
def ZF (U:Program) (w:World) (Y:Base) (op:Operator) (x y:DV) (z:Res×Nat):Prop:=(∀{C:Nat} {sc:Scope} {d:Nat} {a b:Expr} {pos:Pos} {Z aa ah:aj},aC U w C Y sc d a Z x aa->aC U w C Y sc d b aa y ah->cO U w C Y sc d (.BinOp a op b pos) Z z.1 ah)/\zI z.1<=z.2
def El (x y:DV) (m n:Nat) (hm:HB x<=m) (hn:HB y<=n):On (ZF U w Y op x y) (XM op x y m n):=
 (i7 x).or (λa ea=>(i7 y).b λb eb=>by
   rw[<-ea] at hm ⊢;rw[<-eb] at hn ⊢
   exact(v9 (U:=U) (w:=w) a b m n hm hn).b λz hz=>⟨λha hb=>(me ha hb hz.1).plain,hz.2⟩)
 λ_=>(cT x).or (λs es=>by
  rw[<-es] at hm ⊢
  exact dY (λc=>opA c▸(cT y).b λs' tG=>ak λh=>by
   rw[<-tG] at hn ⊢
   exact⟨λha hb=>(me ha hb (lN (UG h hm hn))).plain,bB (jk c9) (xi hm hn)⟩)
   λ_=>ak λc=>opM c▸(bp s).b λc hc=>(i7 y).b λb eb=>ak λh=>by
    rw[<-eb] at hn ⊢
    rw[<-hc]
    exact⟨λha hb'=>(me ha hb' (HU (bB hn (bB (e9 h) (by decide))))).plain,bB (jk tj) hn⟩)
 λ_=>(kc x).b λl el=>by
  rw[<-el] at hm ⊢
  exact dY (λc=>opA c▸(kc y).b λs' tG=>ak λh=>by
   rw[<-tG] at hn ⊢
   exact⟨λha hb=>sH ha hb (UG h hm hn),bB (jk c9) (xi hm hn)⟩)
   λ_=>ak λc=>opM c▸(bp l).b λv hv=>(i7 y).b λb eb=>ak λh=>by
    rw[<-eb] at hn ⊢
    rw[<-hv]
    exact⟨λha hb=>L3 ha hb (bB hn (e9 h)),bB (jk tj) hn⟩
structure ZI (U:Program) (w:World) (Y:Base) (d:Nat) (X:Cx) (Z:aj) (F:OF):Prop where
 E:∀e,On (λz=>cO U w X.C Y X.sc d e Z z.1 Z/\zI z.1<=z.2) (F.E e)
 T:∀e,On (λb=>bu U w X.C Y X.sc d e Z b Z) (F.T e)
def QO (v:DV) {r:Res} {n:Nat} (h:zI r<=n):HB r.rest<=n:=by cases r<;>first|exact h|exact jP _
def Sb {k:ae} {r:Res} (h:k=r.slot):∀{v:DV},ae.pv v=k->Res.pv v=r:=by
 subst h
 cases r<;>intro v q<;>first|exact aT Res.pv (ae.noConfusion q id) |exact ae.noConfusion q
def PL (c:Bool) (p q:Res×Nat):On (λz=>((if c then p else q).1=z.1)/\(zI p.1<=p.2->zI q.1<=q.2->zI z.1<=z.2)) (acA c p q):=
 (iA p.1.slot).b λu hu=>(iA q.1.slot).b λv hv=>(cT u).or (λs es=>(cT v).b λs' tG=>by
   rw[<-Sb rfl hu,<-Sb rfl hv,<-es,<-tG]
   cases c
   ·exact⟨(Sb rfl hv).symm.trans (aT Res.pv tG.symm),λ_ h=>bB h (oJ ..)⟩
   ·exact⟨(Sb rfl hu).symm.trans (aT Res.pv es.symm),λh _=>bB h (Hu ..)⟩)
   λ_=>(i7 u).b λa es=>(i7 v).b λb tG=>by
    rw[<-Sb rfl hu,<-Sb rfl hv,<-es,<-tG]
    cases c
    ·exact⟨(Sb rfl hv).symm.trans (aT Res.pv tG.symm),λ_ h=>bB h (oJ ..)⟩
    ·exact⟨(Sb rfl hu).symm.trans (aT Res.pv es.symm),λh _=>bB h (Hu ..)⟩
def Lg (l:List DV) (i:DV):On (λz=>(∃k,.int k=i/\idx k l.length=some z.1)/\l[z.1]?=some z.2.1/\HB z.2.1<=z.2.2) (oAt l i):=
 (bQ i).b λk hk=>(aY (idx k l.length)).b λj hj=>(aY l[j]?).b λz hz=>⟨⟨k,hk,hj⟩,hz,fu _⟩
def lT {k n:Nat} (h:k<n):idx (k:Int) n=some k:=by
 unfold idx
 rw[d7 (MS k),d7 (Int.ofNat_lt.mpr h),Int.toNat_natCast]
def YA {ss:List (List Nat)} {n:Nat}:(ss.getD n []).length<=cZ ss:=by
 induction ss generalizing n with
 |nil=>exact jP _
 |cons s ss ih=>
  cases n with
  |zero=>exact Hu ..
  |succ n=>exact bB ih (oJ ..)
def yG (l:List DV) (i:DV) (m:Nat) (h:HB i<=m):On (λz=>(∃k,.int k=i/\idx k l.length=some z.1)/\l[z.1]?=some z.2.1/\HB z.2.1<=z.2.2) (Lj l i m):=
 (i7 i).or (λn e=>dY (λc=>by
   rw[<-e] at h
   have z:n=0:=Nat.le_zero.mp (bB h (jk (iS c)))
   cases l with
   |nil=>exact trivial
   |cons a l=>exact⟨⟨n,e,lT (z▸MU _)⟩,by rw[z];rfl,fu _⟩) λ_=>(aY (strsOf l)).or (λss es=>ak λhb=>by
   rw[<-e] at h
   have lt:n<ss.length:=Ri h (e9 hb)
   rw[strs_map es]
   exact⟨⟨n,e,lT (by rw[mG];exact lt)⟩,by rw[Rf,zM lt,Y5,zM lt];rfl,YA⟩) λ_=>Lg l i) λ_=>Lg l i
def GO {C:Nat} {l:List Nat}:jQ U w C Y (.builtin "len") [.str l] (.pv (.int l.length)):=λA G L Z s us ro R hd Q k=>
 hd.fy λu us hu h=>h.jr (hu.gg λt hz=>P.len_str (by have hz:l.length<=2 ^ 22:=hz;show ¬((l.length:Nat):Int)>=2 ^ 63;lia) (k _ _ R.toks bb ⟨_,rfl⟩))
variable {X:Cx} {Z:aj} {β:iT} {F:OF} (O:mR U w Y d X) (FO:ZI U w Y d X Z F) (B:hY β Z.loc)
def rk {β:iT} {x:Str} {n:Nat} (h:∀b,aS β x=some b->n<=b):n<=NM β x n:=by
 unfold NM
 cases q:aS β x with
 |none=>exact fu _
 |some b=>exact h b q
def FC {C:Nat} {sc:Scope} {c:Const} {k:Nat} {pos:Pos}:On (λq=>cO U w C Y sc d (.Constant c k pos) Z q.1 Z) (mh c Z):=by
 cases c with
 |none=>exact y0.plain
 |bool b=>exact yX.plain
 |int i=>exact EH.plain
 |str x=>exact ak λh1=>(EJ (e9 h1)).plain
 |_=>exact trivial
include FO in
theorem Lf (es:List Expr):On (λvs=>dI U w X.C Y X.sc d es Z vs Z) (oA F es):=
 List.rec (motive:=λes=>On (λvs=>dI U w X.C Y X.sc d es Z vs Z) (oA F es)) dI.nil (λe _ ih=>ak λh=>(FO.E e).b λp q=>ih.b λ_ r=>dI.cons h q.1.rest r) es
include O
include B in
theorem Lk {x:Str} {pos:Pos}:On (λz=>cO U w X.C Y X.sc d (.Name x pos) Z z.1 Z/\zI z.1<=z.2) (R6 X Z β x):=
 dY (λc=>(sq (aG ..)).b λv e=>⟨(pH (aP c) e (O.DH _ _ (aP c))).plain,rk λb h=>B x b _ h e⟩)
  λ_=>ak λh1=>(aY (X.B.glob x)).b λv hv=>bz (O.t.glob _ _ hv) λ_ a b=>⟨(nk O.t.T (gs h1) a (O.DH _ _ (gs h1)) b).plain,fu _⟩
include B in
theorem PK {e:Expr} {x:Str} {p pos:Pos} (hs:noStar e=true) (hb:bA X.B.K X.sc x (.builtin "len")=true):On (λz=>cO U w X.C Y X.sc d (.Call (.Name x p) [e] [] pos) Z z.1 Z/\zI z.1<=z.2) (acz X Z β e):=
 (dm e).b λy h=>h▸ak λc=>(aY (aS Z.loc y)).b λk ek=>have ek:=(aG ..).symm.trans ek
   (Ax k).or (λl el=>⟨(yY O.t.T hb (uC (aP c) (el.symm▸ek) rfl (O.DH _ _ (aP c))) (h▸hs) (el.symm▸ek)).plain,rk λb hb=>(show M0 k<=b from B y b k hb ek) |> λq=>by rw[<-el] at q;exact q⟩)
   λ_=>(iA k).b λv ev=>(cT v).b λs es=>⟨(pG O.t.T hb (.cons (h▸hs) (pH (v:=.str s) (aP c) (es.symm▸ev.symm▸ek) (O.DH _ _ (aP c))) .nil) GO),rk λb hb=>(show M0 k<=b from B y b k hb ek) |> λq=>by rw[<-ev,<-es] at q;exact q⟩
omit O in
theorem PV {α:Type} {P:α->Prop} {o u:Option α} (h:On P o) (k:On P u):On P (aZ o u some):=by cases o;exact k;exact h
include FO
theorem v8 (e:Expr):On (λq=>∀r:DV,af U w X.C Y d (.ref q.1) q.2 [] none r none->aC U w X.C Y X.sc d e Z r Z) (PI X Z F e):=
 (ib e).b λc h=>(dm c.1).b λx h1=>ak λh2=>(aY (X.B.glob x)).b λv hv=>ak λh3=>(um v).b λg hg=>ak λhk=>ak λhn=>(Lf FO c.2.1).b λvs ha r hc=>by
   have hn:=SK.mp hn
   have q:=mf (pos:=c.2.2.2) (p:=c.1.pos) O.t.T (O.t.kept _ hk) hg (bz (O.t.glob _ _ hv) λ_ a b=>nk O.t.T (gs h3) a (O.DH _ _ (gs h3)) b) ha .nil (hn.symm▸hc)
   rw[<-h,<-h1,<-bT h2]
   exact q
include B in
theorem Lh {f:Expr} {es:List Expr} {ks:List Keyword} {pos:Pos}:On (λz=>cO U w X.C Y X.sc d (.Call f es ks pos) Z z.1 Z/\zI z.1<=z.2) (R4 X Z β F f es ks pos):=
 (v8 O FO _).or (λq hq=>(aY (X.code ..)).b λr hc=>ak λhr=>⟨(hq r.1 (by have k:=O.code _ _ _ _ r.1 r.2 hc;rw[SK.mp hr] at k;exact k)).plain,fu _⟩)
   λ_=>(dm f).b λx h=>h▸ak λh2=>bT h2▸ak λh1=>ak λcl=>(bp es).b λe he=>he▸ak λh3=>PK O B h3 (jX O h1 (O.t.yj _ cl))
theorem PM {o i:Expr} {pos:Pos}:On (λz=>cO U w X.C Y X.sc d (.Subscript o i pos) Z z.1 Z/\zI z.1<=z.2) (acB X Z F o i):=
 ak λhn=>(FO.E i).b λq hq=>(bZ O Z o).or (λp hP=>ak λhf=>(i6 (cv ..)).b λl el=>(yG l _ _ (QO .none hq.2)).b λz hz=>bz hz.1 λk ek hk=>⟨(sM hn hP.1 hf (ek▸hq.1.rest) el hk hz.2.1).plain,hz.2.2⟩)
  λ_=>(FO.E o).b λp hp=>(cT p.1.rest).or (λs es=>(i7 q.1.rest).b λn en=>ak λhb=>by
   have hq':=QO .none hq.2
   rw[<-en] at hq'
   have lt:n<s.length:=Ri hq' (e9 hb)
   exact⟨(oz hn (es▸hp.1.rest) (en▸hq.1.rest) (LQ (lT lt) (c:=s.getD n 0) (by rw[zM lt,Y5,zM lt];rfl))).plain,fu 1⟩)
   λ_=>(kc p.1.rest).b λl el=>(yG l _ _ (QO .none hq.2)).b λz hz=>bz hz.1 λk ek hk=>⟨(oz hn (el▸hp.1.rest) (ek▸hq.1.rest) (ED hk hz.2.1)).plain,hz.2.2⟩
omit O in
theorem yI (o:Option Expr):On (u6 U w X.C Y X.sc d o Z) (Ll F o):=by
 cases o with
 |none=>exact rfl
 |some e=>exact(FO.E e).b λp h=>(bQ p.1.rest).b λi hi=>⟨i,rfl,hi▸h.1.rest⟩
omit O in
theorem PJ {o:Expr} {q:Option Expr×Option Expr} {p pos:Pos}:On (λz=>cO U w X.C Y X.sc d (.Subscript o (.Slice q.1 q.2 none p) pos) Z z.1 Z/\zI z.1<=z.2) (acw F o q):=
 (FO.E o).b λr hr=>(kc r.1.rest).b λl el=>ak λhz=>(yI FO q.1).b λlo ha=>(yI FO q.2).b λhi hb=>by
   have z:=QO .none hr.2
   rw[<-el] at z
   exact⟨Qn (el▸hr.1.rest) ha hb (bB z (bB (e9 hz) (by decide))),bB (Iu l lo hi) z⟩
theorem Em {a:Expr} {ops:List CmpOp} {bs:List Expr} {pos:Pos}:On (λc=>bu U w X.C Y X.sc d (.Compare a ops bs pos) Z c Z/\aC U w X.C Y X.sc d (.Compare a ops bs pos) Z (.bool c) Z) (XN X F a ops bs):=
 (bp ops).b λop h=>(bp bs).b λb h'=>h▸h'▸CB λhm=>(FO.E a).b λp h0=>(FO.E b).b λq h1=>(aY (X.B.cmp ..)).up λz hz=>⟨wW h0.1.rest h1.1.rest (O.t.cmp _ _ _ _ hz) hm,wq h0.1.rest h1.1.rest (O.t.cmp _ _ _ _ hz) hm⟩
omit O in
theorem PF {es:List Expr} {pos:Pos}:On (λb=>bu U w X.C Y X.sc d (.BoolOp .And es pos) Z b Z) (XK F es):=
 List.rec (motive:=λes=>On (λb=>bu U w X.C Y X.sc d (.BoolOp .And es pos) Z b Z) (XK F es)) jh (λe _ ih=>(FO.T e).b λa h=>ih.or (λb k=>jf h (by cases a;exact⟨rfl,rfl⟩;exact k)) λ_=>CB λc=>jf h (by rw[c];exact⟨rfl,rfl⟩)) es
omit O in
theorem XO {es:List Expr} {pos:Pos}:On (λb=>bu U w X.C Y X.sc d (.BoolOp .Or es pos) Z b Z) (oOr F es):=
 List.rec (motive:=λes=>On (λb=>bu U w X.C Y X.sc d (.BoolOp .Or es pos) Z b Z) (oOr F es)) td (λe _ ih=>(FO.T e).b λa h=>ih.or (λb k=>wY h (by cases a;exact k;exact⟨rfl,rfl⟩)) λ_=>ak λc=>wY h (by rw[c];exact⟨rfl,rfl⟩)) es
theorem PN {e:Expr}:On (λb=>bu U w X.C Y X.sc d e Z b Z) (acC X Z F e):=
 (Eh e).or (λq h=>ak λc=>(FO.T q.2).b λp h'=>h▸rP c▸E7 h') λ_=>(rm e).or (λq h=>h▸by
   cases q.1
   ·exact PF FO
   ·exact XO FO)
   λ_=>(vj e).or (λq h=>h▸(Em O FO).up λ_ k=>k.1) λ_=>ak λhv=>(bZ O Z e).or (λp hP=>(aY (g8 Z p)).b λk hk=>(aY (MC k)).up λb hb=>E8 (k:=k) (λA G L s env ro eo R Q kk=>hP.1 A G L s env ro eo R _ λa t lS=>kk _ _ ((R.gY lS ((cv ..).symm.trans hk)).mono (.refl G) (λ_ _ _ h=>h) (acL p))) hb (kn hv))
    λ_=>(FO.E e).b λp h=>(aY (mE p.1.rest)).up λb hb=>wZ h.1.rest hb (kn hv)
include B in
theorem acx {e:Expr}:On (λz=>cO U w X.C Y X.sc d e Z z.1 Z/\zI z.1<=z.2) (oE X Z β F e):=by
 cases e with
 |BinOp a op b pos=>exact(FO.E a).b λp hp=>(FO.E b).b λq hq=>(El (U:=U) (w:=w) (Y:=Y) p.1.rest q.1.rest p.2 q.2 (QO .none hp.2) (QO .none hq.2)).up λz hz=>⟨hz.1 hp.1.rest hq.1.rest,hz.2⟩
 |UnaryOp op a pos=>exact ak λc=>yd c▸(FO.E a).b λp hp=>(bQ p.1.rest).b λi hi=>⟨(EI (hi▸hp.1.rest)).plain,by
  have q:=QO .none hp.2
  rw[<-hi] at q
  exact bB (jk (Int.natAbs_neg i)) q⟩
 |IfExp t a b pos=>exact(FO.T t).b λc hc=>PV ((FO.E a).b λp hp=>(FO.E b).b λq hq=>(PL c p q).up λz hz=>⟨sJ hc (hz.1▸by cases c;exact hq.1;exact hp.1),hz.2 hp.2 hq.2⟩) (dY (λe=>(FO.E a).up λz h=>⟨sJ (c:=true) (e▸hc) h.1,h.2⟩) λe=>(FO.E b).up λz h=>⟨sJ (c:=false) (e▸hc) h.1,h.2⟩)
 |Compare a ops bs pos=>exact(Em O FO).b λc h=>⟨h.2.plain,fu _⟩
 |Call f es ks pos=>exact Lh O FO B
 |Constant c k pos=>exact FC.b λp h=>⟨h,fu _⟩
 |Subscript o i pos=>exact(G7 i).or (λq h=>h▸PJ FO) λ_=>PM O FO
 |Name x pos=>exact Lk O B
 |List es pos=>exact(Lf FO es).b λvs h=>ak λhz=>⟨yZ h (bB (e9 hz) (by decide)),fu _⟩
 |Tuple es k pos=>exact(Lf FO es).b λvs h=>ak λhz=>⟨(uM h (bB (e9 hz) (by decide))).plain,fu _⟩
 |_=>exact trivial
include B
omit FO
theorem yH (n:Nat):ZI U w Y d X Z (oN X Z β n):=
 Nat.rec ⟨λ_=>trivial,λ_=>trivial⟩ (λ_ ih=>⟨λ_=>acx O ih B,λ_=>PN O ih⟩) n
end
def Am (Z:aj) (x:Str) (l:List DV):aj:=⟨Z.aq,bS Z.loc x (.pv (.lst l))⟩
abbrev zC:=au×aj×iT
section
variable (X:Cx)
def oV (Z:aj) (β:iT):Expr->OV:=(oN X Z β 40).E
def R5 (x:Str) (v:Expr) (Z:aj) (β:iT):OV:=(gD v).bind λq=>(dW q.1).bind λy=>bif cU y x then((aS Z.loc x).bind vQ).bind λl=>(oV X (Am Z x l) β q.2.2).bind λr=>XM q.2.1 (.lst l) r.1.rest (NM β x l.length) r.2 else none
def acv (t v:Expr) (Z:aj) (β:iT):Option zC:=bif cY v then(dW t).bind λx=>bif fO X x then(aZ (R5 X x v Z β) (oV X Z β v) some).bind λp=>some (.next,⟨Z.aq,bS Z.loc x p.1.slot⟩,bS β x p.2) else none else none
def acu (st:Stmt) (Z:aj) (β:iT):Option zC:=(jv X st Z).bind λq=>(oV X Z β q.2).bind λr=>((g8 Z q.1).bind vQ).bind λl=>Pl.rec (motive:=λ_=>Option zC) (λx=>bif Nat.ble (NM β x l.length+1) 4000000 then some (.next,⟨Z.aq,bS Z.loc x (.ml (l++[r.1.rest]))⟩,bS β x (NM β x l.length+1)) else none) (λ_=>none) q.1
def Zn (ih:Stmt->aj->iT->Option zC) (l:List Stmt):aj->iT->Option zC:=List.rec (motive:=λ_=>aj->iT->Option zC) (λZ β=>some (.next,Z,β)) (λst _ go Z β=>(ih st Z β).bind λp=>bif p.1.p7 then some p else go p.2.1 p.2.2) l
def oS (ih:Stmt->aj->iT->Option zC) (st:Stmt) (Z:aj) (β:iT):Option zC:=
 @Stmt.casesOn (λ_=>Option zC) st (λ_ _ _ _ _ _ _ _ _ _=>none) (λ_ _ _ _ _ _ _ _ _ _=>none) (λ_ _ _ _ _ _ _ _ _ _ _=>none) (λo _=>o.bind λe=>(oV X Z β e).bind λp=>some (.ret p.1.rest,Z,β)) (λ_ _=>none) (λts v _=>(dJ ts).bind λt=>acv X t v Z β) (λ_ _ _ _ _ _ _=>none) (λ_ _ _ _=>none) (λ_ _ _ _ _=>none)
  (λ_ _ _ _ _=>none) (λ_ _ _ _ _=>none) (λ_ _ _ _=>none) (λt b o _=>((oN X Z β 40).T t).bind λc=>bif c then Zn ih b Z β else Zn ih o Z β)
  (λ_ _ _=>none) (λ_ _ _=>none) (λ_ _ _=>none) (λ_ _ _=>none) (λ_ _ _ _ _=>none) (λ_ _ _ _ _=>none) (λ_ _ _=>none) (λ_ _=>none) (λ_ _ _ _=>none) (λ_ _=>none) (λ_ _=>none) (λ_ _=>acu X st Z β) (λ_=>some (.next,Z,β)) (λ_=>some (.brk,Z,β)) λ_=>some (.cont,Z,β)
def oX (n:Nat):Stmt->aj->iT->Option zC:=Nat.rec (λ_ _ _=>none) (λ_ ih=>oS X ih) n
end
section
variable {U:Program} {w:World} {Y:Base} {d:Nat} {X:Cx} (O:mR U w Y d X)
def pf {α:Type} (l:List (Str×α)) (x:Str) (v:α) (y:Str):aS (bS l x v) y=if y=x then some v else aS l y:=by rw[aG,bk,r7,aG]
def hY.put {β β':iT} {loc:List (Str×ae)} {x:Str} {k:ae} (B:hY β loc) (h:∀b,aS β' x=some b->M0 k<=b) (o:∀y,y≠x->aS β' y=aS β y):hY β' (bS loc x k):=λy c k' e1 e2=>by
 rw[<-aG,pf,aG] at e2
 by_cases q:y=x
 ·rw[d7 q] at e2;exact eN e2▸h c (q▸e1)
 ·rw[dX q] at e2;exact B y c k' (o y q▸e1) e2
def hY.new {β:iT} {loc:List (Str×ae)} {x:Str} {k:ae} {b:Nat} (B:hY β loc) (h:M0 k<=b):hY (bS β x b) (bS loc x k):=
 B.put (λc e=>by rw[pf,d7 rfl] at e;exact eN e▸h) λy q=>by rw[pf,dX q]
def Ex {α:Type} (l:List (Str×α)) (x:Str) (a b:α):put (put l x a) x b=put l x b:=by
 induction l with
 |nil=>exact d7 rfl
 |cons p r ih=>
  show put (if p.1=x then(x,a)::r else p::put r x a) x b=if p.1=x then(x,b)::r else p::put r x b
  by_cases q:p.1=x
  ·rw[d7 q,d7 q];exact d7 rfl
  ·rw[dX q,dX q];exact(dX q).trans (aT _ ih)
include O
theorem uA {Z:aj} {β:iT} (B:hY β Z.loc) (e:Expr):On (λz=>cO U w X.C Y X.sc d e Z z.1 Z/\zI z.1<=z.2) (oV X Z β e):=(yH O B 40).E e
theorem Li {x:Str} {v:Expr} {Z:aj} {β:iT} (B:hY β Z.loc) (h1:fO X x=true):On (λz=>(∃k,cO U w X.C Y X.sc d v Z z.1 ⟨Z.aq,put Z.loc x k⟩)/\zI z.1<=z.2) (R5 X x v Z β):=
 (lM v).b λq hq=>(dm q.1).b λy hy=>ak λhs=>(i6 (aG ..)).b λl el=>have hx:=(bF _ _).mp hs
   have B':hY β (Am Z x l).loc:=B.put (λb e=>(show M0 (.ml l)<=b from B x b _ e el)) λ_ _=>rfl
   have e1:aC U w X.C Y X.sc d q.1 Z (.lst l) (Am Z x l):=by
    have hy:.Name x q.1.pos=q.1:=hx▸hy
    unfold Am
    rw[<-hy,bk];exact nj (aP h1) el (O.DH _ _ (aP h1))
   (uA O B' q.2.2).b λr hr=>(El (U:=U) (w:=w) (Y:=Y) (.lst l) r.1.rest _ r.2 (rk λb e=>(show M0 (.ml l)<=b from B x b _ e el)) (QO .none hr.2)).up λz hz=>⟨⟨.pv (.lst l),bk Z.loc x (.pv (.lst l))▸hq▸hz.1 e1 hr.1.rest⟩,hz.2⟩
theorem PH {t v:Expr} {pos:Pos} {Z:aj} {β:iT} (B:hY β Z.loc):On (λq=>aU U w X.C Y X.sc d (.Assign [t] v pos) Z q.1 q.2.1/\hY q.2.2 q.2.1.loc) (acv X t v Z β):=
 ak λhc=>(dm t).b λx hx=>hx▸ak λh1=>On.b (P:=λz=>aU U w X.C Y X.sc d (.Assign [.Name x t.pos] v pos) Z .next ⟨Z.aq,put Z.loc x z.1.slot⟩/\zI z.1<=z.2)
  ((Li O B h1).or (λz hz=>⟨fi hz.1 λk h=>Ex Z.loc x k z.1.slot▸gw h (aP h1) hc,hz.2⟩) λ_=>(uA O B v).up λz hz=>⟨gw hz.1 (aP h1) hc,hz.2⟩) λz hz=>⟨bk Z.loc x z.1.slot▸hz.1,B.new hz.2⟩
theorem PG {st:Stmt} {Z:aj} {β:iT} (B:hY β Z.loc):On (λq=>aU U w X.C Y X.sc d st Z q.1 q.2.1/\hY q.2.2 q.2.1.loc) (acu X st Z β):=
 (aY (jv X st Z)).b λq hq=>(uA O B q.2).b λr hr=>(i6 (cv ..)).b λl el=>by
   obtain⟨p,e⟩:=q
   cases p with
   |aq x=>exact trivial
   |loc x=>exact ak λh=>have z:l.length<=NM β x l.length:=rk λb e=>B x b _ e el
    ⟨bk Z.loc x (.ml (l++[r.1.rest]))▸xp O hq hr.1.rest el (bB (Rj z) (bB (e9 h) (by decide))),B.new (bB (jk c9) (Rj z))⟩
def D2 (X:Cx) (st:Stmt):Option (Str×Expr):=(vc st).bind λq=>(dJ q.1).bind λt=>bif cY q.2 then(dW t).bind λx=>bif fO X x then(gD q.2).bind λb=>(dW b.1).bind λy=>bif cU y x&&Nat.beq b.2.1.ctorIdx 0 then some (x,b.2.2) else none else none else none
theorem Jf (st:Stmt):On (λq=>∀{Z:aj} {l l':List DV},aS Z.loc q.1=some (.ml l)->aC U w X.C Y X.sc d q.2 (Am Z q.1 l) (.lst l') (Am Z q.1 l)->l.length+l'.length<=lim->aU U w X.C Y X.sc d st Z .next ⟨Z.aq,bS Z.loc q.1 (.ml (l++l'))⟩) (D2 X st):=
 (jR st).b λq h=>(bp q.1).b λt h1=>ak λhc=>(dm t).b λx hx=>ak λhl=>(lM q.2).b λb hb=>(dm b.1).b λy hy=>ak λhs {Z l l'} el he hz=>a2 (aw hs) λhs ho=>by
   have el:=(aG ..).symm.trans el
   have hy:.Name x b.1.pos=b.1:=(bF _ _).mp hs▸hy
   unfold Am at he
   rw[bk] at he
   have e:=sH (pos:=q.2.pos) (nj (pos:=b.1.pos) (aP hl) el (O.DH _ _ (aP hl))) he hz
   rw[hy,opA ho,hb] at e
   have k:=λp=>gw (p:=t.pos) (pos:=p) e (aP hl) hc
   rw[hx,h1] at k
   exact fi h λp h=>by
    have k:=k p
    rw[h] at k
    rw[bk,<-Ex Z.loc x (.pv (.lst l))]
    exact k
omit O in
theorem C9 {C:Nat} {sc:Scope} {x:Str} {l:List DV} {ss:List Stmt} {f:au} {Z ba:aj} (hx:aS Z.loc x=some (.ml l)) (h:aF U w C Y sc d ss (Am Z x l) f ba):aF U w C Y sc d ss Z f ba:=λA G L s env ro eo R Q k=>by
 have hx:=(aG ..).symm.trans hx
 unfold Am at h
 rw[bk] at h
 exact bz R.locs λm hm hs=>bz (hs.hit x _ hx) λu hu q=>gm q λa vs n q=>a5 q λe g hd hz o=>a3 (R.freeze hm hs hx (hu.trans (aT some e)) g hd hz o.1 o.2) λh1 h2 _=>h A _ L s env ro eo h1 Q λG' r s' R' l'=>k G' r s' R' (h2.up.trans' l')
def acs (X:Cx) (st:Stmt) (Z:aj) (β:iT):Option (Str×List Nat×Nat×List DV):=(vc st).bind λq=>(dJ q.1).bind λt=>bif cY q.2 then(dW t).bind λx=>bif fO X x then(gD q.2).bind λb=>bif Nat.beq b.2.1.ctorIdx 0 then(oV X Z β b.1).bind λr=>bif Nat.ble r.2 2000000 then(iE r.1.rest).bind λs=>(PI X Z (oN X Z β 40) b.2.2).bind λc=>some (x,s,c.1,c.2) else none else none else none else none
theorem PE {Z:aj} {β:iT} (B:hY β Z.loc) (st:Stmt):On (λq=>∀r:List Nat,af U w X.C Y d (.ref q.2.2.1) q.2.2.2 [] none (.str r) none->r.length<=2000000->aU U w X.C Y X.sc d st Z .next ⟨Z.aq,bS Z.loc q.1 (.pv (.str (q.2.1++r)))⟩) (acs X st Z β):=
 (jR st).b λq h=>(bp q.1).b λt h1=>ak λhc=>(dm t).b λx hx=>ak λhl=>(lM q.2).b λb hb=>ak λho=>(uA O B b.1).b λz hz=>ak λh2=>(cT z.1.rest).b λs es=>(v8 O (yH O B 40) b.2.2).b λc hc' r hr rK=>by
   have zz:=QO .none hz.2
   rw[<-es] at zz
   have e:=me (pos:=q.2.pos) (es▸hz.1.rest) (hc' _ hr) (lN (UG (Nat.ble_eq_true_of_le (xi (e9 h2) (fu 2000000))) zz rK))
   rw[opA ho,hb] at e
   have k:=λp=>gw (p:=t.pos) (pos:=p) e.plain (aP hl) hc
   rw[hx,h1] at k
   exact fi h λp h=>by rw[bk];exact h▸k p
def SS (U:Program) (w:World) (Y:Base) (d:Nat) (X:Cx) (ih:Stmt->aj->iT->Option zC):Prop:=∀st Z β,hY β Z.loc->On (λq=>aU U w X.C Y X.sc d st Z q.1 q.2.1/\hY q.2.2 q.2.1.loc) (ih st Z β)
omit O in
theorem CA {ih:Stmt->aj->iT->Option zC} (I:SS U w Y d X ih) (l:List Stmt):∀Z β,hY β Z.loc->On (λq=>aF U w X.C Y X.sc d l Z q.1 q.2.1/\hY q.2.2 q.2.1.loc) (Zn ih l Z β):=
 List.rec (motive:=λl=>∀Z β,hY β Z.loc->On (λq:zC=>aF U w X.C Y X.sc d l Z q.1 q.2.1/\hY q.2.2 q.2.1.loc) (Zn ih l Z β)) (λ_ _ B=>⟨bx,B⟩) (λst r go Z β B=>(I st Z β B).b λp h=>dY (λc=>⟨jc h.1 c,h.2⟩) λc=>(go p.2.1 p.2.2 h.2).up λ_ k=>⟨ao (kj c▸h.1) k.1,k.2⟩) l
omit O in
theorem Lm {ih:Stmt->aj->iT->Option zC} (I:SS U w Y d X ih) {l':List Stmt} {aa ah:aj} {f:au} {SH:iT} (k:aF U w X.C Y X.sc d l' aa f ah) (l:List Stmt):∀Z β,hY β Z.loc->Zn ih l Z β=some (.next,aa,SH)->aF U w X.C Y X.sc d (l++l') Z f ah:=by
 induction l with
 |nil=>exactλZ β _ h=>(show Z=aa from aT (λq:zC=>q.2.1) (eN h))▸k
 |cons st l go=>
  exactλZ β B h=>bz (pR h) λp hp h=>by
   have q:=(I st Z β B).get hp
   revert h
   cases c:p.1.p7 with
   |true=>exactλh=>tf (c.symm.trans (aT (λq:zC=>q.1.p7) (eN h)))
   |false=>exactλh=>ao (kj c▸q.1) (go p.2.1 p.2.2 q.2 h)
theorem R7 (n:Nat):SS U w Y d X (oX X n):=
 Nat.rec (λ_ _ _ _=>trivial) (λ_ I st Z β B=>by
  cases st with
  |Assign ts v pos=>exact(bp ts).b λt h=>h▸PH O B
  |Expr v pos=>exact PG O B
  |If t b o pos=>exact((yH O B 40).T t).b λc hc=>dY (λe=>(CA I b Z β B).up λ_ k=>⟨p9 (c:=true) (e▸hc) k.1,k.2⟩) λe=>(CA I o Z β B).up λ_ k=>⟨p9 (c:=false) (e▸hc) k.1,k.2⟩
  |Return o pos=>exact(aY o).b λe h=>h▸(uA O B e).b λp h=>⟨sV h.1.rest,B⟩
  |Pass pos=>exact⟨EZ,B⟩
  |Break pos=>exact⟨Mr,B⟩
  |Continue pos=>exact⟨EV,B⟩
  |_=>exact trivial) n
end
def fU (β:iT) (loc:List (Str×ae)):Prop:=List.rec (motive:=λ_=>Prop) True (λp _ ih=>Option.rec (motive:=λ_=>Prop) ih (λk=>M0 k<=p.2/\ih) (aS loc p.1)) β
def fU.ok {β:iT} {loc:List (Str×ae)} (h:fU β loc):hY β loc:=by
 induction β with
 |nil=>exactλ_ _ _ e=>ns e
 |cons p β ih=>
  intro x b k e1 e2
  rw[aG,dh] at e1
  have h1:Option.rec (motive:=λ_=>Prop) (fU β loc) (λk=>M0 k<=p.2/\fU β loc) (aS loc p.1):=h
  by_cases q:p.1=x
  ·rw[d7 q] at e1
   rw[q,aG,e2] at h1
   exact eN e1▸h1.1
  ·rw[dX q] at e1
   refine ih ?_ x b k ((aG ..).trans e1) e2
   cases c:aS loc p.1 with
   |none=>rw[c] at h1;exact h1
   |some k=>rw[c] at h1;exact h1.2
@[irreducible] def oR (H:Array Nat->Int) (n f:Nat) (l:List Stmt) (Z:aj) (β:iT):Option (au×aj):=(Zn (oX (eQ H bY n f) 20) l Z β).map λq=>(q.1,q.2.1)
@[irreducible] def uz (H:Array Nat->Int) (n f:Nat) (e:Expr) (Z:aj) (β:iT):Option Bool:=(oN (eQ H bY n f) Z β 40).T e
@[irreducible] def oK (H:Array Nat->Int) (n f:Nat) (e:Expr) (Z:aj) (β:iT):Option Res:=(oV (eQ H bY n f) Z β e).map λq=>q.1
@[irreducible] def oAC (H:Array Nat->Int) (n f:Nat) (st:Stmt) (Z:aj) (β:iT):Option (Str×List Nat×Nat×List DV):=acs (eQ H bY n f) st Z β
@[irreducible] def oAk (H:Array Nat->Int) (n f:Nat) (e:Expr) (Z:aj) (β:iT):Option (Nat×List DV):=PI (eQ H bY n f) Z (oN (eQ H bY n f) Z β 40) e
section
variable {U:Program} {w:World} {Y:Base} {f:Nat} (hf:bc f vr=true) (hI:qh (KF (HH w)) f=some (FI (HH w) f)) {n:Nat} (T0:cQ (KF (HH w)) Y) (hl:bw Y) {Z:aj} {β:iT} (B:fU β Z.loc)
include hf hI T0 hl B
theorem wc {l:List Stmt} {fl:au} {ba:aj} (h:oR (HH w) n f l Z β=some (fl,ba)):aF U w 1521 Y (FI (HH w) f).sc n l Z fl ba:=by
 unfold oR at h
 exact bz (xl.mp h) λq e1 e2=>by
  have k:=((CA (R7 (zD (U:=U) hf hI T0 hl) 20) l Z β B.ok).get e1).1
  exact(show q.1=fl from aT Prod.fst e2)▸(show q.2.1=ba from aT Prod.snd e2)▸k
theorem hW {l l':List Stmt} {fl:au} {ba Rb:aj} (h:oR (HH w) n f l Z β=some (.next,ba)) (k:aF U w 1521 Y (FI (HH w) f).sc n l' ba fl Rb):aF U w 1521 Y (FI (HH w) f).sc n (l++l') Z fl Rb:=by
 unfold oR at h
 exact bz (xl.mp h) λq e1 e2=>Lm (SH:=q.2.2) (R7 (zD (U:=U) hf hI T0 hl) 20) k l Z β B.ok (e1.trans (aT some (show q=(.next,ba,q.2.2) from(show q.1=.next from aT Prod.fst e2)▸(show q.2.1=ba from aT Prod.snd e2)▸rfl)))
theorem wa {e:Expr} {c:Bool} (h:uz (HH w) n f e Z β=some c):bu U w 1521 Y (FI (HH w) f).sc n e Z c Z:=by
 unfold uz at h
 exact((yH (zD (U:=U) hf hI T0 hl) B.ok 40).T e).get h
theorem sj {e:Expr} {r:Res} (h:oK (HH w) n f e Z β=some r):cO U w 1521 Y (FI (HH w) f).sc n e Z r Z:=by
 unfold oK at h
 exact bz (xl.mp h) λq e1 e2=>e2▸((uA (zD (U:=U) hf hI T0 hl) B.ok e).get e1).1
theorem Lr {e:Expr} {g:Nat} {vs:List DV} {r:DV} {m:Nat} (h:oAk (HH w) n f e Z β=some (g,vs)) (hc:af U w 1521 Y m (.ref g) vs [] none r none) (le:m<=n:=by decide):aC U w 1521 Y (FI (HH w) f).sc n e Z r Z:=by
 unfold oAk at h
 have k:=(v8 (zD (U:=U) hf hI T0 hl) (yH (zD (U:=U) hf hI T0 hl) B.ok 40) e).get h
 exact k r (hc.up le)
theorem yJ {st:Stmt} {x:Str} {s r:List Nat} {g m:Nat} {vs:List DV} (h:oAC (HH w) n f st Z β=some (x,s,g,vs)) (hc:af U w 1521 Y m (.ref g) vs [] none (.str r) none) (hz:r.length<=2000000) (le:m<=n:=by decide):aU U w 1521 Y (FI (HH w) f).sc n st Z .next ⟨Z.aq,bS Z.loc x (.pv (.str (s++r)))⟩:=by
 unfold oAC at h
 have k:=(PE (zD (U:=U) hf hI T0 hl) B.ok st).get h
 exact k r (hc.up le) hz
omit B in
theorem GS {st:Stmt} {x:Str} {e:Expr} {l l':List DV} (h:(D2 (eQ (HH w) bY n f) st,aS Z.loc x)=(some (x,e),some (.ml l))) (he:aC U w 1521 Y (FI (HH w) f).sc n e (Am Z x l) (.lst l') (Am Z x l)) (hz:l.length+l'.length<=lim):aU U w 1521 Y (FI (HH w) f).sc n st Z .next ⟨Z.aq,bS Z.loc x (.ml (l++l'))⟩:=
 (Jf (zD (U:=U) hf hI T0 hl) st).get (kS h).1 (kS h).2 he hz
end
structure tT (w:World) (Y:Base) (sc:Scope) (x:Str) (d:DV) (A:Around) (G:Gh) (s:Shared) (env:Env):Prop where
 ro:dH A 0
 V:G.V=Y.V
 pins:∀b o,G.g b=some o->s.heap.get? b=some o
 bas:∀b o,Y.hp.get? b=some o->G.g b=some o
 sc:env.scope=sc
 gl:env.globals=mainGlobals
 loc:∃m u,s.heap.Ns env.locals m/\m x=some u/\DR w.params G d u
structure hZ (sc:Scope) (x:Str):Prop where
 kd:sc.kind=.function
 nm:∀y∈sc.names,y.2≠.free/\y.2≠.cell/\(y.2=.local->sc.names.lookup y.1=some .local)
 hx:sc.names.lookup x=some .local
 db:(x==("__debug__":Str))=false
def Im (sc:Scope) (x:Str):Bool:=sc.names.all (λy=>!Nat.beq y.2.ctorIdx 2&&(!Nat.beq y.2.ctorIdx 1&&(!mX y.2||gX (aS sc.names y.1) mX)))&&(Nat.beq sc.kind.ctorIdx 1&&(gX (aS sc.names x) mX&&!cU x K1))
def D6 {l:List (Str×NameKind)} {x:Str} (h:gX (aS l x) mX=true):l.lookup x=some .local:=bz (dM h) λ_ e h=>(g9 ..).symm.trans (e.trans (aT some (o5 h).symm))
def FA {sc:Scope} {x:Str} (h:Im sc x=true):hZ sc x:=a2 (aw h) λh1 h=>a2 (aw h) λh2 h=>a2 (aw h) λh3 h4=>
 ⟨pV h2,λy m=>a2 (aw (gk.mp h1 y m)) λa b=>a2 (aw b) λb c=>⟨λe=>ft ((aT (λk:NameKind=>!Nat.beq k.ctorIdx 2) e).symm.trans a),λe=>ft ((aT (λk:NameKind=>!Nat.beq k.ctorIdx 1) e).symm.trans b),λe=>D6 (by rw[e] at c;exact c)⟩,D6 h3,HE.mpr (i9 (iy h4))⟩
def hZ.relabel {sc:Scope} {x:Str} (S:hZ sc x) (env:Env):relabel sc env=sc:=by
 unfold PySem.relabel
 rw[show sc.names.map (λ(n,k)=>if(k==NameKind.free&&env.scope.kind==.function&&env.kindOf n==some .cell) then(n,NameKind.cell) else(n,k))=sc.names from(List.map_congr_left λy hy=>by
  show(if(y.2==NameKind.free&&env.scope.kind==.function&&env.kindOf y.1==some .cell)=true then(y.1,NameKind.cell) else(y.1,y.2))=id y
  rw[HE.mpr (S.nm y hy).1];rfl).trans (List.map_id _)]
section
variable (U:Program) (w:World) (Y:Base) (sc:Scope) (x:Str)
def fW (e:Expr) (d d':DV):Prop:=∀(A:Around) (G:Gh) (s:Shared) (env:Env),tT w Y sc x d A G s env->∀Q:Value->Shared->Prop,(∀y t,DR w.params G d' y->Q y {s with toks:=t})->WP U w A (eval e env) s Q
def qW (e:Expr) (d:DV) (b:Bool):Prop:=∀(A:Around) (G:Gh) (s:Shared) (env:Env),tT w Y sc x d A G s env->∀Q:Bool->Shared->Prop,(∀t,Q b {s with toks:=t})->WP U w A (isTrue e env (eval e env)) s Q
end
section
variable {U:Program} {w:World} {Y:Base} {sc:Scope} {x:Str} {K:Frag} {p:Pos} {d u v z:DV} {a b:Expr}
def tT.tk {A:Around} {G:Gh} {s:Shared} {env:Env} (c:tT w Y sc x d A G s env) (t:Nat):tT w Y sc x d A G {s with toks:=t} env:=⟨c.ro,c.V,c.pins,c.bas,c.sc,c.gl,c.loc⟩
def Uz (S:hZ sc x):fW U w Y sc x (.Name x p) d d:=λA G s env c Q k=>zE c.loc λm u hn hm du=>wpAny_Name (wpAny_loadName_local (m:=m) (v:=u) (by rw[c.sc];exact S.kd) (by rw[Env.kindOf,c.sc];exact S.hx) hn hm (k u s.toks du)) S.db
def aby {i:Int} {k:Nat}:fW U w Y sc x (.Constant (.int i) k p) d (.int i):=λ_ _ _ _ _ _ k _ _ _=>k _ _ ⟨_,rfl⟩
def abz {y:Str} {k:Nat} (h:y.cps.toList.length<=lim):fW U w Y sc x (.Constant (.str y) k p) d (.str y.cps.toList):=λ_ _ _ _ _ _ k _ _ _=>k _ _ ⟨_,rfl,h⟩
def abw {op:Operator} (ha:fW U w Y sc x a d u) (hb:fW U w Y sc x b d v) (h:qe U w op u v z):fW U w Y sc x (.BinOp a op b p) d z:=λA G s env c Q k=>
 wpAny_BinOp (ha A G s env c _ λr t d1=>hb A G _ env (c.tk t) _ λr' t' d2=>h A G _ r r' c.ro d1 d2 _ λr3 t3 d3=>k r3 t3 d3)
def Ux (T:cQ K Y) {y:Str} {v:Value} (hk:sc.kind=.function) (hy:sc.names.lookup y=some .globalImplicit) (e:nsIn K mainGlobals y=some (some v)) (hd:(y==("__debug__":Str))=false) (hv:∀G:Gh,(∀b o,Y.hp.get? b=some o->G.g b=some o)->DR w.params G u v):fW U w Y sc x (.Name y p) d u:=λA G s env c Q k=>
 T.glob.elim λmg hg=>Name_function_global (by rw[c.sc];exact hk) (by rw[Env.kindOf,c.sc];exact hy) (loadGlobal_global (by rw[c.gl];exact hg.keeps λb o q=>c.pins b o (c.bas b o q)) (mg_of T.Jx hg e) (k v s.toks (hv G c.bas))) hd
def abA (FX:eG b=true) (ha:fW U w Y sc x a d u) (hb:fW U w Y sc x b d v) (h:qf U w Y.V u v z):fW U w Y sc x (.Subscript a b p) d z:=λA G s env c Q k=>
 hH FX (ha A G s env c _ λr t d1=>hb A G _ env (c.tk t) _ λr' t' d2=>zE (h A G _ r r' c.ro c.V (c.tk t').pins d1 d2) λT id u1 u2 u3=>⟨T,id,u1,u2,u3 _ λr3 t3 d3=>k r3 t3 d3⟩)
def abx {op:CmpOp} {c:Bool} (ha:fW U w Y sc x a d u) (hb:fW U w Y sc x b d v) (h:fh U w Y.V op u v c) (hm:behindInMarks op b=false):qW U w Y sc x (.Compare a [op] [b] p) d c:=λA G s env ca Q k=>
 wpAny_isTrue_Compare1 (ha A G s env ca _ λr t d1=>hb A G _ env (ca.tk t) _ λr' t' d2=>h A G _ r r' ca.ro ca.V (ca.tk t').pins d1 d2 _ λt3=>Za (k t3)) hm
end
def xR (v:Value):DV:=@Value.casesOn (λ_=>DV) v .none .none .none (λ_=>.none) (λi _=>.int i) (λ_ _=>.none) (λs _=>.str s.cps.toList) (λ_ _=>.none) (λ_=>.none) (λ_=>.none) λ_=>.none
def rG (d:DV):Bool:=Nat.beq d.ctorIdx 4||Nat.beq d.ctorIdx 5
def DK {P:Params} {G:Gh} {d:DV} {v:Value} (h:rG d=true) (k:DR P G d v):xR v=d:=by
 cases d<;>first|exact ft h|exact k.fQ λt=>rfl|exact k.gg λt _=>rfl
def TB {P:Params} {G:Gh} {l:List DV} {vs:List Value} (h:eC P G l vs) (hf:∀v∈l,rG v=true):l=vs.map xR:=by
 induction h with
 |nil=>rfl
 |cons a _ ih=>exact(aT (_::·) (ih λv m=>hf v (.tail _ m))).trans (aT (· ::_) (DK (hf _ (.head _)) a).symm)
def Lu {P:Params} {G:Gh} {g:DV->DV} {vs ys:List Value} (h:Paired (λv y=>DR P G (g (xR v)) y) vs ys):eC P G ((vs.map xR).map g) ys:=by
 induction h with
 |nil=>exact .nil
 |cons a _ ih=>exact .cons a ih
def vl {M:Model} {A:Around} {c:Code} {Q:Result->Shared->Prop} {s:Shared} (h:codeAny M A c (λr s'=>Grows s.heap s'.heap->Q r s') s):codeAny M A c Q s:=λΓ p hc hΓ=>mw (h Γ p hc hΓ) λr s' hr k=>⟨r,s',hr,k (mc hr)⟩
section
variable {U:Program} {w:World} {C:Nat} {K:Frag} {Y:Base} {sc rB:Scope} {d:Nat} {Z aa:aj} {A:Around} {G:Gh} {L:Addr} {s:Shared} {env:Env} {elt iter:Expr} {x y:Str} {px py pos Yp:Pos} {ifs:List Expr} {l:List DV} {p:DV->Bool} {g:DV->DV}
def t6 {use:Option (Value->Sem Unit)} {Q:Value->Shared->Prop} {fp:Pos} {a:Addr} {vs:List Value} {n:Nat} (S:hZ rB x) (ro:dH A d) (eo:cN sc L env) (R:Rep w.params C Y G L Z s) (hg:G.g a=some (bG vs n)) (hd:eC w.params G l vs) (hz:l.length<=lim) (MW:∀v∈l,rG v=true) (hs:∀env u,foldedSetIterable iter env u=pure u)
    (ht:(ifs=[]/\∀v,p v=true)\/∃t,ifs=[t]/\∀v∈l,qW U w Y rB x t v (p v)) (he:∀v∈l,p v=true->fW U w Y rB x elt v (g v))
    (fin:∀D C' h' tk m m' ys,s.heap.get? D=none->s.heap.get? C'=none->D≠C'->h'.Ns C' m'->h'.get? D=some (bG ys m)->eC w.params G ((l.filter p).map g) ys->(∀b o,s.heap.get? b=some o->h'.get? b=some o)->Grows s.heap h'->compPost (model U w) A (λ_ _=>False) use Q (.ref D) C' (.ok .next) {s with heap:=h',toks:=tk}):
    WP U w A (comprehension (.ListComp elt [⟨.Name x px,iter,ifs,0⟩] rB pos) rB env fp (newList []) false (pure (.ref a)) use) s Q:=by
 have el:=TB hd MW
 have zz:vs.length<=lim:=hd.length▸hz
 have hp:=R.pins _ _ hg
 have lt:=uY hp
 have up:∀b o,s.heap.get? b=some o->(s.heap.push {cls:=.type "list_iterator",data:=.fields #[.ref a,.int 0 0]}).get? b=some o:=λb o e=>MR _ e
 have old:∀b o,s.heap.get? b=some o->b ∉ [s.heap.objs.size]:=λb o e m=>absurd (uY e) (by rw[List.mem_singleton.mp m];exact Nat.lt_irrefl _)
 have gone:∀b,(s.heap.push {cls:=.type "list_iterator",data:=.fields #[.ref a,.int 0 0]}).get? b=none->s.heap.get? b=none:=λb e=>by
  cases q:s.heap.get? b with
  |none=>rfl
  |some o=>exact sn ((up b o q).symm.trans e)
 have at_:∀(C':Addr) (i:Nat) (v:Value) (cA:Shared) (yq:Str->Option Value),(⟨vs⟩:Array Value)[i]?=some v->cA.heap.Ns C' yq->yq x=some v->(∀b o,b ∉ [s.heap.objs.size]->(s.heap.push {cls:=.type "list_iterator",data:=.fields #[.ref a,.int 0 0]}).get? b=some o->cA.heap.get? b=some o)->xR v∈l/\tT w Y rB x (xR v) A G cA (compEnvC rB [] C' env):=λC' i v cA yq hP hn hm hk=>by
  have hP:vs[i]?=some v:=by simpa using hP
  have lt:i<l.length:=by rw[hd.length];exact(M6.mp hP).1
  have hit:=zM lt
  exact bz (hd.at i _ hit) λu e q=>by
   cases hP.symm.trans e
   have e:=DK (MW _ (List.getElem_mem lt)) q
   exact⟨e▸List.getElem_mem lt,ro.low,R.val,λb o e=>hk b o (old b o (R.pins b o e)) (up b o (R.pins b o e)),R.dQ,S.relabel env,eo.globals,yq,v,hn,hm,fa e▸q⟩
 have gp:=Grows.push s.heap {cls:=.type "list_iterator",data:=.fields #[.ref a,.int 0 0]}
 refine wpAny_comprehension_free rfl (hs env) (closureFor_none λy m=>(S.nm y m).1) S.kd (λy m=>(S.nm y m).2.2) (k5 (wpAny_pyIter_list (items:=⟨vs⟩) ⟨_,hp,rfl,n,rfl⟩ ?_))
 refine e6 (wpAny_mono (comp_block_walkC (env:=env) (cl:=[]) (ifs:=ifs) (RR:=λacc C' r s'=>Grows s.heap s'.heap->compPost (model U w) A (λ_ _=>False) use Q acc C' r s') (Walks.list ro.handled s.heap.objs.size a (Fj lt) ⟨vs⟩) (cK zz) (λv=>p (xR v)) (λv y=>DR w.params G (g (xR v)) y) (λy m=>(S.nm y m).2.1) S.kd S.hx ⟨⟨_,Hr _ rfl,rfl,rfl⟩,⟨_,up _ _ hp,rfl,n,rfl⟩⟩
  (e8.mpr ⟨by rw[M5];exact MT _,e8.mpr ⟨qt lt gp.size,qT _⟩⟩) ⟨λC' i v cA yq E' _ hP hn hm hk _=>?_,λC' i v cA yq E' _ hP hpv hn hm hk _=>?_⟩ λD C' h' tk m' ys HC hD hC hDC hn hL hPl hvl hvP hPr hk gr=>?_)
  (λacc cA vD agE=>e6 (wpAny_mono vD (λakB pK aha agF=>vl (codeAny_mono aha λr ady ahb agG=>ahb (gp.trans (agE.trans (agF.trans agG))))) λ_ _ e=>e)) λ_ _ e=>e)
 ·have c:=at_ C' i v cA yq hP hn hm hk
  rcases ht with q|⟨t,et,q⟩
  ·rw[q.1];exact k5 ⟨(q.2 _).symm,cA.heap,cA.toks,rfl,λ_ _ e=>e⟩
  ·rw[et,List.forIn_cons]
   refine eO ?_
   rw[d7 rfl]
   refine eO (WP.to (q _ c.1 A G cA _ c.2 _ λtt=>?_))
   exact k5 (k5 ⟨rfl,cA.heap,tt,rfl,λ_ _ e=>e⟩)
 ·exact a2 (at_ C' i v cA yq hP hn hm hk) λzF c=>(he _ zF hpv A G cA _ c _ λy tt dy=>⟨dy,cA.heap,tt,rfl,λ_ _ e=>e⟩).to
 ·have ev:HC=vs:=List.ext_getElem? λj=>by
   cases q:HC[j]? with
   |none=>exact(List.getElem?_eq_none_iff.mpr (bB (jk (hvl:HC.length=vs.length).symm) (List.getElem?_eq_none_iff.mp q))).symm
   |some v=>exact(by simpa using(hvP j v q:(⟨vs⟩:Array Value)[j]?=some v):vs[j]?=some v).symm
  rw[ev] at hPr
  exact fi hPl λmm hm=>fin D C' h' tk mm m' ys.toList (gone _ hD) (gone _ hC) hDC hn hm (by
   rw[el,List.filter_map];exact Lu hPr) (λb o e=>hk b o (old b o e) (up b o e)) gr
def LY (p:DV->Bool) (g:DV->DV) (S:hZ rB x) (hz:l.length<=lim) (MW:∀v∈l,rG v=true) (hi:aC U w C Y sc d iter Z (.lst l) aa) (hs:∀env u,foldedSetIterable iter env u=pure u)
    (ht:(ifs=[]/\∀v,p v=true)\/∃t,ifs=[t]/\∀v∈l,qW U w Y rB x t v (p v)) (he:∀v∈l,p v=true->fW U w Y rB x elt v (g v)):
    cO U w C Y sc d (.ListComp elt [⟨.Name x px,iter,ifs,0⟩] rB pos) Z (.fl ((l.filter p).map g)) aa:=λA G L s env ro eo R Q k=>by
 rw[eval_ListComp]
 exact eO (hi A G L s env ro eo R _ λaz u ax aB aH aV=>aV.lu λa vs n hg _ hd=>t6 S ro eo aB hg hd hz MW hs ht he λD C' h' tk m m' ys hD hC hDC hn hm hy hk gr=>⟨m',hn,λFV As=>
  made (s:=ax) (h':=FV) (t:=tk) aB aH (λb o e=>As.extBut b o (λq=>sn (e.symm.trans (q▸hC))) (hk b o e)) (bB gr.size (jk As.1.symm)) (gr.new hD hm) (As.extBut _ _ hDC hm) hy (bB (jk hy.length.symm) (bB (jk (mG ..)) (bB (List.length_filter_le p l) hz))) k⟩)
def z8 (sc rB:Scope) (y:Str) (py pos:Pos):Bool:=sc.names.lookup y==some .local&&(py.line==pos.line&&!(rB.names.any λ(n,k)=>n==y&&(k==.local||k==.cell)))
def QI (p:DV->Bool) (g:DV->DV) (S:hZ rB x) (lS:z8 sc rB y py pos=true) (hz:l.length<=lim) (MW:∀v∈l,rG v=true) (hi:aC U w C Y sc d iter Z (.lst l) aa) (hs:∀env u,foldedSetIterable iter env u=pure u)
    (ht:(ifs=[]/\∀v,p v=true)\/∃t,ifs=[t]/\∀v∈l,qW U w Y rB x t v (p v)) (he:∀v∈l,p v=true->fW U w Y rB x elt v (g v)):
    aU U w C Y sc d (.Assign [.Name y py] (.ListComp elt [⟨.Name x px,iter,ifs,0⟩] rB pos) Yp) Z .next {aa with loc:=put aa.loc y (.ml ((l.filter p).map g))}:=λA G L s env ro eo R Q k=>a2 (aw lS) λh1 h2=>a2 (aw h2) λh2 h3=>by
 have hy:=iG.mp h1
 have hsw:swapsWith (.ListComp elt [⟨.Name x px,iter,ifs,0⟩] rB pos) (some (.Name y py)) Yp.line env=pure true:=by
  have e1:(env.blockKind==.function)=true:=by unfold Env.blockKind;rw[eo.scope,eo.kind];rfl
  have e2:(env.kindOf y==some .local)=true:=by unfold Env.kindOf;rw[eo.scope,hy];rfl
  show(pure (env.blockKind==.function&&env.kindOf y==some .local&&py.line==pos.line&&!(rB.names.any λ(n,k)=>n==y&&(k==.local||k==.cell))):Sem Bool)=pure true
  rw[e1,e2,h2,h3];rfl
 show WP U w A (exec (.Assign [.Name y py] (.ListComp elt [⟨.Name x px,iter,ifs,0⟩] rB pos) Yp) env) s _
 rw[exec_Assign_Name_used _ _ _ _ hsw]
 refine eO (Rl (eO ?_))
 show WP U w A ((eval iter env >>= λu=>comprehension (.ListComp elt [⟨.Name x px,iter,ifs,0⟩] rB pos) rB env (firstIterPos [⟨.Name x px,iter,ifs,0⟩] pos) (newList []) false (pure u) (some (assign (.Name y py) env))) >>= λ_=>pure ()) s _
 refine eO (eO (hi A G L s env ro eo R _ λaz u ax aB aH aV=>aV.lu λa vs n hg _ hd=>?_))
 refine t6 S ro eo aB hg hd hz MW hs ht he λD C' h' tk m m' ys hD hC hDC hn hm hy' hk gr=>fi hn λoC z=>dk z λ_ _ z=>?_
 have hD':=gr.new hD hm
 have hC':=gr.new hC z.1
 have f:=aB.fresh hD'
 have fC:=aB.fresh hC'
 have q:=jQ.grown (tk:=tk) aB hk gr.size
 have Xz:¬(own az D).O C':=λz=>z.elim fC.1 λz=>z.elim fC.2.1 λe=>hDC e.symm
 have zz:ys.length<=lim:=bB (jk hy'.length.symm) (bB (jk (mG ..)) (bB (List.length_filter_le p l) hz))
 show WP U w A (assign (.Name y py) env (.ref D)) {ax with heap:=h',toks:=tk} _
 exact SM (nt (kk:=.ml ((l.filter p).map g)) eo (q.1.own f.1 f.2.2 (uY hm)) hy ⟨D,ys,m,rfl,hm,hy'.mono (oi D),zz,.inr rfl,λe=>f.2.1 (e▸aB.fz)⟩
  (λm hm _ y ky _ e km z=>bz q.1.locs λm' zF hs=>hs.Cy (λo=>f.2.1 o.1) y ky e km (oh hm zF▸z)) λay cD cL=>⟨m',hn.at λo e=>cL.kept C' o e Xz,λFV As=>
  have kp:∀b o,¬b=C'->ay.heap.get? b=some o->FV.get? b=some o:=λb o n e=>As.extBut b o n e
  k5 (k5 (k (own az D) _ {ay with heap:=FV} (cD.keep (λb o g=>kp b o λe=>sn (g.symm.trans (e▸fC.2.2))) (λb o g=>kp b o λe=>Xz (e▸g)) (jk As.1.symm))
   ((((aH.up.trans' q.2.up).own (bB aH.size hD')).trans' cL).acE (W:=λb=>b=C') cD (λb e g=>Xz (e▸.inl g)) (λb e=>fa e▸bB aH.size hC') kp (jk As.1.symm) rfl rfl) rfl))⟩)
end
def lcE:Expr->Option (Expr×List Comprehension×Scope):=iP Expr.ctorIdx 8 λe h=>@Expr.ListComp.elim (λ_=>Expr×List Comprehension×Scope) e h λa g s _=>(a,g,s)
def UB:∀e:Expr,On (λq=>.ListComp q.1 q.2.1 q.2.2 e.pos=e) (lcE e):=eK (P:=λe (q:Expr×List Comprehension×Scope)=>.ListComp q.1 q.2.1 q.2.2 e.pos=e) λe h=>@Expr.ListComp.elim (λe=>∀h,(λq:Expr×List Comprehension×Scope=>Expr.ListComp q.1 q.2.1 q.2.2 e.pos) (@Expr.ListComp.elim (λ_=>Expr×List Comprehension×Scope) e h λa g s _=>(a,g,s))=e) e h (λ_ _ _ _ _=>rfl) h
def fQ (e:Expr):Option Int:=(iP Expr.ctorIdx 19 (λe h=>@Expr.Constant.elim (λ_=>Const) e h λc _ _=>c) e).bind (iP Const.ctorIdx 2 λc h=>@Const.int.elim (λ_=>Int) c h id)
def OW (e:Expr):On (λx=>∃k p,.Constant (.int x) k p=e) (fQ e):=
 (eK (P:=λe c=>∃k p,Expr.Constant c k p=e) (λe h=>@Expr.Constant.elim (λe=>∀h,∃k p,Expr.Constant (@Expr.Constant.elim (λ_=>Const) e h λc _ _=>c) k p=e) e h (λ_ k p _=>⟨k,p,rfl⟩) h) e).b λc h=>
   (cH Const.int (λv h=>@Const.int.elim (λv=>∀h,Const.int (@Const.int.elim (λ_=>Int) v h id)=v) v h (λ_ _=>rfl) h) c).up λx e=>dk h λk p h=>⟨k,p,e▸h⟩
structure CQ where
 elt:Expr
 x:Str
 iter:Expr
 ifs:List Expr
 sc:Scope
instance:Inhabited CQ:=⟨⟨default,default,default,[],default⟩⟩
def xO (e:Expr):Option CQ:=(lcE e).bind λq=>(dJ q.2.1).bind λg=>(dW g.target).bind λx=>bif decide (g.is_async=0) then bif Im q.2.2 x then bif !Nat.beq g.iter.ctorIdx 7 then some ⟨q.1,x,g.iter,g.ifs,q.2.2⟩ else none else none else none
structure ZG (e:Expr) (q:CQ):Prop where
 S:hZ q.sc q.x
 set:∀env u,foldedSetIterable q.iter env u=pure u
 eq:∃px,.ListComp q.elt [⟨.Name q.x px,q.iter,q.ifs,0⟩] q.sc e.pos=e
def Io (g:Comprehension):Comprehension.mk g.target g.iter g.ifs g.is_async=g:=by cases g;rfl
def rx (e:Expr):On (ZG e) (xO e):=(UB e).b λq h=>(bp q.2.1).b λg hg=>(dm g.target).b λx hx=>ak λh1=>ak λh2=>ak λh3=>⟨FA h2,λenv u=>by cases hh:g.iter<;>first|(rw[hh] at h3;exact ft h3) |rfl,g.target.pos,by
 have e0:(⟨g.target,g.iter,g.ifs,0⟩:Comprehension)=g:=(aT (Comprehension.mk g.target g.iter g.ifs) (mQ h1).symm).trans (Io g)
 show Expr.ListComp q.1 [⟨.Name x g.target.pos,g.iter,g.ifs,0⟩] q.2.2 e.pos=e
 rw[hx,e0,hg];exact h⟩
def nH (sc:Scope) (st:Stmt):Option (Str×CQ):=(vc st).bind λq=>(dJ q.1).bind λt=>(dW t).bind λy=>(xO q.2).bind λz=>bif z8 sc z.sc y t.pos q.2.pos then some (y,z) else none
def xP (sc:Scope) (st:Stmt):On (λq=>∃py e p,.Assign [.Name q.1 py] e p=st/\ZG e q.2/\z8 sc q.2.sc q.1 py e.pos=true) (nH sc st):=
 (jR st).b λq h=>(bp q.1).b λt ht=>(dm t).b λy hy=>(rx q.2).b λz hz=>ak λhc=>fi h λp h=>⟨t.pos,q.2,p,by rw[hy,ht];exact h,hz,hc⟩
section
variable {U:Program} {w:World} {C:Nat} {Y:Base} {sc:Scope} {d:Nat} {Z aa:aj} {l:List DV} {x:Str} {dv u v z:DV} {e:Expr}
def ry {st:Stmt} {q:Str×CQ} (h:nH sc st=some q) (p:DV->Bool) (g:DV->DV) (hz:l.length<=lim) (MW:∀v∈l,rG v=true) (hi:aC U w C Y sc d q.2.iter Z (.lst l) aa) (ht:(q.2.ifs=[]/\∀v,p v=true)\/∃t,q.2.ifs=[t]/\∀v∈l,qW U w Y q.2.sc q.2.x t v (p v)) (he:∀v∈l,p v=true->fW U w Y q.2.sc q.2.x q.2.elt v (g v)):
    aU U w C Y sc d st Z .next ⟨aa.aq,bS aa.loc q.1 (.ml ((l.filter p).map g))⟩:=by
 exact gm ((xP sc st).get h) λpy e p0 c=>a3 c λc1 c2 c3=>fi c2.eq λpx e2=>by
  rw[<-c1,bk]
  rw[<-e2] at c3 ⊢
  exact QI p g c2.S c3 hz MW hi c2.set ht he
def rz {st:Stmt} {q:Str×CQ} (h:nH sc st=some q):hZ q.2.sc q.2.x:=gm ((xP sc st).get h) λ_ _ _ c=>c.2.1.S
def vL (S:hZ sc x) (h:dW e=some x):fW U w Y sc x e dv dv:=(dm e).get h▸Uz S
def Uy {i:Int} (h:fQ e=some i):fW U w Y sc x e dv (.int i):=dk ((OW e).get h) λ_ _ h=>h▸aby
def UA {y:Str} (h:gg e=some y) (hz:y.cps.toList.length<=lim):fW U w Y sc x e dv (.str y.cps.toList):=dk ((wD e).get h) λ_ _ h=>h▸abz hz
def Uv {q:Expr×Operator×Expr} (h:gD e=some q) (ha:fW U w Y sc x q.1 dv u) (hb:fW U w Y sc x q.2.2 dv v) (ho:qe U w q.2.1 u v z):fW U w Y sc x e dv z:=(lM e).get h▸abw ha hb ho
end
section
variable {P:Prop} {α β γ δ ε:Type} {a a':α} {b b':β} {c c':γ} {d d':δ} {e e':ε}
def j2 (h:(a,b)=(a',b')) (k:a=a'->b=b'->P):P:=k (kS h).1 (kS h).2
def j3 (h:(a,b,c)=(a',b',c')) (k:a=a'->b=b'->c=c'->P):P:=j2 h λx h=>j2 h (k x)
def j4 (h:(a,b,c,d)=(a',b',c',d')) (k:a=a'->b=b'->c=c'->d=d'->P):P:=j2 h λx h=>j3 h (k x)
def j5 (h:(a,b,c,d,e)=(a',b',c',d',e')) (k:a=a'->b=b'->c=c'->d=d'->e=e'->P):P:=j2 h λx h=>j4 h (k x)
end
def nG (e:Expr):Option (Expr×CmpOp×Expr):=(N1 e).bind λq=>(dJ q.2.1).bind λop=>(dJ q.2.2).bind λb=>bif behindInMarks op b then none else some (q.1,op,b)
def qB (e:Expr):On (λq=>.Compare q.1 [q.2.1] [q.2.2] e.pos=e/\behindInMarks q.2.1 q.2.2=false) (nG e):=(vj e).b λq h=>(bp q.2.1).b λop h1=>(bp q.2.2).b λb h2=>CB λh3=>⟨show Expr.Compare q.1 [op] [b] e.pos=e from h1▸h2▸h,h3⟩
def tO (e:Expr):Option (Expr×Expr):=(uQ e).bind λq=>bif eG q.2 then some q else none
def wG (e:Expr):On (λq=>.Subscript q.1 q.2 e.pos=e/\eG q.2=true) (tO e):=(lH e).b λ_ h=>ak λh'=>⟨h,h'⟩
section
variable {U:Program} {w:World} {C:Nat} {K:Frag} {Y:Base} {sc:Scope} {d:Nat} {Z aa ah:aj} {e:Expr}
def and_cons {es:List Expr} {p:Pos} {c b:Bool} (h:bu U w C Y sc d e Z c Z) (k:c=true->bu U w C Y sc d (.BoolOp .And es p) Z b Z):bu U w C Y sc d (.BoolOp .And (e::es) p) Z (c&&b) Z:=jf h (by cases c;exact⟨rfl,rfl⟩;exact k rfl)
def Hn {q:BoolOp×List Expr} {b:Bool} (h:k9 e=some q) (k:bu U w C Y sc d (.BoolOp q.1 q.2 e.pos) Z b Z):bu U w C Y sc d e Z b Z:=(rm e).get h▸k
def tc {q:Expr×CmpOp×Expr} {x y:DV} {c:Bool} (h:nG e=some q) (ha:aC U w C Y sc d q.1 Z x aa) (hb:aC U w C Y sc d q.2.2 aa y ah) (hc:fh U w Y.V q.2.1 x y c):bu U w C Y sc d e Z c ah:=a2 ((qB e).get h) λh m=>h▸wW ha hb hc m
def y3 {q:Expr×Expr} {x y z:DV} (h:tO e=some q) (cf:aC U w C Y sc d q.1 Z x aa) (cP:aC U w C Y sc d q.2 aa y ah) (hs:qf U w Y.V x y z):aC U w C Y sc d e Z z ah:=a2 ((wG e).get h) λh m=>h▸oz m cf cP hs
def y4 {A:Around} {E:Value->Shared->Prop} {s:Shared} {l:Addr} {items:Array Value} {k:Int} {t:Tok} {v:Value} {Q:Unit->Shared->Prop} (hl:s.heap.IsList l items) (h0:k<0) (h1:-(items.size:Int)<=k) (agM:-(2 ^ 63)<=k)
    (hQ:Q () {s with heap:=s.heap.update l (Obj.mapSeq (·.setIfInBounds (k+items.size).toNat v))}):wpAny (model U w) A (setItem (.ref l) (.int k t) v) Q E s:=by
 obtain⟨o,ho,hc,ne,hd⟩:=id hl
 have hj:(k+items.size).toNat<items.size:=by lia
 unfold setItem
 try with_reducible refine M9 ?_
 first|refine eO (k5 ?_) |skip
 refine eO (wpAny_sequenceKey hl.typeIs (by decide) ?_)
 refine eO (wpAny_callSpecial?_slot (name:=Str.ofString "__setitem__") hl.typeIs PySem.F.slot_list_setitem
  (wpAny_call_entry PySem.F.slot_list_setitem hl.typeIs PySem.F.entry_list_setitem ?_ (args_list_setitem _ _ _)))
 show wpAny _ _ (Builtin.List.listSubscript? (.int k t) >>= _) _ _ s
 refine eO (wpAny_listSubscript_int (fitsIndex_neg h0 agM) ?_)
 have agP:=seqIndex_neg h0 h1
 obtain⟨j,rfl⟩:∃j:Nat,k=Int.negSucc j:=by
  cases k with
  |ofNat n=>exact absurd h0 (Int.not_lt.mpr (MS n))
  |negSucc n=>exact⟨n,rfl⟩
 show wpAny _ _ ((Builtin.List.listItems (.ref l) >>= λxs=>pure ((seqIndex? (Int.negSucc j) xs.size).bind λi=>xs[i]?.map (i,·))) >>= _) _ _ s
 refine eO (eO ?_)
 show wpAny _ _ (seqItems? (.ref l) >>= _) _ _ s
 refine eO (wpAny_seqItems ho hd (k5 (k5 ?_)))
 rw[agP]
 simp only[Option.bind_some,Array.getElem?_eq_getElem hj,Option.map_some]
 show wpAny _ _ (setSeqItemAt l _ v >>= _) _ _ s
 refine eO (wpAny_setSeqItemAt ho hd ?_)
 first
  |exact eO (k5 (k5 ⟨.none,rfl,k5 hQ⟩))
  |exact k5 ⟨.none,rfl,k5 hQ⟩
def Zip.set {α β:Type} {R:α->β->Prop} {a:α} {b:β} (h:R a b) {l:List α} {m:List β} (z:Zip R l m) (i:Nat):Zip R (l.set i a) (m.set i b):=by
 induction z generalizing i with
 |nil=>exact .nil
 |cons x y ih=>cases i<;>first|exact .cons h y|exact .cons x (ih _)
def QN {o i:Expr} {p' pos:Pos} {x:Str} {l:List DV} {k:Int} {v:DV} (he:aC U w C Y sc d e Z v Z) (ho:gA U w C Y sc d o Z (.loc x)) (hi:aC U w C Y sc d i Z (.int k) Z) (hl:(Pl.loc x).get Z=some (.ml l)) (h0:k<0) (h1:-(l.length:Int)<=k) (hz:l.length<=lim) (hc:cY e=true):
    aU U w C Y sc d (.Assign [.Subscript o i p'] e pos) Z .next ((Pl.loc x).set Z (.ml (l.set (k+l.length).toNat v))):=λA G L s env ro eo R Q kk=>
 wpAny_Assign_Subscript (he A G L s env ro eo R _ λaz u ax aB aH aV=>ho A az L ax env ro eo aB _ λa t lS=>hi A az L _ env ro eo aB.toks _ λiJ iv cA cD cL q=>q.fQ λtk=>by
  have Jh:=lS.toks.later aB.toks cL (p:=.loc x) rfl
  exact gm (cD.gY Jh hl) λb vs n q=>a5 q λe g hd rK _=>by
   cases e
   have hlen:=hd.length
   have hz:l.length<=2 ^ 22:=hz
   refine y4 (items:=⟨vs⟩) ⟨_,g,rfl,n,rfl⟩ h0 (by rw[Y7,<-hlen];exact h1) (by lia) ?_
   rw[show(k+((⟨vs⟩:Array Value).size:Int)).toNat=(k+l.length).toNat from by rw[Y7,hlen]]
   obtain⟨n',g'⟩:=iq (f:=λx=>x.setIfInBounds (k+l.length).toNat u) (HC:=vs.set (k+l.length).toNat u) g (by simp)
   have q:=cD.turn (k':=.ml (l.set (k+l.length).toNat v)) (t:=cA.toks) Jh hl rfl λO o=>⟨a,vs.set (k+l.length).toNat u,n',rfl,g',Zip.set (aV.mono cL.sub) hd _,by rw[List.length_set];exact rK,o⟩
   exact kk iJ _ _ q.1 (((aH.aO (Later.aO bb cL))).turn q.2) rfl) (dp hc)
end
def T9:∀st:Stmt,On (λq=>.If q.1 q.2.1 q.2.2 st.pos=st) (rL st):=eK (P:=λe (q:Expr×List Stmt×List Stmt)=>.If q.1 q.2.1 q.2.2 e.pos=e) λe h=>@Stmt.If.elim (λe=>∀h,(λq:Expr×List Stmt×List Stmt=>Stmt.If q.1 q.2.1 q.2.2 e.pos) (@Stmt.If.elim (λ_=>Expr×List Stmt×List Stmt) e h λt b o _=>(t,b,o))=e) e h (λ_ _ _ _ _=>rfl) h
def kl {U:Program} {w:World} {C:Nat} {Y:Base} {sc:Scope} {d:Nat} {Z aa ah:aj} {st:Stmt} {q:Expr×List Stmt×List Stmt} {c:Bool} {f:au} (h:rL st=some q) (ht:bu U w C Y sc d q.1 Z c aa) (k:aF U w C Y sc d (bif c then q.2.1 else q.2.2) aa f ah):aU U w C Y sc d st Z f ah:=
 (T9 st).get h▸p9 ht (by cases c;exact k;exact k)
def Yh (st:Stmt):Option (Expr×Expr×Expr):=(vc st).bind λq=>(dJ q.1).bind λt=>(uQ t).bind λz=>bif cY q.2 then some (z.1,z.2,q.2) else none
def Qt (st:Stmt):On (λq=>∃p pos,.Assign [.Subscript q.1 q.2.1 p] q.2.2 pos=st/\cY q.2.2=true) (Yh st):=
 (jR st).b λq h=>(bp q.1).b λt h'=>(lH t).b λz FV=>ak λh3=>fi h λp h=>⟨_,p,by rw[FV,h'];exact h,h3⟩
def lh (r:List Nat) (f i c:Nat):Bool:=fP [c] [32]&&(!bc (r.headD 0) [32,9]&&(decide (((i+1:Nat):Int)<(r.length:Int))&&(!bc ((r[i+1]?).getD 0) [32,9]&&((((i+f) % 2:Nat):Int)==(0:Int)&&true))))
def lj (r:List Nat) (f:Nat) (cs:List Nat):Nat->List (List Nat)->List Nat->List (List Nat):=
 List.rec (motive:=λ_=>Nat->List (List Nat)->List Nat->List (List Nat)) (λ_ init last=>init++[last]) (λc _ go i init last=>bif lh r f i c then go (i+1) (init++[last]) [] else go (i+1) init (last++[c])) cs
def iZ (r:List Nat) (f:Nat):List (List Nat):=lj r f r 0 [] []
section
variable (H:Array Nat->Int) (r:List Nat) (f i c:Nat) (ps:List DV)
def mJ:qh (KF H) 1545=some (FI H 1545):=KK
def mK:bc 1545 vr=true:=KK
abbrev foF:Stmt:=ai (FI H 1545).body 1
def Zf:List Expr×Str×Expr×List Stmt:=(pT (foF H)).getD default
abbrev Oi:Stmt:=ai (Zf H).2.2.2 0
abbrev I6:Expr×List Stmt×List Stmt:=(rL (Oi H)).getD default
abbrev I5 (n:Nat):Expr:=bE (I6 H).1 n
abbrev foU:Expr×CmpOp×Expr:=(nG (I5 H 3)).getD default
abbrev foV:Expr×Expr:=(tO (foU H).1).getD default
def foZ:Expr×Expr×Expr:=(Yh (ai (I6 H).2.2 0)).getD default
abbrev foB:Expr×Operator×Expr:=(gD (foZ H).2.2).getD default
abbrev foC:Expr×Expr:=(tO (foB H).1).getD default
abbrev foL:aj:=⟨none,[(fm,.pv (.str r)),(hA,.pv (.int f)),(vZ,.ml ps)]⟩
abbrev ku:aj:=⟨none,[(fm,.pv (.str r)),(hA,.pv (.int f)),(vZ,.ml ps),(iw,.pv (.int i)),(se,.pv (.str [c]))]⟩
abbrev xc:iT:=[(fm,900),(hA,90000),(vZ,1900),(iw,900)]
def agu:(FI H 1545).body=[ai (FI H 1545).body 0,foF H,ai (FI H 1545).body 2]:=KK
def aaz:(pT (foF H),names (FI H 1545).sc (Zf H).1,bA (KF H) (FI H 1545).sc (Zf H).2.1 (.type "enumerate"),(Zf H).2.2.2,rL (Oi H))=(some (Zf H),some [iw,se],true,[Oi H],some (I6 H)):=KK
def agz:(k9 (I6 H).1,nG (I5 H 3),tO (foU H).1,(foU H).2.1)=(some (.And,[I5 H 0,I5 H 1,I5 H 2,I5 H 3,I5 H 4]),some (foU H),some (foV H),.NotIn):=KK
def ags (a:Nat):(uz H 5 1545 (I5 H 0) (ku (a::r) f i c ps) xc,uz H 5 1545 (I5 H 1) (ku (a::r) f i c ps) xc,uz H 5 1545 (I5 H 2) (ku (a::r) f i c ps) xc,uz H 5 1545 (I5 H 4) (ku (a::r) f i c ps) xc)=(some (fP [c] [32]),some (!bc a [32,9]),some (decide (((i+1:Nat):Int)<((r.length+1:Nat):Int))),some ((((i+f) % 2:Nat):Int)==(0:Int))):=KK
def agr:(oK H 5 1545 (foV H).1 (ku r f i c ps) xc,oK H 5 1545 (foV H).2 (ku r f i c ps) xc,oK H 5 1545 (foU H).2.2 (ku r f i c ps) xc)=(some (.pv (.str r)),some (.pv (.int (i+1:Nat))),some (.pv (.str [32,9]))):=KK
def akM:(I6 H).2.1=[ai (I6 H).2.1 0]:=KK
def agB:oR H 5 1545 (I6 H).2.1 (ku r f i c ps) xc=some (.next,ku r f i c (ps++[.str []])):=KK
def agy:((I6 H).2.2,Yh (ai (I6 H).2.2 0),gD (foZ H).2.2,tO (foB H).1,(foB H).2.1)=([ai (I6 H).2.2 0],some (foZ H),some (foB H),some (foC H),.Add):=KK
def agw:(placeOf (eQ H bY 5 1545) (ku r f i c ps) (foZ H).1,placeOf (eQ H bY 5 1545) (ku r f i c ps) (foC H).1,oK H 5 1545 (foZ H).2.1 (ku r f i c ps) xc,oK H 5 1545 (foC H).2 (ku r f i c ps) xc,oK H 5 1545 (foB H).2.2 (ku r f i c ps) xc)=(some (.loc vZ),some (.loc vZ),some (.pv (.int (-1))),some (.pv (.int (-1))),some (.pv (.str [c]))):=KK
def agv:g8 (ku r f i c ps) (.loc vZ)=some (.ml ps):=KK
def agA (ps':List DV):wu (ku r f i c ps) (.ml ps') (.loc vZ)=ku r f i c ps':=KK
def agt:vp (fR H bY 5 1545) [(Zf H).2.2.1] (foL r f ps)=some ([.str r],foL r f ps):=KK
def aaB:putAll (foL r f ps).loc [iw,se] [.int i,.str [c]]=(ku r f i c ps).loc:=(uD ..).trans KK
def aaC (i' c':Nat):putAll (ku r f i' c' ps).loc [iw,se] [.int i,.str [c]]=(ku r f i c ps).loc:=(uD ..).trans KK
def agp:cg (fR H bY 5 1545) [ai (FI H 1545).body 0] ⟨none,[(fm,.pv (.str r)),(hA,.pv (.int f))]⟩=some (.next,foL r f [.str []]):=KK
def agx:cg (fR H bY 5 1545) [ai (FI H 1545).body 2] (ku r f i c ps)=some (.ret (.lst ps),⟨none,[(fm,.pv (.str r)),(hA,.pv (.int f)),(vZ,.pv (.lst ps)),(iw,.pv (.int i)),(se,.pv (.str [c]))]⟩):=KK
def TO:((cR lD 1545 [.str r,.int f] []).bind λrow=>getAll [.str r,.int f] [] row.out)=some [(fm,.str r),(hA,.int f)]:=KK
def agq (h1:r.length<=900) (h2:f<=90000) (h3:ps.length<=1900) (h4:i<=900):fU xc (ku r f i c ps).loc:=Eq.mpr (by kernel_rfl:fU xc (ku r f i c ps).loc=(r.length<=900/\f<=90000/\ps.length<=1900/\i<=900/\True)) ⟨h1,h2,h3,h4,trivial⟩
end
def Ju {n:Nat} (h:0<n):idx (-1) n=some (n - 1):=by
 unfold idx
 rw[dX (by lia),d7 (by lia)]
 exact aT some (by lia)
def Ma (init:List (List Nat)) (last v:List Nat):(((init++[last]).map DV.str).set (-1+(((init++[last]).map DV.str).length:Int)).toNat (.str v))=(init++[v]).map DV.str:=by
 have e:(-1+(((init++[last]).map DV.str).length:Int)).toNat=init.length:=by simp;lia
 rw[e,M8,M8,List.set_append_right _ _ (by simp)]
 simp
def IM (l:List Nat):iW (l.map λc=>DV.str [c])=(l.zipIdx 0).map λp=>[.int p.2,.str [p.1]]:=by unfold iW;rw[List.zipIdx_map,List.map_map];rfl
section
variable {U:Program} {w:World} {Y:Base} (T0:cQ (KF (HH w)) Y) (hl:bw Y) (r:List Nat) (f:Nat)
include T0 hl
theorem Lb {f:Nat} (hf:bc f vr=true) (hI:qh (KF (HH w)) f=some (FI (HH w) f)) {n:Nat} {e:Expr} {Z:aj} {p:Pl} (h:placeOf (eQ (HH w) bY n f) Z e=some p):gA U w 1521 Y (FI (HH w) f).sc n e Z p:=(CG (zD (U:=U) hf hI T0 hl) h).1
theorem TQ (i c:Nat) (ps:List DV) (hr:r≠[]) (B:fU xc (ku r f i c ps).loc):bu U w 1521 Y (FI (HH w) 1545).sc 5 (I6 (HH w)).1 (ku r f i c ps) (lh r f i c) (ku r f i c ps):=by
 cases r with
 |nil=>exact absurd rfl hr
 |cons a r=>
  have T:=λ{e:Expr} {b:Bool} (h:uz (HH w) 5 1545 e (ku (a::r) f i c ps) xc=some b)=>wa (U:=U) mK (mJ (HH w)) T0 hl (n:=5) B h
  have E:=λ{e:Expr} {b:Res} (h:oK (HH w) 5 1545 e (ku (a::r) f i c ps) xc=some b)=>(sj (U:=U) mK (mJ (HH w)) T0 hl (n:=5) B h).rest
  exact j4 (ags (HH w) r f i c ps a) λt0 t1 t2 t4=>j4 (agz (HH w)) λq0 q1 q2 q3=>j3 (agr (HH w) (a::r) f i c ps) λe0 e1 e2=>Hn q0 (and_cons (T t0) λ_=>and_cons (T t1) λ_=>and_cons (T t2) λlt=>
   have lt:i+1<(a::r).length:=Int.ofNat_lt.mp (mQ lt)
   and_cons (c:=!bc (((a::r)[i+1]?).getD 0) [32,9]) (tc q1 (y3 q2 (E e0) (E e1) (LQ (lT lt) (c:=((a::r)[i+1]?).getD 0) (by rw[zM lt];rfl))) (E e2) (by rw[q3,nY];exact jZ rfl)) λ_=>and_cons (T t4) λ_=>jh)
theorem Ol (i c:Nat) (init:List (List Nat)) (last:List Nat) (hr:r≠[]) (B:fU xc (ku r f i c ((init++[last]).map .str)).loc) (h2:last.length<=1000):
 aF U w 1521 Y (FI (HH w) 1545).sc 5 [Oi (HH w)] (ku r f i c ((init++[last]).map .str)) .next (ku r f i c ((bif lh r f i c then(init++[last])++[[]] else init++[last++[c]]).map .str)):=
 ao (j5 (aaz (HH w)) λ_ _ _ _ q=>kl q (TQ (U:=U) T0 hl r f i c _ hr B) (by
  cases lh r f i c with
  |true=>
   have h:=wc (U:=U) mK (mJ (HH w)) T0 hl (n:=5) B (agB (HH w) r f i c _)
   rw[show(init++[last]).map DV.str++[.str []]=((init++[last])++[[]]).map .str by rw[@M8 _ _ _ (init++[last])];rfl] at h
   exact h
  |false=>
   have E:=λ{e:Expr} {b:Res} (h:oK (HH w) 5 1545 e (ku r f i c ((init++[last]).map .str)) xc=some b)=>(sj (U:=U) mK (mJ (HH w)) T0 hl (n:=5) B h).rest
   have g:=(cv ..).symm.trans (agv r f i c ((init++[last]).map .str))
   have ll:((init++[last]).map DV.str).length=init.length+1:=by rw[mG,c9];rfl
   have zz:((init++[last]).map DV.str).length<=lim:=bB B.2.2.1 (by decide)
   exact j5 (agy (HH w)) λs0 s1 s2 s3 s4=>j5 (agw (HH w) r f i c ((init++[last]).map .str)) λp0 p1 e0 e1 e2=>.at s0 (ao (a2 ((wG _).get s3) λc1 c2=>dk ((Qt _).get s1) λp' pos q=>a2 q λst hc=>by
    have hv:=lE s2 (c1▸sM c2 (Lb T0 hl mK (mJ (HH w)) p1) rfl (E e1) g (Ju (by rw[ll];exact MU _)) (z:=.str last) (by rw[ll];simp)) (E e2) (by rw[s4];exact lN (a:=last) (b:=[c]) (bB (Rj h2) (by decide)))
    have h:=QN (p':=p') (pos:=pos) hv (Lb T0 hl mK (mJ (HH w)) p0) (E e0) g (by decide) (by rw[ll];lia) zz hc
    rw[Ma,<-ja,agA] at h
    exact st▸h) bx))) bx
theorem Oj (hr:r≠[]) (hz:r.length<=900) (hf:f<=90000) (cs:List Nat):∀(k:Nat) (init:List (List Nat)) (last:List Nat) (loc:List (Str×ae)),k+cs.length<=900->init.length<=k->last.length<=k->(∀i c:Nat,putAll loc [iw,se] [.int i,.str [c]]=(ku r f i c ((init++[last]).map .str)).loc)->cs≠[]->
 ∃i c,fg U w 1521 Y (FI (HH w) 1545).sc 5 [iw,se] [Oi (HH w)] ((cs.zipIdx k).map λp=>[.int p.2,.str [p.1]]) ⟨none,loc⟩ .next (ku r f i c ((lj r f cs k init last).map .str)):=by
 induction cs with
 |nil=>exactλ_ _ _ _ _ _ _ _ h=>absurd rfl h
 |cons c cs ih=>
  intro k init last loc hk h1 h2 Aq _
  have hk':k+1+cs.length<=900:=by rw[M7] at hk;lia
  have tn:=Ol (U:=U) T0 hl r f k c init last hr (agq r f k c _ hz hf (by rw[mG,c9,Zy];lia) (by lia)) (by lia)
  have nx:∀(yc:List (List Nat)) (yi:List Nat),yc.length<=k+1->yi.length<=k+1->∃i c',fg U w 1521 Y (FI (HH w) 1545).sc 5 [iw,se] [Oi (HH w)] ((cs.zipIdx (k+1)).map λp=>[.int p.2,.str [p.1]]) (ku r f k c ((yc++[yi]).map .str)) .next (ku r f i c' ((lj r f cs (k+1) yc yi).map .str)):=λyc yi a b=>by
   cases cs with
   |nil=>exact⟨k,c,.done⟩
   |cons c' cs=>exact ih (k+1) yc yi _ hk' a b (λi c'=>aaC r f i c' _ k c) λh=>cn h
  have tn:aF U w 1521 Y (FI (HH w) 1545).sc 5 [Oi (HH w)] ⟨none,putAll loc [iw,se] [.int k,.str [c]]⟩ .next _:=fa (Aq k c)▸(show aF U w 1521 Y (FI (HH w) 1545).sc 5 [Oi (HH w)] ⟨none,(ku r f k c ((init++[last]).map .str)).loc⟩ .next _ from tn)
  show ∃i c',fg U w 1521 Y (FI (HH w) 1545).sc 5 [iw,se] [Oi (HH w)] (([.int k,.str [c]])::((cs.zipIdx (k+1)).map λp=>[.int p.2,.str [p.1]])) ⟨none,loc⟩ .next (ku r f i c' ((bif lh r f k c then lj r f cs (k+1) (init++[last]) [] else lj r f cs (k+1) init (last++[c])).map .str))
  cases hb:lh r f k c with
  |true=>
   rw[hb] at tn
   exact dk (nx (init++[last]) [] (by rw[c9,Zy];lia) (jP _)) λi c' h=>⟨i,c',.turn rfl tn (.inl rfl) h⟩
  |false=>
   rw[hb] at tn
   exact dk (nx init (last++[c]) (Nat.le_succ_of_le h1) (by rw[c9,Zy];lia)) λi c' h=>⟨i,c',.turn rfl tn (.inl rfl) h⟩
theorem aaA (hr:r≠[]) (hz:r.length<=900) (hf:f<=90000):af U w 1521 Y 6 (.ref 1545) [.str r,.int f] [] none (.lst ((iZ r f).map .str)) none:=
 dk (Oj (U:=U) T0 hl r f hr hz hf r 0 [] [] _ (by lia) (fu _) (fu _) (λi c=>aaB r f i c _) hr) λi c hL=>f9 (ba:=⟨none,_⟩) mK (mJ (HH w)) T0 hl (TO r f) (.at (agu (HH w)) (eH (zQ mK (mJ (HH w)) T0 hl) (l':=[foF (HH w),ai (FI (HH w) 1545).body 2]) (ao (j5 (aaz (HH w)) λf0 f1 f2 f3 _=>vo f0 λkt p pn pos' pos=>p8 T0 f1 f2 (lZ mK (mJ (HH w)) T0 hl (agt (HH w) r f _)) (λ_ _=>rfl) (by
  rw[IM,f3];exact hL)) (nh mK (mJ (HH w)) T0 hl (agx (HH w) r f i c _))) [ai (FI (HH w) 1545).body 0] _ (agp (HH w) r f))) rfl
end
def jj:Str:=⟨#[114,111,119,115]⟩
def zClose:Str:=⟨#[99,108,111,115,101]⟩
def Dd:Str:=⟨#[108,101,97,115,116]⟩
def SG:Str:=⟨#[110,108]⟩
def Fh:Str:=⟨#[102,117,108,108]⟩
def MN:Str:=⟨#[100,105,103,105,116]⟩
def Dc:Str:=⟨#[99,104,111,109,112]⟩
def Fg:Str:=⟨#[98,101,104,105,110,100]⟩
def uW:Str:=⟨#[98,111,100,121]⟩
def Ff:Str:=⟨#[98,101,102,111,114,101]⟩
def mP:Str:=⟨#[116,101,120,116]⟩
def rD (full:List (List Nat)) (fr:Nat):Bool:=List.rec (motive:=λ_=>Bool) false (λa _ _=>fP [a.headD 0] [32]&&true) full||(((fr / 3 % 2:Nat):Int)==(1:Int)||false)
def qg (full:List (List Nat)) (fr:Nat):List Nat:=bif rD full fr then[[49,50,51].getD (fr % 3) 0] else[]
def mA {α:Type} (l:List α):Bool:=List.rec (motive:=λ_=>Bool) true (λ_ _ _=>false) l
def jn (e:Bool) (cl fr:Nat):List Nat:=bif Nat.ble 2 cl then[43] else bif Nat.beq cl 1 then bif e then[43] else[[],[43]].getD (fr / 48 % 2) [] else bif e then[[],[45],[43]].getD (fr / 48 % 3) [] else[45]
def tq (e:Bool) (cl fr:Nat):Nat:=bif fP (jn e cl fr) [43] then bif e then cl else cl - 1 else fr / 84 % 3
def qi (bf r:List Nat):Bool:=!fP bf []&&(!bc (bf.headD 0) [32,9]&&(!bc (r.headD 0) [32,9]&&true))
def fc (st f:Nat) (rs:List (List Nat)):List (List Nat)->List Nat->List (List Nat):=List.rec (motive:=λ_=>List (List Nat)->List Nat->List (List Nat)) (λB _=>B)
 (λr _ go B bf=>bif fP r [] then go (B++[[]]) bf else bif fP [st] [124] then go (B++[r]) bf else go ((bif qi bf r then B++[[]] else B)++iZ r f) r) rs
def jd (n:Nat):List Nat:=[[],[32],[32,32,35,32,99],[32,35,32,45,32,120,58,32,124]].getD n []
def Ji (dg ch:List Nat) (fr:Nat):List Nat:=bif ((fr / 6 % 2:Nat):Int)==(0:Int) then dg++ch else ch++dg
def MM (f ind i:Nat) (r:List Nat):Nat:=bif fP r [] then(f+i) % (ind+1) else ind
def jH (f ind:Nat) (nl:List Nat) (rs:List (List Nat)):Nat->List Nat:=List.rec (motive:=λ_=>Nat->List Nat) (λ_=>[]) (λr _ go i=>(List.replicate (MM f ind i r) 32++(r++nl))++go (i+1)) rs
def br (rows:List (List Nat)):List (List Nat):=rows.filter λr=>!fP r []
def xx (rows:List (List Nat)) (cl st fr:Nat):List (List Nat):=fc st (fr / 7) rows [] []++List.replicate (tq (mA (br rows)) cl fr) []
def kq (rows:List (List Nat)) (cl st le fr:Nat) (nl:List Nat):List Nat:=
 ([st]++Ji (qg (br rows) fr) (jn (mA (br rows)) cl fr) fr++jd (fr / 12 % 4)++nl)++jH (fr / 5) (le+fr % 3) nl (xx rows cl st fr) 0
structure WS where
 R:List DV
 F:List DV
 cl:Nat
 st:Nat
 le:Nat
 fr:Nat
 ind:Nat
 bh:Nat
 nl:List Nat
 dg:List Nat
 ch:List Nat
section
variable (H:Array Nat->Int) (u:WS) (B:List DV) (bf r t:List Nat) (i:Nat) (e:Bool)
def iX:qh (KF H) 1550=some (FI H 1550):=KK
def iY:bc 1550 vr=true:=KK
abbrev wr (n:Nat):Stmt:=ai (FI H 1550).body n
def ai8:(FI H 1550).body=[wr H 0,wr H 1,wr H 2,wr H 3,wr H 4,wr H 5,wr H 6,wr H 7,wr H 8,wr H 9,wr H 10,wr H 11,wr H 12,wr H 13]:=KK
abbrev w0 (tl:List (Str×ae)):aj:=⟨none,(jj,.pv (.lst u.R))::(zClose,.pv (.int u.cl))::(fD,.pv (.str [u.st]))::(Dd,.pv (.int u.le))::(hA,.pv (.int u.fr))::(SG,.pv (.str u.nl))::tl⟩
abbrev w1:aj:=w0 u [(Fh,.ml u.F)]
abbrev w3 (tl:List (Str×ae)):aj:=w0 u ((Fh,.ml u.F)::(gG,.pv (.int u.ind))::(MN,.pv (.str u.dg))::tl)
abbrev w4:aj:=w3 u [(Dc,.pv (.str u.ch))]
abbrev w7 (B:ae) (bf:List Nat) (tl:List (Str×ae)):aj:=w3 u ((Dc,.pv (.str u.ch))::(Fg,.pv (.int u.bh))::(uW,B)::(Ff,.pv (.str bf))::tl)
abbrev w8 (B:List DV) (bf r:List Nat):aj:=w7 u (.ml B) bf [(fm,.pv (.str r))]
abbrev wK:iT:=[(zClose,3),(Dd,40),(hA,90000),(SG,50),(gG,60),(MN,1),(Dc,1),(Fg,100),(uW,2000),(Ff,60),(fm,60),(mP,900000),(iw,3000)]
abbrev wR (l:List Stmt) (Z:aj) (f:au) (ba:aj):Prop:=oR H 10 1550 l Z wK=some (f,ba)
abbrev Zu (e:Expr) (Z:aj) (c:Bool):Prop:=uz H 10 1550 e Z wK=some c
def ai5:wR H [wr H 1,wr H 2] (w1 u) .next (w3 {u with ind:=u.le+u.fr % 3,dg:=[]} []):=KK
abbrev YR:Expr×List Stmt×List Stmt:=(rL (wr H 3)).getD default
def ai6:rL (wr H 3)=some (YR H):=KK
def adV:Zu H (YR H).1 (w3 {u with F:=[],dg:=[]} []) (rD [] u.fr):=KK
def adU (a:Nat) (as:List Nat) (F:List DV):Zu H (YR H).1 (w3 {u with F:=.str (a::as)::F,dg:=[]} []) (rD [a::as] u.fr):=KK
def adW:wR H (YR H).2.1 (w3 {u with dg:=[]} []) .next (w3 {u with dg:=[[49,50,51].getD (u.fr % 3) 0]} [])/\(YR H).2.2=[]:=⟨KK,KK⟩
def adY:([0,1,2,3].map λcl=>oR H 10 1550 [wr H 4] (w3 {u with F:=[],cl:=cl} []) wK)=[0,1,2,3].map λcl=>some (.next,w4 {u with F:=[],cl:=cl,ch:=jn true cl u.fr}):=KK
def adX (a:DV) (F:List DV):([0,1,2,3].map λcl=>oR H 10 1550 [wr H 4] (w3 {u with F:=a::F,cl:=cl} []) wK)=[0,1,2,3].map λcl=>some (.next,w4 {u with F:=a::F,cl:=cl,ch:=jn false cl u.fr}):=KK
def adZ:([[],[45]].map λch=>oR H 10 1550 [wr H 5,wr H 6,wr H 7,wr H 8] (w4 {u with ch:=ch}) wK)=[[],[45]].map λch=>some (.next,w7 {u with ch:=ch,bh:=u.fr / 84 % 3} (.ml []) [] []):=KK
def ad1:([0,1,2,3].map λcl=>oR H 10 1550 [wr H 5,wr H 6,wr H 7,wr H 8] (w4 {u with F:=[],cl:=cl,ch:=[43]}) wK)=[0,1,2,3].map λcl=>some (.next,w7 {u with F:=[],cl:=cl,ch:=[43],bh:=cl} (.ml []) [] []):=KK
def ad0 (a:DV) (F:List DV) (cl:Nat):wR H [wr H 5,wr H 6,wr H 7,wr H 8] (w4 {u with F:=a::F,cl:=cl+1,ch:=[43]}) .next (w7 {u with F:=a::F,cl:=cl+1,ch:=[43],bh:=cl} (.ml []) [] []):=KK
def YW:Expr×Expr×List Stmt×List Stmt:=(Aj (wr H 9)).getD default
abbrev wb (n:Nat):Stmt:=ai (YW H).2.2.1 n
abbrev SD:List Stmt:=[wb H 0,wb H 1,wb H 2,wb H 3,wb H 4]
def ai7:(Aj (wr H 9),dW (YW H).1,fO (eQ H bY 10 1550) fm,wg (YW H).2.1,(YW H).2.2)=(some (YW H),some fm,true,true,(SD H,[])):=KK
def ad2:oK H 10 1550 (YW H).2.1 (w7 u (.ml B) bf []) wK=some (.pv (.lst u.R)):=KK
def ai2:wR H (SD H) (w8 u B bf []) .cont (w8 u (B++[.str []]) bf []):=KK
def ai1 (a:Nat):wR H (SD H) (w8 {u with st:=124} B bf (a::r)) .cont (w8 {u with st:=124} (B++[.str (a::r)]) bf (a::r)):=KK
def adI (a:Nat):wR H [wb H 0,wb H 1] (w8 {u with st:=62} B bf (a::r)) .next (w8 {u with st:=62} B bf (a::r)):=KK
abbrev Zv:Expr×List Stmt×List Stmt:=(rL (wb H 2)).getD default
def aiY:rL (wb H 2)=some (Zv H):=KK
def adK:Zu H (Zv H).1 (w8 u B [] r) (qi [] r):=KK
def adJ (a b:Nat):Zu H (Zv H).1 (w8 u B (b::bf) (a::r)) (qi (b::bf) (a::r)):=KK
def adL (c:Bool):wR H (bif c then(Zv H).2.1 else(Zv H).2.2) (w8 u B bf r) .next (w8 u (bif c then B++[.str []] else B) bf r):=by cases c<;>kernel_rfl
def wbE:Str×Expr:=(D2 (eQ H bY 10 1550) (wb H 3)).getD default
def aiZ:(D2 (eQ H bY 10 1550) (wb H 3),aS (w8 u B bf r).loc uW)=(some (uW,(wbE H).2),some (.ml B)):=KK
def adO:Am (w8 u B bf r) uW B=w7 u (.pv (.lst B)) bf [(fm,.pv (.str r))]:=KK
def adN (B':List DV):(⟨none,bS (w8 u B bf r).loc uW (.ml B')⟩:aj)=w8 u B' bf r:=KK
def adM:oAk H 10 1550 (wbE H).2 (w7 u (.pv (.lst B)) bf [(fm,.pv (.str r))]) wK=some (1545,[.str r,.int (u.fr / 7:Nat)]):=KK
def ai0:wR H [wb H 4] (w8 u B bf r) .next (w8 u B r r):=KK
def adP (Ds:List Nat):bS (w7 u (.ml B) bf []).loc fm (.pv (.str r))=(w8 u B bf r).loc/\bS (w8 u B bf Ds).loc fm (.pv (.str r))=(w8 u B bf r).loc:=⟨KK,KK⟩
def r0 (e:Bool) (r:List Nat) (tl:List (Str×ae)):List (Str×ae):=bif e then(fm,.pv (.str r))::tl else tl
def r2 (e:Bool) (r t:List Nat) (i:Nat):List (Str×ae):=bif e then[(fm,.pv (.str r)),(mP,.pv (.str t)),(iw,.pv (.int i))] else[(mP,.pv (.str t)),(iw,.pv (.int i)),(fm,.pv (.str r))]
abbrev w9 (B:ae) (bf r t:List Nat) (e:Bool):aj:=w7 u B bf (r0 e r [(mP,.pv (.str t))])
abbrev wA (B:List DV) (bf r t:List Nat) (i:Nat) (e:Bool):aj:=w7 u (.pv (.lst B)) bf (r2 e r t i)
def adS:wR H [wr H 10,wr H 11] (w7 u (.ml B) bf (r0 e r [])) .next (w9 u (.ml (B++List.replicate u.bh (.str []))) bf r ([u.st]++Ji u.dg u.ch u.fr++jd (u.fr / 12 % 4)++u.nl) e):=by cases e<;>kernel_rfl
def Zw:List Expr×Str×Expr×List Stmt:=(pT (wr H 12)).getD default
abbrev we:Stmt:=ai (Zw H).2.2.2 0
def adT:(pT (wr H 12),names (FI H 1550).sc (Zw H).1,bA (KF H) (FI H 1550).sc (Zw H).2.1 (.type "enumerate"),(Zw H).2.2.2)=(some (Zw H),some [iw,fm],true,[we H]):=KK
def YX:vp (fR H bY 10 1550) [(Zw H).2.2.1] (w9 u (.ml B) bf r t e)=some ([.lst B],w9 u (.pv (.lst B)) bf r t e):=by cases e<;>kernel_rfl
def YY (r':List Nat):putAll (w9 u (.pv (.lst B)) bf r t e).loc [iw,fm] [.int i,.str r']=(wA u B bf r' t i e).loc:=(uD ..).trans (by cases e<;>kernel_rfl)
def YZ (r':List Nat) (i':Nat):putAll (wA u B bf r' t i' e).loc [iw,fm] [.int i,.str r]=(wA u B bf r t i e).loc:=(uD ..).trans (by cases e<;>kernel_rfl)
def ai3 (a:Nat):([[],a::r].map λr=>oR H 10 1550 [we H] (wA u B bf r t i e) wK)=[[],a::r].map λr=>some (.next,wA u B bf r (t++List.replicate (MM (u.fr / 5) u.ind i r) 32++r++u.nl) i e):=by cases e<;>kernel_rfl
def SE:(oR H 10 1550 [wr H 13] (w9 u (.pv (.lst B)) bf r t e) wK,oR H 10 1550 [wr H 13] (wA u B bf r t i e) wK)=(some (.ret (.str t),w9 u (.pv (.lst B)) bf r t e),some (.ret (.str t),wA u B bf r t i e)):=by cases e<;>kernel_rfl
def Y0:((cR lD 1550 [.lst u.R,.int u.cl,.str [u.st],.int u.le,.int u.fr,.str u.nl] []).bind λrow=>getAll [.lst u.R,.int u.cl,.str [u.st],.int u.le,.int u.fr,.str u.nl] [] row.out)=some [(jj,.lst u.R),(zClose,.int u.cl),(fD,.str [u.st]),(Dd,.int u.le),(hA,.int u.fr),(SG,.str u.nl)]:=KK
end
section
variable (H:Array Nat->Int) (u:WS) (B:List DV) (bf r t:List Nat) (i:Nat) (e:Bool)
def M1:Str×CQ:=(nH (FI H 1550).sc (wr H 0)).getD default
abbrev w0C:Expr×CmpOp×Expr:=(nG ((M1 H).2.ifs.headD default)).getD default
def ai4:(nH (FI H 1550).sc (wr H 0),(M1 H).1,(M1 H).2.ifs,dW (M1 H).2.elt,nG ((M1 H).2.ifs.headD default))=(some (M1 H),Fh,[(M1 H).2.ifs.headD default],some (M1 H).2.x,some (w0C H)):=KK
def adQ:(dW (w0C H).1,(w0C H).2.1,gg (w0C H).2.2,oK H 10 1550 (M1 H).2.iter (w0 u []) wK)=(some (M1 H).2.x,.NotEq,some Cu,some (.pv (.lst u.R))):=KK
def adR (F:List DV):(⟨none,bS (w0 u []).loc Fh (.ml F)⟩:aj)=w1 {u with F:=F}:=KK
structure WOk (u:WS):Prop where
 cl:u.cl<=3
 le:u.le<=40
 fr:u.fr<=90000
 nl:u.nl.length<=50
structure Nf (u:WS):Prop extends WOk u where
 ind:u.ind<=60
 dg:u.dg.length<=1
structure oO (u:WS):Prop extends Nf u where
 ch:u.ch.length<=1
 bh:u.bh<=100
variable {u}
def aab (h:WOk u):fU wK (w0 u []).loc:=Eq.mpr (by kernel_rfl:fU wK (w0 u []).loc=(u.cl<=3/\u.le<=40/\u.fr<=90000/\u.nl.length<=50/\True)) ⟨h.cl,h.le,h.fr,h.nl,trivial⟩
def afL (h:WOk u):fU wK (w1 u).loc:=Eq.mpr (by kernel_rfl:fU wK (w1 u).loc=fU wK (w0 u []).loc) (aab h)
def Tq (h:Nf u):fU wK (w3 u []).loc:=Eq.mpr (by kernel_rfl:fU wK (w3 u []).loc=(u.cl<=3/\u.le<=40/\u.fr<=90000/\u.nl.length<=50/\u.ind<=60/\u.dg.length<=1/\True)) ⟨h.cl,h.le,h.fr,h.nl,h.ind,h.dg,trivial⟩
def afM (h:Nf u) (hc:u.ch.length<=1):fU wK (w4 u).loc:=Eq.mpr (by kernel_rfl:fU wK (w4 u).loc=(u.cl<=3/\u.le<=40/\u.fr<=90000/\u.nl.length<=50/\u.ind<=60/\u.dg.length<=1/\u.ch.length<=1/\True)) ⟨h.cl,h.le,h.fr,h.nl,h.ind,h.dg,hc,trivial⟩
def H9 (h:oO u) {P:Prop} (hP:P) (hB:B.length<=2000) (hf:bf.length<=60):u.cl<=3/\u.le<=40/\u.fr<=90000/\u.nl.length<=50/\u.ind<=60/\u.dg.length<=1/\u.ch.length<=1/\u.bh<=100/\B.length<=2000/\bf.length<=60/\P:=⟨h.cl,h.le,h.fr,h.nl,h.ind,h.dg,h.ch,h.bh,hB,hf,hP⟩
abbrev YS (u:WS) (B:List DV) (bf:List Nat) (P:Prop):Prop:=u.cl<=3/\u.le<=40/\u.fr<=90000/\u.nl.length<=50/\u.ind<=60/\u.dg.length<=1/\u.ch.length<=1/\u.bh<=100/\B.length<=2000/\bf.length<=60/\P
def Rv (h:oO u) (hB:B.length<=2000) (hf:bf.length<=60):fU wK (w7 u (.ml B) bf []).loc:=Eq.mpr (by kernel_rfl:fU wK (w7 u (.ml B) bf []).loc=YS u B bf True) (H9 B bf h trivial hB hf)
def NS (h:oO u) (hB:B.length<=2000) (hf:bf.length<=60) (hr:r.length<=60):fU wK (w8 u B bf r).loc/\fU wK (w7 u (.pv (.lst B)) bf [(fm,.pv (.str r))]).loc:=
 have q:YS u B bf (r.length<=60/\True):=H9 B bf h ⟨hr,trivial⟩ hB hf
 ⟨Eq.mpr (by kernel_rfl:fU wK (w8 u B bf r).loc=YS u B bf (r.length<=60/\True)) q,Eq.mpr (by kernel_rfl:fU wK (w7 u (.pv (.lst B)) bf [(fm,.pv (.str r))]).loc=YS u B bf (r.length<=60/\True)) q⟩
def afN (h:oO u) (hB:B.length<=2000) (hf:bf.length<=60) (hr:r.length<=60):fU wK (w7 u (.ml B) bf (r0 e r [])).loc:=by
 cases e
 ·exact Rv B bf h hB hf
 ·exact(NS B bf r h hB hf hr).1
def aac (h:oO u) (hB:B.length<=2000) (hf:bf.length<=60) (hr:r.length<=60) (ht:t.length<=900000):fU wK (w9 u (.pv (.lst B)) bf r t e).loc:=by
 cases e
 ·exact Eq.mpr (by kernel_rfl:fU wK (w9 u (.pv (.lst B)) bf r t false).loc=YS u B bf (t.length<=900000/\True)) (H9 B bf h ⟨ht,trivial⟩ hB hf)
 ·exact Eq.mpr (by kernel_rfl:fU wK (w9 u (.pv (.lst B)) bf r t true).loc=YS u B bf (r.length<=60/\t.length<=900000/\True)) (H9 B bf h ⟨hr,ht,trivial⟩ hB hf)
def aad (h:oO u) (hB:B.length<=2000) (hf:bf.length<=60) (hr:r.length<=60) (ht:t.length<=900000) (hi:i<=3000):fU wK (wA u B bf r t i e).loc:=Eq.mpr (by cases e<;>kernel_rfl:fU wK (wA u B bf r t i e).loc=YS u B bf (r.length<=60/\t.length<=900000/\i<=3000/\True)) (H9 B bf h ⟨hr,ht,hi,trivial⟩ hB hf)
end
def SF (f ind i:Nat) (r:List Nat):MM f ind i r<=ind:=by
 unfold MM
 cases fP r [] with
 |true=>exact u0 (qd _ (MU _))
 |false=>exact fu _
def uF (f ind:Nat) (nl:List Nat) (h1:ind<=60) (h2:nl.length<=50) (rs:List (List Nat)):∀k,(∀r∈rs,r.length<=60)->(jH f ind nl rs k).length<=200*rs.length:=by
 induction rs with
 |nil=>exactλ_ _=>jP _
 |cons r rs ih=>
  intro k h
  have a:=ih (k+1) λr m=>h r (.tail _ m)
  have b:=h r (.head _)
  have c:=SF f ind k r
  show((List.replicate (MM f ind k r) 32++(r++nl))++jH f ind nl rs (k+1)).length<=_
  simp only[c9,tj,M7]
  lia
def I8 {P:Stmt->Prop} {st:Stmt} {q:Expr×Expr×List Stmt×List Stmt} {x:Str} (h:Aj st=some q) (hx:dW q.1=some x) (ho:q.2.2.2=[]) (k:∀p pos,P (.For (.Name x p) q.2.1 q.2.2.1 [] pos)):P st:=fi ((DU st).get h) λp e=>by
 have k:=k q.1.pos p
 rw[(dm q.1).get hx,<-ho,e] at k
 exact k
def Uw {U:Program} {w:World} {Y:Base} {sc:Scope} {x:Str} {d u v:DV} {c:Bool} {e:Expr} {q:Expr×CmpOp×Expr} (h:nG e=some q) (ha:fW U w Y sc x q.1 d u) (hb:fW U w Y sc x q.2.2 d v) (hc:fh U w Y.V q.2.1 u v c):qW U w Y sc x e d c:=a2 ((qB e).get h) λh m=>h▸abx ha hb hc m
def adt (v:DV):Bool:=Option.rec (motive:=λ_=>Bool) false (λa=>!fP a []) (iE v)
def IY (rows:List (List Nat)):(((rows.map DV.str).filter adt).map id)=(br rows).map DV.str:=by
 rw[List.map_id,List.filter_map];rfl
def Ot {rows:List (List Nat)} {q:List Nat} (h:q∈br rows):q≠[]:=λe=>by
 have k:=(List.mem_filter.mp h).2
 rw[e] at k
 exact ft k
def zY (e:Bool) (cl fr:Nat):jn e cl fr=[]\/jn e cl fr=[45]\/jn e cl fr=[43]/\(e=false->1<=cl):=by
 have p2:∀n,n<2->([[],[43]].getD n []:List Nat)=[]\/([[],[43]].getD n []:List Nat)=[43]:=λn h=>by
  match n,h with
  |0,_=>exact .inl rfl
  |1,_=>exact .inr rfl
 have p3:∀n,n<3->([[],[45],[43]].getD n []:List Nat)=[]\/([[],[45],[43]].getD n []:List Nat)=[45]\/([[],[45],[43]].getD n []:List Nat)=[43]:=λn h=>by
  match n,h with
  |0,_=>exact .inl rfl
  |1,_=>exact .inr (.inl rfl)
  |2,_=>exact .inr (.inr rfl)
 match cl,e with
 |0,true=>exact(p3 (fr / 48 % 3) (qd _ (by decide))).imp_right λh=>h.imp_right λh=>⟨h,λe=>tf e⟩
 |0,false=>exact .inr (.inl rfl)
 |1,true=>exact .inr (.inr ⟨rfl,λe=>tf e⟩)
 |1,false=>exact(p2 (fr / 48 % 2) (qd _ (by decide))).imp_right λh=>.inr ⟨h,λ_=>fu _⟩
 |n+2,_=>exact .inr (.inr ⟨rfl,λ_=>MU _⟩)
def four {P:Nat->Prop} {n:Nat} (h:n<=3) (k:∀m∈[0,1,2,3],P m):P n:=k n (by match n,h with|0,_=>simp|1,_=>simp|2,_=>simp|3,_=>simp)
def E2 (n:Nat):(jd (n % 4)).length<=10:=four (P:=λn=>(jd n).length<=10) (u0 (qd _ (by decide))) (by decide)
section
variable {U:Program} {w:World} {Y:Base} (T0:cQ (KF (HH w)) Y) (hl:bw Y) (u:WS)
include T0 hl
abbrev wX (U:Program) (w:World) (Y:Base) (l:List Stmt) (Z:aj) (f:au) (ba:aj):Prop:=aF U w 1521 Y (FI (HH w) 1550).sc 10 l Z f ba
theorem qb {Z ba:aj} {l:List Stmt} {f:au} (B:fU wK Z.loc) (h:wR (HH w) l Z f ba):wX U w Y l Z f ba:=wc iY (iX (HH w)) T0 hl B h
theorem YU (B:List (List Nat)) (bf r:List Nat) (h:oO u) (jz:u.st=124\/u.st=62) (hB:B.length<=1000) (hb:bf.length<=60) (hr:r.length<=60) (hfo:(iZ r (u.fr / 7)).length<=100):
 ∃B' Ds f,wX U w Y (SD (HH w)) (w8 u (B.map .str) bf r) f (w8 u (B'.map .str) Ds r)/\(f=.next\/f=.cont)/\(∀rs,fc u.st (u.fr / 7) (r::rs) B bf=fc u.st (u.fr / 7) rs B' Ds)/\B'.length<=B.length+101/\Ds.length<=60:=by
 have ll:∀B:List (List Nat),(B.map DV.str).length=B.length:=λB=>mG ..
 have ap:∀(B:List (List Nat)) (v:List Nat),B.map DV.str++[.str v]=(B++[v]).map .str:=λB v=>by rw[M8];rfl
 have a1:∀v:List Nat,(B++[v]).length<=B.length+101:=λv=>by rw[c9,Zy];lia
 have bd:=NS (B.map .str) bf r h (by rw[ll];lia) hb hr
 cases r with
 |nil=>
  have k:=qb (U:=U) T0 hl bd.1 (ai2 (HH w) u (B.map .str) bf)
  rw[ap] at k
  exact⟨B++[[]],bf,.cont,k,.inr rfl,λ_=>rfl,a1 _,hb⟩
 |cons a r=>
  rcases jz with jz|jz
  ·have e:{u with st:=124}=u:=by rw[<-jz]
   have k:=qb (U:=U) T0 hl (e.symm▸bd.1) (ai1 (HH w) u (B.map .str) bf r a)
   rw[ap,e] at k
   exact⟨B++[a::r],bf,.cont,k,.inr rfl,λ_=>by rw[jz];rfl,a1 _,hb⟩
  ·have e:{u with st:=62}=u:=by rw[<-jz]
   have g:Zu (HH w) (Zv (HH w)).1 (w8 u (B.map .str) bf (a::r)) (qi bf (a::r)):=by
    cases bf with
    |nil=>exact adK (HH w) u (B.map .str) (a::r)
    |cons b bf=>exact adJ (HH w) u (B.map .str) bf r a b
   have k2:=kl (aiY (HH w)) (wa (U:=U) iY (iX (HH w)) T0 hl bd.1 g) (qb T0 hl bd.1 (adL (HH w) u (B.map .str) bf (a::r) _))
   have e2:(bif qi bf (a::r) then B.map DV.str++[.str []] else B.map .str)=(bif qi bf (a::r) then B++[[]] else B).map .str:=by cases qi bf (a::r);exact rfl;exact ap B []
   have z2:(bif qi bf (a::r) then B++[[]] else B).length<=B.length+1:=by cases qi bf (a::r);exact Nat.le_succ _;exact jk c9
   rw[e2] at k2
   have k0:=λl' f ba k=>hW (U:=U) iY (iX (HH w)) T0 hl (n:=10) (l':=l') (fl:=f) (Rb:=ba) (show fU wK (w8 {u with st:=62} (B.map .str) bf (a::r)).loc from e.symm▸bd.1) (adI (HH w) u (B.map .str) bf r a) k
   rw[e] at k0
   generalize hB2:(bif qi bf (a::r) then B++[[]] else B)=B2 at k2 z2
   have bd2:=NS (B2.map .str) bf (a::r) h (by rw[ll];lia) hb hr
   have zz:B2.length+(iZ (a::r) (u.fr / 7)).length<=B.length+101:=bB (xi z2 hfo) (by lia)
   have call:=Lr (U:=U) iY (iX (HH w)) T0 hl (n:=10) bd2.2 (adM (HH w) u (B2.map .str) bf (a::r)) (aaA (U:=U) T0 hl (a::r) (u.fr / 7) (λh=>cn h) (by lia) (bB (Nat.div_le_self ..) h.fr))
   rw[<-adO] at call
   have k3:=GS (U:=U) iY (iX (HH w)) T0 hl (n:=10) (aiZ (HH w) u (B2.map .str) bf (a::r)) call (by rw[ll,ll];exact bB zz (bB (ZA hB 101) (by decide)))
   rw[<-M8] at k3
   have bd3:=NS ((B2++iZ (a::r) (u.fr / 7)).map .str) bf (a::r) h (by rw[ll,c9];lia) hb hr
   exact⟨B2++iZ (a::r) (u.fr / 7),a::r,.next,k0 _ _ _ (ao k2 (ao (adN u (B2.map .str) bf (a::r) _▸k3) (qb T0 hl bd3.1 (ai0 (HH w) u _ bf (a::r))))),.inl rfl,λ_=>by rw[jz,<-hB2];rfl,by rw[c9];exact zz,hr⟩
theorem YT (h:oO u) (jz:u.st=124\/u.st=62) (rs:List (List Nat)):∀(B:List (List Nat)) (bf:List Nat) (loc:List (Str×ae)),B.length+101*rs.length<=1000->bf.length<=60->(∀r∈rs,r.length<=60/\(iZ r (u.fr / 7)).length<=100)->(∀r,bS loc fm (.pv (.str r))=(w8 u (B.map .str) bf r).loc)->rs≠[]->
 ∃Ds r,gi U w 1521 Y (FI (HH w) 1550).sc 10 fm (SD (HH w)) (rs.map .str) ⟨none,loc⟩ .next (w8 u ((fc u.st (u.fr / 7) rs B bf).map .str) Ds r)/\Ds.length<=60/\r.length<=60:=by
 induction rs with
 |nil=>exactλ_ _ _ _ _ _ _ h=>absurd rfl h
 |cons r rs ih=>
  intro B bf loc hB hb hr Aq _
  have hr1:=hr r (.head _)
  obtain⟨B',Ds,f,run,hf,eb,hlen,hb'⟩:=YU (U:=U) T0 hl u B bf r h jz (bB (Hu ..) hB) hb hr1.1 hr1.2
  rw[eb rs]
  have run:aF U w 1521 Y (FI (HH w) 1550).sc 10 (SD (HH w)) ⟨none,put loc fm (.pv (.str r))⟩ f (w8 u (B'.map .str) Ds r):=by
   rw[<-bk,Aq r];exact run
  cases rs with
  |nil=>exact⟨Ds,r,.turn run hf .done,hb',hr1.1⟩
  |cons r' rs=>
   obtain⟨bf2,r2,h2,h3,h4⟩:=ih B' Ds (w8 u (B'.map .str) Ds r).loc (by rw[M7] at hB;lia) hb' (λq m=>hr q (.tail _ m)) (λq=>(adP u (B'.map .str) Ds q r).2) λh=>cn h
   exact⟨bf2,r2,.turn run hf h2,h3,h4⟩
theorem YV (B:List DV) (bf r t:List Nat) (i:Nat) (e:Bool) (b:fU wK (wA u B bf r t i e).loc):wX U w Y [we (HH w)] (wA u B bf r t i e) .next (wA u B bf r (t++(List.replicate (MM (u.fr / 5) u.ind i r) 32++(r++u.nl))) i e):=by
 have k:=λa r' m=>qb (U:=U) T0 hl b (show wR (HH w) [we (HH w)] _ .next _ from aW (ai3 (HH w) u B bf r' t i e a) r m)
 simp only[fb] at k
 cases r with
 |nil=>exact k 0 [] (.head _)
 |cons a r=>exact k a r (.tail _ (.head _))
theorem Q4 (h:oO u) (B:List DV) (hB:B.length<=2000) (bf:List Nat) (hf:bf.length<=60) (e:Bool) (rs:List (List Nat)):∀(k:Nat) (t:List Nat) (loc:List (Str×ae)),k+rs.length<=3000->(∀r∈rs,r.length<=60)->t.length+200*rs.length<=900000->(∀(i:Nat) r,putAll loc [iw,fm] [.int i,.str r]=(wA u B bf r t i e).loc)->rs≠[]->
 ∃r i,fg U w 1521 Y (FI (HH w) 1550).sc 10 [iw,fm] [we (HH w)] ((rs.zipIdx k).map λp=>[.int p.2,.str p.1]) ⟨none,loc⟩ .next (wA u B bf r (t++jH (u.fr / 5) u.ind u.nl rs k) i e)/\r.length<=60/\i<=3000:=by
 induction rs with
 |nil=>exactλ_ _ _ _ _ _ _ h=>absurd rfl h
 |cons r rs ih=>
  intro k t loc hk hr ht Aq _
  rw[M7] at hk ht
  have h1:=hr r (.head _)
  have tn:=YV (U:=U) T0 hl u B bf r t k e (aad B bf r t k e h hB hf h1 (by lia) (by lia))
  have tn:aF U w 1521 Y (FI (HH w) 1550).sc 10 [we (HH w)] ⟨none,putAll loc [iw,fm] [.int k,.str r]⟩ .next _:=fa (Aq k r)▸(show aF U w 1521 Y (FI (HH w) 1550).sc 10 [we (HH w)] ⟨none,(wA u B bf r t k e).loc⟩ .next _ from tn)
  have e1:∀X:List Nat,t++((List.replicate (MM (u.fr / 5) u.ind k r) 32++(r++u.nl))++X)=t++(List.replicate (MM (u.fr / 5) u.ind k r) 32++(r++u.nl))++X:=λX=>(fb ..).symm
  show ∃r' i,fg U w 1521 Y (FI (HH w) 1550).sc 10 [iw,fm] [we (HH w)] ([.int k,.str r]::(rs.zipIdx (k+1)).map λp=>[.int p.2,.str p.1]) ⟨none,loc⟩ .next (wA u B bf r' (t++((List.replicate (MM (u.fr / 5) u.ind k r) 32++(r++u.nl))++jH (u.fr / 5) u.ind u.nl rs (k+1))) i e)/\r'.length<=60/\i<=3000
  rw[e1]
  cases rs with
  |nil=>exact⟨r,k,.turn rfl tn (.inl rfl) (by rw[show jH (u.fr / 5) u.ind u.nl [] (k+1)=[] from rfl,ti];exact .done),h1,by lia⟩
  |cons r' rs=>
   have:=SF (u.fr / 5) u.ind k r
   have hi:=h.ind
   have hn:=h.nl
   obtain⟨r2,i2,h2,h3,h4⟩:=ih (k+1) (t++(List.replicate (MM (u.fr / 5) u.ind k r) 32++(r++u.nl))) (wA u B bf r (t++(List.replicate (MM (u.fr / 5) u.ind k r) 32++(r++u.nl))) k e).loc (by lia) (λq m=>hr q (.tail _ m)) (by simp only[c9,tj];lia) (λi q=>YZ u B bf q _ i e r k) λh=>cn h
   exact⟨r2,i2,.turn rfl tn (.inl rfl) h2,h3,h4⟩
theorem ML (h:oO u) (B:List (List Nat)) (bf r:List Nat) (e:Bool) (hB:B.length<=1000) (hB2:∀b∈B,b.length<=60) (hf:bf.length<=60) (hr:r.length<=60):
 ∃ir,wX U w Y [wr (HH w) 10,wr (HH w) 11,wr (HH w) 12,wr (HH w) 13] (w7 u (.ml (B.map .str)) bf (r0 e r [])) (.ret (.str (([u.st]++Ji u.dg u.ch u.fr++jd (u.fr / 12 % 4)++u.nl)++jH (u.fr / 5) u.ind u.nl (B++List.replicate u.bh []) 0))) ⟨none,ir⟩:=by
 have k1:=λl' f ba k=>hW (U:=U) iY (iX (HH w)) T0 hl (n:=10) (l':=l') (fl:=f) (Rb:=ba) (afN (B.map .str) bf r e h (by rw[mG];lia) hf hr) (adS (HH w) u (B.map .str) bf r e) k
 rw[show B.map DV.str++List.replicate u.bh (DV.str [])=(B++List.replicate u.bh []).map .str by rw[M8,List.map_replicate]] at k1
 have zB:(B++List.replicate u.bh []).length<=1100:=by
  have:=h.bh
  rw[c9,tj];lia
 have zb:∀b∈B++List.replicate u.bh [],b.length<=60:=λb m=>(List.mem_append.mp m).elim (hB2 b) λm=>by rw[List.eq_of_mem_replicate m];exact jP _
 have zt:([u.st]++Ji u.dg u.ch u.fr++jd (u.fr / 12 % 4)++u.nl).length<=200:=by
  have h1:(Ji u.dg u.ch u.fr).length=u.dg.length+u.ch.length:=by
   unfold Ji
   cases((u.fr / 6 % 2:Nat):Int)==0
   ·exact(c9 ..).trans (Nat.add_comm ..)
   ·exact c9 ..
  have:=E2 (u.fr / 12)
  have:=h.dg;have:=h.ch;have:=h.nl
  simp only[c9,Zy];lia
 generalize B++List.replicate u.bh []=B at k1 zB zb
 generalize [u.st]++Ji u.dg u.ch u.fr++jd (u.fr / 12 % 4)++u.nl=t at k1 zt
 have zB':(B.map DV.str).length<=2000:=by rw[mG];lia
 have en:iW (B.map DV.str)=(B.zipIdx 0).map λp=>[.int p.2,.str p.1]:=by unfold iW;rw[List.zipIdx_map,List.map_map];rfl
 have s12:∀{ba:aj},fg U w 1521 Y (FI (HH w) 1550).sc 10 [iw,fm] [we (HH w)] ((B.zipIdx 0).map λp=>[.int p.2,.str p.1]) (w9 u (.pv (.lst (B.map .str))) bf r t e) .next ba->aU U w 1521 Y (FI (HH w) 1550).sc 10 (wr (HH w) 12) (w9 u (.ml (B.map .str)) bf r t e) .next ba:=λhL=>
  j4 (adT (HH w)) λf0 f1 f2 f3=>vo f0 λkt p pn pos' pos=>zl T0 f1 f2 (lZ (U:=U) iY (iX (HH w)) T0 hl (YX (HH w) u (B.map .str) bf r t e)) (λ_ _=>rfl) (by rw[f3,en];exact hL)
 cases B with
 |nil=>exact⟨_,k1 _ _ _ (ao (s12 .done) (by rw[show jH (u.fr / 5) u.ind u.nl [] 0=[] from rfl,ti];exact qb T0 hl (aac [] bf r t e h zB' hf hr (by lia)) (kS (SE (HH w) u [] bf r t 0 e)).1))⟩
 |cons b B=>
  obtain⟨r',i,hL,hr',hi⟩:=Q4 (U:=U) T0 hl u h ((b::B).map .str) zB' bf hf e (b::B) 0 t (w9 u (.pv (.lst ((b::B).map .str))) bf r t e).loc (by lia) zb (by lia) (λi q=>YY u ((b::B).map .str) bf r t i e q) λh=>cn h
  exact⟨_,k1 _ _ _ (ao (s12 hL) (qb T0 hl (aad ((b::B).map .str) bf r' _ i e h zB' hf hr' (by
   rw[c9]
   have:=uF (u.fr / 5) u.ind u.nl h.ind h.nl (b::B) 0 zb
   lia) hi) (kS (SE (HH w) u _ bf r' _ i e)).2))⟩
omit T0 hl in
theorem w_4 (H:Array Nat->Int) {e:Bool} (he:mA u.F=e) (h:u.cl<=3):wR H [wr H 4] (w3 u []) .next (w4 {u with ch:=jn e u.cl u.fr}):=by
 subst he
 obtain⟨R,F,cl,st,le,fr,ind,bh,nl,dg,ch⟩:=u
 cases F with
 |nil=>exact four (P:=λcl=>wR H [wr H 4] (w3 ⟨R,[],cl,st,le,fr,ind,bh,nl,dg,ch⟩ []) .next (w4 ⟨R,[],cl,st,le,fr,ind,bh,nl,dg,jn true cl fr⟩)) h (aW (adY H ⟨R,[],cl,st,le,fr,ind,bh,nl,dg,ch⟩))
 |cons a F=>exact four (P:=λcl=>wR H [wr H 4] (w3 ⟨R,a::F,cl,st,le,fr,ind,bh,nl,dg,ch⟩ []) .next (w4 ⟨R,a::F,cl,st,le,fr,ind,bh,nl,dg,jn false cl fr⟩)) h (aW (adX H ⟨R,F,cl,st,le,fr,ind,bh,nl,dg,ch⟩ a F))
omit T0 hl in
theorem w_5 (H:Array Nat->Int) {e:Bool} (he:mA u.F=e) (h:u.cl<=3):wR H [wr H 5,wr H 6,wr H 7,wr H 8] (w4 {u with ch:=jn e u.cl u.fr}) .next (w7 {u with ch:=jn e u.cl u.fr,bh:=tq e u.cl u.fr} (.ml []) [] []):=by
 subst he
 have c:=zY (mA u.F) u.cl u.fr
 unfold tq
 generalize jn (mA u.F) u.cl u.fr=ch at c ⊢
 rcases c with c|c|c
 ·rw[c];exact aW (adZ H u) [] (.head _)
 ·rw[c];exact aW (adZ H u) [45] (.tail _ (.head _))
 ·rw[c.1]
  have c2:=c.2
  obtain⟨R,F,cl,st,le,fr,ind,bh,nl,dg,ch⟩:=u
  cases F with
  |nil=>exact four (P:=λcl=>wR H [wr H 5,wr H 6,wr H 7,wr H 8] (w4 ⟨R,[],cl,st,le,fr,ind,bh,nl,dg,[43]⟩) .next (w7 ⟨R,[],cl,st,le,fr,ind,cl,nl,dg,[43]⟩ (.ml []) [] [])) h (aW (ad1 H ⟨R,[],cl,st,le,fr,ind,bh,nl,dg,[43]⟩))
  |cons a F=>
   cases cl with
   |zero=>exact absurd (c2 rfl) (Nat.not_succ_le_zero 0)
   |succ n=>exact ad0 H ⟨R,F,n,st,le,fr,ind,bh,nl,dg,[43]⟩ a F n
theorem w_9 (h:oO u) {ba:aj} (hL:gi U w 1521 Y (FI (HH w) 1550).sc 10 fm (SD (HH w)) u.R (w7 u (.ml []) [] []) .next ba):aU U w 1521 Y (FI (HH w) 1550).sc 10 (wr (HH w) 9) (w7 u (.ml []) [] []) .next ba:=
 j5 (ai7 (HH w)) λf0 f1 f2 f3 f4=>I8 (P:=λst=>aU U w 1521 Y (FI (HH w) 1550).sc 10 st (w7 u (.ml []) [] []) .next ba) f0 f1 (aT Prod.snd f4) λp pos=>by
  rw[show(YW (HH w)).2.2.1=SD (HH w) from aT Prod.fst f4]
  exact Ms (sj (U:=U) iY (iX (HH w)) T0 hl (n:=10) (Rv [] [] h (jP _) (jP _)) (ad2 ..)) (.inr rfl) (aP f2) (hE f3) hL
abbrev wU (rows:List (List Nat)) (cl st le fr:Nat) (nl:List Nat):WS:=⟨rows.map .str,(br rows).map .str,cl,st,le,fr,le+fr % 3,tq (mA (br rows)) cl fr,nl,qg (br rows) fr,jn (mA (br rows)) cl fr⟩
theorem ad3 (rows:List (List Nat)) (cl st le fr:Nat) (nl:List Nat) (jz:st=124\/st=62) (hr:rows.length<=8) (hrf:∀r∈rows,r.length<=60/\(iZ r (fr / 7)).length<=100) (hb:(fc st (fr / 7) rows [] []).length<=1000) (hb2:∀b∈fc st (fr / 7) rows [] [],b.length<=60) (hc:cl<=3) (hle:le<=40) (hz:fr<=90000) (h3:nl.length<=50):
 af U w 1521 Y 11 (.ref 1550) [.lst (rows.map .str),.int cl,.str [st],.int le,.int fr,.str nl] [] none (.str (kq rows cl st le fr nl)) none:=by
 have ok:∀F ind dg ch bh,ind<=60->dg.length<=1->ch.length<=1->bh<=100->oO ⟨rows.map .str,F,cl,st,le,fr,ind,bh,nl,dg,ch⟩:=λF ind dg ch bh a b c d=>⟨⟨⟨hc,hle,hz,h3⟩,a,b⟩,c,d⟩
 have hi:le+fr % 3<=60:=by lia
 have ok0:=(ok [] 0 [] [] 0 (jP _) (jP _) (jP _) (jP _)).toWOk
 have hdg:(qg (br rows) fr).length<=1:=by
  unfold qg
  cases rD (br rows) fr
  ·exact jP _
  ·exact fu _
 have hch:(jn (mA (br rows)) cl fr).length<=1:=by
  rcases zY (mA (br rows)) cl fr with h|h|h
  ·rw[h];exact jP _
  ·rw[h];exact fu _
  ·rw[h.1];exact fu _
 have hbh:tq (mA (br rows)) cl fr<=100:=by
  unfold tq
  cases fP (jn (mA (br rows)) cl fr) [43] with
  |true=>cases mA (br rows)<;>show _<=_<;>lia
  |false=>show fr / 84 % 3<=100;lia
 have GR:=ok ((br rows).map .str) (le+fr % 3) (qg (br rows) fr) (jn (mA (br rows)) cl fr) (tq (mA (br rows)) cl fr) hi hdg hch hbh
 have GR:oO (wU rows cl st le fr nl):=GR
 have h9:∃ir,wX U w Y [wr (HH w) 9,wr (HH w) 10,wr (HH w) 11,wr (HH w) 12,wr (HH w) 13] (w7 (wU rows cl st le fr nl) (.ml []) [] []) (.ret (.str (kq rows cl st le fr nl))) ⟨none,ir⟩:=by
  cases Jp:rows with
  |nil=>
   rw[Jp] at GR
   exact fi (ML (U:=U) T0 hl (wU [] cl st le fr nl) GR [] [] [] false (jP _) (λ_ h=>nomatch h) (jP _) (jP _)) λba k=>⟨ba,ao (w_9 T0 hl (wU [] cl st le fr nl) GR .done) k⟩
  |cons r rs=>
   rw[<-Jp]
   obtain⟨bf,r,hL,hf,hr'⟩:=YT (U:=U) T0 hl (wU rows cl st le fr nl) GR jz rows [] [] (w7 (wU rows cl st le fr nl) (.ml []) [] []).loc (by rw[List.length_nil];lia) (jP _) hrf (λq=>(adP (wU rows cl st le fr nl) [] [] q []).1) (by rw[Jp];exactλh=>cn h)
   exact fi (ML (U:=U) T0 hl (wU rows cl st le fr nl) GR (fc st (fr / 7) rows [] []) bf r true hb hb2 hf hr') λba k=>⟨ba,ao (w_9 T0 hl (wU rows cl st le fr nl) GR hL) k⟩
 have h3:∃ir,wX U w Y [wr (HH w) 3,wr (HH w) 4,wr (HH w) 5,wr (HH w) 6,wr (HH w) 7,wr (HH w) 8,wr (HH w) 9,wr (HH w) 10,wr (HH w) 11,wr (HH w) 12,wr (HH w) 13] (w3 {wU rows cl st le fr nl with dg:=[]} []) (.ret (.str (kq rows cl st le fr nl))) ⟨none,ir⟩:=fi h9 λba k=>⟨ba,by
  have e:mA (wU rows cl st le fr nl).F=mA (br rows):=by show mA ((br rows).map DV.str)=_;cases br rows<;>rfl
  have k4:=hW (U:=U) iY (iX (HH w)) T0 hl (n:=10) (Tq GR.toNf) (w_4 (wU rows cl st le fr nl) (HH w) e hc) (hW (U:=U) iY (iX (HH w)) T0 hl (n:=10) (afM GR.toNf GR.ch) (w_5 (wU rows cl st le fr nl) (HH w) e hc) k)
  have t:Zu (HH w) (YR (HH w)).1 (w3 {wU rows cl st le fr nl with dg:=[]} []) (rD (br rows) fr):=by
   have q:=λr m=>Ot (rows:=rows) (q:=r) m
   unfold wU
   generalize br rows=full at q
   cases full with
   |nil=>exact adV (HH w) (wU rows cl st le fr nl)
   |cons a as=>
    cases a with
    |nil=>exact absurd rfl (q [] (.head _))
    |cons a b=>exact adU (HH w) (wU rows cl st le fr nl) a b (as.map .str)
  have ok3:Nf {wU rows cl st le fr nl with dg:=[]}:=⟨⟨hc,hle,hz,h3⟩,hi,jP _⟩
  refine ao (kl (ai6 (HH w)) (wa (U:=U) iY (iX (HH w)) T0 hl (n:=10) (Tq ok3) t) ?_) k4
  have x:=adW (HH w) (wU rows cl st le fr nl)
  show aF U w 1521 Y _ 10 _ _ .next (w3 {wU rows cl st le fr nl with dg:=qg (br rows) fr} [])
  unfold qg
  cases rD (br rows) fr with
  |true=>exact qb T0 hl (Tq ok3) x.1
  |false=>exact(show aF U w 1521 Y (FI (HH w) 1550).sc 10 (YR (HH w)).2.2 _ .next _ from x.2▸bx)⟩
 refine fi h3 λir k3=>f9 (fl:=.ret (.str (kq rows cl st le fr nl))) (ba:=⟨none,ir⟩) iY (iX (HH w)) T0 hl (Y0 (wU rows cl st le fr nl)) (.at (ai8 (HH w)) (ao ?_ (hW (U:=U) iY (iX (HH w)) T0 hl (n:=10) (afL GR.toWOk) (ai5 (HH w) (wU rows cl st le fr nl)) k3))) rfl
 exact j5 (ai4 (HH w)) λc0 c1 c2 c3 c4=>j4 (adQ (HH w) (wU rows cl st le fr nl)) λd0 d1 d2 d3=>by
  have S:=rz c0
  have k:=ry (U:=U) (w:=w) (C:=1521) (Y:=Y) (d:=10) (Z:=w0 (wU rows cl st le fr nl) []) (l:=rows.map .str) c0 adt id (by rw[mG];exact bB hr (by decide)) (λv m=>bz (Ht.mp m) λa _ e=>e▸rfl) (sj (U:=U) iY (iX (HH w)) T0 hl (n:=10) (aab GR.toWOk) d3).rest
   (.inr ⟨_,c2,λv m=>bz (Ht.mp m) λa _ e=>by
     rw[<-e]
     exact Uw c4 (vL S d0) (UA d2 (by decide)) (by rw[d1];exact jZ (show some (a != [])=some (!fP a []) by rw[jo];rfl))⟩) λv m _=>vL S c3
  rw[IY,c1] at k
  exact adR (wU rows cl st le fr nl) ((br rows).map .str)▸k
end
section
variable {U:Program} {w:World} {C:Nat} {K:Frag} {Y:Base} {sc:Scope} {d:Nat} {Z aa ah:aj}
def zm {x y:Str} {p pn pos' pos:Pos} {e:Expr} {b:List Stmt} {n:Nat} {f:au} {iR:aj} (T:cQ K Y) (hl:sc.names.lookup x=some .local) (hb:bA K sc y (.type "range")=true) (ha:dI U w C Y sc d [e] Z [.int n] aa) (hn:n<=1000)
    (hB:gi U w C Y sc d x b ((List.range n).map λ(i:Nat)=>DV.int (i:Int)) aa f iR):aU U w C Y sc d (.For (.Name x p) (.Call (.Name y pn) [e] [] pos') b [] pos) Z f iR:=
 wH hl (λ_ _=>rfl) (λA G L s env ro eo R Q k=>xM (pos:=pos') T hb ha ro eo R λaD ay u aE aJ du=>du.fQ λtk=>by
  refine call_range_1 ?_
  have ya:Builtin.Range.rangeSize 0 (n:Int) 1=(n:Int):=by rw[rangeSize_one];split<;>lia
  have gr:=jQ.grown (tk:=ay.toks+1+1) aE (λb o e=>MR {cls:=.type "range",data:=.fields #[.int 0 ay.toks,.int n tk,.int 1 (ay.toks+1)]} e) (size_push ..)
  generalize hh:ay.heap.push {cls:=.type "range",data:=.fields #[.int 0 ay.toks,.int n tk,.int 1 (ay.toks+1)]}=h' at gr ⊢
  have f:=gr.1.fresh (fu h'.objs.size)
  have l:=aJ.aO gr.2
  have W:=KTurns.ofWalks (target:=.Name x p) (Walks.range (prog:=U) (w:=w) (A:=A) ro.handled h'.objs.size 0 1 n).bound λ_ _ _ _ _ _ h=>vy h
  have W:=Eq.subst (motive:=λm=>KTurns U w A (.Name x p) h'.objs.size [h'.objs.size] [h'.objs.size] m _ _ _) (show n=((List.range n).map λ(i:Nat)=>DV.int (i:Int)).length by simp) W
  refine k aD _ _ {ay with heap:=h'.push {cls:=.type "range_iterator",data:=.fields #[rawInt 0,rawInt (n:Int),rawInt 1]},toks:=ay.toks+1+1} _ _ _ _ _ _ (gr.1.push (t:=ay.toks+1+1) _) (l.aO (eT (t:=ay.toks+1+1) _)) ⟨λQ E hQ=>wpAny_pyIter_range (hh▸IsRange.new ay.heap 0 n 1 ay.toks tk (ay.toks+1)) (small_one (by lia) (by lia) (by lia) (by lia)) (by rw[ya];exact hQ),W,?_,?_,?_,?_⟩
  ·show IsRangeIter _ _ ((0:Int)+((0:Nat):Int)*1) ((n:Int) - ((0:Nat):Int)) 1
   rw[show(0:Int)+((0:Nat):Int)*1=0 by lia,show(n:Int) - ((0:Nat):Int)=n by lia]
   exact Hr _ rfl
  ·exact e8.mpr ⟨⟨λq=>q.elim f.1 f.2.1,by rw[M5];exact MT _⟩,qT _⟩
  ·exact e8.mpr ⟨⟨f.2.2,l.size⟩,qT _⟩
  ·exactλG' sb j v _ q=>a2 q λhj q=>fi q λt e=>⟨.int (j:Int),by simp[hj],by
    rw[e,show(0:Int)+(j:Int)*1=(j:Int) by lia]
    exact⟨t,rfl⟩⟩) hB
def tupS (st:Stmt):Option (List Expr×Expr):=(vc st).bind λq=>(dJ q.1).bind λt=>(mF t).bind λes=>bif cY q.2&&si q.2 then some (es,q.2) else none
def E9 (st:Stmt):On (λq=>(∃k p pos,.Assign [.Tuple q.1 k p] q.2 pos=st)/\cY q.2=true/\si q.2=true) (tupS st):=
 (jR st).b λq h=>(bp q.1).b λt h1=>(qQ t).b λes h2=>ak λh3=>a2 (aw h3) λh3 h4=>⟨fi h λp h=>dk h2 λk p' h2=>⟨k,p',p,by rw[h2,h1];exact h⟩,h3,h4⟩
def C2 {st:Stmt} {q:List Expr×Expr} {xs:List Str} {vs:List DV} (hq:tupS st=some q) (h:aC U w C Y sc d q.2 Z (.lst vs) aa) (hx:names sc q.1=some xs) (hn:xs.length=vs.length):aU U w C Y sc d st Z .next {aa with loc:=putAll aa.loc xs vs}:=
 a3 ((E9 st).get hq) λe hc ht=>gm e λkk p pos e=>e▸λA G L s env ro eo R Q k=>
 wpAny_Assign_stores (h A G L s env ro eo R _ λaz u ax aB aH aV=>show WP U w A (assign (.Tuple q.1 kk p) env u) ax _ from aV.lu λa us n g _ hd=>by
  have⟨n1,n2⟩:=sf (env:=env) q.1 hx
  rw[assign_Tuple]
  refine eO (Rl ?_)
  show WP U w A (unpack (.ref a) (assignEach q.1 env)) ax _
  unfold unpack
  rw[n1,hn,hd.length,n2]
  exact eO (M9 (e6 (kun_itemsOf (items:=⟨us⟩) ro.handled ⟨_,aB.pins _ _ g,rfl,n,rfl⟩ λh' he gr=>a2 (jQ.grown (tk:=ax.toks) aB (λb o e=>he b o (Fj (uY e)) e) gr.size) λaE aJ=>uP eo q.1 xs vs us aa _ hx hn aE hd _ λcA cD cL=>k az _ cA cD ((aH.up.trans' aJ.up).trans' cL) rfl))))
  (show swapsWith q.2 (some (.Tuple q.1 kk p)) pos.line env=pure false from dp hc) (i8 ht env)
def C3 {st:Stmt} {q:List Expr×Expr} {xs:List Str} {vs:List DV} (hq:tupS st=some q) (h:aC U w C Y sc d q.2 Z (.tup vs) aa) (hx:names sc q.1=some xs) (hn:xs.length=vs.length):aU U w C Y sc d st Z .next {aa with loc:=putAll aa.loc xs vs}:=
 a3 ((E9 st).get hq) λe hc ht=>gm e λkk p pos e=>e▸pJ h hx hn hc (i8 ht)
def LX {e:Expr} {q:Expr×CmpOp×Expr} {x y:DV} {c:Bool} (h:nG e=some q) (ha:aC U w C Y sc d q.1 Z x aa) (hb:aC U w C Y sc d q.2.2 aa y ah) (hc:fh U w Y.V q.2.1 x y c):aC U w C Y sc d e Z (.bool c) ah:=a2 ((qB e).get h) λh m=>h▸wq ha hb hc m
end
def q8 (X:Cx) (st:Stmt):Option (Str×Expr):=(vc st).bind λq=>(dJ q.1).bind λt=>(dW t).bind λx=>bif fO X x then bif cY q.2 then some (x,q.2) else none else none
def SY {U:Program} {w:World} {C:Nat} {Y:Base} {d:Nat} {X:Cx} {Z aa:aj} {st:Stmt} {q:Str×Expr} {r:Res} (h:q8 X st=some q) (he:cO U w C Y X.sc d q.2 Z r aa):aU U w C Y X.sc d st Z .next ⟨aa.aq,bS aa.loc q.1 r.slot⟩:=by
 revert he
 exact((jR st).b λz h=>(bp z.1).b λt ht=>(dm t).b λy hy=>ak λhl=>ak λhc=>show cO U w C Y X.sc d z.2 Z r aa->aU U w C Y X.sc d st Z .next ⟨aa.aq,bS aa.loc y r.slot⟩ fromλhe=>fi h λp h=>by rw[<-h,<-ht,<-hy,bk];exact gw he (aP hl) hc:On (λq:Str×Expr=>cO U w C Y X.sc d q.2 Z r aa->aU U w C Y X.sc d st Z .next ⟨aa.aq,bS aa.loc q.1 r.slot⟩) (q8 X st)).get h
def jN:Str:=⟨#[116,97,112,101]⟩
def gP:Str:=⟨#[100,114,97,119,110]⟩
def th:Str:=⟨#[115,104,97,112,101]⟩
def MO:Str:=⟨#[115,104,117,116]⟩
def Q8:Str:=⟨#[100,117,101]⟩
def jO:Str:=⟨#[116,117,114,110]⟩
def lK:Str:=⟨#[112,108,97,99,101]⟩
def Q9:Str:=⟨#[111,110,101]⟩
def Ra:Str:=⟨#[116,119,111]⟩
def w5:Str:=⟨#[116,104,114,101,101]⟩
def Y3:Str:=⟨#[111,116,104,101,114]⟩
def w2:Str:=⟨#[112,114,111,112,115]⟩
def ad8:Str:=⟨#[116,111,108,100]⟩
def zx:Str:=⟨#[103,111,116]⟩
def hM:Str:=⟨#[112,97,114,115,101,114]⟩
structure LU where
 S:List DV
 TP:List DV
 D:ae
 nl:List Nat
 sh:Nat
 su:Bool
 t:List Nat
 fV:List DV
structure TU where
 i:Nat
 pl:Nat
 fr:Nat
 a:Nat
 b:Nat
 c:Nat
 st:Nat
 ot:Nat
 cl:Nat
 R:ae
 v:List Nat
 P:Pv
 told:DV
def iD (k:Nat):DV:=.int (k:Int)
def zz5:List DV:=[iD 0,iD 0,iD 0,iD 0,iD 0]
section
variable (H:Array Nat->Int) (u:LU) (e:Bool) (o x:TU)
def d9:qh (KF H) 1569=some (FI H 1569):=KK
def ew:bc 1569 vr=true:=KK
abbrev lw (n:Nat):Stmt:=ai (FI H 1569).body n
abbrev L0 (tl:List (Str×ae)):aj:=⟨none,(gz,.pv (.lst u.S))::tl⟩
abbrev L2 (tl:List (Str×ae)):aj:=L0 u ((jN,.ml u.TP)::(gP,u.D)::tl)
abbrev L5 (tl:List (Str×ae)):aj:=L2 u ((SG,.pv (.str u.nl))::(th,.pv (.int u.sh))::(MO,.pv (.bool u.su))::tl)
abbrev LA (tl:List (Str×ae)):aj:=L5 u ((mP,.pv (.str u.t))::(Q8,.ml u.fV)::tl)
def tE (x:TU):List (Str×ae):=[(lK,.pv (.int x.pl)),(hA,.pv (.int x.fr)),(Q9,.pv (.int x.a)),(Ra,.pv (.int x.b)),(w5,.pv (.int x.c)),(fD,.pv (.str [x.st])),(Y3,.pv (.str [x.ot])),(zClose,.pv (.int x.cl)),(jj,x.R),(dU,.pv (.str x.v)),(w2,.pv (.str x.P.txt)),(ke,.pv x.P.ZS),(mC,.pv x.P.tag),(ad8,.pv x.told)]
abbrev LT (k:Nat):aj:=LA u ((jO,.pv (.int x.i))::((tE x).take k++bif e then(tE o).drop k else[]))
abbrev LE:aj:=LA u ((jO,.pv (.int x.i))::tE x)
abbrev lR (l:List Stmt) (Z:aj) (β:iT) (f:au) (ba:aj):Prop:=oR H 40 1569 l Z β=some (f,ba)
def ahL:(FI H 1569).body=[lw H 0,lw H 1,lw H 2,lw H 3,lw H 4,lw H 5,lw H 6,lw H 7,lw H 8,lw H 9,lw H 10,lw H 11,lw H 12,lw H 13,lw H 14]:=KK
abbrev lA0:Str×Expr:=(q8 (eQ H bY 40 1569) (lw H 0)).getD default
def lB0:Expr×Operator×Expr:=(gD (lA0 H).2).getD default
def Zj:CQ:=(xO (lB0 H).1).getD default
def lM0:Expr×Operator×Expr:=(gD (Zj H).elt).getD default
def ahn:(q8 (eQ H bY 40 1569) (lw H 0),(lA0 H).1)=(some (lA0 H),jN):=KK
def ahk:(gD (lA0 H).2,(lB0 H).2.1,xO (lB0 H).1,(Zj H).ifs,gD (Zj H).elt)=(some (lB0 H),.Add,some (Zj H),[],some (lM0 H)):=KK
def ahl:(dW (lM0 H).1,(lM0 H).2.1,fQ (lM0 H).2.2)=(some (Zj H).x,.Mod,some 5040):=KK
def abg:(oK H 40 1569 (Zj H).iter (L0 u []) [(gz,100)],oK H 40 1569 (lB0 H).2.2 (L0 u []) [(gz,100)])=(some (.fl (cutD u.S none (some 2))),some (.fl [iD 0,iD 0])):=KK
def ahm:bS (L0 u []).loc jN (.ml u.TP)=(L0 u [(jN,.ml u.TP)]).loc:=KK
def Ut:Str×CQ:=(nH (FI H 1569).sc (lw H 1)).getD default
def lM1:Expr×Operator×Expr:=(gD (Ut H).2.elt).getD default
def ahr:(nH (FI H 1569).sc (lw H 1),(Ut H).1,(Ut H).2.ifs,gD (Ut H).2.elt)=(some (Ut H),gP,[],some (lM1 H)):=KK
def ahp:(dW (lM1 H).1,(lM1 H).2.1,fQ (lM1 H).2.2)=(some (Ut H).2.x,.Mod,some 5040):=KK
def aho:oK H 40 1569 (Ut H).2.iter (L0 u [(jN,.ml u.TP)]) [(gz,100)]=some (.fl (cutD u.S (some 2) (some 12))):=KK
def ahq (D:List DV):bS (L0 u [(jN,.ml u.TP)]).loc gP (.ml D)=(L2 {u with D:=.ml D} []).loc:=KK
abbrev pC (k:Nat):List Nat:=[[10],[13,10],[13],[133]].getD k []
def ahs (a b:Nat):([[],[iD 0],[iD 0,iD 0]].map λq=>oR H 40 1569 [lw H 2,lw H 3] (L2 {u with TP:=iD a::iD b::q} []) [(jN,4)])=[[],[iD 0],[iD 0,iD 0]].map λq=>some (.next,L2 {u with TP:=iD a::iD b::q} [(SG,.pv (.str (pC (a % 4)))),(th,.pv (.int (b % 3:Nat)))]):=KK
abbrev lA4:Str×Expr:=(q8 (eQ H bY 40 1569) (lw H 4)).getD default
def lQ4:Expr×CmpOp×Expr:=(nG (lA4 H).2).getD default
def lB4:Expr×Operator×Expr:=(gD (lQ4 H).1).getD default
def lD4:Expr×Operator×Expr:=(gD (lB4 H).1).getD default
def ahw:(q8 (eQ H bY 40 1569) (lw H 4),(lA4 H).1,nG (lA4 H).2,gD (lQ4 H).1,gD (lB4 H).1)=(some (lA4 H),MO,some (lQ4 H),some (lB4 H),some (lD4 H)):=KK
def ahu:((lQ4 H).2.1,(lB4 H).2.1,(lD4 H).2.1)=(.Eq,.Mod,.FloorDiv):=KK
abbrev L4:aj:=L2 u [(SG,.pv (.str u.nl)),(th,.pv (.int u.sh))]
def aht (a b:Nat):([[],[iD 0],[iD 0,iD 0]].map λq=>(oK H 40 1569 (lD4 H).1 (L4 {u with TP:=iD a::iD b::q}) [],oK H 40 1569 (lD4 H).2.2 (L4 {u with TP:=iD a::iD b::q}) [],oK H 40 1569 (lB4 H).2.2 (L4 {u with TP:=iD a::iD b::q}) [],oK H 40 1569 (lQ4 H).2.2 (L4 {u with TP:=iD a::iD b::q}) []))=[[],[iD 0],[iD 0,iD 0]].map λq=>(some (.pv (.int b)),some (.pv (.int (3:Nat))),some (.pv (.int (2:Nat))),some (.pv (.int (1:Nat)))):=KK
def ahv:(⟨none,bS (L4 u).loc MO (.pv (.bool u.su))⟩:aj)=L5 u []:=KK
def E3 (sh:Nat) (nl:List Nat):List Nat:=bif ((sh:Nat):Int)==(1:Int) then[45,45,45]++nl else[]
def N7 (sh:Nat):List DV:=bif Nat.blt sh 2 then[tP,kL (Nat.beq sh 1),sY] else[tP]
abbrev bH:iT:=[(SG,50),(th,2),(Q8,3)]
def ahx:([0,1,2].map λn=>oR H 40 1569 [lw H 5,lw H 6,lw H 7] (L5 {u with sh:=n} []) bH)=[0,1,2].map λn=>some (.next,LA {u with sh:=n,t:=E3 n u.nl,fV:=N7 n} []):=KK
def lF:Expr×Expr×List Stmt×List Stmt:=(Aj (lw H 8)).getD default
abbrev tb (n:Nat):Stmt:=ai (lF H).2.2.1 n
def ahB:(Aj (lw H 8),dW (lF H).1,fO (eQ H bY 40 1569) jO,(lF H).2.2)=(some (lF H),some jO,true,([tb H 0,tb H 1,tb H 2,tb H 3,tb H 4,tb H 5,tb H 6,tb H 7,tb H 8,tb H 9,tb H 10,tb H 11,tb H 12,tb H 13],[])):=KK
def b0Q:List Expr×Expr:=(tupS (tb H 0)).getD default
def afr:(tupS (tb H 0),names (FI H 1569).sc (b0Q H).1)=(some (b0Q H),some [lK,hA,Q9,Ra,w5]):=KK
def afp (D:List DV):oK H 40 1569 (b0Q H).2 (LT {u with D:=.pv (.lst D)} e o x 0) [(gP,10),(jO,1)]=some (.fl (cutD (cutD D (some (5*x.i:Nat)) (some (5*x.i+5:Nat))++zz5) none (some 5))):=by cases e<;>kernel_rfl
def aft:lR H [tb H 1,tb H 2,tb H 3,tb H 4,tb H 5] (LT u e o x 5) [(lK,5039),(hA,5039)] .next (LT u e o {x with st:=[124,62].getD (x.pl / 4 % 2) 0,ot:=[124,62].getD ((x.pl / 4+1) % 2) 0,pl:=x.pl % 4,fr:=x.fr*1733 % 5040,cl:=x.fr*1733 % 5040 / 252 % 4} 8):=by cases e<;>kernel_rfl
abbrev kP:List (Str×Nat):=[(th,2),(lK,3),(hA,5039),(mP,700000),(SG,50),(w2,6),(Q8,60),(zClose,3)]
def Dq:Str×CQ:=(nH (FI H 1569).sc (tb H 6)).getD default
def b6S:Expr×Expr:=(tO (Dq H).2.elt).getD default
def b6M:Expr×Operator×Expr:=(gD (b6S H).2).getD default
def afy:(nH (FI H 1569).sc (tb H 6),(Dq H).1,(Dq H).2.ifs,tO (Dq H).2.elt)=(some (Dq H),jj,[],some (b6S H)):=KK
def afw:(dW (b6S H).1,gD (b6S H).2,dW (b6M H).1,(b6M H).2.1,fQ (b6M H).2.2)=(some KY,some (b6M H),some (Dq H).2.x,.Mod,some 11):=KK
def afv:(Dq H).2.sc.names.lookup KY=some .globalImplicit/\nsIn (KF H) mainGlobals KY=some (some (.ref 1524))/\(KY==("__debug__":Str))=false:=⟨KK,KK,KK⟩
def afu:oK H 40 1569 (Dq H).2.iter (LT u e o x 8) []=some (.fl [iD x.a,iD x.b,iD x.c]):=by cases e<;>kernel_rfl
def afx (R:List DV):(⟨none,bS (LT u e o x 8).loc jj (.ml R)⟩:aj)=LT u e o {x with R:=.ml R} 9:=by cases e<;>kernel_rfl
def Hw:Expr×List Stmt:=(whS (tb H 7)).getD default
def afA:tb H 7=.While (Hw H).1 (Hw H).2 [] (tb H 7).pos:=KK
def afz:uz H 40 1569 (Hw H).1 (LT u e o {x with R:=.ml []} 9) []=some false:=by cases e<;>kernel_rfl
def S2 (p q r:List Nat):(uz H 40 1569 (Hw H).1 (LT u e o {x with R:=.ml [.str p]} 9) [],uz H 40 1569 (Hw H).1 (LT u e o {x with R:=.ml [.str q,.str p]} 9) [],uz H 40 1569 (Hw H).1 (LT u e o {x with R:=.ml [.str r,.str q,.str p]} 9) [])=(some (fP p []&&true),some (fP p []&&true),some (fP p []&&true)):=by cases e<;>kernel_rfl
def afB (l:List DV):lR H (Hw H).2 (LT u e o {x with R:=.pv (.lst l)} 9) [(jj,3)] .next (LT u e o {x with R:=.ml (cutD l none (some (-1)))} 9):=by cases e<;>kernel_rfl
def afC (l:List DV):Am (LT u e o {x with R:=.ml l} 9) jj l=LT u e o {x with R:=.pv (.lst l)} 9/\aS (LT u e o {x with R:=.ml l} 9).loc jj=some (.ml l):=by cases e<;>exact⟨KK,KK⟩
abbrev b8A:Str×Expr:=(q8 (eQ H bY 40 1569) (tb H 8)).getD default
def b8B:Expr×Operator×Expr:=(gD (b8A H).2).getD default
def afF:(q8 (eQ H bY 40 1569) (tb H 8),(b8A H).1,gD (b8A H).2,(b8B H).2.1)=(some (b8A H),dU,some (b8B H),.Add):=KK
def afD (l:List DV):(vJ (eQ H bY 40 1569) (b8B H).1 (LT u e o {x with R:=.ml l} 9),oK H 40 1569 (b8B H).2.2 (LT u e o {x with R:=.ml l} 9) [(zClose,3)],g8 (LT u e o {x with R:=.ml l} 9) (.loc jj))=(some (⟨#[10]⟩,.loc jj),some (.pv (.str (List.replicate x.cl 10))),some (.ml l)):=by cases e<;>kernel_rfl
def afE (v:List Nat):(⟨none,bS (LT u e o x 9).loc dU (.pv (.str v))⟩:aj)=LT u e o {x with v:=v} 10:=by cases e<;>kernel_rfl
def prD (P:Pv):DV:=.tup [.str P.txt,P.ZS,P.tag]
def b9Q:List Expr×Expr:=(tupS (tb H 9)).getD default
def b9S:Expr×Expr:=(tO (b9Q H).2).getD default
def afJ:(tupS (tb H 9),names (FI H 1569).sc (b9Q H).1,tO (b9Q H).2)=(some (b9Q H),some [w2,ke,mC],some (b9S H)):=KK
def afH:(oK H 40 1569 (b9S H).1 (LT u e o x 10) [(hA,5039)],oK H 40 1569 (b9S H).2 (LT u e o x 10) [(hA,5039)])=(some (.pv (.lst (Ps.map prD))),some (.pv (.int (x.fr / 1008:Nat)))):=by cases e<;>kernel_rfl
def ZX:(Ps.map λP=>oR H 40 1569 [tb H 10] (LT u e o {x with P:=P} 13) [])=Ps.map λP=>some (.next,LT u e o {x with P:=P,told:=tS P x.v x.st} 14):=by cases e<;>kernel_rfl
def ZY (l:List DV):aS (LT u e o {x with R:=.ml l} 14).loc jj=some (.ml l)/\Am (LT u e o {x with R:=.ml l} 14) jj l=LE u {x with R:=.pv (.lst l)}:=by cases e<;>exact⟨KK,KK⟩
def Ly:Expr×List Stmt×List Stmt:=(rL (tb H 11)).getD default
def Lz:Expr×List Stmt×List Stmt:=(rL (ai (Ly H).2.2 0)).getD default
def LB:Expr×List Stmt×List Stmt:=(rL (ai (Lz H).2.2 0)).getD default
def CI:Expr×List Stmt×List Stmt:=(rL (ai (LB H).2.2 0)).getD default
def Z2:(rL (tb H 11),(Ly H).2.2,rL (ai (Ly H).2.2 0))=(some (Ly H),[ai (Ly H).2.2 0],some (Lz H)):=KK
def Z1:((Lz H).2.2,rL (ai (Lz H).2.2 0),(LB H).2.2,rL (ai (LB H).2.2 0))=([ai (Lz H).2.2 0],some (LB H),[ai (LB H).2.2 0],some (CI H)):=KK
def Z3:(uz H 40 1569 (Ly H).1 (LE u x) kP,uz H 40 1569 (Lz H).1 (LE u x) kP,uz H 40 1569 (LB H).1 (LE u x) kP,uz H 40 1569 (CI H).1 (LE u x) kP)=(some ((u.sh:Int)==(2:Int)),some ((x.pl:Int)==(0:Int)),some ((x.pl:Int)==(1:Int)),some ((x.pl:Int)==(2:Int))):=KK
abbrev brs:List (List Stmt×List Nat×Nat):=[((Ly H).2.1,[45,45,45,32],1),((Lz H).2.1,[45,32],1),((LB H).2.1,[45,32,107,58,32],3),((CI H).2.1,[45,32,45,32],3),((CI H).2.2,[45,32,63,32],3)]
def Z4 (l:List DV):(brs H).map (λb=>oAC H 40 1569 (ai b.1 0) (LE u {x with R:=.pv (.lst l)}) kP)=(brs H).map λb=>some (mP,u.t++b.2.1++x.P.txt,1550,[.lst l,.int x.cl,.str [x.st],.int b.2.2,.int x.fr,.str u.nl]):=KK
def Z0:(((Ly H).2.1,(Lz H).2.1),(LB H).2.1,(CI H).2.1,(CI H).2.2)=(([ai (Ly H).2.1 0,ai (Ly H).2.1 1],[ai (Lz H).2.1 0,ai (Lz H).2.1 1]),[ai (LB H).2.1 0,ai (LB H).2.1 1],[ai (CI H).2.1 0,ai (CI H).2.1 1],[ai (CI H).2.2 0,ai (CI H).2.2 1,ai (CI H).2.2 2]):=KK
def Z5 (l:List DV):oAC H 40 1569 (ai (CI H).2.2 1) (LE u {x with R:=.pv (.lst l)}) kP=some (mP,u.t++[32,32,58,32],1550,[.lst l,.int x.cl,.str [x.ot],.int (3:Nat),.int ((x.fr+1733) % 5040:Nat),.str u.nl]):=KK
def Rr (t:List Nat):(⟨none,bS (LE u x).loc mP (.pv (.str t))⟩:aj)=LE {u with t:=t} x:=KK
def ZZ:(lR H [ai (Ly H).2.1 1] (LE u x) kP .next (LE {u with fV:=u.fV++[kL true,x.told,eI u.su]} x)):=by obtain⟨_,_,_,_,_,su,_,_⟩:=u;cases su<;>kernel_rfl
def Rq:lR H [ai (Lz H).2.1 1] (LE u x) kP .next (LE {u with fV:=u.fV++[x.told]} x)/\lR H [ai (LB H).2.1 1] (LE u x) kP .next (LE {u with fV:=u.fV++[sW,Zs,x.told,kH]} x)/\lR H [ai (CI H).2.1 1] (LE u x) kP .next (LE {u with fV:=u.fV++[sY,x.told,gd]} x)/\lR H [ai (CI H).2.2 2] (LE u x) kP .next (LE {u with fV:=u.fV++[sW,x.told,tS P0 x.v x.ot,kH]} x):=⟨KK,KK,KK,KK⟩
abbrev q15:Expr×List Stmt×List Stmt:=(rL (tb H 12)).getD default
abbrev q16:Expr×List Stmt×List Stmt:=(rL (tb H 13)).getD default
def Z6:(rL (tb H 12),rL (tb H 13),(q15 H).2.2,(q16 H).2.2)=(some (q15 H),some (q16 H),[],[]):=KK
def Rt:(uz H 40 1569 (q15 H).1 (LE u x) kP,uz H 40 1569 (q16 H).1 (LE u x) kP)=(some (((x.fr / 5 % 2:Nat):Int)==(1:Int)),some (((u.sh:Int)==(2:Int))&&(u.su&&true))):=KK
def Z7:lR H (q15 H).2.1 (LE u x) kP .next (LE {u with t:=u.t++[35,32,114,58,32,115]++u.nl} x)/\lR H (q16 H).2.1 (LE u x) kP .next (LE {u with t:=u.t++[46,46,46]++u.nl} x):=⟨KK,KK⟩
def ahC:([0,1,2].map λn=>oR H 40 1569 [lw H 9,lw H 10] (LE {u with sh:=n} x) kP)=[0,1,2].map λn=>some (.next,LE {u with sh:=n,t:=bif Nat.blt n 2&&u.su then u.t++[46,46,46]++u.nl else u.t,fV:=(bif Nat.blt n 2 then u.fV++[gd,eI u.su] else u.fV)++[gJ]} x):=by obtain⟨_,_,_,_,_,su,_,_⟩:=u;cases su<;>kernel_rfl
end
def mods (ns:List Int):List Nat:=ns.map λn=>(n % 5040).toNat
def uT (ns:List Int):List Nat:=mods (ns.take 2)++[0,0]
def fJ (ns:List Int):List Nat:=mods ((ns.drop 2).take 10)
def dA (ns:List Int):Nat:=(uT ns).getD 0 0
def dB (ns:List Int):Nat:=(uT ns).getD 1 0
def UL (v:DV):DV:=Option.rec (motive:=λ_=>DV) v (λi=>iD (i % 5040).toNat) (intD v)
def Ea (ns:List Int):((ns.map DV.int).filter λ_=>true).map UL=(mods ns).map iD:=by
 rw[List.filter_eq_self.mpr λ_ _=>rfl]
 unfold mods
 rw[List.map_map,List.map_map];rfl
def Ed (ns:List Int):∀n∈mods ns,n<5040:=λn h=>bz (Ht.mp h) λi _ e=>by
 have h1:=Int.emod_lt_of_pos i (by decide:(0:Int)<5040)
 have h2:=Int.emod_nonneg i (by decide:(5040:Int)≠0)
 lia
def QX (ns:List Int):∃q,(uT ns).map iD=iD (dA ns)::iD (dB ns)::q/\q∈[[],[iD 0],[iD 0,iD 0]]/\dB ns<5040:=by
 have h:=Ed ns
 match ns,h with
 |[],_=>exact⟨_,rfl,.head _,MU _⟩
 |[a],_=>exact⟨_,rfl,.tail _ (.head _),MU _⟩
 |a::b::_,h=>exact⟨_,rfl,.tail _ (.tail _ (.head _)),h _ (.tail _ (.head _))⟩
def Iv (l:List DV) (a b:Nat):cutD l (some (a:Int)) (some (b:Int))=(l.drop a).take (b - a):=by
 unfold cutD
 show(l.drop (clipAt l.length ((a:Nat):Int))).take (clipAt l.length ((b:Nat):Int) - clipAt l.length ((a:Nat):Int))=_
 rw[clipAt_nat,clipAt_nat]
 rcases Nat.le_total a l.length with h|h
 ·rw[Nat.min_eq_left h]
  rcases Nat.le_total b l.length with h'|h'
  ·rw[Nat.min_eq_left h']
  ·rw[Nat.min_eq_right h',List.take_of_length_le (by rw[Zx];lia),List.take_of_length_le (by rw[Zx];lia)]
 ·rw[Nat.min_eq_right h,List.drop_of_length_le h,List.drop_of_length_le (fu _)]
  simp
def Rx (l:List DV) (b:Nat):cutD l none (some (b:Int))=l.take b:=(Iv l 0 b)
def Il {U:Program} {w:World} {C:Nat} {Y:Base} {sc:Scope} {d:Nat} {Z aa:aj} {l:List DV} {e:Expr} {q:CQ} (h:xO e=some q) (p:DV->Bool) (g:DV->DV) (hz:l.length<=lim) (MW:∀v∈l,rG v=true) (hi:aC U w C Y sc d q.iter Z (.lst l) aa) (ht:(q.ifs=[]/\∀v,p v=true)\/∃t,q.ifs=[t]/\∀v∈l,qW U w Y q.sc q.x t v (p v)) (he:∀v∈l,p v=true->fW U w Y q.sc q.x q.elt v (g v)):
    cO U w C Y sc d e Z (.fl ((l.filter p).map g)) aa:=have c:=(rx e).get h;fi c.eq λpx e2=>e2▸LY p g c.S hz MW hi c.set ht he
def JT {U:Program} {w:World} {Y:Base} {sc:Scope} {x:Str} {e:Expr} {q:Expr×Operator×Expr} {n:Nat} {i:Int} (S:hZ sc x) (hn:0<n) (h:gD e=some q) (h1:dW q.1=some x) (h2:q.2.1=.Mod) (h3:fQ q.2.2=some (n:Int)):fW U w Y sc x e (.int i) (iD (i % n).toNat):=
 Uv h (vL S h1) (Uy h3) (by
  rw[h2]
  refine jT ((dX (show ¬(n:Int)=0 by lia)).trans (aT some ?_))
  rw[Int.fmod_eq_emod_of_nonneg _ (MS n),ad9 (Int.emod_nonneg _ (by lia))])
def LW {U:Program} {w:World} {C:Nat} {Y:Base} {sc:Scope} {d:Nat} {Z aa ah:aj} {l l':List DV} {e:Expr} {q:Expr×Operator×Expr} (h:gD e=some q) (ho:q.2.1=.Add) (ha:aC U w C Y sc d q.1 Z (.lst l) aa) (hb:aC U w C Y sc d q.2.2 aa (.lst l') ah) (hz:l.length+l'.length<=lim):cO U w C Y sc d e Z (.fl (l++l')) ah:=(lM e).get h▸fa ho▸sH ha hb hz
abbrev uH (ns:List Int):LU:=⟨ns.map .int,(uT ns).map iD,.ml ((fJ ns).map iD),pC (dA ns % 4),dB ns % 3,((dB ns / 3 % 2:Nat):Int)==(1:Int),E3 (dB ns % 3) (pC (dA ns % 4)),N7 (dB ns % 3)⟩
def K7 (k:Nat):(pC (k % 4)).length<=2:=four (P:=λk=>(pC k).length<=2) (u0 (qd _ (by decide))) (by decide)
def Sw {P:Nat->Prop} {n:Nat} (h:n<=2) (k:∀m∈[0,1,2],P m):P n:=k n (by match n,h with|0,_=>simp|1,_=>simp|2,_=>simp)
section
variable {U:Program} {w:World} {Y:Base} (T0:cQ (KF (HH w)) Y) (hl:bw Y)
include T0 hl
abbrev lX (U:Program) (w:World) (Y:Base) (l:List Stmt) (Z:aj) (f:au) (ba:aj):Prop:=aF U w 1521 Y (FI (HH w) 1569).sc 40 l Z f ba
theorem pY {Z ba:aj} {β:iT} {l:List Stmt} {f:au} (B:fU β Z.loc) (h:lR (HH w) l Z β f ba):lX U w Y l Z f ba:=wc ew (d9 (HH w)) T0 hl B h
theorem rY {Z aa ba:aj} {β:iT} {l l':List Stmt} {f:au} (B:fU β Z.loc) (h:lR (HH w) l Z β .next aa) (k:lX U w Y l' aa f ba):lX U w Y (l++l') Z f ba:=hW ew (d9 (HH w)) T0 hl B h k
theorem rW {Z:aj} {β:iT} {e:Expr} {r:Res} (B:fU β Z.loc) (h:oK (HH w) 40 1569 e Z β=some r):aC U w 1521 Y (FI (HH w) 1569).sc 40 e Z r.rest Z:=(sj ew (d9 (HH w)) T0 hl B h).rest
theorem pZ {Z:aj} {β:iT} {e:Expr} {c:Bool} (B:fU β Z.loc) (h:uz (HH w) 40 1569 e Z β=some c):bu U w 1521 Y (FI (HH w) 1569).sc 40 e Z c Z:=wa ew (d9 (HH w)) T0 hl B h
omit T0 hl in
theorem D8 {Z aa:aj} {st:Stmt} {q:Str×Expr} {r:Res} (h:q8 (eQ (HH w) bY 40 1569) st=some q) (he:cO U w 1521 Y (FI (HH w) 1569).sc 40 q.2 Z r aa):aU U w 1521 Y (FI (HH w) 1569).sc 40 st Z .next ⟨aa.aq,bS aa.loc q.1 r.slot⟩:=SY (X:=eQ (HH w) bY 40 1569) h he
theorem IH (ns:List Int) (u:LU) (hu:u.S=ns.map .int) (hn:ns.length<=63):aU U w 1521 Y (FI (HH w) 1569).sc 40 (lw (HH w) 1) (L0 u [(jN,.ml u.TP)]) .next (L2 {u with D:=.ml ((fJ ns).map iD)} []):=j4 (ahr (HH w)) λs0 s1 s2 s3=>j3 (ahp (HH w)) λm0 m1 m2=>by
 have S:=rz s0
 have e:cutD u.S (some 2) (some 12)=((ns.drop 2).take 10).map .int:=by rw[hu,List.map_take,List.map_drop];exact Iv _ 2 12
 have B:fU [(gz,100)] (L0 u [(jN,.ml u.TP)]).loc:=Eq.mpr (by kernel_rfl:fU [(gz,100)] (L0 u [(jN,.ml u.TP)]).loc=(u.S.length<=100/\True)) ⟨by rw[hu,mG];lia,trivial⟩
 have k:=ry (d:=40) (l:=((ns.drop 2).take 10).map .int) s0 (λ_=>true) UL (by rw[mG,Zz];exact bB (Nat.min_le_left ..) (by decide)) (λv m=>bz (Ht.mp m) λi _ e=>e▸rfl) (e▸rW (U:=U) T0 hl B (aho (HH w) u)) (.inl ⟨s2,λ_=>rfl⟩) λv m _=>bz (Ht.mp m) λi _ e=>e▸JT S (by decide) s3 m0 m1 m2
 rw[Ea,s1,ahq] at k
 exact k
theorem QY (ns:List Int) (u:LU) (hu:u.S=ns.map .int) (hn:ns.length<=63) (ht:u.TP=(uT ns).map iD):aU U w 1521 Y (FI (HH w) 1569).sc 40 (lw (HH w) 0) (L0 u []) .next (L0 u [(jN,.ml u.TP)]):=j2 (ahn (HH w)) λa0 a1=>j5 (ahk (HH w)) λs0 s1 s2 s3 s4=>j3 (ahl (HH w)) λm0 m1 m2=>by
 have S:=((rx _).get s2).S
 have e:cutD u.S none (some 2)=(ns.take 2).map .int:=by rw[hu,List.map_take];exact Rx _ 2
 have B:fU [(gz,100)] (L0 u []).loc:=Eq.mpr (by kernel_rfl:fU [(gz,100)] (L0 u []).loc=(u.S.length<=100/\True)) ⟨by rw[hu,mG];lia,trivial⟩
 have c:=Il (d:=40) (l:=(ns.take 2).map .int) s2 (λ_=>true) UL (by rw[mG,Zz];exact bB (Nat.min_le_left ..) (by decide)) (λv m=>bz (Ht.mp m) λi _ e=>e▸rfl) (e▸rW (U:=U) T0 hl B (kS (abg (HH w) u)).1) (.inl ⟨s3,λ_=>rfl⟩) λv m _=>bz (Ht.mp m) λi _ e=>e▸JT S (by decide) s4 m0 m1 m2
 rw[Ea] at c
 have z:((mods (ns.take 2)).map iD).length<=2:=by unfold mods;rw[mG,mG,Zz];exact Nat.min_le_left ..
 have k:=D8 (U:=U) a0 (LW s0 s1 c.rest (rW (U:=U) T0 hl B (kS (abg (HH w) u)).2) (bB (ZA z 2) (by decide)))
 rw[a1,show(mods (ns.take 2)).map iD++[iD 0,iD 0]=u.TP by rw[ht];unfold uT;rw[M8];rfl,show Res.slot (.fl u.TP)=.ml u.TP from rfl,ahm] at k
 exact k
theorem Oo (u:LU) (a b:Nat) (q:List DV) (ht:u.TP=iD a::iD b::q) (hq:q∈[[],[iD 0],[iD 0,iD 0]]) (hb:b<5040) {l:List Stmt} {f:au} {ba:aj} (k:lX U w Y l (L5 {u with nl:=pC (a % 4),sh:=b % 3,su:=((b / 3 % 2:Nat):Int)==(1:Int)} []) f ba):lX U w Y (lw (HH w) 2::lw (HH w) 3::lw (HH w) 4::l) (L2 u []) f ba:=by
 have B:∀(u:LU) (tl:List (Str×ae)),fU [] (L2 u tl).loc:=λ_ _=>trivial
 have hz:q.length<=2:=(show ∀q∈([[],[iD 0],[iD 0,iD 0]]:List (List DV)),q.length<=2 by decide) q hq
 have eu:u={u with TP:=iD a::iD b::q}:=by rw[<-ht]
 have B4:fU [(jN,4)] (L2 {u with TP:=iD a::iD b::q} []).loc:=Eq.mpr (by kernel_rfl:fU [(jN,4)] (L2 {u with TP:=iD a::iD b::q} []).loc=(q.length+1+1<=4/\True)) ⟨by lia,trivial⟩
 have E:=aW (aht (HH w) {u with nl:=pC (a % 4),sh:=b % 3} a b) q hq
 rw[eu]
 refine rY (U:=U) T0 hl B4 (aW (ahs (HH w) u a b) q hq) (ao ?_ (eu▸k))
 exact j5 (ahw (HH w)) λs0 s1 s2 s3 s4=>j3 (ahu (HH w)) λo0 o1 o2=>j4 E λe0 e1 e2 e3=>by
  have n:=λ{e:Expr} {r:Res} (h:oK (HH w) 40 1569 e (L4 {u with TP:=iD a::iD b::q,nl:=pC (a % 4),sh:=b % 3}) []=some r)=>rW (U:=U) T0 hl (B _ _) h
  have d1:=lE (z:=.int (b / 3:Nat)) s4 (n e0) (n e1) (by rw[o2];exact((v9 (op:=.FloorDiv) b 3 5040 3 (Rh hb) (fu _)).get rfl).1)
  have d2:=lE (z:=.int (b / 3 % 2:Nat)) s3 d1 (n e2) (by rw[o1];exact((v9 (op:=.Mod) (b / 3) 2 (b / 3) 2 (fu _) (fu _)).get rfl).1)
  have k:=D8 (U:=U) s0 (r:=.pv (.bool (((b / 3 % 2:Nat):Int)==(1:Int)))) (LX s2 d2 (n e3) (by rw[o0];exact N2 rfl)).plain
  rw[s1] at k
  exact Eq.subst (motive:=λZ=>aU U w 1521 Y (FI (HH w) 1569).sc 40 (lw (HH w) 4) _ .next Z) (ahv {u with TP:=iD a::iD b::q,nl:=pC (a % 4),sh:=b % 3,su:=((b / 3 % 2:Nat):Int)==(1:Int)}) k
theorem OD (ns:List Int) (hn:ns.length<=63) {l:List Stmt} {f:au} {ba:aj} (k:lX U w Y l (LA (uH ns) []) f ba):lX U w Y (lw (HH w) 0::lw (HH w) 1::lw (HH w) 2::lw (HH w) 3::lw (HH w) 4::lw (HH w) 5::lw (HH w) 6::lw (HH w) 7::l) (L0 (uH ns) []) f ba:=t9 (QX ns) λq ht hq hb=>
 ao (QY T0 hl ns (uH ns) rfl hn rfl) (ao (IH T0 hl ns (uH ns) rfl hn) (Oo T0 hl (uH ns) (dA ns) (dB ns) q ht hq hb (rY (U:=U) T0 hl (l:=[lw (HH w) 5,lw (HH w) 6,lw (HH w) 7]) (β:=bH) (Z:=L5 (uH ns) []) (aa:=LA (uH ns) []) (Eq.mpr (by kernel_rfl:fU bH (L5 (uH ns) []).loc=((pC (dA ns % 4)).length<=50/\dB ns % 3<=2/\True)) ⟨bB (K7 _) (by decide),u0 (qd _ (by decide)),trivial⟩)
  (Sw (P:=λn=>lR (HH w) [lw (HH w) 5,lw (HH w) 6,lw (HH w) 7] (L5 {uH ns with sh:=n} []) bH .next (LA {uH ns with sh:=n,t:=E3 n (pC (dA ns % 4)),fV:=N7 n} [])) (u0 (qd (dB ns) (by decide))) (aW (ahx (HH w) (uH ns)))) k)))
end
def iL (f ind:Nat) (body:List (List Nat)):Nat->List Nat×List Item:=List.rec (motive:=λ_=>Nat->List Nat×List Item) (λ_=>([],[])) (λr _ ih i=>bif fP r [] then((f+i) % (ind+1)::(ih (i+1)).1,(ih (i+1)).2) else([],(r,(ih (i+1)).1)::(ih (i+1)).2)) body
def JI (f:Nat) (B:gf) (body:List (List Nat)):∀i,jH f B.ind B.nl body i++aQ B.e=jY B.nl (iL f B.ind body i).1++(aQ (lead B.ind B.e (iL f B.ind body i).2)++B.rest (iL f B.ind body i).2):=by
 induction body with
 |nil=>exactλi=>(ti (aQ B.e)).symm
 |cons r rs ih=>
  intro i
  have ih:=ih (i+1)
  cases r with
  |nil=>
   show((aQ ((f+i) % (B.ind+1))++([]++B.nl))++jH f B.ind B.nl rs (i+1))++aQ B.e=(aQ ((f+i) % (B.ind+1))++(B.nl++jY B.nl (iL f B.ind rs (i+1)).1))++(aQ (lead B.ind B.e (iL f B.ind rs (i+1)).2)++B.rest (iL f B.ind rs (i+1)).2)
   rw[fb _ _ (aQ B.e),ih]
   simp only[fb,Y6]
  |cons c r=>
   show((aQ B.ind++((c::r)++B.nl))++jH f B.ind B.nl rs (i+1))++aQ B.e=[]++(aQ B.ind++((c::r)++(B.nl++(jY B.nl (iL f B.ind rs (i+1)).1++(aQ (lead B.ind B.e (iL f B.ind rs (i+1)).2)++B.rest (iL f B.ind rs (i+1)).2)))))
   rw[fb _ _ (aQ B.e),ih]
   simp only[fb,Y6]
def sk (aR:List Item):List (List Nat×Nat):=aR.map λit=>(it.1,it.2.length)
def Ul (f ind:Nat) (body:List (List Nat)):∀i,(iL f ind body i).1.length=(iL 0 0 body i).1.length/\sk (iL f ind body i).2=sk (iL 0 0 body i).2:=by
 induction body with
 |nil=>exactλ_=>⟨rfl,rfl⟩
 |cons r rs ih=>
  intro i
  have ih:=ih (i+1)
  cases r with
  |nil=>exact⟨aT (· +1) ih.1,ih.2⟩
  |cons c r=>exact⟨rfl,by show(c::r,(iL f ind rs (i+1)).1.length)::sk (iL f ind rs (i+1)).2=(c::r,(iL 0 0 rs (i+1)).1.length)::sk (iL 0 0 rs (i+1)).2;rw[ih.1,ih.2]⟩
def abe (f ind:Nat) (body:List (List Nat)):∀i,(∀s∈(iL f ind body i).1,s<=ind)/\∀it∈(iL f ind body i).2,∀s∈it.2,s<=ind:=by
 induction body with
 |nil=>exactλ_=>⟨λ_ h=>(nomatch h),λ_ h=>(nomatch h)⟩
 |cons r rs ih=>
  intro i
  have ih:=ih (i+1)
  cases r with
  |nil=>exact⟨(e8.mpr ⟨u0 (qd _ (MU _)),ih.1⟩:∀s∈(f+i) % (ind+1)::(iL f ind rs (i+1)).1,s<=ind),ih.2⟩
  |cons c r=>exact⟨λ_ h=>(nomatch h),(e8.mpr ⟨ih.1,ih.2⟩:∀it∈(c::r,(iL f ind rs (i+1)).1)::(iL f ind rs (i+1)).2,∀s∈it.2,s<=ind)⟩
def Yi {P:List Nat->Nat->Bool} {aR eJ:List Item} (h:sk aR=sk eJ) (k:eJ.all (λit=>P it.1 it.2.length)=true):∀it∈aR,P it.1 it.2.length=true:=λit m=>by
 have m1:(it.1,it.2.length)∈sk eJ:=h▸Ht.mpr ⟨it,m,rfl⟩
 exact bz (Ht.mp m1) λit' m' e=>(aT (λp:List Nat×Nat=>P p.1 p.2) e).symm.trans (gk.mp k it' m')
def Yj {M:List Item->List Item->Prop} (h0:M [] []) (h1:∀r a b aR eJ,a.length=b.length->sk aR=sk eJ->M aR eJ->M ((r,a)::aR) ((r,b)::eJ)) (aR eJ:List Item) (h:sk aR=sk eJ):M aR eJ:=by
 induction aR generalizing eJ with
 |nil=>cases eJ<;>first|exact h0|exact nc h
 |cons it aR ih=>
  cases eJ with
  |nil=>exact cn h
  |cons it' eJ=>
   obtain⟨r,a⟩:=it
   obtain⟨r',b⟩:=it'
   exact a2 (List.cons.inj h) λq h=>j2 q λe1 e2=>(show r=r' from e1)▸h1 r a b aR eJ e2 h (ih eJ h)
def Qv (fo:Bool) (c0:Nat) (aR eJ:List Item) (h:sk aR=sk eJ):(∀n,xd fo n aR=xd fo n eJ)/\(∀n,i5 n aR=i5 n eJ)/\Ho aR=Ho eJ/\qG c0 aR=qG c0 eJ/\aR.isEmpty=eJ.isEmpty:=by
 refine Yj (M:=λaR eJ=>(∀n,xd fo n aR=xd fo n eJ)/\(∀n,i5 n aR=i5 n eJ)/\Ho aR=Ho eJ/\qG c0 aR=qG c0 eJ/\aR.isEmpty=eJ.isEmpty) ⟨λ_=>rfl,λ_=>rfl,rfl,rfl,rfl⟩ (λr a b aR eJ e h m=>⟨λn=>?_,λn=>?_,?_,rfl,rfl⟩) aR eJ h
 ·have eg:gap fo (r,a) aR=gap fo (r,b) eJ:=by
   have ea:a.isEmpty=b.isEmpty:=by cases a<;>cases b<;>first|rfl|exact Nat.noConfusion e
   cases aR<;>cases eJ<;>first|rfl|exact nc h|exact cn h|skip
   exact a2 (List.cons.inj h) λq _=>j2 q λe1 _=>by
    show(if fo&&yl r&&yl _ then(if a.isEmpty then[[32]] else[]) else[[10]])=(if fo&&yl r&&yl _ then(if b.isEmpty then[[32]] else[]) else[[10]])
    rw[e1,ea]
  show List.replicate n [10]++(r::(gap fo (r,a) aR++xd fo a.length aR))=List.replicate n [10]++(r::(gap fo (r,b) eJ++xd fo b.length eJ))
  rw[eg,e,m.1]
 ·show i5 a.length aR=i5 b.length eJ
  rw[e,m.2.1]
 ·show 2+a.length+Ho aR=2+b.length+Ho eJ
  rw[e,m.2.2.1]
def iQ (k:Nat):List Nat:=[[97],[],[98,32,99],[32,32,100,32,101],[9,117,32,118],[102,32,32,103],[35,32,104,58,32,105],[32],[45,32,106,32,107,32,108],[109,32,110,32,111,32,112],[]].getD k []
def wF (qs:List (List Nat)):List (List Nat):=List.rec (motive:=λ_=>List (List Nat)) [] (λq qs ih=>bif fP q [] then ih else(q::qs).reverse) qs
def Pn (l:List (List Nat)) (r:List Nat):Bool:=l.any λq=>fP r q
def Po {l:List (List Nat)} {r:List Nat} (h:Pn l r=true):r∈l:=bz (List.any_eq_true.mp h) λq h1 h2=>iG.mp (jo ..▸h2)▸h1
def Tr (rows:List (List Nat)) (fo:Bool) (k:Nat) (I:List Nat×List Item):Bool:=
 fP (xd fo I.1.length I.2).flatten (gU [10] rows)&&(Nat.beq (i5 I.1.length I.2) k&&(I.2.all (λit=>Pn dZ it.1&&Nat.ble it.2.length 100)&&(Nat.ble I.1.length 100&&(Nat.ble (Ho I.2) 1000&&(I.2.isEmpty==mA (br rows)&&(mA (br rows)||(Nat.beq (qG 0 I.2) (((br rows).headD []).headD 0)&&(!bc (qG 0 I.2) cy||Nat.beq (qG 0 I.2) 32))))))))
def aag (rows body:List (List Nat)) (st f:Nat):Bool:=Nat.ble body.length 300&&(body.all (λb=>Nat.ble b.length 60&&b.all kU)&&(rows.all (λr=>Nat.ble r.length 60&&(r.all kU&&Nat.ble (iZ r f).length 100))&&(Nat.ble rows.length 3&&Nat.ble (gU [10] rows).length 500)))
def aah (rows:List (List Nat)):Bool:=[124,62].all λst=>[0,1].all λf=>aag rows (fc st f rows [] []) st f&&[0,1,2,3].all λk=>Tr rows (fP [st] [62]) k (iL 0 0 (fc st f rows [] []++List.replicate k []) 0)
def NV:((List.range 10).all λc=>(List.range 10).all λb=>(List.range 10).all λa=>aah (wF [iQ c,iQ b,iQ a]))=true:=KK
def ug (r:List Nat) (f:Nat):iZ r f=iZ r (f % 2):=by
 have e:∀i c,lh r f i c=lh r (f % 2) i c:=λi c=>by unfold lh;rw[show(i+f % 2) % 2=(i+f) % 2 by omega]
 have s:∀(cs:List Nat) (i:Nat) (init:List (List Nat)) (last:List Nat),lj r f cs i init last=lj r (f % 2) cs i init last:=λcs=>by
  induction cs with
  |nil=>exactλ_ _ _=>rfl
  |cons c cs ih=>
   intro i init last
   show(bif lh r f i c then lj r f cs (i+1) (init++[last]) [] else lj r f cs (i+1) init (last++[c]))=bif lh r (f % 2) i c then lj r (f % 2) cs (i+1) (init++[last]) [] else lj r (f % 2) cs (i+1) init (last++[c])
   rw[e,ih,ih]
 exact s r 0 [] []
def H5 (st f:Nat) (rs:List (List Nat)):∀B bf,fc st f rs B bf=fc st (f % 2) rs B bf:=by
 induction rs with
 |nil=>exactλ_ _=>rfl
 |cons r rs ih=>
  intro B bf
  show(bif fP r [] then fc st f rs (B++[[]]) bf else bif fP [st] [124] then fc st f rs (B++[r]) bf else fc st f rs ((bif qi bf r then B++[[]] else B)++iZ r f) r)=bif fP r [] then fc st (f % 2) rs (B++[[]]) bf else bif fP [st] [124] then fc st (f % 2) rs (B++[r]) bf else fc st (f % 2) rs ((bif qi bf r then B++[[]] else B)++iZ r (f % 2)) r
  rw[ih,ih,ih,<-ug]
structure Dr where
 pl:Nat
 fr:Nat
 a:Nat
 b:Nat
 c:Nat
def Dr.of (l:List Nat):Dr:=⟨l.getD 0 0,l.getD 1 0,l.getD 2 0,l.getD 3 0,l.getD 4 0⟩
section
variable (x:Dr)
abbrev Dr.p:Nat:=x.pl % 4
abbrev Dr.f:Nat:=x.fr*1733 % 5040
abbrev Dr.st:Nat:=[124,62].getD (x.pl / 4 % 2) 0
abbrev Dr.ot:Nat:=[124,62].getD ((x.pl / 4+1) % 2) 0
abbrev Dr.cl:Nat:=x.f / 252 % 4
def Dr.rows:List (List Nat):=wF [iQ (x.c % 11),iQ (x.b % 11),iQ (x.a % 11)]
def Dr.P:Pv:=Ps.getD (x.f / 1008) P0
def Dr.val:List Nat:=gU [10] x.rows++List.replicate x.cl 10
abbrev Dr.w (st le fr:Nat) (nl:List Nat):List Nat:=kq x.rows x.cl st le fr nl
def Dr.rt:x.cl<=3:=u0 (qd _ (by decide))
def Dr.xb:aah x.rows=true:=by
 have t:∀k,∃j∈List.range 10,iQ j=iQ (k % 11):=λk=>by
  by_cases h:k % 11<10
  ·exact⟨k % 11,List.mem_range.mpr h,rfl⟩
  ·exact⟨1,List.mem_range.mpr (by decide),by rw[show k % 11=10 by omega];rfl⟩
 exact bz (t x.c) λi hi ei=>bz (t x.b) λj hj ej=>bz (t x.a) λk hk ek=>by
  unfold Dr.rows
  rw[<-ei,<-ej,<-ek]
  exact gk.mp (gk.mp (gk.mp NV i hi) j hj) k hk
variable {st:Nat} (jz:st∈[124,62]) (f:Nat)
include jz
theorem Dr.good:aag x.rows (fc st f x.rows [] []) st (f % 2)=true/\∀k∈[0,1,2,3],Tr x.rows (fP [st] [62]) k (iL 0 0 (fc st f x.rows [] []++List.replicate k []) 0)=true:=by
 rw[H5]
 have m:f % 2∈[0,1]:=by rcases Nat.mod_two_eq_zero_or_one f with h|h<;>rw[h]<;>simp
 exact a2 (aw (gk.mp (gk.mp x.xb st jz) (f % 2) m)) λh1 h2=>⟨h1,gk.mp h2⟩
structure Dr.GB (x:Dr) (st f:Nat):Prop where
 len:(fc st f x.rows [] []).length<=300
 b:∀b∈fc st f x.rows [] [],b.length<=60/\b.all kU=true
 r:∀r∈x.rows,r.length<=60/\r.all kU=true/\(iZ r f).length<=100
 n:x.rows.length<=3
 j:(gU [10] x.rows).length<=500
theorem Dr.gb:x.GB st f:=a2 (aw (x.good jz f).1) λh1 h=>a2 (aw h) λh2 h=>a2 (aw h) λh3 h=>a2 (aw h) λh4 h5=>
 ⟨e9 h1,λb m=>a2 (aw (gk.mp h2 b m)) λa c=>⟨e9 a,c⟩,λr m=>a2 (aw (gk.mp h3 r m)) λa c=>a2 (aw c) λc e=>⟨e9 a,c,ug r f▸e9 e⟩,e9 h4,e9 h5⟩
end
def Fw (t:List Nat):eB:=bif fP t [45] then .strip else bif fP t [43] then .keep else .clip
def Jy (t:List Nat):DV:=List.casesOn (motive:=λ_=>DV) t .none λd _=>.int ((d - 48:Nat):Int)
def ID (d:Nat):List Nat:=[[],[49],[50],[51]].getD d []
def Hy (c:Nat):List Nat:=[[],[45],[43]].getD c []
def FW (d c:Nat) (o:Bool):Hd:=⟨bif o then ID d++Hy c else Hy c++ID d,(Fw (Hy c)).dv,Jy (ID d)⟩
def T2:([0,1,2,3].map λd=>[0,1,2].map λc=>[true,false].map λo=>vz[bif Nat.beq d 0 then c else 3+5*(d - 1)+bif Nat.beq c 0 then 0 else 2*c - 1+bif o then 0 else 1]?)=[0,1,2,3].map λd=>[0,1,2].map λc=>[true,false].map λo=>some (FW d c o):=KK
def aaP {d c:Nat} (hd:d<=3) (hc:c<=2) (o:Bool):FW d c o∈vz:=List.mem_of_getElem? (aW (Sw (P:=λc=>([true,false].map λo=>vz[_]?)=[true,false].map λo=>some (FW d c o)) hc (aW (four (P:=λd=>([0,1,2].map λc=>[true,false].map λo=>vz[_]?)=[0,1,2].map λc=>[true,false].map λo=>some (FW d c o)) hd (aW T2)))) o (by cases o<;>simp))
def Rz (full:List (List Nat)) (fr:Nat):∃d,d<=3/\qg full fr=ID d/\(rD full fr=true->d=fr % 3+1)/\(rD full fr=false->d=0):=by
 unfold qg
 cases rD full fr with
 |true=>exact⟨fr % 3+1,qd fr (by decide),Sw (P:=λn=>(bif true then[[49,50,51].getD n 0] else[])=ID (n+1)) (u0 (qd _ (by decide))) (by decide),λ_=>rfl,λh=>tf h⟩
 |false=>exact⟨0,jP _,rfl,λh=>ft h,λ_=>rfl⟩
def aai (e:Bool) (cl a b:Nat):Nat:=bif Nat.ble 2 cl then 2 else bif Nat.beq cl 1 then bif e then 2 else bif Nat.beq a 0 then 0 else 2 else bif e then b else 1
def Ts (e:Bool) (cl a b:Nat):List Nat:=bif Nat.ble 2 cl then[43] else bif Nat.beq cl 1 then bif e then[43] else[[],[43]].getD a [] else bif e then[[],[45],[43]].getD b [] else[45]
def Z8 (e:Bool) (cl a b c:Nat):Nat:=bif fP (Ts e cl a b) [43] then bif e then cl else cl - 1 else c
def af0 (e:Bool) (cl a b c:Nat):Bool:=fP (Ts e cl a b) (Hy (aai e cl a b))&&(Nat.ble (aai e cl a b) 2&&(Nat.ble (Z8 e cl a b c) 3&&fP (tD (Fw (Ts e cl a b)) (bif e then[] else[10]) (Z8 e cl a b c)).flatten (List.replicate cl 10)))
def N9:([true,false].all λe=>[0,1,2,3].all λcl=>[0,1].all λa=>[0,1,2].all λb=>[0,1,2].all λc=>af0 e cl a b c)=true:=KK
def zZ (e:Bool) {cl:Nat} (h:cl<=3) (fr:Nat):∃c,c<=2/\jn e cl fr=Hy c/\tq e cl fr<=3/\(tD (Fw (jn e cl fr)) (bif e then[] else[10]) (tq e cl fr)).flatten=List.replicate cl 10:=by
 have m3:∀n,n % 3∈[0,1,2]:=λn=>Sw (P:=λk=>k∈[0,1,2]) (u0 (qd _ (by decide))) λ_ h=>h
 have q:=gk.mp (gk.mp (gk.mp (gk.mp (gk.mp N9 e (by cases e<;>simp)) cl (four (P:=λk=>k∈[0,1,2,3]) h λ_ h=>h)) (fr / 48 % 2) (by rcases Nat.mod_two_eq_zero_or_one (fr / 48) with h|h<;>rw[h]<;>simp)) (fr / 48 % 3) (m3 _)) (fr / 84 % 3) (m3 _)
 exact a2 (aw q) λq1 q=>a2 (aw q) λq2 q=>a2 (aw q) λq3 q4=>⟨_,e9 q2,iG.mp (jo ..▸q1),e9 q3,iG.mp (jo ..▸q4)⟩
structure afh (rows:List (List Nat)) (fo:Bool) (k:Nat) (I:List Nat×List Item):Prop where
 v:(xd fo I.1.length I.2).flatten=gU [10] rows
 k:i5 I.1.length I.2=k
 aR:I.2.all (λit=>Pn dZ it.1&&Nat.ble it.2.length 100)=true
 n:I.1.length<=100
 w:Ho I.2<=1000
 e:I.2.isEmpty=mA (br rows)
 h:mA (br rows)=true\/qG 0 I.2=((br rows).headD []).headD 0/\(bc (qG 0 I.2) cy=false\/qG 0 I.2=32)
def NU {rows:List (List Nat)} {fo:Bool} {k:Nat} {I:List Nat×List Item} (h:Tr rows fo k I=true):afh rows fo k I:=a2 (aw h) λh1 h=>a2 (aw h) λh2 h=>a2 (aw h) λh3 h=>a2 (aw h) λh4 h=>a2 (aw h) λh5 h=>a2 (aw h) λh6 h7=>
 ⟨iG.mp (jo ..▸h1),iS h2,h3,e9 h4,e9 h5,iG.mp h6,(Bool.or_eq_true_iff.mp h7).imp_right λq=>a2 (aw q) λq1 q2=>⟨iS q1,(Bool.or_eq_true_iff.mp q2).imp iy iS⟩⟩
def I0 (l:List (List Nat)):cZ l=l.flatten.length:=by
 induction l with
 |nil=>rfl
 |cons a l ih=>show a.length+cZ l=_;rw[ih,Rd,c9]
def T1 {c c':Nat} {aR:List Item} (h:aR.isEmpty=false):qG c aR=qG c' aR:=by cases aR<;>first|exact tf h|rfl
def Dr.Z9 (x:Dr) {st le fr:Nat} {nl:List Nat} (e c0:Nat) (jz:st∈[124,62]) (qk:nl∈iH) (he:e<le) (xe:bc c0 cy=false) (xf:nl=[13]->e=0->c0∈after):
    ∃B ch,gf.Ok B ch le/\B.core=x.w st le fr nl++aQ e/\(B.cF ch).flatten=x.val/\B.st=st/\B.e=e/\B.c0=c0:=
 N8 (zZ (mA (br x.rows)) x.rt fr) λc hc ec hbe OE=>N8 (Rz (br x.rows) fr) λd hd ed d1 d0=>by
 have I:=NU ((x.good jz (fr / 7)).2 _ (four (P:=λk=>k∈[0,1,2,3]) hbe λ_ h=>h))
 have gb:=x.gb jz (fr / 7)
 have hj:(gU [10] x.rows).length+x.cl<=lim:=bB (xi gb.j x.rt) (by decide)
 generalize hb:fc st (fr / 7) x.rows [] []++List.replicate (tq (mA (br x.rows)) x.cl fr) []=body at I
 have S:=Ul (fr / 5) (le+fr % 3) body 0
 have W:=abe (fr / 5) (le+fr % 3) body 0
 have Q:=Qv (fP [st] [62]) 0 _ _ S.2
 have tx:=JI (fr / 5) ⟨st,FW d c (((fr / 6 % 2:Nat):Int)==(0:Int)),jd (fr / 12 % 4),nl,(iL (fr / 5) (le+fr % 3) body 0).1,(iL (fr / 5) (le+fr % 3) body 0).2,le+fr % 3,e,c0⟩ body 0
 have aR:=Yi (P:=λt n=>Pn dZ t&&Nat.ble n 100) S.2 I.aR
 have val:(xd (fP [st] [62]) (iL (fr / 5) (le+fr % 3) body 0).1.length (iL (fr / 5) (le+fr % 3) body 0).2++tD (Fw (Hy c)) (if(iL (fr / 5) (le+fr % 3) body 0).2.isEmpty then[] else[10]) (i5 (iL (fr / 5) (le+fr % 3) body 0).1.length (iL (fr / 5) (le+fr % 3) body 0).2)).flatten=x.val:=by
  rw[Q.1,Q.2.1,Q.2.2.2.2,S.1,List.flatten_append,I.v,I.k,I.e,<-ec]
  have:(if mA (br x.rows)=true then([]:List Nat) else[10])=bif mA (br x.rows) then[] else[10]:=by cases mA (br x.rows)<;>rfl
  rw[this,OE];rfl
 have f3:fr % 3<=2:=u0 (qd _ (by decide))
 refine⟨⟨st,FW d c (((fr / 6 % 2:Nat):Int)==(0:Int)),jd (fr / 12 % 4),nl,(iL (fr / 5) (le+fr % 3) body 0).1,(iL (fr / 5) (le+fr % 3) body 0).2,le+fr % 3,e,c0⟩,Fw (Hy c),⟨jz,aaP hd hc _,rfl,four (P:=λk=>jd k∈qa) (u0 (qd _ (by decide))) (by unfold qa jd;simp),qk,⟨W.1,by show(iL (fr / 5) (le+fr % 3) body 0).1.length<=1000;rw[S.1];exact bB I.n (by decide)⟩,
  λit m=>a2 (aw (aR it m)) λa b=>⟨Po a,W.2 it m,bB (e9 b) (by decide)⟩,he,Hu ..,xe,xf,?_,?_,?_⟩,?_,val,rfl,rfl,rfl⟩
 ·cases hdb:rD (br x.rows) fr with
  |true=>
   refine .inl (Eq.trans (show Jy (ID d)=.int ((fr % 3+1:Nat):Int) from d1 hdb▸Sw (P:=λn=>Jy (ID (n+1))=.int ((n+1:Nat):Int)) f3 λm h=>?_) (aT DV.int (by show((fr % 3+1:Nat):Int)=((le+fr % 3:Nat):Int) - le+1;omega)))
   revert m
   exact e8.mpr ⟨rfl,e8.mpr ⟨rfl,e8.mpr ⟨rfl,qT _⟩⟩⟩
  |false=>
   refine .inr ⟨by rw[d0 hdb];rfl,?_⟩
   show bc (qG c0 (iL (fr / 5) (le+fr % 3) body 0).2) cy=false
   have q:=Q.2.2.2.2.trans I.e
   cases he:mA (br x.rows) with
   |true=>rw[he] at q;rw[List.isEmpty_iff.mp q];exact xe
   |false=>
    rw[T1 (c':=0) (q.trans he),Q.2.2.2.1]
    exact I.h.elim (λh=>ft (he.symm.trans h)) λh=>h.2.elim id λD3=>by
     have e32:=h.1.symm.trans D3
     cases hf:br x.rows with
     |nil=>rw[hf] at he;exact tf he
     |cons q qs=>
      rw[hf] at e32 hdb
      have k:(fP [q.headD 0] [32]&&true||(((fr / 3 % 2:Nat):Int)==(1:Int)||false))=false:=hdb
      rw[show q.headD 0=32 from e32] at k
      exact tf k
 ·show(iL (fr / 5) (le+fr % 3) body 0).1.length+Ho (iL (fr / 5) (le+fr % 3) body 0).2<=100000
  rw[S.1,Q.2.2.1]
  exact bB (xi I.n I.w) (by decide)
 ·show cZ (xd (fP [st] [62]) (iL (fr / 5) (le+fr % 3) body 0).1.length (iL (fr / 5) (le+fr % 3) body 0).2++tD (Fw (Hy c)) (if(iL (fr / 5) (le+fr % 3) body 0).2.isEmpty then[] else[10]) (i5 (iL (fr / 5) (le+fr % 3) body 0).1.length (iL (fr / 5) (le+fr % 3) body 0).2))<=lim
  rw[I0,val]
  unfold Dr.val
  rw[c9,tj]
  exact hj
 ·show st::((bif ((fr / 6 % 2:Nat):Int)==(0:Int) then ID d++Hy c else Hy c++ID d)++(jd (fr / 12 % 4)++(nl++(jY nl (iL (fr / 5) (le+fr % 3) body 0).1++(aQ (lead (le+fr % 3) e (iL (fr / 5) (le+fr % 3) body 0).2)++gf.rest _ (iL (fr / 5) (le+fr % 3) body 0).2)))))=kq x.rows x.cl st le fr nl++aQ e
  unfold kq Ji xx
  rw[hb,<-ed,<-ec,fb _ _ (aQ e),show jH (fr / 5) (le+fr % 3) nl body 0++aQ e=_ from tx]
  simp only[fb,De,Y6]
section
variable (x:Dr)
def Dr.bd (p sh:Nat) (nl:List Nat):List Nat:=
 bif (sh:Int)==(2:Int) then[45,45,45,32]++(x.P.txt++x.w x.st 1 x.f nl) else bif (p:Int)==(0:Int) then[45,32]++(x.P.txt++x.w x.st 1 x.f nl) else bif (p:Int)==(1:Int) then[45,32,107,58,32]++(x.P.txt++x.w x.st 3 x.f nl)
 else bif (p:Int)==(2:Int) then[45,32,45,32]++(x.P.txt++x.w x.st 3 x.f nl) else[45,32,63,32]++(x.P.txt++(x.w x.st 3 x.f nl++([32,32,58,32]++x.w x.ot 3 ((x.f+1733) % 5040) nl)))
def Dr.du (p sh:Nat) (su:Bool):List DV:=
 bif (sh:Int)==(2:Int) then[kL true,tS x.P x.val x.st,eI su] else bif (p:Int)==(0:Int) then[tS x.P x.val x.st] else bif (p:Int)==(1:Int) then[sW,Zs,tS x.P x.val x.st,kH] else bif (p:Int)==(2:Int) then[sY,tS x.P x.val x.st,gd] else[sW,tS x.P x.val x.st,tS P0 x.val x.ot,kH]
def Dr.rem (nl:List Nat):List Nat:=bif ((x.f / 5 % 2:Nat):Int)==(1:Int) then[35,32,114,58,32,115]++nl else[]
def tC (sh:Nat) (su:Bool) (nl:List Nat):List Nat:=bif ((sh:Int)==(2:Int))&&(su&&true) then[46,46,46]++nl else[]
def Dr.all (sh:Nat) (su:Bool) (nl:List Nat):List Nat:=x.bd x.p sh nl++(x.rem nl++tC sh su nl)
def Hx:List Nat:=[35,45,46,0]
def NT:(Hx.all λc=>!bc c cy&&bc c after)=true:=KK
def Ia {c:Nat} (h:c∈Hx):bc c cy=false/\c∈after:=a2 (aw (gk.mp NT c h)) λa b=>⟨iy a,fH b⟩
def HA (nl:List Nat):Option (List Nat):=bif ((x.f / 5 % 2:Nat):Int)==(1:Int) then some nl else none
def DZ (nl:List Nat):bC (HA x nl)=x.rem nl:=by
 unfold HA Dr.rem
 cases((x.f / 5 % 2:Nat):Int)==(1:Int)<;>rfl
def gI (k:Nat):[124,62].getD (k % 2) 0∈[124,62]:=by rcases Nat.mod_two_eq_zero_or_one k with h|h<;>rw[h]<;>simp
def Dr.xm:x.P∈Ps:=by
 unfold Dr.P
 rw[Y5]
 cases h:Ps[x.f / 1008]? with
 |none=>exact .head _
 |some P=>exact List.mem_of_getElem? h
variable {nl:List Nat} (qk:nl∈iH)
include qk
theorem Ja:∀l,HA x nl=some l->l∈iH:=λl e=>by
 unfold HA at e
 cases h:((x.f / 5 % 2:Nat):Int)==(1:Int) with
 |true=>rw[h] at e;exact eN e▸qk
 |false=>rw[h] at e;exact ns e
theorem Dr.tn {sh:Nat} (Js:((sh:Int)==(2:Int))=false) (su:Bool) {c0:Nat} (hc:c0∈Hx):∃t:Tn,t.Ok/\45::t.txt=x.bd x.p sh nl/\t.told=x.du x.p sh su/\t.g=HA x nl/\t.c0=c0:=a2 (Ia hc) λh1 h2=>by
 have jz:=gI (x.pl / 4)
 have hot:=gI (x.pl / 4+1)
 have hP:=x.xm
 have hg:=Ja x qk
 have b1:=x.Z9 (st:=x.st) (le:=1) (fr:=x.f) 0 c0 jz qk (by decide) h1 λ_ _=>h2
 have b3:=x.Z9 (st:=x.st) (le:=3) (fr:=x.f) 0 c0 jz qk (by decide) h1 λ_ _=>h2
 have b4:=x.Z9 (st:=x.st) (le:=3) (fr:=x.f) 2 58 jz qk (by decide) KK λ_ h=>absurd h (by decide)
 have b5:=x.Z9 (st:=x.ot) (le:=3) (fr:=(x.f+1733) % 5040) 0 c0 hot qk (by decide) h1 λ_ _=>h2
 unfold Dr.bd Dr.du
 rw[Js]
 refine four (P:=λp=>∃t:Tn,t.Ok/\45::t.txt=(bif (p:Int)==(0:Int) then[45,32]++(x.P.txt++x.w x.st 1 x.f nl) else bif (p:Int)==(1:Int) then[45,32,107,58,32]++(x.P.txt++x.w x.st 3 x.f nl) else bif (p:Int)==(2:Int) then[45,32,45,32]++(x.P.txt++x.w x.st 3 x.f nl) else[45,32,63,32]++(x.P.txt++(x.w x.st 3 x.f nl++([32,32,58,32]++x.w x.ot 3 ((x.f+1733) % 5040) nl))))/\
  t.told=(bif (p:Int)==(0:Int) then[tS x.P x.val x.st] else bif (p:Int)==(1:Int) then[sW,Zs,tS x.P x.val x.st,kH] else bif (p:Int)==(2:Int) then[sY,tS x.P x.val x.st,gd] else[sW,tS x.P x.val x.st,tS P0 x.val x.ot,kH])/\t.g=HA x nl/\t.c0=c0) (u0 (qd _ (by decide))) ?_
 refine e8.mpr ⟨?_,e8.mpr ⟨?_,e8.mpr ⟨?_,e8.mpr ⟨?_,qT _⟩⟩⟩⟩
 ·exact dk b1 λB ch q=>a6 q λO q1 q2 q3 q4 q5=>⟨⟨_,_,_,HA x nl⟩,⟨.a hP O q4,hg⟩,aT ([45,32]++x.P.txt++·) (q1.trans (ti _)) |>.trans (fb ..),by rw[q2,q3];rfl,rfl,q5⟩
 ·exact dk b3 λB ch q=>a6 q λO q1 q2 q3 q4 q5=>⟨⟨_,_,_,HA x nl⟩,⟨.b hP O q4,hg⟩,by rw[q1.trans (ti _)];rfl,by rw[q2,q3];rfl,rfl,q5⟩
 ·exact dk b3 λB ch q=>a6 q λO q1 q2 q3 q4 q5=>⟨⟨_,_,_,HA x nl⟩,⟨.c hP O q4,hg⟩,by rw[q1.trans (ti _)];rfl,by rw[q2,q3];rfl,rfl,q5⟩
 ·exact dk b4 λB ch q=>a6 q λO q1 q2 q3 q4 q5=>dk b5 λB2 ch2 r=>a6 r λO2 r1 r2 r3 r4 r5=>⟨⟨_,_,_,HA x nl⟩,⟨.d hP O q4 q5 O2 r4,hg⟩,by rw[q1,r1.trans (ti _),fb];rfl,by rw[q2,q3,r2,r3];rfl,rfl,r5⟩
theorem Dr.dn (su:Bool) {c0:Nat} (hc:c0∈Hx):∃t:Tn,t.DocOk/\45::45::45::t.txt=x.bd x.p 2 nl/\t.mO su=x.du x.p 2 su/\t.g=HA x nl/\t.c0=c0:=a2 (Ia hc) λh1 h2=>
 dk (x.Z9 (st:=x.st) (le:=1) (fr:=x.f) 0 c0 (gI (x.pl / 4)) qk (by decide) h1 λ_ _=>h2) λB ch q=>a6 q λO q1 q2 q3 q4 q5=>⟨⟨_,B.c0,_,HA x nl⟩,⟨⟨x.P,B,ch,x.xm,O,q4,rfl,rfl,rfl⟩,Ja x qk⟩,(aT ([45,45,45,32]++x.P.txt++·) (q1.trans (ti _))).trans (fb ..),by unfold Dr.du;show[kL true]++[tS x.P (B.cF ch).flatten B.st]++[eI su]=_;rw[q2,q3];rfl,rfl,q5⟩
omit qk in
theorem LH {r:List Nat} (h:∃c l,r=c::l/\c∈Hx):∃c l,x.rem nl++r=c::l/\c∈Hx:=by
 unfold Dr.rem
 cases((x.f / 5 % 2:Nat):Int)==(1:Int) with
 |true=>exact⟨35,_,rfl,.head _⟩
 |false=>exact h
omit qk in
theorem tY:(45∈Hx)/\(46∈Hx)/\0∈Hx:=⟨.tail _ (.head _),.tail _ (.tail _ (.head _)),.tail _ (.tail _ (.tail _ (.head _)))⟩
theorem yQ {sh:Nat} (Js:((sh:Int)==(2:Int))=false) (su:Bool) (xs:List Dr):∃ts:List Tn,ts.length=xs.length/\wo nl su ts/\jM nl su ts=(xs.map λx=>x.all sh su nl).flatten++IL nl su/\(ts.map Tn.told).flatten=(xs.map λx=>x.du x.p sh su).flatten/\∃c l,jM nl su ts=c::l/\c∈Hx:=by
 induction xs with
 |nil=>exact⟨[],rfl,trivial,rfl,rfl,by cases su;exact⟨0,[],rfl,tY.2.2⟩;exact⟨46,_,rfl,tY.2.1⟩⟩
 |cons x xs ih=>
  obtain⟨ts,e1,e2,e3,e4,e5⟩:=ih
  obtain⟨c',l',f1,f2⟩:=LH x (nl:=nl) e5
  obtain⟨t,g1,g2,g3,g4,g5⟩:=x.tn qk Js su f2
  refine⟨t::ts,aT (· +1) e1,⟨g1,⟨l',by rw[g4,DZ,g5];exact f1⟩,e2⟩,?_,?_,45,_,rfl,tY.1⟩
  ·show 45::(t.txt++(bC t.g++jM nl su ts))=((x.bd x.p sh nl++(x.rem nl++tC sh su nl))++(xs.map λx=>x.all sh su nl).flatten)++IL nl su
   rw[<-De,g2,g4,DZ,e3,show tC sh su nl=[] by unfold tC;rw[Js];rfl]
   simp only[ti,fb]
  ·show(t.told::ts.map Tn.told).flatten=(x.du x.p sh su::xs.map λx=>x.du x.p sh su).flatten
   rw[Rd,Rd,g3,e4]
theorem IE (su:Bool) (xs:List Dr):∃ts:List Tn,ts.length=xs.length/\vn nl su ts/\je nl su ts=(xs.map λx=>x.all 2 su nl).flatten++[0]/\(ts.map λt=>t.mO su).flatten=(xs.map λx=>x.du x.p 2 su).flatten/\∃c l,je nl su ts=c::l/\c∈Hx:=by
 induction xs with
 |nil=>exact⟨[],rfl,trivial,rfl,rfl,0,[],rfl,tY.2.2⟩
 |cons x xs ih=>
  obtain⟨ts,e1,e2,e3,e4,e5⟩:=ih
  have e7:∃c l,jJ nl su++je nl su ts=c::l/\c∈Hx:=by cases su;exact e5;exact⟨46,_,rfl,tY.2.1⟩
  obtain⟨c',l',f1,f2⟩:=LH x (nl:=nl) e7
  obtain⟨t,h1,g2,g3,g4,g5⟩:=x.dn qk su f2
  refine⟨t::ts,aT (· +1) e1,⟨h1,⟨l',by rw[g4,DZ,g5];exact f1⟩,e2⟩,?_,?_,45,_,rfl,tY.1⟩
  ·show 45::45::45::(t.txt++(bC t.g++(jJ nl su++je nl su ts)))=((x.bd x.p 2 nl++(x.rem nl++tC 2 su nl))++(xs.map λx=>x.all 2 su nl).flatten)++[0]
   rw[<-De,<-De,<-De,g2,g4,DZ,e3,show tC 2 su nl=jJ nl su by cases su<;>rfl]
   simp only[fb]
  ·show(t.mO su::ts.map λt=>t.mO su).flatten=(x.du x.p 2 su::xs.map λx=>x.du x.p 2 su).flatten
   rw[Rd,Rd,g3,e4]
end
def zp (xs:List Dr) (sh:Nat) (su:Bool) (nl:List Nat):List Nat:=E3 sh nl++((xs.map λx=>x.all sh su nl).flatten++(bif Nat.blt sh 2&&su then[46,46,46]++nl else[]))
def IK (xs:List Dr) (sh:Nat) (su:Bool):List DV:=N7 sh++((xs.map λx=>x.du x.p sh su).flatten++((bif Nat.blt sh 2 then[gd,eI su] else[])++[gJ]))
def Aw {U:Program} {w:World} {B0:Base} (T0:cQ (KF (HH w)) B0) (hl:bw B0) (ck:B0.V.β 17=0) {xs:List Dr} (hx:xs≠[]) {sh:Nat} (Js:sh<=2) (su:Bool) {nl:List Nat} (qk:nl∈iH) (h:B0.V.ς 0=zp xs sh su nl++[0]):∃p l c k,eP U w B0 (k0 (.md [])) (IK xs sh su) (kF p l c k true):=by
 have ee:IL nl su=(bif su then[46,46,46]++nl else[])++[0]:=by cases su<;>rfl
 revert h
 refine Sw (P:=λsh=>B0.V.ς 0=zp xs sh su nl++[0]->∃p l c k,eP U w B0 (k0 (.md [])) (IK xs sh su) (kF p l c k true)) Js (e8.mpr ⟨λh=>?_,e8.mpr ⟨λh=>?_,e8.mpr ⟨λh=>?_,qT _⟩⟩⟩)
 ·obtain⟨ts,e1,e2,e3,e4,_⟩:=yQ qk (sh:=0) rfl su xs
  cases ts with
  |nil=>exact absurd (List.eq_nil_of_length_eq_zero e1.symm) hx
  |cons t ts=>
   have ev:=ZP (U:=U) T0 hl ck qk su e2 (by
    rw[h,e3,ee];show([]++((xs.map λx=>x.all 0 su nl).flatten++(bif true&&su then[46,46,46]++nl else[])))++[0]=_
    rw[Bool.true_and,Y6,fb])
   rw[e4] at ev
   exact ev
 ·obtain⟨ts,e1,e2,e3,e4,_⟩:=yQ qk (sh:=1) rfl su xs
  cases ts with
  |nil=>exact absurd (List.eq_nil_of_length_eq_zero e1.symm) hx
  |cons t ts=>
   have ev:=ZQ (U:=U) T0 hl ck qk su e2 (by
    rw[h,e3,ee];show(([45,45,45]++nl)++((xs.map λx=>x.all 1 su nl).flatten++(bif true&&su then[46,46,46]++nl else[])))++[0]=_
    rw[Bool.true_and];simp only[fb,De,Y6])
   rw[e4] at ev
   exact ev
 ·obtain⟨ts,e1,e2,e3,e4,_⟩:=IE qk su xs
  cases ts with
  |nil=>exact absurd (List.eq_nil_of_length_eq_zero e1.symm) hx
  |cons t ts=>
   have ev:=ZR (U:=U) T0 hl ck qk su e2 (by
    rw[h,e3];show([]++((xs.map λx=>x.all 2 su nl).flatten++[]))++[0]=_
    rw[Y6,ti])
   rw[e4] at ev
   exact ev
def Sa (xs:List Str):List DV->List (Str×ae)->List (Str×ae):=List.rec (motive:=λ_=>List DV->List (Str×ae)->List (Str×ae)) (λ_ l=>l) (λx _ ih vs l=>List.casesOn (motive:=λ_=>List (Str×ae)) vs l λv vs=>ih vs (bS l x (.pv v))) xs
def yM (xs:List Str):∀(l:List (Str×ae)) (vs:List DV),putAll l xs vs=Sa xs vs l:=by
 induction xs with
 |nil=>exactλ_ _=>rfl
 |cons x xs ih=>
  intro l vs
  cases vs with
  |nil=>rfl
  |cons v vs=>exact(ih (put l x (.pv v)) vs).trans (aT (Sa xs vs) (bk ..).symm)
section
variable (H:Array Nat->Int) (u:LU) (e:Bool) (o x:TU)
def afs (l:List DV):aS (LT {u with D:=.ml l} e o x 0).loc gP=some (.ml l)/\Am (LT {u with D:=.ml l} e o x 0) gP l=LT {u with D:=.pv (.lst l)} e o x 0:=by cases e<;>exact⟨KK,KK⟩
def afq (pl fr a b c:Nat):putAll (LT u e o x 0).loc [lK,hA,Q9,Ra,w5] [iD pl,iD fr,iD a,iD b,iD c]=(LT u e o {x with pl:=pl,fr:=fr,a:=a,b:=b,c:=c} 5).loc:=(yM ..).trans (by cases e<;>kernel_rfl)
def afI (P:Pv):putAll (LT u e o x 10).loc [w2,ke,mC] [.str P.txt,P.ZS,P.tag]=(LT u e o {x with P:=P} 13).loc:=(yM ..).trans (by cases e<;>kernel_rfl)
end
def ah5 (l:List Nat):((l.map iD).take 5++zz5).take 5=[iD (Dr.of l).pl,iD (Dr.of l).fr,iD (Dr.of l).a,iD (Dr.of l).b,iD (Dr.of l).c]:=by
 match l with
 |[]=>rfl
 |[_]=>rfl
 |[_,_]=>rfl
 |[_,_,_]=>rfl
 |[_,_,_,_]=>rfl
 |_::_::_::_::_::_=>rfl
def Iw (l:List DV) (v:DV):cutD (l++[v]) none (some (-1))=l:=by
 unfold cutD
 show((l++[v]).drop 0).take (clipAt (l++[v]).length (-1) - 0)=l
 have:clipAt (l++[v]).length (-1)=l.length:=by unfold clipAt;simp;omega
 rw[this,List.drop_zero,Nat.sub_zero,List.take_left]
section
variable {U:Program} {w:World} {Y:Base} (T0:cQ (KF (HH w)) Y) (hl:bw Y) (u:LU) (e:Bool) (o x:TU)
def Qf (T0:cQ (KF (HH w)) Y) {G:Gh} (h:∀b o,Y.hp.get? b=some o->G.g b=some o):DR w.params G (.lst ((List.range 11).map λk=>.str (iQ k))) (.ref 1524):=by
 have h1:Y.hp.get? 1524=some (bG [vS WH 2421,vS Cu 2422,vS ab3 2423,vS ab4 2424,vS ab5 2425,vS ab6 2426,vS ab7 2427,vS Pz 2428,vS ab8 2429,vS ab9 2430,vS Cu 2431] 0):=T0.Jx 1524 _ KK
 have z:∀k∈List.range 11,(iQ k).length<=lim:=λk m=>bB (e9 (gk.mp (by kernel_rfl:((List.range 11).all λk=>Nat.ble (iQ k).length 20)=true) k m)) (by decide)
 have s:∀k (t:Tok),k<11->DR w.params G (.str (iQ k)) (.str ⟨⟨iQ k⟩⟩ t):=λk t h=>.str _ _ (z k (List.mem_range.mpr h))
 exact .lst (h _ _ h1) (by decide:11<=lim) (.cons (s 0 _ (by decide)) (.cons (s 1 _ (by decide)) (.cons (s 2 _ (by decide)) (.cons (s 3 _ (by decide)) (.cons (s 4 _ (by decide)) (.cons (s 5 _ (by decide)) (.cons (s 6 _ (by decide)) (.cons (s 7 _ (by decide)) (.cons (s 8 _ (by decide)) (.cons (s 9 _ (by decide)) (.cons (s 10 _ (by decide)) .nil)))))))))))
include T0 hl
abbrev sX (U:Program) (w:World) (Y:Base) (st:Stmt) (Z ba:aj):Prop:=aU U w 1521 Y (FI (HH w) 1569).sc 40 st Z .next ba
theorem QS (ds:List Nat) (hz:ds.length<=10) (hi:x.i<=1):sX U w Y (tb (HH w) 0) (LT {u with D:=.pv (.lst (ds.map iD))} e o x 0) (LT {u with D:=.pv (.lst (ds.map iD))} e o {x with pl:=(Dr.of (ds.drop (5*x.i))).pl,fr:=(Dr.of (ds.drop (5*x.i))).fr,a:=(Dr.of (ds.drop (5*x.i))).a,b:=(Dr.of (ds.drop (5*x.i))).b,c:=(Dr.of (ds.drop (5*x.i))).c} 5):=j2 (afr (HH w)) λs0 s1=>by
 have B:fU [(gP,10),(jO,1)] (LT {u with D:=.pv (.lst (ds.map iD))} e o x 0).loc:=Eq.mpr (by cases e<;>kernel_rfl:fU [(gP,10),(jO,1)] (LT {u with D:=.pv (.lst (ds.map iD))} e o x 0).loc=((ds.map iD).length<=10/\x.i<=1/\True)) ⟨by rw[mG];exact hz,hi,trivial⟩
 have v:=rW (U:=U) T0 hl B (afp (HH w) u e o x (ds.map iD))
 have ev:cutD (cutD (ds.map iD) (some (5*x.i:Nat)) (some (5*x.i+5:Nat))++zz5) none (some 5)=[iD (Dr.of (ds.drop (5*x.i))).pl,iD (Dr.of (ds.drop (5*x.i))).fr,iD (Dr.of (ds.drop (5*x.i))).a,iD (Dr.of (ds.drop (5*x.i))).b,iD (Dr.of (ds.drop (5*x.i))).c]:=by
  rw[Iv,<-List.map_drop,Nat.add_sub_cancel_left];exact(Rx _ 5).trans (ah5 _)
 rw[ev] at v
 have k:=C2 s0 v s1 rfl
 rw[show(⟨(LT {u with D:=.pv (.lst (ds.map iD))} e o x 0).aq,putAll (LT {u with D:=.pv (.lst (ds.map iD))} e o x 0).loc [lK,hA,Q9,Ra,w5] _⟩:aj)=_ from aT (aj.mk none) (afq ..)] at k
 exact k
theorem YH:sX U w Y (tb (HH w) 6) (LT u e o x 8) (LT u e o {x with R:=.ml ([iQ (x.a % 11),iQ (x.b % 11),iQ (x.c % 11)].map .str)} 9):=j4 (afy (HH w)) λs0 s1 s2 s3=>j5 (afw (HH w)) λm0 m1 m2 m3 m4=>a3 (afv (HH w)) λg0 g1 g2=>by
 have S:=rz s0
 have k:=ry (d:=40) (l:=[iD x.a,iD x.b,iD x.c]) s0 (λ_=>true) (λv=>Option.rec (motive:=λ_=>DV) v (λn=>.str (iQ (n % 11))) (sg v)) (by decide:3<=lim) (e8.mpr ⟨rfl,e8.mpr ⟨rfl,e8.mpr ⟨rfl,qT _⟩⟩⟩) (rW (U:=U) T0 hl (β:=[]) trivial (afu (HH w) u e o x)) (.inl ⟨s2,λ_=>rfl⟩) λv m _=>by
  have one:∀n:Nat,fW U w Y (Dq (HH w)).2.sc (Dq (HH w)).2.x (Dq (HH w)).2.elt (iD n) (.str (iQ (n % 11))):=λn=>a2 ((wG _).get s3) λe1 e2=>e1▸abA e2 ((dm _).get m0▸Ux T0 S.kd g0 g1 g2 λG h=>Qf T0 h) (show fW U w Y _ _ _ (iD n) (.int ((n % 11:Nat):Int)) from JT (i:=(n:Int)) S (by decide) m1 m2 m3 m4)
   (ED (lT (by rw[mG,List.length_range];exact qd _ (by decide))) (by rw[Rf,List.getElem?_range (qd _ (by decide))];rfl))
  exact(e8.mpr ⟨one x.a,e8.mpr ⟨one x.b,e8.mpr ⟨one x.c,qT _⟩⟩⟩:∀v∈[iD x.a,iD x.b,iD x.c],fW U w Y (Dq (HH w)).2.sc (Dq (HH w)).2.x (Dq (HH w)).2.elt v (Option.rec (motive:=λ_=>DV) v (λn=>.str (iQ (n % 11))) (sg v))) v m
 rw[s1,afx] at k
 exact k
theorem QU (qs:List (List Nat)):qs.length<=3->∃n,cI U w 1521 Y (FI (HH w) 1569).sc 40 (Hw (HH w)).1 (Hw (HH w)).2 n (LT u e o {x with R:=.ml (qs.reverse.map .str)} 9) .next (LT u e o {x with R:=.ml ((wF qs).map .str)} 9):=by
 induction qs with
 |nil=>exactλ_=>⟨0,.stop (pZ (U:=U) T0 hl (β:=[]) trivial (afz (HH w) u e o x))⟩
 |cons p qs ih=>
  intro h
  have t:uz (HH w) 40 1569 (Hw (HH w)).1 (LT u e o {x with R:=.ml ((p::qs).reverse.map .str)} 9) []=some (fP p []&&true):=by
   match qs,h with
   |[],_=>exact(j3 (S2 (HH w) u e o x p p p) λa _ _=>a)
   |[q],_=>exact(j3 (S2 (HH w) u e o x p q p) λ_ a _=>a)
   |[q,r],_=>exact(j3 (S2 (HH w) u e o x p q r) λ_ _ a=>a)
  have t:=pZ (U:=U) T0 hl (β:=[]) trivial t
  show ∃n,cI U w 1521 Y (FI (HH w) 1569).sc 40 (Hw (HH w)).1 (Hw (HH w)).2 n _ .next (LT u e o {x with R:=.ml ((bif fP p [] then wF qs else(p::qs).reverse).map .str)} 9)
  cases c:fP p [] with
  |false=>rw[c] at t;exact⟨0,.stop t⟩
  |true=>
   rw[c] at t
   have z:=afC u e o x ((p::qs).reverse.map .str)
   have B:fU [(jj,3)] (LT u e o {x with R:=.pv (.lst ((p::qs).reverse.map .str))} 9).loc:=Eq.mpr (by cases e<;>kernel_rfl:fU [(jj,3)] (LT u e o {x with R:=.pv (.lst ((p::qs).reverse.map .str))} 9).loc=(((p::qs).reverse.map DV.str).length<=3/\True)) ⟨by rw[mG,List.length_reverse];exact h,trivial⟩
   have k:=pY (U:=U) T0 hl B (afB (HH w) u e o x ((p::qs).reverse.map .str))
   rw[show cutD ((p::qs).reverse.map DV.str) none (some (-1))=qs.reverse.map .str by rw[List.reverse_cons,M8];exact Iw _ _] at k
   exact fi (ih (Y8 h)) λn g=>⟨n+1,.next t (C9 z.2 (z.1▸k)) g⟩
theorem QV (ss:List (List Nat)) (hs:cZ ss+ss.length<=1000) (hc:x.cl<=3):sX U w Y (tb (HH w) 8) (LT u e o {x with R:=.ml (ss.map .str)} 9) (LT u e o {x with R:=.ml (ss.map .str),v:=gU [10] ss++List.replicate x.cl 10} 10):=j4 (afF (HH w)) λs0 s1 s2 s3=>j3 (afD (HH w) u e o x (ss.map .str)) λe0 e1 e2=>by
 have B:fU [(zClose,3)] (LT u e o {x with R:=.ml (ss.map .str)} 9).loc:=Eq.mpr (by cases e<;>kernel_rfl:fU [(zClose,3)] (LT u e o {x with R:=.ml (ss.map .str)} 9).loc=(x.cl<=3/\True)) ⟨hc,trivial⟩
 have j:=yF (U:=U) ew (d9 (HH w)) T0 hl e0 ((cv ..).symm.trans e2) (bB (by show cZ ss+ss.length*1<=1000;rw[Nat.mul_one];exact hs) (by decide))
 have k:=D8 (U:=U) s0 (lE s2 j (rW (U:=U) T0 hl B e1) (by rw[s3];exact lN (bB (xi (bB (uq [10] ss) (by show cZ ss+ss.length*1<=1000;rw[Nat.mul_one];exact hs)) (bB (jk tj) hc)) (by decide:1003<=lim)))).plain
 rw[s1] at k
 exact Eq.subst (motive:=λZ=>sX U w Y (tb (HH w) 8) _ Z) (afE u e o {x with R:=.ml (ss.map .str)} (gU [10] ss++List.replicate x.cl 10)) k
theorem QT (hf:x.fr<5040):sX U w Y (tb (HH w) 9) (LT u e o x 10) (LT u e o {x with P:=Ps.getD (x.fr / 1008) P0} 13):=j3 (afJ (HH w)) λs0 s1 s2=>j2 (afH (HH w) u e o x) λe0 e1=>by
 have B:fU [(hA,5039)] (LT u e o x 10).loc:=Eq.mpr (by cases e<;>kernel_rfl:fU [(hA,5039)] (LT u e o x 10).loc=(x.fr<=5039/\True)) ⟨u0 hf,trivial⟩
 have h5:x.fr / 1008<Ps.length:=by show x.fr / 1008<5;omega
 have v:=y3 (z:=prD (Ps.getD (x.fr / 1008) P0)) s2 (rW (U:=U) T0 hl B e0) (rW (U:=U) T0 hl B e1) (ED (lT (by rw[mG];exact h5)) (by rw[Rf,Y5,zM h5];rfl))
 have k:=C3 s0 v s1 rfl
 exact Eq.subst (motive:=λZ=>sX U w Y (tb (HH w) 9) _ Z) (aT (aj.mk none) (afI u e o x (Ps.getD (x.fr / 1008) P0))) k
omit T0 hl in
theorem sumLen_le (k:Nat) (ss:List (List Nat)) (h:∀s∈ss,s.length<=k):cZ ss<=k*ss.length:=by
 induction ss with
 |nil=>exact jP _
 |cons s ss ih=>
  have h1:=h s (.head _)
  have h2:=ih λs m=>h s (.tail _ m)
  show s.length+cZ ss<=k*(ss.length+1)
  rw[Nat.mul_add];omega
abbrev Dr.tu (X:Dr) (i:Nat):TU:=⟨i,X.p,X.f,X.a,X.b,X.c,X.st,X.ot,X.cl,.pv (.lst (X.rows.map .str)),X.val,X.P,tS X.P X.val X.st⟩
theorem YG (ds:List Nat) (hz:ds.length<=10) (RE:∀n∈ds,n<5040) (hi:x.i<=1) (X:Dr) (hX:X=Dr.of (ds.drop (5*x.i))) {l:List Stmt} {f:au} {ba:aj} (k:lX U w Y l (LE {u with D:=.pv (.lst (ds.map iD))} (X.tu x.i)) f ba):
 lX U w Y (tb (HH w) 0::tb (HH w) 1::tb (HH w) 2::tb (HH w) 3::tb (HH w) 4::tb (HH w) 5::tb (HH w) 6::tb (HH w) 7::tb (HH w) 8::tb (HH w) 9::tb (HH w) 10::l) (LT {u with D:=.pv (.lst (ds.map iD))} e o x 0) f ba:=by
 have gl:∀i,(ds.drop (5*x.i)).getD i 0<5040:=λi=>by
  rw[Y5]
  cases q:(ds.drop (5*x.i))[i]? with
  |none=>exact MU _
  |some n=>exact RE n (List.mem_of_mem_drop (List.mem_of_getElem? q))
 have g0:X.pl<=5039:=hX▸u0 (gl 0)
 have g1:X.fr<=5039:=hX▸u0 (gl 1)
 have n0:=QS (U:=U) T0 hl u e o x ds hz hi
 rw[<-hX] at n0
 generalize ({u with D:=.pv (.lst (ds.map iD))}:LU)=u at n0 k ⊢
 have gb:=X.gb (st:=124) (.head _) 0
 have ff:X.f<5040:=qd _ (by decide)
 have B:fU [(lK,5039),(hA,5039)] (LT u e o {x with pl:=X.pl,fr:=X.fr,a:=X.a,b:=X.b,c:=X.c} 5).loc:=Eq.mpr (by cases e<;>kernel_rfl:fU [(lK,5039),(hA,5039)] (LT u e o {x with pl:=X.pl,fr:=X.fr,a:=X.a,b:=X.b,c:=X.c} 5).loc=(X.pl<=5039/\X.fr<=5039/\True)) ⟨g0,g1,trivial⟩
 refine ao n0 (rY (U:=U) T0 hl B (aft (HH w) u e o {x with pl:=X.pl,fr:=X.fr,a:=X.a,b:=X.b,c:=X.c}) (ao (YH (U:=U) T0 hl u e o _) ?_))
 have ws:=QU (U:=U) T0 hl u e o ⟨x.i,X.p,X.f,X.a,X.b,X.c,X.st,X.ot,X.cl,x.R,x.v,x.P,x.told⟩ [iQ (X.c % 11),iQ (X.b % 11),iQ (X.a % 11)] (fu 3)
 refine fi ws λn tu=>ao (lJ (afA (HH w)) tu) (ao (QV T0 hl u e o ⟨x.i,X.p,X.f,X.a,X.b,X.c,X.st,X.ot,X.cl,x.R,x.v,x.P,x.told⟩ X.rows (bB (xi (bB (sumLen_le 60 _ λr m=>(gb.r r m).1) (Nat.mul_le_mul_left 60 gb.n)) gb.n) (by decide)) X.rt) (ao (QT T0 hl u e o ⟨x.i,X.p,X.f,X.a,X.b,X.c,X.st,X.ot,X.cl,.ml (X.rows.map .str),X.val,x.P,x.told⟩ ff) ?_))
 have r10:=aW (ZX (HH w) u e o ⟨x.i,X.p,X.f,X.a,X.b,X.c,X.st,X.ot,X.cl,.ml (X.rows.map .str),X.val,x.P,x.told⟩) X.P X.xm
 have z:=ZY u e o ⟨x.i,X.p,X.f,X.a,X.b,X.c,X.st,X.ot,X.cl,.ml (X.rows.map .str),X.val,X.P,tS X.P X.val X.st⟩ (X.rows.map .str)
 exact rY (U:=U) T0 hl (β:=[]) trivial r10 (C9 z.1 (z.2▸k))
end
def Dr.Fd (X:Dr) {st le fr:Nat} {nl:List Nat} (jz:st∈[124,62]) (hle:le<=40) (hn:nl.length<=50):(X.w st le fr nl).length<=61000:=by
 have gb:=X.gb jz (fr / 7)
 have hb:∀b∈xx X.rows X.cl st fr,b.length<=60:=λb m=>(List.mem_append.mp m).elim (λm=>(gb.b b m).1) λm=>by rw[List.eq_of_mem_replicate m];exact jP _
 have hB:(xx X.rows X.cl st fr).length<=303:=by
  unfold xx
  rw[c9,tj]
  exact N8 (zZ (mA (br X.rows)) X.rt fr) λ_ _ _ h _=>xi gb.len h
 have r:=uF (fr / 5) (le+fr % 3) nl OO hn _ 0 hb
 have d:(qg (br X.rows) fr).length<=1:=by unfold qg;cases rD (br X.rows) fr;exact jP _;exact fu _
 have c:(jn (mA (br X.rows)) X.cl fr).length<=1:=by
  rcases zY (mA (br X.rows)) X.cl fr with h|h|h
  ·rw[h];exact jP _
  ·rw[h];exact fu _
  ·rw[h.1];exact fu _
 have t:=E2 (fr / 12)
 unfold Dr.w kq
 have h1:(Ji (qg (br X.rows) fr) (jn (mA (br X.rows)) X.cl fr) fr).length<=2:=by
  unfold Ji
  cases((fr / 6 % 2:Nat):Int)==0
  ·exact bB (jk c9) (xi c d)
  ·exact bB (jk c9) (xi d c)
 simp only[c9,Zy]
 omega
def eM {α:Type} {c:Bool} {a b:List α} {n:Nat} (ha:a.length<=n) (hb:b.length<=n):(bif c then a else b).length<=n:=by cases c;exact hb;exact ha
def Dr.HS (X:Dr) (sh:Nat) {nl:List Nat} (h:nl.length<=50):(X.bd X.p sh nl).length<=130000:=by
 have wl:=λst le fr jz (hle:le<=40)=>X.Fd (st:=st) (fr:=fr) jz hle h
 have pl:X.P.txt.length<=6:=e9 (gk.mp (by kernel_rfl:(Ps.all λP=>Nat.ble P.txt.length 6)=true) _ X.xm)
 have t:∀(l:List Nat) le,l.length<=10->le<=40->(l++(X.P.txt++X.w X.st le X.f nl)).length<=130000:=λl le h1 h2=>by
  have:=wl X.st le X.f (gI _) h2
  rw[c9,c9];omega
 refine eM (t _ _ (by decide) (by decide)) (eM (t _ _ (by decide) (by decide)) (eM (t _ _ (by decide) (by decide)) (eM (t _ _ (by decide) (by decide)) ?_)))
 have a:=wl X.st 3 X.f (gI _) (by decide)
 have b:=wl X.ot 3 ((X.f+1733) % 5040) (gI _) (by decide)
 simp only[c9,M7,List.length_nil];omega
def Dr.Dh (X:Dr) (sh:Nat) (su:Bool) {nl:List Nat} (h:nl.length<=50):(X.all sh su nl).length<=130112:=by
 have a:(X.rem nl).length<=56:=eM (bB (jk c9) (xj h 6)) (jP _)
 have b:(tC sh su nl).length<=56:=eM (bB (jk c9) (by show 3+nl.length<=56;omega)) (jP _)
 have c:=X.HS sh h
 unfold Dr.all
 rw[c9,c9];omega
def Dr.Ad (X:Dr) (sh:Nat) (su:Bool):(X.du X.p sh su).length<=4:=eM (e9 rfl) (eM (e9 rfl) (eM (e9 rfl) (eM (e9 rfl) (e9 rfl))))
def xt (e:Expr):Option (Str×List Expr):=(gR e).bind λc=>bif c.2.2.1.isEmpty then(dW c.1).bind λx=>some (x,c.2.1) else none
def xu (e:Expr):On (λq=>∃p pos,.Call (.Name q.1 p) q.2 [] pos=e) (xt e):=(ib e).b λc h=>ak λh1=>(dm c.1).b λx hx=>⟨c.1.pos,c.2.2.2,by rw[hx,bT h1];exact h⟩
def Hz (ds:List Nat):List Dr:=bif Nat.ble ds.length 5 then[Dr.of ds] else[Dr.of ds,Dr.of (ds.drop 5)]
section
variable (H:Array Nat->Int) (u:LU) (o x:TU)
def Uu:Str×List Expr:=(xt (lF H).2.1).getD default
def lN2:Str×List Expr:=(xt ((Uu H).2.headD default)).getD default
abbrev lP1:Expr:=(lN2 H).2.headD default
abbrev lP2:Expr:=(lN2 H).2.getD 1 default
def ahA:(xt (lF H).2.1,(Uu H).2,bA (KF H) (FI H 1569).sc (Uu H).1 (.type "range"),noStar ((Uu H).2.headD default))=(some (Uu H),[(Uu H).2.headD default],true,true):=KK
def ahz:(xt ((Uu H).2.headD default),(lN2 H).2,bA (KF H) (FI H 1569).sc (lN2 H).1 (.builtin "max"),noStar (lP1 H),noStar (lP2 H))=(some (lN2 H),[lP1 H,lP2 H],true,true,true):=KK
def ahy (D:List DV):(oK H 40 1569 (lP1 H) (LA {u with D:=.ml D} []) [(gP,10)],oK H 40 1569 (lP2 H) (LA {u with D:=.ml D} []) [(gP,10)])=(some (.pv (.int (1:Nat))),some (.pv (.int ((D.length+4) / 5:Nat)))):=KK
def aiO:bS (LA u []).loc jO (.pv (.int x.i))=(LT u false o x 0).loc:=KK
def aiP:bS (LE u o).loc jO (.pv (.int x.i))=(LT u true o x 0).loc:=KK
end
section
variable {U:Program} {w:World} {Y:Base} (T0:cQ (KF (HH w)) Y) (hl:bw Y) (u:LU) (i:Nat) (X:Dr)
def rd:(u.sh<=2/\u.nl.length<=50)->u.t.length<=700000->u.fV.length<=60->fU kP (LE u (X.tu i)).loc:=λh ht hd=>Eq.mpr (by kernel_rfl:fU kP (LE u (X.tu i)).loc=(u.sh<=2/\X.p<=3/\X.f<=5039/\u.t.length<=700000/\u.nl.length<=50/\X.P.txt.length<=6/\u.fV.length<=60/\X.cl<=3/\True))
 ⟨h.1,u0 (qd _ (by decide)),u0 (qd _ (by decide)),ht,h.2,e9 (gk.mp (by kernel_rfl:(Ps.all λP=>Nat.ble P.txt.length 6)=true) _ X.xm),hd,X.rt,trivial⟩
include T0 hl
theorem MK {st le fr:Nat} {nl:List Nat} (jz:st∈[124,62]) (hle:le<=40) (hf:fr<=90000) (hn:nl.length<=50):af U w 1521 Y 11 (.ref 1550) [.lst (X.rows.map .str),.int X.cl,.str [st],.int le,.int fr,.str nl] [] none (.str (X.w st le fr nl)) none:=by
 have gb:=X.gb jz (fr / 7)
 exact ad3 T0 hl X.rows X.cl st le fr nl (by revert jz;simp) (bB gb.n (by decide)) (λr m=>⟨(gb.r r m).1,(gb.r r m).2.2⟩) (bB gb.len (by decide)) (λb m=>(gb.b b m).1) X.rt hle hf hn
theorem YP {b:List Stmt×List Nat×Nat} (hb:b∈brs (HH w)) (hle:b.2.2<=40) (h:u.sh<=2/\u.nl.length<=50) (ht:u.t.length<=600000) (hd:u.fV.length<=50):sX U w Y (ai b.1 0) (LE u (X.tu i)) (LE {u with t:=u.t++(b.2.1++(X.P.txt++X.w X.st b.2.2 X.f u.nl))} (X.tu i)):=by
 have k:=yJ (U:=U) ew (d9 (HH w)) T0 hl (n:=40) (rd u i X h (bB ht (by decide)) (bB hd (by decide))) (aW (Z4 (HH w) u (X.tu i) (X.rows.map .str)) b hb) (MK T0 hl X (gI (X.pl / 4)) hle (bB (Rh (qd _ (by decide))) (by decide)) h.2) (bB (X.Fd (gI (X.pl / 4)) hle h.2) (by decide))
 rw[fb,fb] at k
 exact Eq.subst (motive:=λZ=>sX U w Y (ai b.1 0) _ Z) (Rr u (X.tu i) (u.t++(b.2.1++(X.P.txt++X.w X.st b.2.2 X.f u.nl)))) k
theorem Mu (h:u.sh<=2/\u.nl.length<=50) (ht:u.t.length<=400000) (hd:u.fV.length<=50):sX U w Y (tb (HH w) 11) (LE u (X.tu i)) (LE {u with t:=u.t++X.bd X.p u.sh u.nl,fV:=u.fV++X.du X.p u.sh u.su} (X.tu i)):=by
 have B:=rd u i X h (bB ht (by decide)) (bB hd (by decide))
 have wl:=λst le fr jz (hle:le<=40)=>X.Fd (st:=st) (fr:=fr) jz hle h.2
 have pl:X.P.txt.length<=6:=e9 (gk.mp (by kernel_rfl:(Ps.all λP=>Nat.ble P.txt.length 6)=true) _ X.xm)
 have tl:∀(lit:List Nat) (le:Nat),lit.length<=10->le<=40->(u.t++(lit++(X.P.txt++X.w X.st le X.f u.nl))).length<=600000:=λlit le h1 h2=>by
  have:=wl X.st le X.f (gI _) h2
  rw[c9,c9,c9];omega
 have Bt:=λlit le h1 h2=>rd {u with t:=u.t++(lit++(X.P.txt++X.w X.st le X.f u.nl))} i X h (bB (tl lit le h1 h2) (by decide)) (bB hd (by decide))
 have go:=λ{b:List Stmt×List Nat×Nat} (hb:b∈brs (HH w)) (hle:b.2.2<=40)=>YP (U:=U) T0 hl u i X hb hle h (bB ht (by decide)) hd
 have es:=λlit le=>Rq (HH w) {u with t:=u.t++(lit++(X.P.txt++X.w X.st le X.f u.nl))} (X.tu i)
 have tl2:(u.t++([45,32,63,32]++(X.P.txt++(X.w X.st 3 X.f u.nl++([32,32,58,32]++X.w X.ot 3 ((X.f+1733) % 5040) u.nl))))).length<=700000:=by
  have:=wl X.st 3 X.f (gI _) (by decide)
  have:=wl X.ot 3 ((X.f+1733) % 5040) (gI _) (by decide)
  simp only[c9,M7,List.length_nil];omega
 have y2:=yJ (U:=U) ew (d9 (HH w)) T0 hl (n:=40) (Bt [45,32,63,32] 3 (by decide) (by decide)) (Z5 (HH w) {u with t:=_} (X.tu i) (X.rows.map .str)) (MK (le:=3) T0 hl X (gI (X.pl / 4+1)) (by decide) (bB (Rh (qd _ (by decide))) (by decide)) h.2) (bB (X.Fd (gI _) (by decide) h.2) (by decide))
 rw[show(u.t++([45,32,63,32]++(X.P.txt++X.w X.st 3 X.f u.nl))++[32,32,58,32])++X.w X.ot 3 ((X.f+1733) % 5040) u.nl=u.t++([45,32,63,32]++(X.P.txt++(X.w X.st 3 X.f u.nl++([32,32,58,32]++X.w X.ot 3 ((X.f+1733) % 5040) u.nl)))) by simp only[fb]] at y2
 have y2:=Eq.subst (motive:=λZ=>sX U w Y (ai (CI (HH w)).2.2 1) _ Z) (Rr {u with t:=u.t++([45,32,63,32]++(X.P.txt++X.w X.st 3 X.f u.nl))} (X.tu i) (u.t++([45,32,63,32]++(X.P.txt++(X.w X.st 3 X.f u.nl++([32,32,58,32]++X.w X.ot 3 ((X.f+1733) % 5040) u.nl)))))) y2
 unfold Dr.bd Dr.du
 exact j3 (Z2 (HH w)) λs0 s1 s2=>j4 (Z1 (HH w)) λr0 r1 r2 r3=>j4 (Z3 (HH w) u (X.tu i)) λt0 t1 t2 t3=>j4 (Z0 (HH w)) λl0 l2 l3 l4=>j2 l0 λl0 l1=>kl s0 (pZ (U:=U) T0 hl B t0) (by
  cases(u.sh:Int)==(2:Int) with
  |true=>exact .at l0 (ao (go (.head _) (by decide:1<=40)) (pY T0 hl (Bt [45,45,45,32] 1 (by decide) (by decide)) (ZZ (HH w) {u with t:=_} (X.tu i))))
  |false=>exact .at s1 (ao (kl s2 (pZ (U:=U) T0 hl B t1) (by
   cases(X.p:Int)==(0:Int) with
   |true=>exact .at l1 (ao (go (.tail _ (.head _)) (by decide:1<=40)) (pY T0 hl (Bt [45,32] 1 (by decide) (by decide)) (es _ _).1))
   |false=>exact .at r0 (ao (kl r1 (pZ (U:=U) T0 hl B t2) (by
    cases(X.p:Int)==(1:Int) with
    |true=>exact .at l2 (ao (go (.tail _ (.tail _ (.head _))) (by decide:3<=40)) (pY T0 hl (Bt [45,32,107,58,32] 3 (by decide) (by decide)) (es _ _).2.1))
    |false=>exact .at r2 (ao (kl r3 (pZ (U:=U) T0 hl B t3) (by
     cases(X.p:Int)==(2:Int) with
     |true=>exact .at l3 (ao (go (.tail _ (.tail _ (.tail _ (.head _)))) (by decide:3<=40)) (pY T0 hl (Bt [45,32,45,32] 3 (by decide) (by decide)) (es _ _).2.2.1))
     |false=>exact .at l4 (ao (go (.tail _ (.tail _ (.tail _ (.tail _ (.head _))))) (by decide:3<=40)) (ao y2 (pY T0 hl (rd {u with t:=u.t++([45,32,63,32]++(X.P.txt++(X.w X.st 3 X.f u.nl++([32,32,58,32]++X.w X.ot 3 ((X.f+1733) % 5040) u.nl))))} i X h tl2 (bB hd (by decide))) (Rq (HH w) {u with t:=u.t++([45,32,63,32]++(X.P.txt++(X.w X.st 3 X.f u.nl++([32,32,58,32]++X.w X.ot 3 ((X.f+1733) % 5040) u.nl))))} (X.tu i)).2.2.2))))) bx))) bx))) bx))
theorem YI (h:u.sh<=2/\u.nl.length<=50) (ht:u.t.length<=600000) (hd:u.fV.length<=60):lX U w Y [tb (HH w) 12,tb (HH w) 13] (LE u (X.tu i)) .next (LE {u with t:=u.t++(X.rem u.nl++tC u.sh u.su u.nl)} (X.tu i)):=j4 (Z6 (HH w)) λs0 s1 s2 s3=>by
 have x:=λu=>Z7 (HH w) u (X.tu i)
 have B:=rd u i X h (bB ht (by decide)) hd
 have rl:(X.rem u.nl).length<=56:=by
  have:=h.2
  unfold Dr.rem
  cases((X.f / 5 % 2:Nat):Int)==(1:Int)
  ·exact jP _
  ·exact bB (jk c9) (xj this 6)
 have B2:=rd {u with t:=u.t++X.rem u.nl} i X h (by show(u.t++X.rem u.nl).length<=700000;rw[c9];omega) hd
 rw[<-fb]
 refine ao (aa:=LE {u with t:=u.t++X.rem u.nl} (X.tu i)) (kl s0 (pZ (U:=U) T0 hl B (j2 (Rt (HH w) u (X.tu i)) λa _=>a)) ?_) (ao (kl s1 (pZ (U:=U) T0 hl B2 (j2 (Rt (HH w) {u with t:=u.t++X.rem u.nl} (X.tu i)) λ_ a=>a)) ?_) bx)
 ·unfold Dr.rem
  cases((X.f / 5 % 2:Nat):Int)==(1:Int) with
  |true=>have k:=pY (U:=U) T0 hl B (x u).1;rw[fb] at k;exact k
  |false=>exact(show lX U w Y (q15 (HH w)).2.2 _ .next (LE {u with t:=u.t++[]} (X.tu i)) by rw[s2,ti];exact bx)
 ·unfold tC
  cases((u.sh:Int)==(2:Int))&&(u.su&&true) with
  |true=>have k:=pY (U:=U) T0 hl B2 (x {u with t:=u.t++X.rem u.nl}).2;rw[fb _ [46,46,46]] at k;exact k
  |false=>exact(show lX U w Y (q16 (HH w)).2.2 _ .next (LE {u with t:=u.t++X.rem u.nl++[]} (X.tu i)) by rw[s3,ti];exact bx)
abbrev YK (H:Array Nat->Int):List Stmt:=[tb H 0,tb H 1,tb H 2,tb H 3,tb H 4,tb H 5,tb H 6,tb H 7,tb H 8,tb H 9,tb H 10,tb H 11,tb H 12,tb H 13]
theorem Mv (e:Bool) (o x:TU) (ds:List Nat) (hz:ds.length<=10) (RE:∀n∈ds,n<5040) (hi:x.i<=1) (hX:X=Dr.of (ds.drop (5*x.i))) (h:u.sh<=2/\u.nl.length<=50) (ht:u.t.length<=400000) (hd:u.fV.length<=50):
 lX U w Y (YK (HH w)) (LT {u with D:=.pv (.lst (ds.map iD))} e o x 0) .next (LE {u with D:=.pv (.lst (ds.map iD)),t:=u.t++X.all u.sh u.su u.nl,fV:=u.fV++X.du X.p u.sh u.su} (X.tu x.i)):=
 YG T0 hl u e o x ds hz RE hi X hX (ao (Mu (U:=U) T0 hl {u with D:=.pv (.lst (ds.map iD))} x.i X h ht hd) (by
  have k:=YI (U:=U) T0 hl {u with D:=.pv (.lst (ds.map iD)),t:=u.t++X.bd X.p u.sh u.nl,fV:=u.fV++X.du X.p u.sh u.su} x.i X h (by
   have:=Dr.HS X u.sh h.2
   show(u.t++X.bd X.p u.sh u.nl).length<=600000
   rw[c9];omega) (by
   have:=Dr.Ad X u.sh u.su
   show(u.fV++X.du X.p u.sh u.su).length<=60
   rw[c9];omega)
  rw[fb u.t] at k
  exact k))
theorem MH (ds:List Nat) (hu:u.D=.ml (ds.map iD)) (hz:ds.length<=10) (RE:∀n∈ds,n<5040) (h:u.sh<=2/\u.nl.length<=50) (ht:u.t.length<=100) (hd:u.fV.length<=10):
 ∃z:Dr,∃i,sX U w Y (lw (HH w) 8) (LA u []) (LE {u with D:=.pv (.lst (ds.map iD)),t:=u.t++((Hz ds).map λX=>X.all u.sh u.su u.nl).flatten,fV:=u.fV++((Hz ds).map λX=>X.du X.p u.sh u.su).flatten} (z.tu i)):=by
 have eu:u={u with D:=.ml (ds.map iD)}:=by rw[<-hu]
 have loop:∀n,n=max 1 ((ds.length+4) / 5)->∀ba,gi U w 1521 Y (FI (HH w) 1569).sc 40 jO (YK (HH w)) ((List.range n).map λ(i:Nat)=>DV.int (i:Int)) (LA u []) .next ba->sX U w Y (lw (HH w) 8) (LA u []) ba:=λn hn ba hB=>
  j4 (ahB (HH w)) λf0 f1 f2 f3=>j4 (ahA (HH w)) λr0 r1 r2 r3=>j5 (ahz (HH w)) λm0 m1 m2 m3 m4=>I8 (P:=λst=>sX U w Y st (LA u []) ba) f0 f1 (aT Prod.snd f3) λp pos=>dk ((xu _).get r0) λpr pos' er=>dk ((xu _).get m0) λpm XY em=>by
   have B:fU [(gP,10)] (LA {u with D:=.ml (ds.map iD)} []).loc:=Eq.mpr (by kernel_rfl:fU [(gP,10)] (LA {u with D:=.ml (ds.map iD)} []).loc=((ds.map iD).length<=10/\True)) ⟨by rw[mG];exact hz,trivial⟩
   have e:=ahy (HH w) u (ds.map iD)
   rw[mG] at e
   have mx:=pG (p:=pm) (pos:=XY) T0 m2 (.cons m3 (rW (U:=U) T0 hl B (kS e).1) (.cons m4 (rW (U:=U) T0 hl B (kS e).2) .nil)) (RW (c:=(n:Int)) (by rw[hn];show((max 1 ((ds.length+4) / 5):Nat):Int)=if(((ds.length+4) / 5:Nat):Int)>((1:Nat):Int) then(((ds.length+4) / 5:Nat):Int) else((1:Nat):Int);split<;>omega))
   rw[<-m1,em,<-eu] at mx
   rw[<-er,r1,show(lF (HH w)).2.2.1=YK (HH w) from aT Prod.fst f3]
   exact zm T0 (aP f2) r2 (.cons r3 mx.rest .nil) OO hB
 have t1:=Mv (U:=U) T0 hl u (Dr.of ds) false ((Dr.of ds).tu 0) ((Dr.of ds).tu 0) ds hz RE (jP _) rfl h OO OO
 have z:=afs u false ((Dr.of ds).tu 0) ((Dr.of ds).tu 0) (ds.map iD)
 have s1:∀{ba:aj},lX U w Y (YK (HH w)) (LT {u with D:=.pv (.lst (ds.map iD))} false ((Dr.of ds).tu 0) ((Dr.of ds).tu 0) 0) .next ba->lX U w Y (YK (HH w)) ⟨none,put (LA u []).loc jO (.pv (.int ((0:Nat):Int)))⟩ .next ba:=λk=>by
  rw[<-bk,aiO u ((Dr.of ds).tu 0) ((Dr.of ds).tu 0),eu]
  exact C9 z.1 (z.2▸k)
 have t1:=s1 t1
 have rl:=(Dr.of ds).Dh u.sh u.su h.2
 have dl:=Dr.Ad (Dr.of ds) u.sh u.su
 unfold Hz
 cases hs:Nat.ble ds.length 5 with
 |true=>
  have hs:=e9 hs
  refine⟨Dr.of ds,0,?_⟩
  simp only[cond_true,w6,List.map_nil,Rd,List.flatten_nil,ti]
  exact loop 1 OO _ (.turn (v:=.int ((0:Nat):Int)) (vs:=[]) t1 (.inl rfl) .done)
 |false=>
  have hs:¬ds.length<=5:=λq=>tf ((Nat.ble_eq_true_of_le q).symm.trans hs)
  have t2:=Mv (U:=U) T0 hl {u with D:=.pv (.lst (ds.map iD)),t:=u.t++(Dr.of ds).all u.sh u.su u.nl,fV:=u.fV++(Dr.of ds).du (Dr.of ds).p u.sh u.su} (Dr.of (ds.drop 5)) true ((Dr.of ds).tu 0) {(Dr.of ds).tu 0 with i:=1} ds hz RE (fu _) rfl h (by show(u.t++(Dr.of ds).all u.sh u.su u.nl).length<=400000;rw[c9];omega) (by show(u.fV++(Dr.of ds).du (Dr.of ds).p u.sh u.su).length<=50;rw[c9];omega)
  have s2:∀{u:LU} {ba:aj},lX U w Y (YK (HH w)) (LT u true ((Dr.of ds).tu 0) {(Dr.of ds).tu 0 with i:=1} 0) .next ba->lX U w Y (YK (HH w)) ⟨none,put (LE u ((Dr.of ds).tu 0)).loc jO (.pv (.int ((1:Nat):Int)))⟩ .next ba:=λk=>by
   rw[<-bk,aiP _ ((Dr.of ds).tu 0) {(Dr.of ds).tu 0 with i:=1}]
   exact k
  have t2:=s2 t2
  refine⟨Dr.of (ds.drop 5),1,?_⟩
  simp only[cond_false,w6,List.map_nil,Rd,List.flatten_nil,ti]
  rw[fb,fb] at t2
  exact loop 2 OO _ (.turn (v:=.int ((0:Nat):Int)) (vs:=[.int ((1:Nat):Int)]) t1 (.inl rfl) (.turn (v:=.int ((1:Nat):Int)) (vs:=[]) t2 (.inl rfl) .done))
end
def fl0 (d:DV):Bool:=qo d||gX (iE d) λl=>l.all λc=>Nat.ble c 0x10ffff
def ud (d:DV):Bool:=gX (zr d) λl=>l.all fl0
def P9 (d:DV):PyData:=Option.rec (motive:=λ_=>PyData) .none (λl=>.str ⟨⟨l⟩⟩) (iE d)
def Ey (d:DV):PyData:=Option.rec (motive:=λ_=>PyData) .none (λl=>.tuple (l.map P9)) (zr d)
def aas {M:DV->Prop} {d:DV} (h:fl0 d=true) (h0:M .none) (h1:∀l:List Nat,(∀c∈l,c<0x110000)->M (.str l)):M d:=by
 cases d<;>first|exact h0|exact ft h|exact h1 _ λc m=>Nat.lt_succ_of_le (e9 (gk.mp h c m))
def aat {M:DV->Prop} {d:DV} (h:ud d=true) (h1:∀l:List DV,l.all fl0=true->M (.tup l)):M d:=by
 cases d<;>first|exact ft h|exact h1 _ h
section
variable {P:Params} {G:Gh} {h:Heap}
def rds {f:DV->Bool} {py:DV->PyData} (one:∀d u,DR P G d u->f d=true->Reads h u (py d) []) {l:List DV} {us:List Value} (hd:eC P G l us):l.all f=true->ReadsAll h us (l.map py) []:=by
 induction hd with
 |nil=>exactλ_=>.nil
 |cons x _ ih=>exactλhf=>a2 (aw hf) λa b=>ReadsAll.cons (as:=[]) (bs:=[]) (one _ _ x a) (ih b)
def rd1 (hp:∀a o,G.g a=some o->h.get? a=some o) (d:DV) (u:Value) (hd:DR P G d u) (hf:ud d=true):Reads h u (Ey d) []:=by
 revert hd
 exact aat (M:=λd=>DR P G d u->Reads h u (Ey d) []) hf λl hl hd=>hd.mF λa vs n hg _ hs=>reads_tuple_at (hp _ _ hg) rfl rfl (rds (λd u hd h0=>by
  revert hd
  exact aas (M:=λd=>DR P G d u->Reads h u (P9 d) []) h0 (λe=>by rw[show u=.none from e];exact .none) λl _ hd=>hd.gg λt _=>.str _ _) hs hl)
def Sd (hp:∀a o,G.g a=some o->h.get? a=some o) {l:List DV} {u:Value} (hd:DR P G (.lst l) u) (hf:l.all ud=true):∃as,Reads h u (.list (l.map Ey)) as:=hd.lu λa vs n hg _ hs=>⟨_,reads_list_at (hp _ _ hg) rfl rfl (rds (rd1 hp) hs hf)⟩
end
def abB {f:DV->Bool} {py:DV->PyData} {n:Nat} (one:∀d,f d=true->(py d).canLay0=true/\(py d).depth<=n) (l:List DV):l.all f=true->PyData.canLayAll0 (l.map py)=true/\PyData.depthAll (l.map py)<=n:=by
 induction l with
 |nil=>exactλ_=>⟨rfl,jP _⟩
 |cons d l ih=>exactλhf=>a2 (aw hf) λa b=>⟨Y4.mpr ⟨(one d a).1,(ih b).1⟩,Nat.max_le.mpr ⟨(one d a).2,(ih b).2⟩⟩
def ahG (d:DV) (hf:ud d=true):(Ey d).canLay0=true/\(Ey d).depth<=2:=aat (M:=λd=>(Ey d).canLay0=true/\(Ey d).depth<=2) hf λl hl=>by
 have q:=abB (f:=fl0) (py:=P9) (n:=0) (λd h=>aas (M:=λd=>(P9 d).canLay0=true/\(P9 d).depth<=0) h ⟨rfl,fu _⟩ λl h=>⟨by show(PyData.str ⟨⟨l⟩⟩).canLay0=true;simpa [PyData.canLay0,PyData.strOk] using h,fu _⟩) l hl
 refine⟨q.1,?_⟩
 show PyData.depth (.tuple (l.map P9))<=2
 rw[PyData.depth]
 omega
def EK {l:List DV} (hf:l.all ud=true):SeqAt.shaped (.list (l.map Ey))=true:=by
 have q:=abB ahG l hf
 unfold SeqAt.shaped
 rw[show PyData.canLay0 (.list (l.map Ey))=true from q.1,Bool.true_and,PyData.depth]
 exact HF OO
def aap {py:DV->PyData} (one:∀d,PyData.eqv (py d) (py d)=true) (l:List DV):PyData.eqvAll (l.map py) (l.map py)=true:=by
 induction l with
 |nil=>simp[PyData.eqvAll]
 |cons d l ih=>simp[PyData.eqvAll,one,ih]
def af1 (d:DV):PyData.eqv (Ey d) (Ey d)=true:=by
 unfold Ey
 cases zr d with
 |none=>simp[PyData.eqv]
 |some l=>
  show PyData.eqv (.tuple (l.map P9)) (.tuple (l.map P9))=true
  rw[PyData.eqv]
  refine aap (λd=>?_) l
  unfold P9
  cases iE d<;>simp[PyData.eqv]
def Qp {U:Program} {w:World} {C:Nat} {Y:Base} {sc:Scope} {d:Nat} {Z aa ah:aj} {dx cu:Expr} {pos:Pos} {l:List DV} (hd:1<=d) (cf:aC U w C Y sc d dx Z (.lst l) aa) (cP:aC U w C Y sc d cu aa (.lst l) ah) (hf:l.all ud=true) (hm:behindInMarks .Eq cu=false):
    aC U w C Y sc d (.Compare dx [.Eq] [cu] pos) Z (.bool true) ah:=λA G L s env ro eo R Q k=>
 wpAny_Compare1 (cf A G L s env ro eo R _ λaz u ax aB aH aV=>cP A az L ax env ro eo aB _ λaD v ay aE aJ cz=>fi (Sd aE.pins (aV.mono aJ.sub) hf) λas ra=>fi (Sd aE.pins cz hf) λbs rb=>eq_dataH ra rb (EK hf) (EK hf) (by have:=ro.units;omega) (by
  rw[show PyData.eqv (.list (l.map Ey)) (.list (l.map Ey))=true by rw[PyData.eqv];exact aap af1 l]
  exact k aD _ _ aE (aH.aO aJ) rfl)) hm
section
variable (H:Array Nat->Int) (u:LU) (y:TU) (a:bU) (g:List DV) (p l c:DV) (r:Rs) (ev sT:DV)
abbrev LZ (a:bU) (s:ae) (tl:List (Str×ae)):aj:=⟨a,(L5 u ((mP,.pv (.str u.t))::(Q8,s)::(jO,.pv (.int y.i))::(tE y++tl))).loc⟩
abbrev LG (a:bU) (g:List DV):aj:=LZ u y a (.ml u.fV) [(hM,.pv .self),(zx,.ml g)]
abbrev fZ (H:Array Nat->Int):HM:=fR H bY 40 1569
def Pb:Str×Expr:=(q8 (eQ H bY 40 1569) (lw H 11)).getD default
def JL:Expr×List Expr×List Keyword×Pos:=(gR (Pb H).2).getD default
def abj:(q8 (eQ H bY 40 1569) (lw H 11),(Pb H).1,gR (Pb H).2,(JL H).2.2.1.isEmpty,keepIn (KF H) (.ref 1521)&&(dW (JL H).1).isSome)=(some (Pb H),hM,some (JL H),true,true):=KK
def abh:((fZ H).E (JL H).1 (LE u y),vp (fZ H) (JL H).2.1 (LE u y))=(some (.pv (.cls 1521),LE u y),some ([.str u.t],LE u y)):=KK
def abi:(⟨a,bS (LE u y).loc hM (.pv .self)⟩:aj)=LZ u y a (.ml u.fV) [(hM,.pv .self)]:=KK
def abk:cg (fZ H) [lw H 12] (LZ u y a (.ml u.fV) [(hM,.pv .self)])=some (.next,LG u y a []):=KK
def nV:Expr×List Stmt:=(whS (lw H 13)).getD default
def Pc:Expr×CmpOp×Expr:=(nG (nV H).1).getD default
def Ur:Expr:=Option.rec (motive:=λ_=>Expr) default (·.2) (jv (eQ H bY 40 1569) (ai (nV H).2 0) (LG ⟨[],[],.ml [],[],0,false,[],[]⟩ ⟨0,0,0,0,0,0,0,0,0,.ml [],[],P0,.none⟩ none []))
def yg:Expr×List Expr×List Keyword×Pos:=(gR (Ur H)).getD default
def abo:lw H 13=.While (nV H).1 (nV H).2 [] (lw H 13).pos:=KK
def RN:(nG (nV H).1,(Pc H).2.1,(nV H).2,gR (Ur H),(yg H).2.2.1.isEmpty)=(some (Pc H),.IsNot,[ai (nV H).2 0],some (yg H),true):=KK
def abl:((yg H).2.1,noStar ((yg H).2.1.headD default),keepIn (KF H) (.ref 1564),(dW (yg H).1).isSome)=([(yg H).2.1.headD default],true,true,true):=KK
def RO:nB (eQ H bY 40 1569) (fZ H) (Pc H).1 (LG u y (some (iz p l c (r.to ev sT))) g)=some (1326,[.self],LG u y (some (iz p l c (r.to ev sT))) g):=KK
def abn:nB (eQ H bY 40 1569) (fZ H) ((yg H).2.1.headD default) (LG u y (some (iz p l c (r.to ev sT))) g)=some (1333,[.self],LG u y (some (iz p l c (r.to ev sT))) g):=KK
def JM:((fZ H).E (Pc H).2.2 (LG u y a g),jv (eQ H bY 40 1569) (ai (nV H).2 0) (LG u y a g),(fZ H).E (yg H).1 (LG u y a g),g8 (LG u y a g) (.loc zx))=(some (.pv .none,LG u y a g),some (.loc zx,Ur H),some (.pv (.fn 1564),LG u y a g),some (.ml g)):=KK
def abm (g':List DV):wu (LG u y a g) (.ml g') (.loc zx)=LG u y a g':=KK
def Us:Expr:=(wj (lw H 14)).getD default
def Pd:Expr×CmpOp×Expr:=(nG (Us H)).getD default
def abq:(wj (lw H 14),nG (Us H),(Pd H).2.1)=(some (Us H),some (Pd H),.Eq):=KK
def abp:((fZ H).E (Pd H).1 (LG u y a g),(fZ H).E (Pd H).2.2 (LZ u y a (.ml u.fV) [(hM,.pv .self),(zx,.pv (.lst g))]))=(some (.pv (.lst g),LZ u y a (.ml u.fV) [(hM,.pv .self),(zx,.pv (.lst g))]),some (.pv (.lst u.fV),LZ u y a (.pv (.lst u.fV)) [(hM,.pv .self),(zx,.pv (.lst g))])):=KK
end
section
variable {U:Program} {w:World} {Y:Base} (T0:cQ (KF (HH w)) Y) (hl:bw Y)
include T0 hl
theorem La {e:Expr} {cq:Expr×List Expr×List Keyword×Pos} {Z aa:aj} {g n:Nat} {fv r:DV} {vs:List DV} {aX:bU} (h:gR e=some cq) (he:cq.2.2.1.isEmpty=true) (hx:(dW cq.1).isSome=true) (hk:keepIn (KF (HH w)) (.ref g)=true) (hfv:∀P G u,DR P G fv u->u=.ref g) (h0:(fZ (HH w)).E cq.1 Z=some (.pv fv,Z)) (ha:dI U w 1521 Y (FI (HH w) 1569).sc 40 cq.2.1 Z vs aa) (hc:af U w 1521 Y n (.ref g) vs [] aa.aq r aX) (le:n<=40):
 aC U w 1521 Y (FI (HH w) 1569).sc 40 e Z r ⟨aX,aa.loc⟩:=fi (Y9.mp hx) λx hx=>by
 have h0:=gV (U:=U) ew (d9 (HH w)) T0 hl h0
 rw[<-(dm _).get hx] at h0
 have k:=mf (pos:=cq.2.2.2) T0 hk hfv h0 ha .nil (hc.up le)
 rw[(dm _).get hx,bT he,(ib e).get h] at k
 exact k
theorem TK (u:LU) (y:TU) {a a':bU} {t:DV} (s:Step U w Y a t a') (g:List DV) (hz:g.length+1<=lim):
 ∃aa,bu U w 1521 Y (FI (HH w) 1569).sc 40 (nV (HH w)).1 (LG u y a g) true aa/\lX U w Y (nV (HH w)).2 aa .next (LG u y a' (g++[t])):=by
 obtain⟨p,l,c,p',l',c',zH,r,r',f,cc,fs,e1,e2,hf,hc,ht⟩:=s
 rw[e1,e2] at*
 have ht:=ht (iz p' l' c' (r'.to .none zH))
 unfold TD at ht
 have cd:=λn g vs r aX as (h:fN (tabs (HH w) bY eY) n 1521 g vs [] as=some (r,aX))=>gE (tabs_ok (U:=U) T0 (mY hl) λ_ _ _ _ _ _ _ _ h=>ns h) n 1521 g vs [] as r aX h
 refine⟨LG u y (some (iz p' l' c' (r'.to (.inst cc fs) zH))) g,?_⟩
 exact j5 (RN (HH w)) λs0 s1 s2 s3 s4=>j4 (abl (HH w)) λa0 a1 a2 a3=>j4 (JM (HH w) u y (some (iz p' l' c' (r'.to (.inst cc fs) zH))) g) λe0 e1 e2 _=>j4 (JM (HH w) u y (some (iz p' l' c' (r'.to .none zH))) g) λ_ _ _ e3=>by
  have pk:=(PZ T0 hl hf (n:=33) hc).up (e9 rfl:34<=40)
  have tst:=tc s0 (eZ ew (d9 (HH w)) T0 hl (RO (HH w) u y g p l c r .none (.bj f)) pk) (gV ew (d9 (HH w)) T0 hl e0) (s1▸oU (b:=false) (.inr ⟨rfl,rfl⟩) (qI rfl))
  have arg:=dI.cons a1 (eZ ew (d9 (HH w)) T0 hl (abn (HH w) u y g p' l' c' r' (.inst cc fs) zH) ((cd _ _ _ _ _ _ (TY (HH w) p' l' c' r' zH cc fs)).up (e9 rfl:4<=40))) (.nil (U:=U))
  rw[<-a0] at arg
  have k:=La T0 hl s3 s4 a3 a2 DS e2 arg (cd _ _ _ _ _ _ ht) (e9 rfl:8<=40)
  have ap:=qJ ew (d9 (HH w)) T0 hl e1 k ((cv ..).symm.trans e3) hz
  rw[<-ja,abm u y _ g (g++[t])] at ap
  rw[s2]
  exact⟨tst,ao ap bx⟩
theorem IS (u:LU) (y:TU) {a a':bU} {l:List DV} (h:eP U w Y a l a') (OE:∀g,bu U w 1521 Y (FI (HH w) 1569).sc 40 (nV (HH w)).1 (LG u y a' g) false (LG u y a' g)):
 ∀g:List DV,g.length+l.length<=lim->cI U w 1521 Y (FI (HH w) 1569).sc 40 (nV (HH w)).1 (nV (HH w)).2 l.length (LG u y a g) .next (LG u y a' (g++l)):=by
 induction h with
 |nil=>exactλg _=>(ti g).symm▸.stop (OE g)
 |@cons _ _ _ t l s _ ih=>exactλg hz=>bz (TK T0 hl u y s g (bB (xj (MU _) _) hz)) λ_ x b=>.next x b (List.append_cons g t l▸ih OE (g++[t]) (bB (by rw[c9];exact jk (Rg g.length 1 _)) hz))
theorem TJ (u:LU) (y:TU) (p ln:Nat) (c:Int) (k:Nat) (dn:Bool) (g:List DV):bu U w 1521 Y (FI (HH w) 1569).sc 40 (nV (HH w)).1 (LG u y (kF p ln c k dn) g) false (LG u y (kF p ln c k dn) g):=
 j5 (RN (HH w)) λs0 s1 _ _ _=>j4 (JM (HH w) u y (kF p ln c k dn) g) λe0 _ _ _=>
  tc s0 (eZ ew (d9 (HH w)) T0 hl (RO (HH w) u y g (.sint 17 p) (.sint 17 ln) (.int c) (rr [] (-1) [] false dn .none [] 0 TG (.sint 17 k)) .none .none) (af.up (gE (tabs_ok T0 (mY hl) λ_ _ _ _ _ _ _ _ h=>ns h) 4 1521 1326 [.self] [] _ _ _ (acI (HH w) (.sint 17 p) (.sint 17 ln) (.int c) (rr [] (-1) [] false dn .none [] 0 TG (.sint 17 k)))) (e9 rfl:4<=40))) (gV ew (d9 (HH w)) T0 hl e0) (s1▸oU (b:=true) (.inr ⟨rfl,rfl⟩) (qI (x:=.none) rfl))
abbrev uZ (u:LU):LU:={u with t:=bif Nat.blt u.sh 2&&u.su then u.t++[46,46,46]++u.nl else u.t,fV:=(bif Nat.blt u.sh 2 then u.fV++[gd,eI u.su] else u.fV)++[gJ]}
theorem TC (PW:Nc U Y) (u:LU) (y:TU) (B:fU kP (LE u y).loc) (h2:u.sh<=2) (hz:(uZ u).t.length+1<=lim) (dz:(uZ u).fV.length<=lim) (ck:Y.V.β 17=0) (hT:(uZ u).t.all kU=true) (h0:Y.V.ς 0=(uZ u).t++[0]) (hf:(uZ u).fV.all ud=true)
 {p l k:Nat} {c:Int} (hev:eP U w Y (k0 (.md [])) (uZ u).fV (kF p l c k true)):∃ba,lX U w Y [lw (HH w) 9,lw (HH w) 10,lw (HH w) 11,lw (HH w) 12,lw (HH w) 13,lw (HH w) 14] (LE u y) (.ret (.bool true)) ba:=by
 have s9:lR (HH w) [lw (HH w) 9,lw (HH w) 10] (LE u y) kP .next (LE (uZ u) y):=Sw (P:=λn=>lR (HH w) [lw (HH w) 9,lw (HH w) 10] (LE {u with sh:=n} y) kP .next (LE (uZ {u with sh:=n}) y)) h2 (aW (ahC (HH w) u y))
 refine⟨LZ (uZ u) y (kF p l c k true) (.pv (.lst (uZ u).fV)) [(hM,.pv .self),(zx,.pv (.lst (uZ u).fV))],rY (U:=U) T0 hl B s9 ?_⟩
 exact j5 (abj (HH w)) λs0 s1 s2 s3 s4=>j2 (abh (HH w) (uZ u) y) λe0 e1=>j3 (abq (HH w)) λr0 r1 r2=>j2 (abp (HH w) (uZ u) y (kF p l c k true) (uZ u).fV) λq0 q1=>a2 (aw s4) λz0 z1=>by
  have mk:=La T0 hl s2 s3 z1 z0 ru e0 (lZ ew (d9 (HH w)) T0 hl e1) (Pk T0 hl PW hT h0 hz ck) (e9 rfl:15<=40)
  have s:=D8 (U:=U) s0 (r:=.pv .self) mk.plain
  rw[s1] at s
  have s:sX U w Y (lw (HH w) 11) (LE (uZ u) y) _:=Eq.subst (motive:=λZ=>aU U w 1521 Y (FI (HH w) 1569).sc 40 (lw (HH w) 11) (LE (uZ u) y) .next Z) (abi (uZ u) y (k0 (.md []))) s
  have tu:=IS T0 hl (uZ u) y hev (λg=>TJ T0 hl (uZ u) y p l c k true g) [] (bB (jk (HD _)) dz)
  refine ao s (eH (zQ ew (d9 (HH w)) T0 hl) ?_ [lw (HH w) 12] _ (abk (HH w) (uZ u) y (k0 (.md []))))
  refine ao (aa:=LG (uZ u) y (kF p l c k true) ([]++(uZ u).fV)) ?_ (jc ?_ rfl)
  ·exact Eq.subst (motive:=λst=>sX U w Y st _ _) (abo (HH w)).symm (oG tu)
  ·exact fi ((CK _).get r0) λpos er=>a2 ((qB _).get r1) λer1 m=>er▸sV (er1▸r2▸Qp (e9 rfl:1<=40) (gV ew (d9 (HH w)) T0 hl q0) (gV ew (d9 (HH w)) T0 hl q1) hf (r2▸m))
end
def cw {α:Type} {f:α->Bool} {a b:List α} (ha:a.all f=true) (hb:b.all f=true):(a++b).all f=true:=by rw[List.all_append,ha,hb];rfl
def Ro {α:Type} {f:α->Bool} {n:Nat} {c:α} (h:f c=true):(List.replicate n c).all f=true:=gk.mpr λ_ m=>List.eq_of_mem_replicate m▸h
def ia {α:Type} {f:α->Bool} {c:Bool} {a b:List α} (ha:a.all f=true) (hb:b.all f=true):(bif c then a else b).all f=true:=by cases c;exact hb;exact ha
def Rn {α β:Type} {f:β->Bool} {g:α->List β} {l:List α} (h:∀x,(g x).all f=true):(l.map g).flatten.all f=true:=by
 induction l with
 |nil=>rfl
 |cons x l ih=>exact cw (h x) ih
def eE {α:Type} {f:α->Bool} {a:α} {l:List α} (ha:f a=true) (hl:l.all f=true):(a::l).all f=true:=by rw[List.all_cons,ha,hl];rfl
def LN (f ind:Nat) {nl:List Nat} (hn:nl.all kU=true) (rs:List (List Nat)):∀i,(∀r∈rs,r.all kU=true)->(jH f ind nl rs i).all kU=true:=by
 induction rs with
 |nil=>exactλ_ _=>rfl
 |cons r rs ih=>exactλi h=>cw (cw (Ro rfl) (cw (h r (.head _)) hn)) (ih (i+1) λr m=>h r (.tail _ m))
def Mj {st:Nat} (h:st∈[124,62]):kU st=true:=gk.mp (by kernel_rfl:([124,62]:List Nat).all kU=true) st h
def Dr.adH (X:Dr) {st le fr:Nat} {nl:List Nat} (hs:st∈[124,62]) (hn:nl.all kU=true):(X.w st le fr nl).all kU=true:=
 N8 (Rz (br X.rows) fr) λd hd ed _ _=>N8 (zZ (mA (br X.rows)) X.rt fr) λc hc ec _ _=>by
  have h1:(ID d).all kU=true:=four (P:=λd=>(ID d).all kU=true) hd (by decide)
  have h2:(Hy c).all kU=true:=Sw (P:=λd=>(Hy d).all kU=true) hc (by decide)
  have h3:(jd (fr / 12 % 4)).all kU=true:=four (P:=λn=>(jd n).all kU=true) (u0 (qd _ (by decide))) (by decide)
  unfold Dr.w kq Ji
  rw[ed,ec]
  exact cw (cw (cw (eE (Mj hs) (ia (cw h1 h2) (cw h2 h1))) h3) hn) (LN _ _ hn _ _ λb m=>(List.mem_append.mp m).elim (λm=>((X.gb hs _).b b m).2) λm=>List.eq_of_mem_replicate m▸rfl)
def Dr.SW (X:Dr) {sh:Nat} {su:Bool} {nl:List Nat} (hn:nl.all kU=true):(X.all sh su nl).all kU=true:=by
 have hP:X.P.txt.all kU=true:=gk.mp (by kernel_rfl:(Ps.all λP=>P.txt.all kU)=true) _ X.xm
 have h1:=λle fr=>X.adH (st:=X.st) (le:=le) (fr:=fr) (gI _) hn
 have h2:=λle fr=>X.adH (st:=X.ot) (le:=le) (fr:=fr) (gI _) hn
 unfold Dr.all Dr.bd Dr.rem tC
 exact cw (ia (cw (by decide) (cw hP (h1 _ _))) (ia (cw (by decide) (cw hP (h1 _ _))) (ia (cw (by decide) (cw hP (h1 _ _))) (ia (cw (by decide) (cw hP (h1 _ _))) (cw (by decide) (cw hP (cw (h1 _ _) (cw (by decide) (h2 _ _)))))))))
  (cw (ia (cw (by decide) hn) rfl) (ia (cw (by decide) hn) rfl))
def QZ (xs:List Dr) (sh:Nat) (su:Bool) {nl:List Nat} (hn:nl.all kU=true):(zp xs sh su nl).all kU=true:=cw (ia (cw (by decide) hn) rfl) (cw (Rn λx=>x.SW hn) (ia (cw (by decide) hn) rfl))
def R8 {l:List Nat} (h:l.all kU=true):(l.all λc=>Nat.ble c 0x10ffff)=true:=gk.mpr λc m=>gk.mp (by kernel_rfl:(okL.all λc=>Nat.ble c 0x10ffff)=true) c (En (gk.mp h c m))
def YF (v:List Nat) (st:Nat):(Ps.map λP=>ud (tS P v st))=Ps.map λ_=>(v.all λc=>Nat.ble c 0x10ffff)&&((Nat.ble st 0x10ffff&&true)&&true):=KK
def O8 (rs:List (List Nat)) (h:∀r∈rs,r.all kU=true):(gU [10] rs).all kU=true:=by
 have t:∀(l:List (List Nat)),(∀r∈l,r.all kU=true)->(pW [10] l).all kU=true:=λl=>by
  induction l with
  |nil=>exactλ_=>rfl
  |cons r l ih=>exactλh=>eE rfl (cw (h r (.head _)) (ih λr m=>h r (.tail _ m)))
 cases rs with
 |nil=>rfl
 |cons r l=>exact cw (h r (.head _)) (t l λr m=>h r (.tail _ m))
def Sn (X:Dr) {P:Pv} (hP:P∈Ps) {st:Nat} (hs:st∈[124,62]):ud (tS P X.val st)=true:=by
 have v:X.val.all kU=true:=cw (O8 _ λr m=>((X.gb hs 0).r r m).2.1) (Ro rfl)
 have s:=R8 (eE (Mj hs) (l:=[]) rfl)
 rw[aW (YF X.val st) P hP,R8 v]
 rw[List.all_cons] at s
 rw[show(Nat.ble st 0x10ffff&&true)=true from s];rfl
def Oe (b:Bool):ud (kL b)=true/\ud (eI b)=true:=by cases b<;>exact⟨KK,KK⟩
def TM:(ud sW,ud Zs,ud kH,ud sY,ud gd)=(true,true,true,true,true)/\(ud tP,ud gJ)=(true,true):=⟨KK,KK⟩
def Dr.aam (X:Dr) (sh:Nat) (su:Bool):(X.du X.p sh su).all ud=true:=by
 have h1:=Sn X X.xm (gI (X.pl / 4))
 have h2:=Sn X (P:=P0) (.head _) (gI (X.pl / 4+1))
 unfold Dr.du
 exact j5 TM.1 λm k e r s=>ia (eE (Oe _).1 (eE h1 (eE (Oe _).2 rfl))) (ia (eE h1 rfl) (ia (eE m (eE k (eE h1 (eE e rfl)))) (ia (eE r (eE h1 (eE s rfl))) (eE m (eE h1 (eE h2 (eE e rfl)))))))
def TA (xs:List Dr) (sh:Nat) (su:Bool):(IK xs sh su).all ud=true:=j5 TM.1 λ_ _ _ r s=>j2 TM.2 λt e=>cw (ia (eE t (eE (Oe _).1 (eE r rfl))) (eE t rfl)) (cw (Rn λx=>x.aam sh su) (cw (ia (eE s (eE (Oe _).2 rfl)) rfl) (eE e rfl)))
def acf (k:Nat):pC (k % 4)∈iH:=four (P:=λn=>pC n∈iH) (u0 (qd _ (by decide))) (by decide)
def Xw {nl:List Nat} (h:nl∈iH):nl.all kU=true:=gk.mp (by kernel_rfl:(iH.all λl=>l.all kU)=true) nl h
def IJ (ds:List Nat):Hz ds≠[]/\(Hz ds).length<=2:=by unfold Hz;cases Nat.ble ds.length 5<;>exact⟨List.cons_ne_nil _ _,e9 rfl⟩
def DP {α β:Type} (k:Nat) {g:β->List α} (h:∀x,(g x).length<=k) (ls:List β):(ls.map g).flatten.length<=k*ls.length:=by
 induction ls with
 |nil=>exact jP _
 |cons l ls ih=>
  rw[w6,Rd,c9,M7,Nat.mul_add,Nat.mul_one,Nat.add_comm]
  exact xi ih (h l)
def dT (ns:List Int):List Nat:=zp (Hz (fJ ns)) (uH ns).sh (uH ns).su (uH ns).nl
abbrev uL (ns:List Int):LU:={uH ns with D:=.pv (.lst ((fJ ns).map iD)),t:=(uH ns).t++((Hz (fJ ns)).map λX=>X.all (uH ns).sh (uH ns).su (uH ns).nl).flatten,fV:=(uH ns).fV++((Hz (fJ ns)).map λX=>X.du X.p (uH ns).sh (uH ns).su).flatten}
def adE (ns:List Int):(uZ (uL ns)).t=dT ns:=by
 show(bif Nat.blt (uH ns).sh 2&&(uH ns).su then(uL ns).t++[46,46,46]++(uH ns).nl else(uL ns).t)=_
 unfold dT zp
 cases Nat.blt (uH ns).sh 2&&(uH ns).su
 ·exact(aT ((uH ns).t++·) (ti _)).symm
 ·exact(fb ..).trans (fb ..)
def adD (ns:List Int):(uZ (uL ns)).fV=IK (Hz (fJ ns)) (uH ns).sh (uH ns).su:=by
 show(bif Nat.blt (uH ns).sh 2 then(uL ns).fV++[gd,eI (uH ns).su] else(uL ns).fV)++[gJ]=_
 unfold IK
 cases Nat.blt (uH ns).sh 2
 ·exact fb ..
 ·exact(fb ..).trans (fb ..)
def law_code {U:Program} {w:World} {Y:Base} (T0:cQ (KF (HH w)) Y) (hl:bw Y) (PW:Nc U Y) (ns:List Int) (hn:ns.length<=63) (ck:Y.V.β 17=0) (h0:Y.V.ς 0=dT ns++[0]):∃aX,af U w 1521 Y 41 (.ref 1569) [.lst (ns.map .int)] [] none (.bool true) aX:=by
 have Js:(uH ns).sh<=2:=u0 (qd _ (by decide))
 have qk:=acf (dA ns)
 have hz:(uH ns).nl.length<=2:=K7 (dA ns)
 have rK:=bB hz (by decide:2<=50)
 have t0:(uH ns).t.length<=5:=eM (bB (jk c9) (xj hz 3)) (jP _)
 have d0:(uH ns).fV.length<=3:=eM (fu 3) (by decide)
 have dz:(fJ ns).length<=10:=by unfold fJ mods;rw[mG,Zz];exact Nat.min_le_left ..
 have n2:=(IJ (fJ ns)).2
 have f1:(uL ns).t.length<=700000:=by
  have:=DP 130112 (λX=>Dr.Dh X (uH ns).sh (uH ns).su rK) (Hz (fJ ns))
  rw[c9];omega
 have f2:(uL ns).fV.length<=60:=by
  have:=DP 4 (λX=>Dr.Ad X (uH ns).sh (uH ns).su) (Hz (fJ ns))
  rw[c9];omega
 have tz:(uZ (uL ns)).t.length<=800000:=eM (bB (jk (c9.trans (aT (· +_) c9))) (bB (xi (xi f1 (fu 3)) rK) (by decide))) (bB f1 (by decide))
 have ez:(uZ (uL ns)).fV.length<=100:=bB (jk c9) (bB (xi (eM (n:=62) (bB (jk c9) (xi f2 (fu 2))) (bB f2 (by decide))) (fu 1)) (by decide))
 exact dk (MH (U:=U) T0 hl {uH ns with D:=.ml ((fJ ns).map iD)} (fJ ns) rfl dz (Ed _) ⟨Js,rK⟩ (bB t0 (by decide)) (bB d0 (by decide))) λz i loop=>dk (Aw (U:=U) T0 hl ck (IJ (fJ ns)).1 Js (uH ns).su qk h0) λp l q=>dk q λc k ev=>
  fi (TC (U:=U) T0 hl PW (uL ns) (z.tu i) (rd (uL ns) i z ⟨Js,rK⟩ f1 f2) Js (bB (Rj tz) (by decide)) (bB ez (by decide)) ck (adE ns▸QZ _ _ _ (Xw qk)) (adE ns▸h0) (adD ns▸TA _ _ _) (adD ns▸ev)) λba run=>
   ⟨ba.aq,f9 (fl:=.ret (.bool true)) ew (d9 (HH w)) T0 hl (bl:=[(gz,.lst (ns.map .int))]) KK (.at (ahL (HH w)) (OD T0 hl ns hn (ao loop run))) rfl⟩
def yE (o:Obj):Bool:=match o.data with| .freed=>false|_=>true
def vA {t:BT} {n a:Nat} {o:Obj} (h1:Nat.blt a n=true) (h2:t.get a=some o) (h3:yE o=true):(absHeap t n {}).get? a=some o:=by
 unfold Heap.get?
 rw[absHeap_at,d7 (show a<n from e9 h1),h2]
 obtain⟨c,d,x,s⟩:=o
 show(match some (⟨c,d,x,s⟩:Obj) with|some ⟨_,_,.freed,_⟩=>none|o=>o)=_
 cases x<;>first|rfl|cases h3
def Uo (H:Array Nat->Int):((KF H).all λp=>Nat.blt p.1 1570&&yE p.2)=true:=KK
def O9 (H:Array Nat->Int):(KF H).map (λp=>(zJ H).get p.1)=(KF H).map λp=>some p.2:=KK
def kf_in (P:Params):(KF P.strHash).In (jq P):=by
 refine Frag.in_of (as:=(KF P.strHash).map (·.1)) rfl ?_
 have h1:=Uo P.strHash
 have h2:=O9 P.strHash
 generalize KF P.strHash=K at h1 h2 ⊢
 induction K with
 |nil=>rfl
 |cons p r ih=>
  rw[List.all_cons,Bool.and_eq_true] at h1
  obtain⟨h3,h4⟩:=aw h1.1
  rw[w6,w6,List.cons.injEq] at h2
  rw[w6,w6,w6,ih h1.2 h2.2]
  rw[show(jq P).get? p.1=some p.2 from vA h3 h2.1 h4]
def Um (H:Array Nat->Int):nsIn (KF H) mainGlobals (Str.ofString "law")=some (some (.ref 1569)):=KK
def Up (P:Params):∃o,(jq P).get? sysModules=some o:=⟨((zJ P.strHash).get sysModules).getD default,vA KK KK KK⟩
def ahj (P:Params):∀q∈Hf,∃o,(jq P).get? q.2.2.2.1=some o/\o.data=.cell (some (.ref q.2.2.2.2.1)):=e8.mpr ⟨⟨((zJ P.strHash).get 771).getD default,vA KK KK KK,KK⟩,e8.mpr ⟨⟨((zJ P.strHash).get 1299).getD default,vA KK KK KK,KK⟩,qT _⟩⟩
def P8:(((yS.prog).main.file:Str)==sa)=true:=KK
def X1:((yS.prog).main.scope.names.lookup ("super":Str)).isSome=false:=KK
def rE {P:Params} {G:Gh}:∀{us:List Value} {ns:List Int},IntsAre us ns->eC P G (ns.map .int) us
 |_,_,.nil=>.nil
 |_,_,.cons n t h=>.cons (.int n t) (rE h)
def call_of:WalkO qv lo (λ_ _=>True) (λw h=>∀b o,(jq w.params).get? b=some o->h.get? b=some o) yS.toRowW pa.1 pa.2 λf vs=>PySem.call f vs:=by
 intro w eL ax mg mb G Yk a o pm cd doc dV kV ho hd hcr hdf hm aaR args vals as agW agR hrd hwl hlo
 clear hd hcr hdf ho
 have X:(KF (HH w)).In ax.heap:=(kf_in w.params).keeps Yk
 have ea:a=1569:=by
  have:=mg_of X G.T.g (Um _)
  rw[F8] at hm
  rw[this] at hm
  cases hm;rfl
 subst ea
 wrow_args agW agR hrd hwl hlo
 rename_i ns _ _ _ _ _ as4 as3 l us as0 hL ra wl r0 hI hr hc _
 have hn:ns.length<=63:=by lia
 obtain⟨os,hos⟩:=Up w.params
 let V:Val:=⟨λt=>if t=0 then((dT ns++[0]).length:Int) else 0,λ_=>dT ns++[0]⟩
 let Y:Base:=⟨ax.heap,V,by rw[Yk _ _ hos];rfl⟩
 have T0:cQ (KF (HH w)) Y:=⟨X,G.T.nolimit,⟨mg,G.T.g⟩,⟨mb,G.T.b,G.T.builtins⟩⟩
 have hl:bw Y:=by show(if(0:Nat)=0 then((dT ns++[0]).length:Int) else 0)=_;rw[d7 rfl]
 have ck:Y.V.β 17=0:=rfl
 have PW:Nc yS.prog Y:=⟨P8,X1,λq m=>bz (ahj w.params q m) λo a b=>⟨o,Yk _ _ a,b⟩⟩
 obtain⟨aX,code⟩:=law_code T0 hl PW ns hn ck rfl
 let Gh0:Gh:=⟨V,λb=>ax.heap.get? b,none,λ_=>False,λ_=>False⟩
 have R:cp w.params 1521 Y Gh0 none ax:=⟨λ_ _ h=>h,λ_ _ h=>h,rfl,λ_ h=>h.elim,λ_ h=>h.elim,λ_ h=>h.elim,rfl⟩
 have agS:eC w.params Gh0 [.lst (ns.map .int)] [.ref l]:=by
  obtain⟨o',ho',_,n,Ap⟩:=hL
  rw[show ofPy (.list (ns.map PyData.int))=WData.list (ofPys (ns.map PyData.int)) by simp[ofPy]] at wl
  cases wl with
  |list hg hw=>
   rw[hg] at ho'
   cases ho'
   cases Ap
   have hz:us.length<=lim:=by
    have:us.length=ns.length:=by
     have:=(rE (P:=w.params) (G:=Gh0) hI).length
     rw[mG] at this
     exact this.symm
    rw[this];exact bB hn (by decide)
   exact .cons (.lst (n:=0) hg hz (rE hI)) .nil
 refine enter_call (codeAny_mono (code callerA Gh0 ax [.ref l] [] ⟨by decide,by decide,rfl⟩ R agS .nil (λv s'=>v=.bool true/\(∀b o,ax.heap.get? b=some o->s'.heap.get? b=some o)/\s'.os=ax.os/\s'.gens=ax.gens) λG' v s' R' lat _ dv=>⟨dv,λb o h=>lat.kept b o h (λq=>q.elim),lat.os,lat.gens⟩) λx s' q=>?_)
 rcases x with e|fl
 ·exact q.elim
 cases fl<;>first|exact q.elim|skip
 obtain⟨rfl,kept,os,gens⟩:=q
 refine⟨.inl ⟨_,.bool true,[],rfl,?_,.bool true,?_,?_⟩,.of_keep kept,os,.of_eq (gens.trans aaR)⟩
 ·intro cls;rfl
 ·kernel_rfl
 ·exactλ_=>⟨.nil,λ_ h=>nomatch h⟩
end
end Mine
theorem PySem.Challenge.cw_te0007_01_holds : PySem.Challenge.rw_te0007_01.Holds :=
  ⟨Mine.ac8, Mine.ain (PySem.W.row_said Mine.ac8) Mine.call_of⟩
