/- A step. No condition. -/
import Derived.Tactics
import Derived.Orders
import Derived.KernelRfl
import Derived.Test.YtollddkkdgoonaaGreatDoorProg
import Derived.Laws.Append
import Derived.Laws.MakeOwn
import Derived.Laws.CopyRow
import Derived.Laws.AppendOwn
import Derived.Laws.StructEq
namespace Go.Proofs.YtollddkkdgoonaaGreatDoor
open Go
set_option linter.unusedVariables false
set_option linter.unusedSimpArgs false
set_option linter.defProp false
set_option maxRecDepth 100000
def A8:=@List.mk_mem_zipIdx_iff_getElem?
def A9:=@Nat.div_le_self
def B0:=@List.getElem?_eq_getElem
def B6:=@List.take_append_drop
def C0:=@List.length_append
def C2:=@Nat.mod_eq_of_lt
def C4:=@List.length_nil
def C5:=@List.drop_eq_nil_of_le
def C6:=@Nat.le_trans
def C7:=@Array.length_toList
def C8:=@Nat.sub_zero
def C9:=@Option.getD_some
def D0:=@if_pos
def D1:=@List.mem_of_getElem?
def D3:=@List.getElem?_eq_none
def D4:=@Array.getElem?_setIfInBounds
def D5:=@List.map_map
def D6:=@Nat.sub_self
def D7:=@Prod.mk.injEq
def D8:=@List.take_succ_cons
def E6:=@List.pairwise_map
def E7:=@List.map_set
def E8:=@List.set_append_right
def F0:=@if_neg
def F6:=@List.sum_cons
def F8:=@UInt8.lt_iff_toNat_lt
def G0:=@List.getElem?_eq_some_iff
def G4:=@List.getElem?_set
def G5:=@List.mem_filter
def G6:=@Nat.zero_mul
def G7:=@List.length_filter_le
def G8:=@List.sum_append
def H0:=@decide_eq_true
def H2:=@List.map_append
def H3:=@Nat.mul_le_mul_right
def H4:=@List.mem_singleton
def H5:=@List.drop_drop
def H6:=@List.mem_range
def H7:=@Nat.xor_lt_two_pow
def H8:=@Nat.add_assoc
def I0:=@Nat.le_refl
def I1:=@List.mem_cons
def I2:=@List.getElem?_take
def I3:=@List.extract_eq_take_drop
def I4:=@List.drop_append_of_le_length
def I5:=@List.drop_zero
def I7:=@List.getElem_mem
def J0:=@decide_eq_false
def J1:=@List.length_cons
def J2:=@List.length_drop
def J3:=@congrArg
def J4:=@List.foldl_cons
def J5:=@Int.toNat_natCast
def J6:=@UInt8.toNat_inj
def J7:=@List.map_take
def J8:=@List.filter_congr
def K3:=@Bool.false_eq_true
def K4:=@Option.map_eq_some_iff
def K5:=@List.all_eq_true
def K6:=@List.length_pos_iff
def K7:=@List.take_zero
def K8:=@Array.getElem?_eq_getElem
def L0:=@Go.Result.andThen_ok
def L1:=@List.take_length
def L2:=@List.take_append_of_le_length
def L4:=@List.getElem?_cons_zero
def L5:=@List.filter_append
def L6:=@List.getElem_of_mem
def L7:=@List.take_left
def L8:=@List.extract_toArray
def M0:=@List.length_replicate
def M2:=@Option.some.injEq
def M3:=@List.flatMap_cons
def M4:=@Nat.add_sub_cancel_left
def M5:=@Nat.mul_one
def M6:=@List.foldl_append
def M7:=@Bool.not_eq_true'
def M8:=@List.pairwise_append
def N3:=@List.drop_eq_getElem_cons
def N4:=@List.mem_append
def N5:=@Option.map_some
def N6:=@Array.ext_getElem?
def N7:=@Bool.or_eq_true
def N8:=@List.Perm.refl
def O1:=@Go.Sem.run_pure
def O2:=@List.size_toArray
def O3:=@List.take_add_one
def O4:=@List.ext_getElem?
def O5:=@List.length_set
def O6:=@Nat.lt_of_lt_of_le
def O7:=@Nat.and_le_left
def O8:=@Nat.add_comm
def P0:=@List.append_assoc
def P3:=@Bool.not_true
def P4:=@Array.ext'
def P5:=@Nat.lt_or_ge
def P6:=@Nat.one_mul
def P7:=@Array.mem_of_getElem?
def P8:=@List.map_nil
def Q0:=@Go.Sem.run_bind
def Q1:=@List.map_cons
def Q2:=@Nat.zero_le
def Q3:=@List.getElem?_drop
def Q4:=@List.map_congr_left
def Q5:=@Array.getD_eq_getD_getElem?
def Q6:=@Nat.or_lt_two_pow
def Q7:=@Array.getElem?_toList
def Q8:=@List.take_append_getElem
def R8:=@List.drop_succ_cons
def S3:=@Array.getElem?_eq_some_iff
def S4:=@List.nodup_append
def S5:=@Nat.add_sub_cancel
def S6:=@List.getElem?_replicate
def S7:=@Int.ofNat_lt
def S8:=@List.take_replicate
def T0:=@List.mem_cons_self
def T5:=@Bool.not_false
def T6:=@List.take_take
def T7:=@UInt8.toNat_ofNat'
def T8:=@List.replicate_zero
def U0:=@List.mem_cons_of_mem
def U1:=@Nat.zero_add
def U2:=@List.nil_append
def U3:=@List.length_singleton
def U4:=@List.nodup_cons
def U5:=@List.drop_left
def U6:=@Nat.lt_of_le_of_lt
def U7:=@List.all_cons
def U8:=@Nat.and_two_pow_sub_one_eq_mod
def V0:=@Option.some.inj
def V1:=@List.mem_map
def V2:=@Nat.min_eq_left
def V3:=@List.drop_take
def V4:=@Bool.toNat_le
def V5:=@Nat.add_mul
def V6:=@List.pairwise_cons
def V7:=@List.not_mem_nil
def V8:=@List.mem_append_right
def W0:=@List.getD_eq_getElem?_getD
def W1:=@List.length_take
def W2:=@Bool.and_eq_true
def W4:=@decide_eq_true_eq
def W5:=@List.flatMap_append
def W6:=@List.map_replicate
def W7:=@Nat.eq_of_beq_eq_true
def W8:=@Nat.pow_le_pow_right
def X0:=@List.append_nil
def X1:=@List.getElem?_append_right
def X2:=@List.take_of_length_le
def X4:=@List.length_eq_zero_iff
def X5:=@List.mem_append_left
def X6:=@List.drop_length
def X7:=@Nat.eq_zero_or_pos
def X8:=@List.map_drop
def Y0:=@List.getElem?_map
def Y4:=@List.getElem?_cons_succ
def Y5:=@List.cons_append
def Y6:=@List.flatMap_singleton
def Y7:=@List.getElem?_toArray
def Y8:=@List.takeWhile_cons
def Z0:=@List.length_map
def Z1:=@List.getElem?_append_left
def Z4:=@Nat.add_zero
def Z5:=@Option.isSome_none
def Z6:=@List.mem_flatMap
def Z7:=@List.pairwise_iff_getElem
def Z8:=@List.dropWhile_cons
abbrev Vz:=Value
abbrev Tj:=TypeId
abbrev Iq:=IntKind
abbrev H:=Array Obj
abbrev Env:=Nat->Vz
abbrev Kt:=Vz->H->Prop
def QE (e:Env)(i:Nat)(v:Vz):Env:=fun j=>bif Nat.beq j i then v else e j
def ev (e:Env):Operand->Vz
 | .tmp t=>e t
 | .const v=>v
 | .global g=>.pointer (some ⟨g,0,none⟩)
 | .func f=>.func (.func f) #[] #[]
def qk (h h':H):Prop:=∀ i,i<h.size->h'[i]? = h[i]?
abbrev Pt (b:Nat):Vz:=.pointer (some ⟨b,0,none⟩)
def Ra (h:H)(a:Addr):Option Vz:=
 match h[a.block]? with
 | some (.cells c _ _)=>if a.spot.isSome then none else c[a.off]?
 | _=>none
def Do (w w':World):Prop:=w'.os=w.os/\w'.output=w.output
def mw (w:World)(k:Kt):Ending->World->Prop
 | .returned v,w'=>Do w w'/\k v w'.heap
 | _,_=>False
def Call (P:Program)(f:FuncId)(args:List Vz)(h:H)(k:Kt):Prop:=
 ∀ w:World,w.heap=h->Calls P f args.toArray w (mw w k)
def DD (P:Program)(t:Tj):Bool:=match P.underlying t with|some (.struct _)|some (.array _ _)=>true|_=>false
def BM (P:Program)(t:Tj):Nat:=((P.info? t).map (·.size)).getD 0
def Fh (P:Program)(t:Tj):Nat:=((P.info? t).map (·.bytes)).getD 0
def Am (P:Program)(t:Tj):Option Vz:=(P.info? t).bind (·.zero)
def GA (P:Program)(t:Tj):Bool:=(P.underlying t).isSome && !Nat.beq (BM P t) 0
def Gl (P:Program)(t:Tj):Option Tj:=match P.underlying t with|some (.slice e)=>bif GA P e then some e else none|_=>none
def Ov (P:Program)(t:Tj):Option TypeDesc:=match P.underlying t with|some (.map k _)=>P.underlying k|_=>none
def AGv (P:Program)(t:Tj):Option Tj:=match P.underlying t with|some (.map _ e)=>some e|_=>none
def SU (P:Program)(t:Tj)(f:Nat):Option Nat:=
 match P.underlying t with
 | some (.struct fs)=>match fs[f]? with
  | some fd=>bif GA P fd.type then some fd.offset else none
  | none=>none
 | _=>none
def BJ (c:Vz)(A B:Prop):Prop:=match c with|.bool t=>bif t then A else B|_=>False
def CR (c:Vz)(want:Bool)(A B:Prop):Prop:=match c with|.bool t=>bif (t == want) then A else B|_=>False
def skN (c:Vz)(want:Bool)(B:Prop):Prop:=match c with|.bool t=>bif (t == want) then False else B|_=>B
def KU (c a b:Vz)(k:Vz->Prop):Prop:=match c with|.bool t=>k (bif t then a else b)|_=>False
def Bc (T:Tj)(cs:Array Vz)(h:H)(k:Kt):Prop:=
 ∀ b h',qk h h'->h.size<=b->h'[b]? = some (.cells cs T (0,0))->k (Pt b) h'
def Ak (z:Option Vz)(T:Tj)(h:H)(k:Kt):Prop:=match z with|some z=>Bc T z.cells h k|none=>False
def Qw (agg:Bool)(n:Nat)(h:H)(p:Addr):Option Vz:=
 bif agg then
  match h[p.block]? with
  | some (.cells c _ _)=>if p.spot.isSome then none else if p.off+n<=c.size then some (.agg (c.extract p.off (p.off+n))) else none
  | _=>none
 else Ra h p
def Ae (agg:Bool)(n:Nat)(a:Vz)(h:H)(k:Vz->Prop):Prop:=∃ p v,a=.pointer (some p)/\Qw agg n h p=some v/\k v
def Av (c:Array Vz):Nat->List Vz->Array Vz
 | _,[]=>c
 | o,v::vs=>Av (c.setIfInBounds o v) (o+1) vs
def BV (n:Nat)(a v:Vz)(h:H)(k:H->Prop):Prop:=
 ∃ p c T,a=.pointer (some p)/\p.spot=none/\h[p.block]? = some (.cells c T (0,0))/\v.cells.size=n/\p.off+n<=c.size/\(v.cells.toList.all Value.oneCell'=true)/\
  k (h.setIfInBounds p.block (.cells (Av c p.off v.cells.toList) T (0,0)))
def Qf:Vz->Bool
 | .pointer (some _)=>true
 | .func (.func _) _ _=>true
 | _=>false
def BS (x:Vz)(k:Vz->Prop):Prop:=Qf x=true/\k x
def Aw (off:Nat)(x:Vz)(k:Vz->Prop):Prop:=∃ p,x=.pointer (some p)/\k (.pointer (some (p.add off)))
def Ck (x:Vz)(i:Nat)(k:Vz->Prop):Prop:=∃ vs v,x=.tuple vs/\vs[i]? = some v/\k v
def DO (op:BinOp)(x y:Vz):Option Vz:=
 match x,y with
 | .int k a,.int k' b=>
  match op with
  | .shl=>if b<0 then none else some (.int k (k.wrap (a*2^(min b.toNat k.bits))))
  | .shr=>if b<0 then none else some (.int k (a.fdiv (2^(min b.toNat k.bits))))
  | op=>if k=k' then
    match op with
    | .add=>some (.int k (k.wrap (a+b)))
    | .sub=>some (.int k (k.wrap (a-b)))
    | .mul=>some (.int k (k.wrap (a*b)))
    | .quo=>if b=0 then none else some (.int k (k.wrap (a.tdiv b)))
    | .rem=>if b=0 then none else some (.int k (a.tmod b))
    | .and=>some (.int k (k.wrap (BitVec.ofInt k.bits a &&& BitVec.ofInt k.bits b).toNat))
    | .or=>some (.int k (k.wrap (BitVec.ofInt k.bits a ||| BitVec.ofInt k.bits b).toNat))
    | .xor=>some (.int k (k.wrap (BitVec.ofInt k.bits a ^^^ BitVec.ofInt k.bits b).toNat))
    | .andNot=>some (.int k (k.wrap (BitVec.ofInt k.bits a &&& ~~~ BitVec.ofInt k.bits b).toNat))
    | .lss=>some (.bool (decide (a<b)))
    | .leq=>some (.bool (decide (a<=b)))
    | .gtr=>some (.bool (decide (a>b)))
    | .geq=>some (.bool (decide (a>=b)))
    | .eql=>some (.bool (a == b))
    | .neq=>some (.bool (a != b))
    | _=>none
   else none
 | .string a,.string b=>
  match op with
  | .add=>if ((a.size+b.size:Nat):Int)>IntKind.i64.max then none else some (.string (a++b))
  | .eql=>some (.bool (a.toList == b.toList))
  | .neq=>some (.bool (!(a.toList == b.toList)))
  | .lss=>some (.bool (Op.bytesLess a.toList b.toList))
  | .leq=>some (.bool (Op.bytesLess a.toList b.toList||a.toList == b.toList))
  | .gtr=>some (.bool (!(Op.bytesLess a.toList b.toList||a.toList == b.toList)))
  | .geq=>some (.bool (!(Op.bytesLess a.toList b.toList)))
  | _=>none
 | _,_=>none
def AQ (op:BinOp)(x y:Vz)(k:Vz->Prop):Prop:=∃ v,DO op x y=some v/\k v
def Jv (h:H)(a:Addr):Bool:=match h[a.block]? with|some (.cells _ _ (0,0))=>true|_=>false
def EQ:List Bool->List Vz->List Vz->Option Bool
 | [],[],[]=>some true
 | false::l,.int k a::xs,.int k' b::ys=>if k=k' then (if a == b then EQ l xs ys else some false) else none
 | true::l,.bool a::xs,.bool b::ys=>if a == b then EQ l xs ys else some false
 | _,_,_=>none
inductive EqKind where
 | bool|ptr|iface|slice|map|func|flat (l:List Bool)|none
def Oc (P:Program):Nat->List Field->Option (List Bool)
 | _,[]=>some []
 | i,f::r=>bif f.offset == i&&f.name != "_" then match P.underlying f.type,Oc P (i+1) r with
  | some (.int _),some l=>some (false::l)
  | some .bool,some l=>some (true::l)
  | _,_=>none
  else none
def i6 (P:Program)(t:Tj)(fs:Array Field):EqKind:=match Oc P 0 fs.toList with
 | some l=>bif P.stoodInHeld t||P.eqGuardType P.depth t then .none else .flat l
 | none=>.none
def CL (P:Program)(t:Tj):EqKind:=
 match P.underlying t with
 | some .bool=>.bool
 | some (.pointer e)=>if BM P e=0 then .none else .ptr
 | some (.interface _)=>.iface
 | some (.slice _)=>.slice
 | some (.map _ _)=>.map
 | some (.func _ _ _)=>.func
 | some (.struct fs)=>i6 P t fs
 | _=>.none
def HS (d:EqKind)(c:Bool)(h:H)(x y:Vz):Option Bool:=
 match d,x,y with
 | .bool,.bool a,.bool b=>some (a == b)
 | .ptr,.pointer none,.pointer b=>some b.isNone
 | .ptr,.pointer (some _),.pointer none=>some false
 | .ptr,.pointer (some a),.pointer (some b)=>if a.block=b.block then some (a == b) else if Jv h a&&Jv h b then some false else none
 | .iface,.nilIface,.nilIface=>if c then some true else none
 | .iface,.nilIface,.iface _ _=>some false
 | .iface,.iface _ _,.nilIface=>some false
 | .slice,.slice none _ _,.slice b _ _=>some b.isNone
 | .slice,.slice (some _) _ _,.slice none _ _=>some false
 | .map,.map none,.map b=>some b.isNone
 | .map,.map (some _),.map none=>some false
 | .func,.nilFunc,.nilFunc=>some true
 | .func,.nilFunc,.func _ _ _=>some false
 | .func,.func _ _ _,.nilFunc=>some false
 | .flat l,.agg a,.agg b=>EQ l a.toList b.toList
 | _,_,_=>none
def HF (d:EqKind)(c neg:Bool)(h:H)(x y:Vz)(k:Vz->Prop):Prop:=∃ r,HS d c h x y=some r/\k (.bool (bif neg then !r else r))
def unV (op:UnOp)(x:Vz):Option Vz:=
 match op,x with
 | .not,.bool b=>some (.bool (!b))
 | .neg,.int k n=>some (.int k (k.wrap (0-n)))
 | .xor,.int k n=>some (.int k (k.wrap (BitVec.ofInt k.bits (if k.signed then -1 else k.max) ^^^ BitVec.ofInt k.bits n).toNat))
 | _,_=>none
def unN (op:UnOp)(x:Vz)(k:Vz->Prop):Prop:=∃ v,unV op x=some v/\k v
def GO (d:Iq)(x:Vz)(k:Vz->Prop):Prop:=∃ s n,x=.int s n/\k (.int d (d.wrap n))
def EY : List Vz->Option (List UInt8)
 | []=>some []
 | .int .u8 n::r=>match EY r with|some l=>some (UInt8.ofNat n.toNat::l)|none=>none
 | _=>none
def OE (h:H)(x:Vz):Option Vz:=
 match x with
 | .slice none _ _=>some (.string .empty)
 | .slice (some a) len _=>
  match h[a.block]? with
  | some (.cells c _ _)=>if a.spot.isSome then (if len=0 then some (.string .empty) else none) else if a.off+len<=c.size then
    match EY (c.extract a.off (a.off+len)).toList with|some l=>some (.string ⟨l.toArray⟩)|none=>none
   else if len=0 then some (.string .empty) else none
  | _=>if len=0 then some (.string .empty) else none
 | _=>none
def r8 (x:Vz)(h:H)(k:Vz->Prop):Prop:=∃ v,OE h x=some v/\k v
def DJ (s:ByteArray):Array Vz:=s.data.map fun b=>.int .u8 b.toNat
def AEU (T:Tj)(x:Vz)(h:H)(k:Kt):Prop:=
 ∃ s,x=.string s/\∀ b cap h',s.size<=cap->qk h h'->h.size<=b ->
  h'[b]? = some (.cells (DJ s++Array.replicate (cap-s.size) (.int .u8 0)) T (cap,cap+1))->k (.slice (some ⟨b,0,none⟩) s.size cap) h'
def Sn (h:H)(k:Kt):Prop:=∀ b h',qk h h'->h.size<=b->h'[b]? = some (.map #[] 0)->k (.map (some b)) h'
def BN (z:Array Vz)(n:Nat):Array Vz:=(Array.range n).map (z[· % z.size]!)
def Aa (z:Option Vz)(sz by_:Nat)(T:Tj)(l c:Vz)(h:H)(k:Kt):Prop:=
 ∃ kl kc n m zv,l=.int kl n/\c=.int kc m/\z=some zv/\0<=n/\n<=m/\m*by_<=140737488355328/\m<=140737488355328/\∀ b h',qk h h'->h.size<=b ->
  h'[b]? = some (.cells (BN zv.cells (m.toNat*sz)) T (0,0))->k (.slice (some ⟨b,0,none⟩) n.toNat m.toNat) h'
inductive SliceKind where
 | str|slice (sz:Nat)|arr (n sz:Nat)|none
def DU (P:Program)(t:Tj):SliceKind:=
 match P.underlying t with
 | some .string=>.str
 | some (.slice e)=>bif GA P e then .slice (BM P e) else .none
 | some (.array n e)=>bif GA P e then .arr n (BM P e) else .none
 | _=>.none
def Bb (d:Nat):Option Vz->Option Nat
 | none=>some d
 | some (.int _ i)=>if 0<=i then some i.toNat else none
 | some _=>none
def Bi (d:SliceKind)(x:Vz)(lo hi:Option Vz):Option Vz:=
 match d,x with
 | .str,.string s=>match Bb 0 lo,Bb s.size hi with
  | some l,some h=>if l<=h/\h<=s.size then some (.string (s.extract l h)) else none
  | _,_=>none
 | .slice sz,.slice a len cap=>match Bb 0 lo,Bb len hi with
  | some l,some h=>if l<=h/\h<=cap then some (.slice (if cap=l then a else a.map (·.add (l*sz))) (h-l) (cap-l)) else none
  | _,_=>none
 | .arr n sz,.pointer (some a)=>match Bb 0 lo,Bb n hi with
  | some l,some h=>if l<=h/\h<=n then some (.slice (some (if n=l then a else a.add (l*sz))) (h-l) (n-l)) else none
  | _,_=>none
 | _,_=>none
def Cf (d:SliceKind)(x:Vz)(lo hi:Option Vz)(k:Vz->Prop):Prop:=∃ v,Bi d x lo hi=some v/\k v
def Ap (d:SliceKind)(x i:Vz)(k:Vz->Prop):Prop:=
 ∃ kk n,i=.int kk n/\match d with
  | .slice sz=>∃ a len cap,x=.slice (some a) len cap/\0<=n/\n<(len:Int)/\k (.pointer (some (a.add (n.toNat*sz))))
  | .arr m sz=>∃ a,x=.pointer (some a)/\0<=n/\n<(m:Int)/\k (.pointer (some (a.add (n.toNat*sz))))
  | _=>False
def Ef (x i:Vz)(k:Vz->Prop):Prop:=∃ s kk n b,x=.string s/\i=.int kk n/\0<=n/\s[n.toNat]? = some b/\k (.int .u8 b.toNat)
def VB (agg:Bool)(sz:Nat)(cs:Array Vz)(off:Nat):Option Vz:=bif agg then some (.agg (cs.extract off (off+sz))) else cs[off]?
def Jq (agg:Bool)(len sz:Nat)(x i:Vz)(k:Vz->Prop):Prop:=∃ cs kk n v,x=.agg cs/\i=.int kk n/\0<=n/\n<(len:Int)/\VB agg sz cs (n.toNat*sz)=some v/\k v
def Ng (agg:Bool)(off sz:Nat)(x:Vz)(k:Vz->Prop):Prop:=∃ cs v,x=.agg cs/\VB agg sz cs off=some v/\k v
def JM:Vz->Vz->Option Bool
 | .string a,.string b=>some (a == b)
 | .int k a,.int k' b=>if k=k' then some (a == b) else none
 | .bool a,.bool b=>some (a == b)
 | _,_=>none
def DI (k:Vz):List MapEntry->Nat->Option (Option (Nat×Vz))
 | [],_=>some none
 | e::es,i=>match JM k e.key with
  | some true=>some (some (i,e.val))
  | some false=>DI k es (i+1)
  | none=>none
def Lc (h:H)(x key:Vz):Option (Option (Nat×Vz)):=
 match x with
 | .map none=>some none
 | .map (some r)=>match h[r]? with
  | some (.map es _)=>DI key es.toList 0
  | _=>none
 | _=>none
def EA:Option TypeDesc->Vz->Bool
 | some .string,.string _=>true
 | some (.int k),.int k' _=>k == k'
 | some .bool,.bool _=>true
 | _,_=>false
def IV (kd:Option TypeDesc)(z:Option Vz)(ok:Bool)(x key:Vz)(h:H)(k:Vz->Prop):Prop:=
 EA kd key=true/\∃ zv r,z=some zv/\Lc h x key=some r /\
  k (match r with|some (_,v)=>(bif ok then .tuple #[v,.bool true] else v)|none=>(bif ok then .tuple #[zv,.bool false] else zv))
def Yn (es:Array MapEntry)(clock:Nat)(key v:Vz):Option (Option (Nat×Vz))->Option Obj
 | some (some (i,_))=>some (.map (es.modify i fun e=>{e with key,val:=v}) clock)
 | some none=>some (.map (es.push {key,val:=v,born:=clock}) (clock+1))
 | none=>none
def Ld (kd:Option TypeDesc)(x key v:Vz)(h:H)(k:H->Prop):Prop:=
 EA kd key=true/\∃ r es clock o,x=.map (some r)/\h[r]? = some (.map es clock)/\Yn es clock key v (DI key es.toList 0)=some o/\k (h.setIfInBounds r o)
def Sh (kd:Option TypeDesc)(x key:Vz)(h:H)(k:H->Prop):Prop:=
 EA kd key=true/\∃ r es clock q,x=.map (some r)/\h[r]? = some (.map es clock)/\DI key es.toList 0=some q /\
  k (h.setIfInBounds r (match q with|some (i,_)=>.map (es.eraseIdxIfInBounds i) clock|none=>.map es clock))
def HM (x:Vz)(h:H)(k:Kt):Prop:=
 match x with
 | .map none=>∀ b h',qk h h'->h.size<=b->h'[b]? = some (.mapIter none 0 #[] 0)->k (Pt b) h'
 | .map (some m)=>∃ es clock,h[m]? = some (.map es clock)/\∀ b h',qk h h'->h.size<=b->h'[b]? = some (.mapIter (some m) clock #[] clock)->k (Pt b) h'
 | _=>False
def PH (x:Vz)(h:H)(k:Kt):Prop:=
 ∃ r,x=Pt r/\((∃ s seen l,h[r]? = some (.mapIter none s seen l)/\k (.tuple #[.bool false]) h)\/
  ∃ m since seen es,h[r]? = some (.mapIter (some m) since seen since)/\h[m]? = some (.map es since)/\(∀ e∈es,e.born<since)/\
   ((∀ e∈es,seen.contains e.born=true)->k (.tuple #[.bool false]) h)/\
   ∀ e∈es,seen.contains e.born=false->k (.tuple #[.bool true,e.key,e.val]) (h.setIfInBounds r (.mapIter (some m) since (seen.push e.born) since)))
def OO (x:Vz)(h:H)(k:Vz->Prop):Prop:=
 ∃ r m since seen es clock stamp e,x=Pt r/\h[r]? = some (.mapIter (some m) since seen clock)/\seen.back? = some stamp/\h[m]? = some (.map es clock)/\
  es.find? (·.born == stamp)=some e/\k (.tuple #[e.key,e.val])
def PB (x:Vz)(k:Vz->Prop):Prop:=∃ s,x=.string s/\k (.int .i64 s.size)
def DM (x:Vz)(k:Vz->Prop):Prop:=∃ a n c,x=.slice a n c/\k (.int .i64 n)
def ZV (x:Vz)(k:Vz->Prop):Prop:=∃ a n c,x=.slice a n c/\k (.int .i64 c)
def Uq (x:Vz)(h:H)(k:Vz->Prop):Prop:=(x=.map none/\k (.int .i64 0))\/∃ r es c,x=.map (some r)/\h[r]? = some (.map es c)/\k (.int .i64 es.size)
def ADs (x y:Vz)(k:Vz->Prop):Prop:=∃ kk a b,x=.int kk a/\y=.int kk b/\k (.int kk (if b<a then b else a))
def AGt (x y:Vz)(k:Vz->Prop):Prop:=∃ kk a b,x=.int kk a/\y=.int kk b/\k (.int kk (if a<b then b else a))
def By (sz n:Nat)(h:H)(x:Vz):Option (Array Vz):=
 match x with
 | .slice none _ _=>some #[]
 | .slice (some a) _ _=>match h[a.block]? with
  | some (.cells c _ _)=>if a.spot.isSome then (if n*sz=0 then some #[] else none) else if a.off+n*sz<=c.size then some (c.extract a.off (a.off+n*sz)) else if n*sz=0 then some #[] else none
  | _=>if n*sz=0 then some #[] else none
 | .string s=>some (DJ (s.extract 0 n))
 | _=>none
def srcLen (x:Vz):Option Nat:=match x with|.slice _ n _=>some n|.string s=>some s.size|_=>none
def Mp (T:Tj)(z:Option Vz)(sz by_:Nat)(s:Vz)(n:Nat)(new:Array Vz)(h:H)(k:Kt):Prop:=
 ∃ base len cap zv old,s=.slice base len cap/\z=some zv/\zv.cells.size=sz/\(len+n)*by_<=140737488355328/\len+n<=140737488355328 /\
  By sz len h s=some old /\
  (len+n<=cap->(base=none/\new=#[]/\k (.slice none (len+n) cap) h)\/
   ∃ a c T',base=some a/\a.spot=none/\h[a.block]? = some (.cells c T' (0,0))/\a.off+(len+n)*sz<=c.size/\new.toList.all Value.oneCell'=true /\
    k (.slice base (len+n) cap) (h.setIfInBounds a.block (.cells (Av c (a.off+len*sz) new.toList) T' (0,0))))/\
  (cap<len+n->∀ b c' h',len+n<=c'->c'<=9223372036854775807->qk h h'->h.size<=b ->
   h'[b]? = some (.cells (old++new++Builtin.zeroCells zv.cells (c'-(len+n))) T (0,0))->k (.slice (some ⟨b,0,none⟩) (len+n) c') h')
def Ac (T:Tj)(z:Option Vz)(sz by_:Nat)(s x:Vz)(h:H)(k:Kt):Prop:=
 ∃ n new,srcLen x=some n/\By sz n h x=some new/\Mp T z sz by_ s n new h k
def HY (T:Tj)(z:Option Vz)(sz by_:Nat)(s x:Vz)(h:H)(k:Kt):Prop:=
 ∃ kk l zv,x=.int kk l/\0<=l/\l*by_<=140737488355328/\l<=140737488355328/\z=some zv /\
  Mp T z sz by_ s l.toNat (if l.toNat*sz=0 then #[] else Builtin.zeroCells zv.cells l.toNat) h k
def JB (sz:Nat)(d x:Vz)(h:H)(k:Kt):Prop:=
 ∃ base len cap n cs,d=.slice base len cap/\srcLen x=some n/\By sz (min n len) h x=some cs /\
  ((base=none/\k (.int .i64 (min n len:Nat)) h)\/
   ∃ a c T,base=some a/\a.spot=none/\h[a.block]? = some (.cells c T (0,0))/\a.off+cs.size<=c.size/\cs.toList.all Value.oneCell'=true /\
    k (.int .i64 (min n len:Nat)) (h.setIfInBounds a.block (.cells (Av c a.off cs.toList) T (0,0))))
def GJ (asserted:Tj)(z:Option Vz)(ok:Bool)(x:Vz)(k:Vz->Prop):Prop:=
 ∃ zv,z=some zv/\match x with
  | .nilIface=>ok=true/\k (.tuple #[zv,.bool false])
  | .iface t v=>if t=asserted then k (bif ok then .tuple #[v,.bool true] else v) else ok=true/\k (.tuple #[zv,.bool false])
  | _=>False
def Lh (P:Program)(fs:List Field):List (Nat×Nat):=fs.map fun f=>(f.offset,BM P f.type)
inductive BuildKind where
 | struct (places:List (Nat×Nat))|arr (sz:Nat)|none
def GN (P:Program)(t:Tj):BuildKind:=
 match P.underlying t with
 | some (.struct fs)=>bif fs.toList.all (fun f=>GA P f.type) then .struct (Lh P fs.toList) else .none
 | some (.array _ e)=>bif GA P e then .arr (BM P e) else .none
 | _=>.none
def DB (d:BuildKind):Nat->Option (Nat×Nat):=
 match d with
 | .struct l=>fun i=>l[i]?
 | .arr sz=>fun i=>some (i*sz,sz)
 | .none=>fun _=>Option.none
def An (d:BuildKind)(z:Option Vz)(parts:List (Nat×Vz))(k:Vz->Prop):Prop:=
 ∃ zv cs,z=some zv/\Instr.fill (DB d) zv.cells parts=some cs/\k (.agg cs)
def AK (d:BuildKind)(T:Tj)(z:Option Vz)(sz n:Nat)(parts:List (Nat×Vz))(h:H)(k:Kt):Prop:=
 ∃ zv cs,z=some zv/\n*sz<=16777216/\Instr.fill (DB d) (if n*sz=0 then #[] else BN zv.cells (n*sz)) parts=some cs /\
  ∀ b h',qk h h'->h.size<=b->h'[b]? = some (.cells cs T (0,0))->k (.slice (some ⟨b,0,none⟩) n n) h'
def qp (P:Program)(f:Vz)(args:List Vz)(h:H)(k:Kt):Prop:=∃ n fst cap,f=.func (.func n) fst cap/\Call P n (fst.toList++args++cap.toList) h k
def Fv:Operand->Bool
 | .const _=>true
 | _=>false
def Ke (P:Program)(t:Tj):Bool:=match P.underlying t with|some .string=>true|some (.int _)=>true|_=>false
def Ii (P:Program)(f:FuncId):Bool:=match P.funcs[f]? with|some fn=>fn.body.isSome|none=>false
def Mn (op:BinOp):Option Bool:=match op with|.eql=>some false|.neq=>some true|_=>none
def Lf (P:Program)(o:Oper)(ρ:Operand->Vz)(h:H)(k:Kt):Prop:=
 match o.op with
 | .move x=>k (ρ x) h
 | .assign x=>k (ρ x) h
 | .pick c a b=>KU (ρ c) (ρ a) (ρ b) fun v=>k v h
 | .alloc t=>Ak (Am P t) t h k
 | .box t x=>Bc t (ρ x).cells h k
 | .build t parts=>match GN P t with
  | .none=>False
  | d=>An d (Am P t) (parts.toList.map fun p=>(p.1,ρ p.2)) fun v=>k v h
 | .buildSlice t n parts=>match Gl P t with
  | some e=>AK (.arr (BM P e)) e (Am P e) (BM P e) n (parts.toList.map fun p=>(p.1,ρ p.2)) h k
  | none=>False
 | .load t a=>bif GA P t then Ae (DD P t) (BM P t) (ρ a) h fun v=>k v h else False
 | .store t a v=>bif GA P t then BV (BM P t) (ρ a) (ρ v) h fun h=>k undef h else False
 | .nilCheck x=>BS (ρ x) fun v=>k v h
 | .binOp op t x y _=>
  bif Ke P t then AQ op (ρ x) (ρ y) fun v=>k v h
  else match Mn op with
   | some neg=>HF (CL P t) (Fv x||Fv y) neg h (ρ x) (ρ y) fun v=>k v h
   | none=>False
 | .unOp op _ x=>unN op (ρ x) fun v=>k v h
 | .convert s d x=>
  match P.underlying s,P.underlying d with
  | some (.int _),some (.int kd)=>GO kd (ρ x) fun v=>k v h
  | some .string,some .string=>(∃ s,ρ x=.string s)/\k (ρ x) h
  | some .string,some (.slice e)=>match P.underlying e with
   | some (.int .u8)=>AEU e (ρ x) h k
   | _=>False
  | some (.slice e),some .string=>match P.underlying e with
   | some (.int .u8)=>r8 (ρ x) h fun v=>k v h
   | _=>False
  | _,_=>False
 | .makeInterface t x=>match P.underlying t with
  | some (.interface _)=>False
  | some _=>k (.iface t (ρ x)) h
  | none=>False
 | .makeFunc fn first captured=>k (.func fn (first.map ρ) (captured.map ρ)) h
 | .makeMap _ none=>Sn h k
 | .makeSlice t l c=>match Gl P t with
  | some e=>Aa (Am P e) (BM P e) (Fh P e) e (ρ l) (ρ c) h k
  | none=>False
 | .slice t x lo hi none=>Cf (DU P t) (ρ x) (lo.map ρ) (hi.map ρ) fun v=>k v h
 | .fieldAddr t x f=>match SU P t f with
  | some off=>Aw off (ρ x) fun v=>k v h
  | none=>False
 | .field t x f=>match P.underlying t with
  | some (.struct fs)=>match fs[f]? with
   | some fd=>bif GA P fd.type then Ng (DD P fd.type) fd.offset (BM P fd.type) (ρ x) fun v=>k v h else False
   | none=>False
  | _=>False
 | .indexAddr t x i=>Ap (DU P t) (ρ x) (ρ i) fun v=>k v h
 | .index t x i=>match P.underlying t with
  | some .string=>Ef (ρ x) (ρ i) fun v=>k v h
  | some (.array n e)=>bif GA P e then Jq (DD P e) n (BM P e) (ρ x) (ρ i) fun v=>k v h else False
  | _=>False
 | .lookup t x i ok=>match AGv P t with
  | some e=>IV (Ov P t) (Am P e) ok (ρ x) (ρ i) h fun v=>k v h
  | none=>False
 | .mapUpdate t m i v=>Ld (Ov P t) (ρ m) (ρ i) (ρ v) h fun h=>k undef h
 | .range t x=>match P.underlying t with
  | some (.map _ _)=>HM (ρ x) h k
  | _=>False
 | .next x false=>PH (ρ x) h k
 | .entry x=>OO (ρ x) h fun v=>k v h
 | .typeAssert x _ t ok=>match P.underlying t with
  | some (.interface _)=>False
  | some _=>GJ t (Am P t) ok (ρ x) fun v=>k v h
  | none=>False
 | .extract x i=>Ck (ρ x) i fun v=>k v h
 | .call c=>match c.callee with
  | .value (.func f)=>bif Ii P f then Call P f (c.args.toList.map ρ) h k else False
  | .value f=>(∃ n fst cap,ρ f=.func (.func n) fst cap/\Ii P n=true)/\qp P (ρ f) (c.args.toList.map ρ) h k
  | .builtin .len=>match c.args.toList,c.argTypes.toList with
   | [x],[t]=>match P.underlying t with
    | some .string=>PB (ρ x) fun v=>k v h
    | some (.slice _)=>DM (ρ x) fun v=>k v h
    | some (.map _ _)=>Uq (ρ x) h fun v=>k v h
    | _=>False
   | _,_=>False
  | .builtin .cap=>match c.args.toList,c.argTypes.toList with
   | [x],[t]=>match P.underlying t with
    | some (.slice _)=>ZV (ρ x) fun v=>k v h
    | _=>False
   | _,_=>False
  | .builtin .append=>match c.args.toList,c.argTypes.toList with
   | [s,x],[t,u]=>match Gl P t,P.underlying u with
    | some e,some (.int _)=>HY e (Am P e) (BM P e) (Fh P e) (ρ s) (ρ x) h k
    | some e,some _=>Ac e (Am P e) (BM P e) (Fh P e) (ρ s) (ρ x) h k
    | _,_=>False
   | _,_=>False
  | .builtin .copy=>match c.args.toList,c.argTypes.toList with
   | [d,x],[t,_]=>match Gl P t with
    | some e=>JB (BM P e) (ρ d) (ρ x) h k
    | none=>False
   | _,_=>False
  | .builtin .min=>match c.args.toList with
   | [x,y]=>ADs (ρ x) (ρ y) fun v=>k v h
   | _=>False
  | .builtin .max=>match c.args.toList with
   | [x,y]=>AGt (ρ x) (ρ y) fun v=>k v h
   | _=>False
  | .builtin .delete=>match c.args.toList,c.argTypes.toList with
   | [m,x],t::_=>Sh (Ov P t) (ρ m) (ρ x) h fun h=>k (.tuple #[]) h
   | _,_=>False
  | _=>False
 | _=>False
def Ss (e:Env)(d:Option Tmp)(v:Vz):Env:=match d with|some d=>QE e d v|none=>e
def gdC (ops:Array Oper):Nat->Nat×Bool->Env->(Env->Prop)->(Env->Prop)->Prop
 | 0,_,_,_,_=>False
 | f+1,(j,want),e,A,B=>match ops[j]? with
  | some oj=>match oj.dst with
   | some d=>match oj.guard with
    | none=>CR (e d) want (A (QE e d (.bool want))) (B (QE e d (.bool (!want))))
    | some g=>gdC ops f g e (fun e=>CR (e d) want (A (QE e d (.bool want))) (B (QE e d (.bool (!want))))) (fun e=>skN (e d) want (B e))
   | none=>False
  | none=>False
def ql (ops:Array Oper)(g:Option (Nat×Bool))(e:Env)(A B:Env->Prop):Prop:=
 match g with
 | none=>A e
 | some g=>gdC ops 9 g e A B
def GZ (P:Program)(ops:Array Oper):List Oper->(Env->H->Prop)->Env->H->Prop
 | [],K=>K
 | o::rest,K=>fun e h=>ql ops o.guard e
   (fun e=>Lf P o (ev e) h fun v h'=>GZ P ops rest K (Ss e o.dst v) h')
   (fun e=>GZ P ops rest K (Ss e o.dst undef) h)
def calmB (P:Program)(o:Oper):Bool:=
 match o.op with
 | .assign _=>false
 | .alloc _|.box _ _|.buildSlice _ _ _|.makeSlice _ _ _|.makeMap _ _|.store _ _ _|.mapUpdate _ _ _ _|.range _ _|.next _ _=>false
 | .convert s d _=>match P.underlying s,P.underlying d with
  | some .string,some (.slice _)=>false
  | _,_=>true
 | .call c=>match c.callee with
  | .builtin .len|.builtin .cap|.builtin .min|.builtin .max=>true
  | _=>false
 | _=>true
def looksB (P:Program)(o:Oper):Bool:=
 match o.op with
 | .load _ _|.lookup _ _ _ _|.entry _=>true
 | .convert s d _=>match P.underlying s,P.underlying d with
  | some (.slice _),some .string=>true
  | _,_=>false
 | .call c=>match c.callee with
  | .builtin .len=>match (c.argTypes[0]?).bind P.underlying with|some (.map _ _)=>true|_=>false
  | _=>false
 | .binOp op t _ _ _=>match Mn op,CL P t with
  | some _,.ptr=>true
  | _,_=>false
 | _=>false
def assignB (o:Oper):Bool:=match o.op with|.assign _=>true|_=>false
def depB (o:Oper):Nat:=o.after.toList.foldl (fun s e=>bif Region.binds .any e then s ||| (1 <<< e.on) else s) 0
def hasB (s i:Nat):Bool:=Nat.beq (Nat.land (Nat.shiftRight s i) 1) 1
def Ts:List Nat->List Nat->List Nat
 | [],acc=>acc
 | d::r,acc=>Ts r (acc++[(acc.zipIdx.foldl (fun s x=>bif hasB d x.2 then s ||| x.1 else s) d)])
def Fo (L:Nat):List Nat->Nat->List Nat
 | [],_=>[]
 | d::ds,i=>bif !hasB L i&&Nat.beq (Nat.land d L) d then i::Fo L ds (i+1) else Fo L ds (i+1)
structure Kw where
 deps:List Nat
 befs:List Nat
 calm:List Bool
 looks:List Bool
 asg:List Bool
def Qq (P:Program)(ops:List Oper):Kw:=
 let deps:=ops.map depB
 ⟨deps,Ts deps [],ops.map (calmB P),ops.map (looksB P),ops.map assignB⟩
def FH (pl:Kw):List Nat->Option Nat
 | []=>none
 | i::r=>bif pl.calm.getD i false then some i else FH pl r
def Kg (L R:Nat):List Bool->Nat->List Nat
 | [],_=>[]
 | b::r,i=>bif b&&hasB L i && !hasB R i then i::Kg L R r (i+1) else Kg L R r (i+1)
def Ou (P:Program)(ops:Array Oper):List Nat->Env->H->Prop->Prop
 | [],_,_,A=>A
 | j::js,e,h,A=>(match ops[j]? with
  | some o=>ql ops o.guard e (fun e=>Lf P o (ev e) h fun v _=>v=(match o.dst with|some d=>e d|none=>undef)) (fun _=>True)
  | none=>False)/\Ou P ops js e h A
def KX (P:Program)(ops:Array Oper)(i:Nat)(ks:List Nat)(K:Env->H->Prop)(e:Env)(h:H):Prop:=
 match ops[i]? with
 | some o=>ql ops o.guard e
   (fun e=>Lf P o (ev e) h fun v h'=>Ou P ops ks (Ss e o.dst v) h' (K (Ss e o.dst v) h'))
   (fun e=>K (Ss e o.dst undef) h)
 | none=>False
def Ti:List Nat->(Nat->Env->H->Prop)->Env->H->Prop
 | [],_=>fun _ _=>True
 | [i],F=>F i
 | i::j::r,F=>fun e h=>F i e h/\Ti (j::r) F e h
def EO (P:Program)(ops:Array Oper)(pl:Kw):Nat->Nat->Nat->(Env->H->Prop)->Env->H->Prop
 | 0,L,_,K=>fun e h=>match Fo L pl.deps 0 with|[]=>K e h|_=>False
 | f+1,L,R,K=>fun e h=>match Fo L pl.deps 0 with
  | []=>K e h
  | r=>match FH pl r with
   | some i=>KX P ops i [] (EO P ops pl f (L ||| (1 <<< i)) R K) e h
   | none=>Ti r (fun i=>KX P ops i (bif pl.asg.getD i false then [] else Kg (L ||| (1 <<< i)) (R ||| pl.befs.getD i 0) pl.looks 0)
     (EO P ops pl f (L ||| (1 <<< i)) (R ||| pl.befs.getD i 0) K)) e h
def AH3 (B:(Env->H->Prop)->Env->H->Prop)(e:Env)(h:H):Prop:=
 ∃ I:Nat->Env->H->Prop,(∃ m,I m e h)/\∀ m e h,I m e h->B (fun e' h'=>∃ m',m'<m/\I m' e' h') e h
def Dv (P:Program):Code->(Env->H->Prop)->(Env->H->Prop)->(Nat->Env->H->Prop)->Env->H->Prop
 | .skip,Kn,_,_=>Kn
 | .region _ ops draw,Kn,_,_=>bif draw then EO P ops (Qq P ops.toList) ops.size 0 0 Kn else GZ P ops ops.toList Kn
 | .seq a b,Kn,Kr,Kx=>Dv P a (Dv P b Kn Kr Kx) Kr Kx
 | .cond (.tmp t) a b,Kn,Kr,Kx=>fun e h=>BJ (e t) (Dv P a Kn Kr Kx (QE e t (.bool true)) h) (Dv P b Kn Kr Kx (QE e t (.bool false)) h)
 | .block id b,Kn,Kr,Kx=>Dv P b Kn Kr (fun i=>bif Nat.beq i id then Kn else Kx i)
 | .exit id,_,_,Kx=>Kx id
 | .ret,_,Kr,_=>Kr
 | .loop b,_,Kr,Kx=>AH3 fun rec=>Dv P b rec Kr Kx
 | _,_,_,_=>fun _ _=>False
def KQ (P:Program)(rs:List ResultVar)(e:Env)(h:H)(Q:Kt):Prop:=
 match rs with
 | []=>Q (.tuple #[]) h
 | [.tmp t]=>Q (e t) h
 | [.cell a t]=>Ae (DD P t) (BM P t) (e a) h fun v=>Q v h
 | [.tmp t,.tmp u]=>Q (.tuple #[e t,e u]) h
 | [.tmp t,.tmp u,.tmp v]=>Q (.tuple #[e t,e u,e v]) h
 | [.tmp t,.tmp u,.tmp v,.tmp x]=>Q (.tuple #[e t,e u,e v,e x]) h
 | [.cell a t,.tmp u]=>Ae (DD P t) (BM P t) (e a) h fun v=>Q (.tuple #[v,e u]) h
 | [.tmp u,.cell a t]=>Ae (DD P t) (BM P t) (e a) h fun v=>Q (.tuple #[e u,v]) h
 | _=>False
def cB:Code->Code|.block _ b=>b|.loop b=>b|c=>c
def Fj (f:Func):Code:=f.body.getD .skip
def tq (args:List Vz):Env:=fun i=>args.getD i undef
abbrev OH (P:Program)(f:Vz)(args:List Vz)(h:H)(k:Kt):Prop:=(∃ n fst cap,f=.func (.func n) fst cap/\Ii P n=true)/\qp P f args h k
def JL (cs:List Nat):Code->Bool
 | .region _ ops _=>ops.toList.all fun o=>match o.dst with|some d=>!cs.any (Nat.beq d)|none=>true
 | .seq a b=>JL cs a&&JL cs b
 | .cond _ a b=>JL cs a&&JL cs b
 | .block _ b=>JL cs b
 | .loop b=>JL cs b
 | _=>true
def Ue {c:Vz}{A B A' B':Prop}(ha:A->A')(hb:B->B')(h:BJ c A B):BJ c A' B':=by
 unfold BJ at *;cases c<;>first|exact h|(rename_i t;cases t<;>first|exact hb h|exact ha h)
def AFI {Kn Kn':Env->H->Prop}{Kx Kx':Nat->Env->H->Prop}{id:Nat}(hn:∀ e h,Kn e h->Kn' e h)(hx:∀ i e h,Kx i e h->Kx' i e h) :
  ∀ i e h,(bif Nat.beq i id then Kn else Kx i) e h->(bif Nat.beq i id then Kn' else Kx' i) e h:=by
 intro i e h;cases Nat.beq i id<;>first|exact hx _ _ _|exact hn _ _
section
variable {P:Program} {h:H}
def po {c a b:Vz}{k k':Vz->Prop}(hk:∀ v,k v->k' v):KU c a b k->KU c a b k':=by
 unfold KU;cases c<;>first|exact fun h=>h|exact hk _
def Ux {T:Tj}{cs:Array Vz}{k k':Kt}(hk:∀ v h,k v h->k' v h):Bc T cs h k->Bc T cs h k':=
 fun H b h' a c d=>hk _ _ (H b h' a c d)
def WF {z:Option Vz}{T:Tj}{k k':Kt}(hk:∀ v h,k v h->k' v h):Ak z T h k->Ak z T h k':=by
 unfold Ak;cases z<;>first|exact fun h=>h|exact Ux hk
def ZC {n:Nat}{a v:Vz}{k k':H->Prop}(hk:∀ h,k h->k' h):BV n a v h k->BV n a v h k':=
 fun⟨p,c,T,h1,h2,h3,h4,h5,h6,h7⟩=>⟨p,c,T,h1,h2,h3,h4,h5,h6,hk _ h7⟩
def SX {d:SliceKind}{x i:Vz}{k k':Vz->Prop}(hk:∀ v,k v->k' v):Ap d x i k->Ap d x i k':=by
 rintro⟨kk,n,h1,h2⟩;refine⟨kk,n,h1,?_⟩;cases d<;>first
  | exact h2
  | (obtain⟨a,len,cap,h3,h4,h5,h6⟩:=h2;exact⟨a,len,cap,h3,h4,h5,hk _ h6⟩)
  | (obtain⟨a,h3,h4,h5,h6⟩:=h2;exact⟨a,h3,h4,h5,hk _ h6⟩)
def Yu {x:Vz}{k k':Kt}(hk:∀ v h,k v h->k' v h):HM x h k->HM x h k':=by
 unfold HM;cases x with
 | map r=>cases r with
  | none=>exact fun H b h' a c d=>hk _ _ (H b h' a c d)
  | some m=>rintro⟨es,clock,h1,H⟩;exact⟨es,clock,h1,fun b h' a c d=>hk _ _ (H b h' a c d)⟩
 | _=>exact fun h=>h
def ph {x:Vz}{k k':Kt}(hk:∀ v h,k v h->k' v h):PH x h k->PH x h k':=by
 rintro⟨r,h1,⟨s,seen,l,h2,h3⟩|⟨m,since,seen,es,h2,h3,h4,h5,h6⟩⟩
 ·exact⟨r,h1,.inl ⟨s,seen,l,h2,hk _ _ h3⟩⟩
 ·exact⟨r,h1,.inr ⟨m,since,seen,es,h2,h3,h4,fun a=>hk _ _ (h5 a),fun e he hs=>hk _ _ (h6 e he hs)⟩⟩
def Qc {T:Tj}{z:Option Vz}{sz by_:Nat}{s:Vz}{n:Nat}{new:Array Vz}{k k':Kt}(hk:∀ v h,k v h->k' v h):Mp T z sz by_ s n new h k->Mp T z sz by_ s n new h k':=by
 rintro⟨base,len,cap,zv,old,h1,h2,h3,h4,h5,h6,h7,h8⟩;refine⟨base,len,cap,zv,old,h1,h2,h3,h4,h5,h6,fun hc=>?_,fun hc b c' h' a1 a2 a3 a4 a5=>hk _ _ (h8 hc b c' h' a1 a2 a3 a4 a5)⟩;rcases h7 hc with⟨g1,g2,g3⟩|⟨a,c,T',g1,g2,g3,g4,g5,g6⟩
 ·exact .inl ⟨g1,g2,hk _ _ g3⟩
 ·exact .inr ⟨a,c,T',g1,g2,g3,g4,g5,hk _ _ g6⟩
def ol {sz:Nat}{d x:Vz}{k k':Kt}(hk:∀ v h,k v h->k' v h):JB sz d x h k->JB sz d x h k':=by
 rintro⟨base,len,cap,n,cs,h1,h2,h3,⟨h4,h5⟩|⟨a,c,T,h4,h5,h6,h7,h8,h9⟩⟩
 ·exact⟨base,len,cap,n,cs,h1,h2,h3,.inl ⟨h4,hk _ _ h5⟩⟩
 ·exact⟨base,len,cap,n,cs,h1,h2,h3,.inr ⟨a,c,T,h4,h5,h6,h7,h8,hk _ _ h9⟩⟩
def QD {t:Tj}{z:Option Vz}{ok:Bool}{x:Vz}{k k':Vz->Prop}(hk:∀ v,k v->k' v):GJ t z ok x k->GJ t z ok x k':=by
 rintro⟨zv,hz,H⟩;refine⟨zv,hz,?_⟩;cases x with
 | nilIface=>exact⟨H.1,hk _ H.2⟩
 | iface u v=>
  dsimp only at H ⊢;split
  ·rename_i e;rw[D0 e] at H;exact hk _ H
  ·rename_i e;rw[F0 e] at H;exact⟨H.1,hk _ H.2⟩
 | _=>exact H
def qu {w:World}{k k':Kt}(hk:∀ v h,k v h->k' v h):∀ e w',mw w k e w'->mw w k' e w':=by
 intro e w' H;cases e with
 | returned v=>exact⟨H.1,hk _ _ H.2⟩
 | panicked c=>exact H
 | outgrown=>exact H
def Ta {f:FuncId}{args:List Vz}{k k':Kt}(hk:∀ v h,k v h->k' v h)(H:Call P f args h k):Call P f args h k':=
 fun w hw=>(H w hw).mono (qu hk)
set_option maxHeartbeats 1000000 in
def Gy {o:Oper}{ρ:Operand->Vz}{k k':Kt}(hk:∀ v h,k v h->k' v h):Lf P o ρ h k->Lf P o ρ h k':=by
 obtain⟨dst,op,type,pos,after,guard⟩:=o;have hv:∀ v,k v h->k' v h:=fun v=>hk v h;unfold Lf;cases op<;>dsimp only
 case move x=>exact hk _ _
 case assign x=>exact hk _ _
 case pick=>exact po hv
 case alloc=>exact WF hk
 case box=>exact Ux hk
 case build=>split;exact fun h=>h;exact fun⟨a,b,c,d,e⟩=>⟨a,b,c,d,hv _ e⟩
 case buildSlice=>split;exact fun⟨a,b,c,d,e,f⟩=>⟨a,b,c,d,e,fun b h' g1 g2 g3=>hk _ _ (f b h' g1 g2 g3)⟩;exact fun h=>h
 case load t a=>cases GA P t;exact fun h=>h;exact fun⟨a,b,c,d,e⟩=>⟨a,b,c,d,hv _ e⟩
 case store t a v=>cases GA P t;exact fun h=>h;exact ZC fun h=>hk _ h
 case nilCheck=>exact fun⟨a,b⟩=>⟨a,hv _ b⟩
 case binOp op t x y u=>
  cases Ke P t
  ·dsimp only[cond];split
   ·exact fun⟨a,b,c⟩=>⟨a,b,hv _ c⟩
   ·exact fun h=>h
  ·exact fun⟨a,b,c⟩=>⟨a,b,hv _ c⟩
 case unOp=>exact fun⟨a,b,c⟩=>⟨a,b,hv _ c⟩
 case convert=>
  split
  ·exact fun⟨a,b,c,d⟩=>⟨a,b,c,hv _ d⟩
  ·exact fun⟨a,b⟩=>⟨a,hv _ b⟩
  ·split
   ·exact fun⟨s,e,f⟩=>⟨s,e,fun b c h' g1 g2 g3 g4=>hk _ _ (f b c h' g1 g2 g3 g4)⟩
   ·exact fun h=>h
  ·split
   ·exact fun⟨a,b,c⟩=>⟨a,b,hv _ c⟩
   ·exact fun h=>h
  ·exact fun h=>h
 case makeInterface=>split;exact fun h=>h;exact hv _;exact fun h=>h
 case makeFunc=>exact hv _
 case makeMap t r=>cases r;exact fun f b h' g1 g2 g3=>hk _ _ (f b h' g1 g2 g3);exact fun h=>h
 case makeSlice=>split;exact fun⟨a1,a2,a3,a4,a5,a6,a7,a8,a9,a10,a11,a12,f⟩=>⟨a1,a2,a3,a4,a5,a6,a7,a8,a9,a10,a11,a12,fun b h' g1 g2 g3=>hk _ _ (f b h' g1 g2 g3)⟩;exact fun h=>h
 case slice t x lo hi mx=>cases mx;exact fun⟨a,b,c⟩=>⟨a,b,hv _ c⟩;exact fun h=>h
 case fieldAddr=>split;exact fun⟨a,b,c⟩=>⟨a,b,hv _ c⟩;exact fun h=>h
 case field=>
  split
  ·split
   ·rename_i fd _;cases GA P fd.type;exact fun h=>h;exact fun⟨a,b,c,d,e⟩=>⟨a,b,c,d,hv _ e⟩
   ·exact fun h=>h
  ·exact fun h=>h
 case indexAddr=>exact SX hv
 case index=>
  split
  ·exact fun⟨a,b,c,d,e,f,g,i,j⟩=>⟨a,b,c,d,e,f,g,i,hv _ j⟩
  ·rename_i n e _;cases GA P e;exact fun h=>h;exact fun⟨a,b,c,d,e,f,g,i,j,l⟩=>⟨a,b,c,d,e,f,g,i,j,hv _ l⟩
  ·exact fun h=>h
 case lookup=>split;exact fun⟨a,b,c,d,e,f⟩=>⟨a,b,c,d,e,hv _ f⟩;exact fun h=>h
 case mapUpdate=>exact fun⟨a,b,c,d,e,f,g,i,j⟩=>⟨a,b,c,d,e,f,g,i,hk _ _ j⟩
 case range=>split;exact Yu hk;exact fun h=>h
 case next x s=>cases s;exact ph hk;exact fun h=>h
 case entry=>exact fun⟨a,b,c,d,e,f,g,i,j,l,m,n,o,p⟩=>⟨a,b,c,d,e,f,g,i,j,l,m,n,o,hv _ p⟩
 case typeAssert=>split;exact fun h=>h;exact QD hv;exact fun h=>h
 case extract=>exact fun⟨a,b,c,d,e⟩=>⟨a,b,c,d,hv _ e⟩
 case call c=>
  split
  ·rename_i f _;cases Ii P f
   ·exact fun h=>h
   ·exact Ta hk
  ·exact fun⟨a,n,fst,cap,e,f⟩=>⟨a,n,fst,cap,e,Ta hk f⟩
  ·split
   ·split
    ·exact fun⟨a,b,c⟩=>⟨a,b,hv _ c⟩
    ·exact fun⟨a,b,c,d,e⟩=>⟨a,b,c,d,hv _ e⟩
    ·exact fun H=>H.imp (fun⟨a,b⟩=>⟨a,hv _ b⟩) (fun⟨a,b,c,d,e,f⟩=>⟨a,b,c,d,e,hv _ f⟩)
    ·exact fun h=>h
   ·exact fun h=>h
  ·split
   ·split
    ·exact fun⟨a,b,c,d,e⟩=>⟨a,b,c,d,hv _ e⟩
    ·exact fun h=>h
   ·exact fun h=>h
  ·split
   ·split
    ·exact fun⟨a,b,c,d,e,f,g,z,i⟩=>⟨a,b,c,d,e,f,g,z,Qc hk i⟩
    ·exact fun⟨a,b,c,d,e⟩=>⟨a,b,c,d,Qc hk e⟩
    ·exact fun h=>h
   ·exact fun h=>h
  ·split
   ·split
    ·exact ol hk
    ·exact fun h=>h
   ·exact fun h=>h
  ·split
   ·exact fun⟨a,b,c,d,e,f⟩=>⟨a,b,c,d,e,hv _ f⟩
   ·exact fun h=>h
  ·split
   ·exact fun⟨a,b,c,d,e,f⟩=>⟨a,b,c,d,e,hv _ f⟩
   ·exact fun h=>h
  ·split
   ·exact fun⟨a,b,c,d,e,f,g,i,j⟩=>⟨a,b,c,d,e,f,g,i,hk _ _ j⟩
   ·exact fun h=>h
  ·exact fun h=>h
 all_goals exact fun h=>h
end
def ja {c:Vz}{w:Bool}{A B A' B':Prop}(ha:A->A')(hb:B->B')(h:CR c w A B):CR c w A' B':=by
 unfold CR at *;cases c<;>first|exact h|(rename_i t;cases t<;>cases w<;>first|exact hb h|exact ha h)
def kw {c:Vz}{w:Bool}{B B':Prop}(hb:B->B')(h:skN c w B):skN c w B':=by
 unfold skN at *;cases c<;>first|exact hb h|(rename_i t;cases t<;>cases w<;>first|exact h|exact hb h)
theorem i8 {ops:Array Oper}:∀ (f:Nat) (g:Nat×Bool) (e:Env) {A B A' B':Env->Prop},(∀ e,A e->A' e)->(∀ e,B e->B' e)->gdC ops f g e A B->gdC ops f g e A' B'
 | 0,_,_,_,_,_,_=>fun _ _ h=>h
 | f+1,(j,want),e,A,B,A',B'=>fun ha hb h=>by
  unfold gdC at *;cases ho:ops[j]? with
  | none=>rw[ho] at h;exact h
  | some oj=>
   rw[ho] at h;dsimp only at h ⊢;cases hd:oj.dst with
   | none=>rw[hd] at h;exact h
   | some d=>
    rw[hd] at h;dsimp only at h ⊢;cases hg:oj.guard with
    | none=>rw[hg] at h;exact ja (ha _) (hb _) h
    | some g=>rw[hg] at h;exact i8 f g e (fun e=>ja (ha _) (hb _)) (fun e=>kw (hb _)) h
def i9 {ops:Array Oper}{g:Option (Nat×Bool)}{e:Env}{A B A' B':Env->Prop}(ha:∀ e,A e->A' e)(hb:∀ e,B e->B' e)(h:ql ops g e A B):ql ops g e A' B':=by
 unfold ql at *;cases g with
 | none=>exact ha _ h
 | some jw=>exact i8 9 jw e ha hb h
theorem Kp {P:Program}{ops:Array Oper}{K K':Env->H->Prop}(hk:∀ e h,K e h->K' e h):∀ (l:List Oper) (e:Env) (h:H),GZ P ops l K e h->GZ P ops l K' e h
 | [],e,h=>hk e h
 | o::rest,e,h=>by
  unfold GZ;exact i9 (fun _=>Gy fun _ _=>Kp hk rest _ _) (fun _=>Kp hk rest _ _)
theorem Kh {P:Program}{ops:Array Oper}{e:Env}{h:H}{A A':Prop}(ha:A->A'):∀ l:List Nat,Ou P ops l e h A->Ou P ops l e h A'
 | []=>ha
 | _::js=>fun⟨x,y⟩=>⟨x,Kh ha js y⟩
def RI {P:Program}{ops:Array Oper}{i:Nat}{ks:List Nat}{K K':Env->H->Prop}(hk:∀ e h,K e h->K' e h){e:Env}{h:H}:KX P ops i ks K e h->KX P ops i ks K' e h:=by
 unfold KX;split
 ·exact i9 (fun _=>Gy fun _ _=>Kh (hk _ _) ks) (fun _=>hk _ _)
 ·exact fun h=>h
theorem MG {F F':Nat->Env->H->Prop}{e:Env}{h:H}(hf:∀ i,F i e h->F' i e h):∀ l:List Nat,Ti l F e h->Ti l F' e h
 | []=>fun h=>h
 | [i]=>hf i
 | i::j::r=>fun⟨a,b⟩=>⟨hf i a,MG hf (j::r) b⟩
theorem Ko {P:Program}{ops:Array Oper}{pl:Kw}{K K':Env->H->Prop}(hk:∀ e h,K e h->K' e h):∀ (f L R:Nat) (e:Env) (h:H),EO P ops pl f L R K e h->EO P ops pl f L R K' e h
 | 0,L,R,e,h=>by
  unfold EO;split
  ·exact hk e h
  ·exact fun h=>h
 | f+1,L,R,e,h=>by
  unfold EO;split
  ·exact hk e h
  ·split
   ·exact RI (Ko hk f _ _)
   ·exact MG (fun i=>RI (Ko hk f _ _)) _
def Hx {P:Program}(c:Code){Kn Kn' Kr Kr':Env->H->Prop}{Kx Kx':Nat->Env->H->Prop}(hn:∀ e h,Kn e h->Kn' e h)(hr:∀ e h,Kr e h->Kr' e h)
  (hx:∀ i e h,Kx i e h->Kx' i e h):∀ e h,Dv P c Kn Kr Kx e h->Dv P c Kn' Kr' Kx' e h:=by
 induction c generalizing Kn Kn' Kx Kx' with
 | skip=>exact hn
 | region id ops draw=>
  intro e h;unfold Dv;cases draw
  ·exact Kp hn _ e h
  ·exact Ko hn _ _ _ e h
 | seq a b iha ihb=>exact iha (ihb hn hx) hx
 | cond c a b iha ihb=>
  intro e h;cases c<;>unfold Dv<;>first|exact fun h=>h|exact Ue (iha hn hx _ _) (ihb hn hx _ _)
 | block id b ih=>exact ih hn (AFI hn hx)
 | exit id=>exact hx id
 | ret=>exact hr
 | loop b ih=>
  intro e h;unfold Dv;rintro⟨I,h0,hs⟩;exact⟨I,h0,fun m e h hI=>ih (fun _ _ x=>x) hx _ _ (hs m e h hI)⟩
 | _=>intro e h;unfold Dv;exact fun h=>h
def Kz (cs:List Nat)(e e':Env):Prop:=∀ i∈cs,e' i=e i
def RO {e:Env}{d i:Nat}{v:Vz}(h:i≠d):QE e d v i=e i:=by
 unfold QE;have:Nat.beq i d=false:=by
  cases hb:Nat.beq i d with
  | false=>rfl
  | true=>exact absurd (W7 hb) h
 rw[this];rfl
def AEk {e:Env}{d:Nat}{v:Vz}:QE e d v d=v:=by
 unfold QE;rw[show Nat.beq d d=true from Nat.beq_refl d];rfl
def Jc {e:Env}{d:Nat}{v:Vz}(h:e d=v):QE e d v=e:=by
 funext i;by_cases hi:i=d
 ·subst hi;rw[AEk,h]
 ·exact RO hi
def jb {c:Vz}{w:Bool}{A B:Prop}(h:CR c w A B):(c=.bool w/\A)\/(c=.bool (!w)/\B):=by
 unfold CR at h;cases c<;>first|exact h.elim|(rename_i t;cases t<;>cases w<;>first|exact .inl ⟨rfl,h⟩|exact .inr ⟨rfl,h⟩)
def ANM {c:Vz}{w:Bool}{A B:Prop}(h:(c=.bool w/\A)\/(c=.bool (!w)/\B)):CR c w A B:=by
 unfold CR;rcases h with⟨rfl,h⟩|⟨rfl,h⟩<;>cases w<;>exact h
theorem ADZ {ops:Array Oper}:∀ (f:Nat) (g:Nat×Bool) (e:Env) {A B A' B':Env->Prop},(A e->A' e)->(B e->B' e)->gdC ops f g e A B->gdC ops f g e A' B'
 | 0,_,_,_,_,_,_=>fun _ _ h=>h
 | f+1,(j,want),e,A,B,A',B'=>fun ha hb h=>by
  have key:∀ d:Nat,CR (e d) want (A (QE e d (.bool want))) (B (QE e d (.bool (!want))))->CR (e d) want (A' (QE e d (.bool want))) (B' (QE e d (.bool (!want)))):=fun d h=>by
   refine ANM ?_;rcases jb h with⟨h1,h2⟩|⟨h1,h2⟩
   ·rw[Jc h1] at h2 ⊢;exact .inl ⟨h1,ha h2⟩
   ·rw[Jc h1] at h2 ⊢;exact .inr ⟨h1,hb h2⟩
  unfold gdC at *;cases ho:ops[j]? with
  | none=>rw[ho] at h;exact h
  | some oj=>
   rw[ho] at h;dsimp only at h ⊢;cases hd:oj.dst with
   | none=>rw[hd] at h;exact h
   | some d=>
    rw[hd] at h;dsimp only at h ⊢;cases hg:oj.guard with
    | none=>rw[hg] at h;exact key d h
    | some g=>rw[hg] at h;exact ADZ f g e (key d) (kw hb) h
def ADa {ops:Array Oper}{g:Option (Nat×Bool)}{e:Env}{A B A' B':Env->Prop}(ha:A e->A' e)(hb:B e->B' e)(h:ql ops g e A B):ql ops g e A' B':=by
 unfold ql at *;cases g with
 | none=>exact ha h
 | some jw=>exact ADZ 9 jw e ha hb h
def ON (cs:List Nat)(d:Option Tmp):Bool:=match d with|some d=>!cs.any (Nat.beq d)|none=>true
def Jw {cs:List Nat}{d:Option Tmp}{e e1:Env}{v:Vz}(hd:ON cs d=true)(h:Kz cs e e1):Kz cs e (Ss e1 d v):=by
 intro i hi;cases d with
 | none=>exact h i hi
 | some d=>
  have hne:i≠d:=by
   rintro rfl;simp only[ON,M7,List.any_eq_false] at hd;exact hd i hi (Nat.beq_refl i)
  rw[show Ss e1 (some d) v=QE e1 d v from rfl,RO hne];exact h i hi
theorem JV {P:Program}{ops:Array Oper}{K:Env->H->Prop}{cs:List Nat}{e0:Env}:∀ (l:List Oper) (e:Env) (h:H),(l.all fun o=>ON cs o.dst)=true->Kz cs e0 e->GZ P ops l K e h ->
  GZ P ops l (fun e' h'=>Kz cs e0 e'/\K e' h') e h
 | [],e,h,_,hs,H=>⟨hs,H⟩
 | o::rest,e,h,ha,hs,H=>by
  simp only[U7,W2] at ha;unfold GZ at H ⊢;refine ADa (fun b=>?_) (fun b=>?_) H
  ·exact Gy (fun v h'=>JV rest _ _ ha.2 (Jw ha.1 hs)) b
  ·exact JV rest _ _ ha.2 (Jw ha.1 hs) b
def Pg {P:Program}{ops:Array Oper}{i:Nat}{ks:List Nat}{K K':Env->H->Prop}{cs:List Nat}{e0:Env}(ha:(ops.toList.all fun o=>ON cs o.dst)=true)
  (hk:∀ e h,Kz cs e0 e->K e h->K' e h) {e:Env} {h:H} (hs:Kz cs e0 e):KX P ops i ks K e h->KX P ops i ks K' e h:=by
 intro H;unfold KX at H ⊢;split
 ·rename_i o ho;simp only[ho] at H;have hd:ON cs o.dst=true:=K5.1 ha o (by
   have:=P7 ho;exact Array.mem_toList_iff.2 this)
  refine ADa (fun b=>?_) (fun b=>?_) H
  ·exact Gy (fun v h'=>Kh (hk _ _ (Jw hd hs)) ks) b
  ·exact hk _ _ (Jw hd hs) b
 ·rename_i ho;simp only[ho] at H
theorem JU {P:Program}{ops:Array Oper}{pl:Kw}{K:Env->H->Prop}{cs:List Nat}{e0:Env}(ha:(ops.toList.all fun o=>ON cs o.dst)=true):∀ (f L R:Nat) (e:Env) (h:H),Kz cs e0 e->EO P ops pl f L R K e h ->
  EO P ops pl f L R (fun e' h'=>Kz cs e0 e'/\K e' h') e h
 | 0,L,R,e,h=>fun hs=>by
  unfold EO;split
  ·exact fun H=>⟨hs,H⟩
  ·exact fun h=>h
 | f+1,L,R,e,h=>fun hs=>by
  unfold EO;split
  ·exact fun H=>⟨hs,H⟩
  ·split
   ·exact Pg ha (fun e h=>JU ha f _ _ e h) hs
   ·exact MG (fun i=>Pg ha (fun e h=>JU ha f _ _ e h) hs) _
def Uf {c:Vz}{A B:Prop}(h:BJ c A B):(c=.bool true/\A)\/(c=.bool false/\B):=by
 unfold BJ at h;cases c<;>first|exact h.elim|(rename_i t;cases t<;>first|exact .inl ⟨rfl,h⟩|exact .inr ⟨rfl,h⟩)
def AGn {c:Vz}{A B:Prop}(h:(c=.bool true/\A)\/(c=.bool false/\B)):BJ c A B:=by
 unfold BJ;rcases h with⟨rfl,h⟩|⟨rfl,h⟩<;>exact h
def p5 {P:Program}{cs:List Nat}{e0:Env}(c:Code){Kn Kr:Env->H->Prop}{Kx:Nat->Env->H->Prop}(hc:JL cs c=true) :
  ∀ e h,Kz cs e0 e->Dv P c Kn Kr Kx e h->Dv P c (fun e' h'=>Kz cs e0 e'/\Kn e' h') Kr (fun i e' h'=>Kz cs e0 e'/\Kx i e' h') e h:=by
 induction c generalizing Kn Kx with
 | skip=>exact fun e h hs H=>⟨hs,H⟩
 | region id ops draw=>
  intro e h hs;unfold Dv;have hc':(ops.toList.all fun o=>ON cs o.dst)=true:=hc;cases draw
  ·exact JV _ e h hc' hs
  ·exact JU hc' _ _ _ e h hs
 | seq a b iha ihb=>
  simp only[JL,W2] at hc;intro e h hs H;have:=iha hc.1 e h hs H;exact Hx a (fun e h ⟨hs,x⟩=>ihb hc.2 e h hs x) (fun _ _ x=>x) (fun _ _ _ x=>x) e h this
 | cond c a b iha ihb=>
  simp only[JL,W2] at hc;intro e h hs;cases c<;>unfold Dv<;>first
   | exact fun h=>h
   | (
     intro H;refine AGn ((Uf H).imp (fun⟨x,y⟩=>⟨x,?_⟩) (fun⟨x,y⟩=>⟨x,?_⟩))
     ·exact iha hc.1 _ _ (by rw[Jc x];exact hs) y
     ·exact ihb hc.2 _ _ (by rw[Jc x];exact hs) y)
 | block id b ih=>
  intro e h hs H;have:=ih hc e h hs H;refine Hx b (fun _ _ x=>x) (fun _ _ x=>x) (fun i e h x=>?_) e h this;cases hb:Nat.beq i id<;>rw[hb] at x<;>exact x
 | exit id=>exact fun e h hs H=>⟨hs,H⟩
 | ret=>exact fun e h hs H=>H
 | loop b ih=>
  intro e h hs;unfold Dv;rintro⟨I,⟨m,h0⟩,hstep⟩;refine⟨fun m e h=>Kz cs e0 e/\I m e h,⟨m,hs,h0⟩,fun m e h ⟨hs,hI⟩=>?_⟩;refine Hx b (fun e h ⟨hs,m',hm,x⟩=>⟨m',hm,hs,x⟩) (fun _ _ x=>x) (fun _ _ _ x=>x) e h (ih hc e h hs (hstep m e h hI))
 | _=>intro e h hs;unfold Dv;exact fun h=>h
def qt {P:Program}{c:Code}{Kr:Env->H->Prop}{Kx:Nat->Env->H->Prop}{e:Env}{h:H}(cs:List Nat)(hcs:JL cs c=true)(I:Nat->Env->H->Prop)(m:Nat)(h0:I m e h)
  (step:∀ m e' h',(∀ i∈cs,e' i=e i)->I m e' h'->Dv P c (fun e'' h''=>∃ m',m'<m/\I m' e'' h'') Kr Kx e' h'):AH3 (fun rec=>Dv P c rec Kr Kx) e h:=by
 refine⟨fun m e' h'=>Kz cs e e'/\I m e' h',⟨m,fun _ _=>rfl,h0⟩,fun m e' h' ⟨hs,hI⟩=>?_⟩;have:=p5 (e0:=e) c hcs e' h' hs (step m e' h' hs hI);exact Hx c (fun e h ⟨hs,m',hm,x⟩=>⟨m',hm,hs,x⟩) (fun _ _ x=>x) (fun _ _ _ x=>x.2) e' h' this
noncomputable abbrev TP:Program:=Tryz.prog
def Ig (P:Program)(w:World)(k:Kt):Result Next->Prop
 | .ok (.value v) w'=>Do w w'/\k v w'.heap
 | .ok .skip w'=>Do w w'/\k undef w'.heap
 | .ok (.enter f args) w'=>w'=w/\Calls P f args w (mw w k)
 | _=>False
section
variable {P:Program} {w:World}
def BX:Do w w:=⟨rfl,rfl⟩
def AHK {k:Kt}{s:Sem Vz}{v:Vz}(hr:s.run P w=.ok v w)(hk:k v w.heap) :
  Ig P w k ((do pure (.value (<-s)):Sem Next).run P w):=by
 simp only[Q0,hr,L0,O1];exact⟨BX,hk⟩
def AEI {k:Kt}{s:Sem Vz}{v:Vz}{w':World}(hr:s.run P w=.ok v w')(hs:Do w w')(hk:k v w'.heap) :
  Ig P w k ((do pure (.value (<-s)):Sem Next).run P w):=by
 simp only[Q0,hr,L0,O1];exact⟨hs,hk⟩
def AEH {k:Kt}{s:Sem Unit}{w':World}(hr:s.run P w=.ok () w')(hs:Do w w')(hk:k undef w'.heap) :
  Ig P w k ((do s;pure .skip:Sem Next).run P w):=by
 simp only[Q0,hr,L0,O1];exact⟨hs,hk⟩
def FW {h:H}{o:Obj}:qk h (h.push o):=fun i hi=>by
 rw[Array.getElem?_push];rw[F0 (by omega)]
def GX {h:H}{o:Obj}:(h.push o)[h.size]? = some o:=by simp
def DT {t:Tj}{i:TypeInfo}(hi:P.info? t=some i):(typeInfo t).run P w=.ok i w:=by simp[typeInfo,hi]
def IZ {t:Tj}{i:TypeInfo}(hi:P.info? t=some i):(sizeOf t).run P w=.ok i.size w:=by simp[sizeOf,DT hi]
def Vd {t:Tj}{i:TypeInfo}(hi:P.info? t=some i):BM P t=i.size:=by simp[BM,hi]
def Jk {t:Tj}{i:TypeInfo}(hi:P.info? t=some i):Fh P t=i.bytes:=by simp[Fh,hi]
def LZ {t:Tj}{z:Vz}(h:Am P t=some z):∃ i,P.info? t=some i/\i.zero=some z:=by
 unfold Am at h;cases hi:P.info? t with
 | none=>rw[hi] at h;cases h
 | some i=>rw[hi] at h;exact⟨i,rfl,h⟩
def Pw {t:Tj}{d:TypeDesc}(h:P.underlying t=some d):∃ i,P.info? t=some i:=by
 unfold Program.underlying at h;cases hi:P.info? t with
 | none=>rw[hi] at h;cases h
 | some i=>exact⟨i,rfl⟩
def CE {t:Tj}{z:Vz}(h:Am P t=some z):(zeroValue t).run P w=.ok z w:=by
 obtain⟨i,hi,hz⟩:=LZ h;simp[zeroValue,DT hi,hz]
def EM {T:Tj}{cs:Array Vz}:(newRow T cs).run P w=.ok ⟨w.heap.size,0,none⟩ {w with heap:=w.heap.push (.cells cs T)}:=by simp[newRow]
def Pb {T:Tj}{v:Vz}:(newVar T v).run P w=.ok ⟨w.heap.size,0,none⟩ {w with heap:=w.heap.push (.cells v.cells T)}:=by simp[newVar,EM]
def jr {T:Tj}{cs:Array Vz}{k:Kt}(h:Bc T cs w.heap k):k (Pt w.heap.size) (w.heap.push (.cells cs T)):=
 h w.heap.size _ FW (I0 _) GX
def AZ {t:Tj}{d:TypeDesc}(h:P.underlying t=some d):(underlying t).run P w=.ok d w:=by simp[underlying,h]
def pw {t:Tj}{d:TypeDesc}(h:P.underlying t=some d):(isAgg t).run P w=.ok (DD P t) w:=by
 unfold isAgg DD;simp only[Q0,AZ h,L0,h];cases d<;>rfl
theorem og (a:Addr):w.cell? a=Ra w.heap a:=rfl
theorem HA {h:H}{b o:Nat}{c:Array Vz}{T:Tj}{fz:Nat×Nat}(hb:w.heap[b]? = some (.cells c T fz)):∀ (n i:Nat) (acc:Array Vz),o+i+n<=c.size ->
  (loadCellsFrom ⟨b,o,none⟩ i n acc).run P w=.ok (acc++c.extract (o+i) (o+i+n)) w
 | 0,i,acc,_=>by simp[loadCellsFrom];omega
 | n+1,i,acc,hle=>by
  have hc:w.cell? ((⟨b,o,none⟩:Addr).add i)=some (c[o+i]'(by omega)):=by
   unfold Addr.add;split
   ·rename_i h0;subst h0;simp only[World.cell?,hb];simp
   ·simp only[World.cell?,hb];simp
  simp only[loadCellsFrom,Q0,run_load,hc,L0];rw[HA (h:=h) hb n (i+1) _ (by omega)];congr 1;apply P4;simp only[Array.toList_append,Array.toList_push,Array.toList_extract,P0];congr 1;rw[show o+i+(n+1)=o+(i+1)+n by omega];simp only[I3];rw[show o+(i+1)+n-(o+i)=n+1 by omega,show o+(i+1)+n-(o+(i+1))=n by omega];rw[N3 (show o+i<c.toList.length by simp;omega)];simp[H8]
def HN {b o n:Nat}{c:Array Vz}{T:Tj}{fz:Nat×Nat}(hb:w.heap[b]? = some (.cells c T fz))(hle:o+n<=c.size) :
  (loadCells ⟨b,o,none⟩ n).run P w=.ok (c.extract o (o+n)) w:=by
 unfold loadCells;rw[HA (h:=w.heap) hb n 0 #[] (by omega)];simp
theorem HO:∀ (vs:List Vz) (c:Array Vz) (o:Nat),(Av c o vs).size=c.size
 | [],c,o=>rfl
 | v::vs,c,o=>by rw[Av,HO vs];simp
def Lp {b o:Nat}{c:Array Vz}{T:Tj}{fz:Nat×Nat}{v:Vz}(hb:w.heap[b]? = some (.cells c T fz)) :
  (w.setCell ⟨b,o,none⟩ v).heap=w.heap.setIfInBounds b (.cells (c.setIfInBounds o v) T fz):=by
 unfold World.setCell;dsimp only;apply N6;intro i;rw[Array.getElem?_modify,D4];by_cases hi:b=i
 ·subst hi;obtain⟨hlt,hx⟩:=S3.1 hb;simp[hlt,hx]
 ·simp[hi]
def set_set {h:H}{b:Nat}{x y:Obj}:(h.setIfInBounds b x).setIfInBounds b y=h.setIfInBounds b y:=by
 apply N6;intro i;simp only[D4];by_cases hi:b=i<;>simp[hi]
theorem GY {b:Nat}{T:Tj}:∀ (vs:List Vz) (w:World) (o i:Nat) (c:Array Vz),w.heap[b]? = some (.cells c T (0,0))->o+i+vs.length<=c.size->vs.all Value.oneCell'=true ->
  ∃ w',(storeCells ⟨b,o,none⟩ vs i).run P w=.ok () w'/\Do w w'/\w'.heap=w.heap.setIfInBounds b (.cells (Av c (o+i) vs) T (0,0))
 | [],w,o,i,c,hb,_,_=>⟨w,rfl,⟨rfl,rfl⟩,by
   apply N6;intro j;rw[D4];by_cases hj:b=j
   ·subst hj;obtain⟨hlt,hx⟩:=S3.1 hb;simp[hlt,hx,Av]
   ·simp[hj]⟩
 | v::vs,w,o,i,c,hb,hle,hv=>by
  simp only[J1] at hle;simp only[U7,W2] at hv;have ha:(⟨b,o,none⟩:Addr).add i=⟨b,o+i,none⟩:=by
   unfold Addr.add;split
   ·rename_i h0;subst h0;rfl
   ·rfl
  have hc:w.cell? ⟨b,o+i,none⟩=some (c[o+i]'(by omega)):=by simp only[World.cell?,hb];simp
  have hf:w.frozen? ⟨b,o+i,none⟩=false:=by simp[World.frozen?,hb]
  have hb':(w.setCell ⟨b,o+i,none⟩ v).heap[b]? = some (.cells (c.setIfInBounds (o+i) v) T (0,0)):=by
   rw[Lp hb,D4];have hlt:b<w.heap.size:=(S3.1 hb).1;simp[hlt]
  obtain⟨w',hr,hs,hh⟩:=GY vs (w.setCell ⟨b,o+i,none⟩ v) o (i+1) _ hb' (by simp;omega) hv.2;refine⟨w',?_,hs,?_⟩
  ·simp only[storeCells,Q0,ha,run_store P w _ _ _ hv.1,hc,hf,L0,K3,if_false];exact hr
  ·rw[hh,Lp hb,set_set];rfl
def No {t:Tj}(h:GA P t=true):∃ i d,P.info? t=some i/\P.underlying t=some d/\BM P t=i.size:=by
 unfold GA at h;simp only[W2] at h;cases hd:P.underlying t with
 | none=>rw[hd] at h;simp at h
 | some d=>
  obtain⟨i,hi⟩:=Pw hd;exact⟨i,d,hi,rfl,Vd hi⟩
def Bh {t:Tj}(h:GA P t=true):(sizeOf t).run P w=.ok (BM P t) w:=by
 obtain⟨i,d,hi,_,hs⟩:=No h;rw[IZ hi,hs]
def NE {t:Tj}(h:GA P t=true):(isAgg t).run P w=.ok (DD P t) w:=by
 obtain⟨i,d,_,hd,_⟩:=No h;exact pw hd
def LK {t e:Tj}(h:Gl P t=some e):P.underlying t=some (.slice e)/\GA P e=true:=by
 unfold Gl at h;split at h
 ·rename_i e' he;cases ho:GA P e' with
  | false=>rw[ho] at h;cases h
  | true=>rw[ho] at h;cases h;exact⟨he,ho⟩
 ·cases h
def JT {t:Tj}{a:Addr}{v:Vz}(ho:GA P t=true)(h:Qw (DD P t) (BM P t) w.heap a=some v):(loadVar t a).run P w=.ok v w:=by
 unfold loadVar;simp only[Q0,NE ho,L0];unfold Qw at h;cases hg:DD P t with
 | false=>
  rw[hg] at h;simp only[cond] at h;simp only[K3,if_false,run_load,og,h]
 | true=>
  rw[hg] at h;simp only[cond] at h;split at h
  ·rename_i c T fz hb;split at h
   ·cases h
   ·rename_i hsp;split at h
    ·rename_i hle;cases h;obtain⟨b,o,sp⟩:=a;cases sp with
     | some x=>simp at hsp
     | none=>simp only[if_true,Q0,Bh ho,L0,HN hb hle,O1]
    ·cases h
  ·cases h
def TB {t:Tj}{p:Addr}{c:Array Vz}{T:Tj}{v:Vz}(ho:GA P t=true)(hsp:p.spot=none)(hb:w.heap[p.block]? = some (.cells c T (0,0)))
  (hv:v.cells.size=BM P t) (hle:p.off+BM P t<=c.size) (hone:v.cells.toList.all Value.oneCell'=true) :
  ∃ w',(storeVar t p v).run P w=.ok () w'/\Do w w'/\w'.heap=w.heap.setIfInBounds p.block (.cells (Av c p.off v.cells.toList) T (0,0)):=by
 obtain⟨b,o,sp⟩:=p;subst hsp;obtain⟨w',hr,hs,hh⟩:=GY (P:=P) v.cells.toList w o 0 c hb (by simp only[C7,hv];simpa using hle) hone;refine⟨w',?_,hs,hh⟩;unfold storeVar;simp only[Q0,Bh ho,L0,hv,ne_eq,not_true_eq_false,if_false];exact hr
def NA {t:Tj}{f off:Nat}{p:Addr}(h:SU P t f=some off):(Instr.fieldAt t (.pointer (some p)) f).run P w=.ok (.pointer (some (p.add off))) w:=by
 unfold SU at h;split at h
 ·rename_i fs hu;split at h
  ·rename_i fd hf;cases ho:GA P fd.type with
   | false=>rw[ho] at h;cases h
   | true=>
    rw[ho] at h;cases h;have hz:BM P fd.type≠0:=by
     unfold GA at ho;simp only[W2,M7] at ho;intro hz;rw[hz] at ho;simp at ho
    unfold Instr.fieldAt;simp only[Q0,AZ hu,L0];simp only[hf,Q0,Instr.sureAddr,O1,L0,fieldPlace,Bh ho,hz,if_false]
  ·cases h
 ·cases h
def Or {o:Oper}{e:Env}{k:Kt}{x:Operand}(ho:o.op=.nilCheck x)(h:Qf (ev e x)=true)(hk:k (ev e x) w.heap):Ig P w k ((execOp (ev e) o).run P w):=by
 unfold execOp;rw[ho];dsimp only;generalize ev e x=y at *;unfold Qf at h;split at h
 ·exact⟨BX,hk⟩
 ·exact⟨BX,hk⟩
 ·cases h
def KW {op:BinOp}{t:Tj}{x y v:Vz}(h:DO op x y=some v):(binOp op t x y).run P w=.ok v w:=by
 unfold DO at h;split at h
 ·rename_i k a k' b;unfold binOp;cases op<;>dsimp only at h ⊢
  case shl=>split at h;cases h;cases h;rename_i hb;simp[Op.shift,hb]
  case shr=>split at h;cases h;cases h;rename_i hb;simp[Op.shift,hb]
  all_goals (by_cases hk:k=k')
  all_goals first
   | (rw[F0 hk] at h;cases h;done)
   | (subst hk;rw[D0 rfl] at h;first
     | (cases h;simp[Op.intArith,Op.intBits,Op.intCmp];done)
     | (split at h;cases h;rename_i hb;cases h;simp[Op.intDiv,hb];done))
 ·rename_i a b;unfold binOp;cases op<;>dsimp only at h ⊢
  case add=>split at h;cases h;rename_i hb;cases h;simp only[Op.stringOp,hb,if_false,O1]
  all_goals first
   | (cases h;done)
   | (cases h;rfl)
 ·cases h
def Em {op:BinOp}{t:Tj}{x y:Operand}{a b:Vz}(h:(Mn op).isSome=true->(∀ c,a≠.agg c)/\(a=.nilIface->b=.nilIface->Fv x=true\/Fv y=true)):(eqGuard op t x y a b).run P w=.ok () w:=by
 unfold eqGuard;cases op<;>(try (simp;done))
 all_goals
  have h1:=h rfl;simp only[P3,K3,if_false,Q0,O1,L0];cases a<;>cases b<;>first
   | rfl
   | exact absurd rfl (h1.1 _)
   | (
     have h2:=h1.2 rfl rfl;cases x<;>cases y<;>first
      | (simp[Fv] at h2;done)
      | simp)
def UU {t:Tj}{fs:Array Field}{d:EqKind}(h:i6 P t fs=d):d=.none\/∃ l,d=.flat l/\Oc P 0 fs.toList=some l/\P.stoodInHeld t=false/\P.eqGuardType P.depth t=false:=by
 unfold i6 at h;split at h
 ·rename_i l hf;cases hg:(P.stoodInHeld t||P.eqGuardType P.depth t) with
  | true=>rw[hg] at h;exact .inl h.symm
  | false=>
   rw[hg] at h;have:=Bool.or_eq_false_iff.1 hg;exact .inr ⟨l,h.symm,hf,this.1,this.2⟩
 ·exact .inl h.symm
def Hh {t:Tj}{fs:Array Field}{d:EqKind}{C:Prop}(h:i6 P t fs=d)(h1:d≠.none)(h2:∀ l,d≠.flat l):C:=by
 rcases UU h with e|⟨l,e,_⟩
 ·exact absurd e h1
 ·exact absurd e (h2 l)
def Og {t:Tj}{l:List Bool}(hk:CL P t=.flat l):∃ fs,P.underlying t=some (.struct fs)/\Oc P 0 fs.toList=some l/\P.stoodInHeld t=false/\P.eqGuardType P.depth t=false:=by
 unfold CL at hk;split at hk<;>(try (cases hk;done))<;>(try (split at hk<;>cases hk;done));rename_i fs hu;rcases UU hk with e|⟨l',e,h1,h2,h3⟩
 ·cases e
 ·cases e;exact⟨fs,hu,h1,h2,h3⟩
def JS {op:BinOp}{t:Tj}{x y:Operand}{a b:Vz}{r:Bool}(hr:HS (CL P t) (Fv x||Fv y) w.heap a b=some r):(eqGuard op t x y a b).run P w=.ok () w:=by
 by_cases hf:∃ l,CL P t=.flat l
 ·obtain⟨l,hl⟩:=hf;rw[hl] at hr;cases a<;>cases b<;>(try (cases hr;done));obtain⟨_,_,_,_,hm⟩:=Og hl;exact run_eqGuard_agg w op t x y _ _ hm
 ·refine Em fun _=>⟨fun c hc=>?_,fun h1 h2=>?_⟩
  ·rw[hc] at hr;generalize CL P t=d at hr hf;cases d<;>first|(cases hr;done)|exact absurd ⟨_,rfl⟩ hf
  ·rw[h1,h2] at hr;generalize CL P t=d at hr;cases d<;>(try (cases hr;done));simp only[HS] at hr;split at hr
   ·rename_i hc;simpa using hc
   ·cases hr
def VD {h:H}{a:Addr}(hp:Jv h a=true):∃ c T,h[a.block]? = some (.cells c T (0,0)):=by
 unfold Jv at hp;split at hp
 ·rename_i c T hb;exact⟨c,T,hb⟩
 ·cases hp
def MZ {a b:Addr}(hne:a.block≠b.block)(ha:Jv w.heap a=true)(hb:Jv w.heap b=true):(sameAddr a b).run P w=.ok false w:=by
 obtain⟨c,T,h1⟩:=VD ha;obtain⟨c',T',h2⟩:=VD hb;have hbq:(a.block == b.block)=false:=by simpa using hne
 simp[sameAddr,hbq,World.frozen?,h1,h2,noView,viewAt,World.shape?,mayBeOne,stringish]
def Lm {a b:Addr}(he:a.block=b.block):(sameAddr a b).run P w=.ok (a == b) w:=by
 simp[sameAddr,he]
def qh {t:Tj}(h:CL P t=.ptr):∃ e,P.underlying t=some (.pointer e)/\BM P e≠0:=by
 unfold CL at h;split at h<;>(try (cases h;done))<;>(try exact Hh h (by simp) (by simp));rename_i e he;split at h
 ·cases h
 ·rename_i hz;exact⟨e,he,hz⟩
def p7 {t:Tj}(h:BM P t≠0):∃ i,P.info? t=some i/\i.size=BM P t:=by
 unfold BM at *;cases hi:P.info? t with
 | none=>rw[hi] at h;exact absurd rfl h
 | some i=>exact⟨i,rfl,rfl⟩
theorem Of {d:Nat}:∀ (l:List Field) (m:List Bool) (i:Nat) (xs ys:Array Vz) (r:Bool),Oc P i l=some m->EQ m (xs.toList.drop i) (ys.toList.drop i)=some r ->
  (Op.eqFields (d+1) xs ys l).run P w=.ok r w
 | [],m,i,xs,ys,r,ho,h3=>by
  cases ho;generalize xs.toList.drop i=a at h3;generalize ys.toList.drop i=b at h3;cases a<;>cases b<;>simp[EQ] at h3;subst h3;simp[Op.eqFields]
 | f::l,m,i,xs,ys,r,ho,h3=>by
  unfold Oc at ho;cases hc:(f.offset == i&&f.name != "_") with
  | false=>rw[hc] at ho;cases ho
  | true=>
   rw[hc] at ho;simp only[cond] at ho;simp only[W2,beq_iff_eq,bne_iff_ne] at hc;obtain⟨o1,o2⟩:=hc;have px:∀ {c:Array Vz} {v:Vz} {s:List Vz} {k:TypeDesc},P.underlying f.type=some k->(k=.bool\/∃ q,k=.int q)->v::s=c.toList.drop i->(part f.type c f.offset).run P w=.ok v w/\s=c.toList.drop (i+1):=fun {c v s k} hu hk hv=>by
    have hv':c[f.offset]? = some v:=by
     rw[o1,<-Q7,<-List.head?_drop,<-hv];rfl
    refine⟨?_,?_⟩
    ·rcases hk with rfl|⟨q,rfl⟩<;>simp[part,isAgg,run_underlying hu,hv']
    ·rw[<-List.tail_drop,<-hv];rfl
   rw[Op.eqFields,D0 o2];split at ho
   ·rename_i q m' hu hm;cases ho;unfold EQ at h3;split at h3<;>(try (rename_i e _ _;cases e;done))
    ·rename_i m2 k u s k' u' s' e1 e2 e3;cases e1;split at h3
     ·rename_i hk;subst hk;obtain⟨p1,t1⟩:=px hu (.inr ⟨_,rfl⟩) e2.symm;obtain⟨p2,t2⟩:=px hu (.inr ⟨_,rfl⟩) e3.symm;simp only[Q0,p1,p2,L0,run_equalIn_int w d f.type _ _ _ _ hu];split at h3
      ·rename_i hb;rw[hb];rw[t1,t2] at h3;simpa using Of l _ (i+1) xs ys r hm h3
      ·rename_i hb;have:(u == u')=false:=by simpa using hb
       rw[this];cases h3;simp
     ·cases h3
    ·cases h3
   ·rename_i m' hu hm;cases ho;unfold EQ at h3;split at h3<;>(try (rename_i e _ _;cases e;done))
    ·rename_i m2 u s u' s' e1 e2 e3;cases e1;obtain⟨p1,t1⟩:=px hu (.inl rfl) e2.symm;obtain⟨p2,t2⟩:=px hu (.inl rfl) e3.symm;simp only[Q0,p1,p2,L0,run_equalIn_bool' w d f.type _ _ hu];split at h3
     ·rename_i hb;rw[hb];rw[t1,t2] at h3;simpa using Of l _ (i+1) xs ys r hm h3
     ·rename_i hb;have:(u == u')=false:=by simpa using hb
      rw[this];cases h3;simp
    ·cases h3
   ·cases ho
theorem pu {t:Tj}{c:Bool}{x y:Vz}{r:Bool}(h:HS (CL P t) c w.heap x y=some r):(Op.equal t x y).run P w=.ok r w:=by
 have step:Op.equal t x y=Op.equalIn (9999+1) t x y:=rfl;rw[step,Op.equalIn];generalize hk:CL P t=d at h;cases d
 case none=>unfold HS at h;cases h
 case flat l=>
  cases x<;>cases y<;>(try (cases h;done));rename_i xs ys;obtain⟨fs,hu,hf,hs,_⟩:=Og hk;have hfs:P.fieldsOf t=fs:=by unfold Program.fieldsOf;rw[hu]
  have e:=run_equalIn_struct w 9999 t xs ys (by rw[hfs];exact hu) hs;unfold Op.equalIn at e;rw[e,hfs];exact Of (d:=9998) fs.toList l 0 xs ys r hf (by simpa[HS] using h)
 case bool=>
  have hu:P.underlying t=some .bool:=by
   unfold CL at hk;split at hk<;>first|assumption|(cases hk;done)|(split at hk<;>cases hk;done)|exact Hh hk (by simp) (by simp)
  cases x<;>cases y<;>(try (cases h;done));simp only[HS,M2] at h;simp[AZ hu,h]
 case ptr=>
  obtain⟨e,hu,hz⟩:=qh hk;obtain⟨i,hi,his⟩:=p7 hz;rw[<-his] at hz;cases x<;>(try (cases h;done));rename_i p;cases p<;>cases y<;>(try (cases h;done))
  ·simp only[HS,M2] at h;simp[AZ hu,<-h]
  rename_i q;cases q
  ·simp only[HS,M2] at h;simp[AZ hu,<-h]
  ·rename_i a b;simp only[HS] at h;split at h
   ·rename_i he;simp only[M2] at h;subst h;simp[AZ hu,IZ hi,hz,Lm he]
   ·rename_i hne;split at h
    ·rename_i hp;simp only[W2] at hp;simp only[M2] at h;subst h;simp[AZ hu,IZ hi,hz,MZ hne hp.1 hp.2]
    ·cases h
 case iface=>
  have hu:∃ ms,P.underlying t=some (.interface ms):=by
   unfold CL at hk;split at hk<;>first|exact⟨_,by assumption⟩|(cases hk;done)|(split at hk<;>cases hk;done)|exact Hh hk (by simp) (by simp)
  obtain⟨ms,hu⟩:=hu;cases x<;>cases y<;>(try (cases h;done))
  ·simp only[HS,M2] at h;simp[AZ hu,<-h]
  ·simp only[HS,M2] at h;simp[AZ hu,<-h]
  ·simp only[HS] at h;split at h<;>cases h;simp[AZ hu]
 case slice=>
  have hu:∃ e,P.underlying t=some (.slice e):=by
   unfold CL at hk;split at hk<;>first|exact⟨_,by assumption⟩|(cases hk;done)|(split at hk<;>cases hk;done)|exact Hh hk (by simp) (by simp)
  obtain⟨e,hu⟩:=hu;cases x<;>(try (cases h;done));rename_i p _ _;cases p<;>cases y<;>(try (cases h;done))
  ·simp only[HS,M2] at h;simp[AZ hu,<-h]
  rename_i q _ _;cases q<;>(try (cases h;done))<;>(simp only[HS,M2] at h;simp[AZ hu,<-h])
 case map=>
  have hu:∃ a b,P.underlying t=some (.map a b):=by
   unfold CL at hk;split at hk<;>first|exact⟨_,_,by assumption⟩|(cases hk;done)|(split at hk<;>cases hk;done)|exact Hh hk (by simp) (by simp)
  obtain⟨a,b,hu⟩:=hu;cases x<;>(try (cases h;done));rename_i p;cases p<;>cases y<;>(try (cases h;done))
  ·simp only[HS,M2] at h;simp[AZ hu,<-h]
  rename_i q;cases q<;>(try (cases h;done))<;>(simp only[HS,M2] at h;simp[AZ hu,<-h])
 case func=>
  have hu:∃ a b c,P.underlying t=some (.func a b c):=by
   unfold CL at hk;split at hk<;>first|exact⟨_,_,_,by assumption⟩|(cases hk;done)|(split at hk<;>cases hk;done)|exact Hh hk (by simp) (by simp)
  obtain⟨a,b,c,hu⟩:=hu;cases x<;>cases y<;>(try (cases h;done))<;>(simp only[HS,M2] at h;simp[AZ hu,<-h])
def Ll {op:BinOp}{neg:Bool}{t:Tj}{c:Bool}{x y:Vz}{r:Bool}(ho:Mn op=some neg)(h:HS (CL P t) c w.heap x y=some r) :
  (binOp op t x y).run P w=.ok (.bool (bif neg then !r else r)) w:=by
 have he:=pu h;have hx:∀ k n,x≠.int k n:=by rintro k n rfl;generalize CL P t=d at h;cases d<;>cases h
 have hs:∀ n,x≠.string n:=by rintro n rfl;generalize CL P t=d at h;cases d<;>cases h
 have hf:∀ k n,x≠.float k n:=by rintro k n rfl;generalize CL P t=d at h;cases d<;>cases h
 have hc:∀ k n m,x≠.complex k n m:=by rintro k n m rfl;generalize CL P t=d at h;cases d<;>cases h
 cases op<;>simp only[Mn] at ho<;>cases ho
 ·unfold binOp;cases x<;>first
   | exact absurd rfl (hx _ _)
   | exact absurd rfl (hs _)
   | exact absurd rfl (hf _ _)
   | exact absurd rfl (hc _ _ _)
   | (simp only[Q0,he,L0,O1,cond])
 ·unfold binOp;cases x<;>first
   | exact absurd rfl (hx _ _)
   | exact absurd rfl (hs _)
   | exact absurd rfl (hf _ _)
   | exact absurd rfl (hc _ _ _)
   | (simp only[Q0,he,L0,O1,cond])
end
section
variable {P:Program} {w:World}
def RB {op:UnOp}{x v:Vz}(h:unV op x=some v):(Op.unary op x).run P w=.ok v w:=by
 unfold unV at h;split at h<;>cases h
 ·simp[Op.unary]
 ·simp[Op.unary,Op.intArith]
 ·simp[Op.unary,Op.intBits]
theorem Mo {F:Vz->ByteArray->Sem (ForInStep ByteArray)}(hF:∀ n s,F (.int .u8 n) s=pure (ForInStep.yield (s.push (UInt8.ofNat n.toNat)))):∀ (l:List Vz) (bs:List UInt8) (s:ByteArray),EY l=some bs ->
  (forIn l s F).run P w=.ok ⟨(s.data.toList++bs).toArray⟩ w
 | [],bs,s,h=>by cases h;simp
 | c::l,bs,s,h=>by
  unfold EY at h;split at h
  ·rename_i h0;cases h0
  ·rename_i n r heq;cases heq;split at h
   ·rename_i l' hl;cases h;simp only[List.forIn_cons,hF,Q0,O1,L0];rw[Mo hF l l' _ hl];congr 2;simp[ByteArray.push]
   ·cases h
  ·cases h
def AEK {a:Addr}{c:Nat}:(Conv.bytesToString (.slice (some a) 0 c)).run P w=.ok (.string .empty) w:=by
 simp[Conv.bytesToString,loadCells,loadCellsFrom]
def ke {x v:Vz}(h:OE w.heap x=some v):(Conv.bytesToString x).run P w=.ok v w:=by
 unfold OE at h;split at h
 ·cases h;simp[Conv.bytesToString]
 ·rename_i a len cap;have fin:(if len=0 then some (.string .empty) else none)=some v->(Conv.bytesToString (.slice (some a) len cap)).run P w=.ok v w:=fun hh=>by
   split at hh
   ·rename_i h0;subst h0;cases hh;exact AEK
   ·cases hh
  split at h
  ·rename_i c T fz hb;split at h
   ·exact fin h
   ·rename_i hsp;split at h
    ·rename_i hle;split at h
     ·rename_i l hl;cases h;obtain⟨b,o,sp⟩:=a;cases sp with
      | some q=>simp at hsp
      | none=>
       simp only[Conv.bytesToString,Q0,HN hb hle,L0];rw[<-Array.forIn_toList,Mo (fun n s=>by simp) _ _ ByteArray.empty hl];simp
     ·cases h
    ·exact fin h
  ·exact fin h
 ·cases h
def UX {b n:Nat}{c:Array Vz}{T:Tj}(hb:w.heap[b]? = some (.cells c T (0,0))) :
  (w.freeze ⟨b,n,none⟩ 1).heap=w.heap.setIfInBounds b (.cells c T (n,n+1)):=by
 unfold World.freeze;simp only[Nat.one_ne_zero,if_false];apply N6;intro i;rw[Array.getElem?_modify,D4];by_cases hi:b=i
 ·subst hi;obtain⟨hlt,hx⟩:=S3.1 hb;simp[hlt,hx]
 ·simp[hi]
theorem AHM {T:Tj}{x:Vz}{k:Kt}(h:AEU T x w.heap k):∃ s,x=.string s/\∃ v w',(Conv.stringToBytes T s).run P w=.ok v w'/\Do w w'/\k v w'.heap:=by
 obtain⟨s,rfl,h⟩:=h;refine⟨s,rfl,?_⟩
 let cap:=(Question.appendCap s.size 0 T).cut (w.tape w.drawn (.appendCap s.size 0 T))
 have hcap:s.size<=cap:=by simp[cap,Question.cut]
 let cs:Array Vz:=DJ s++Array.replicate (cap-s.size) (.int .u8 0)
 have hcs:cs.size=cap:=by simp[cs,DJ];have:s.data.size=s.size:=rfl;omega
 let w1:World:={w with drawn:=w.drawn+1,heap:=w.heap.push (.cells cs T)}
 have hb:w1.heap[w.heap.size]? = some (.cells cs T (0,0)):=by simp[w1]
 have hf:=UX (n:=cap) hb;have hE:qk w.heap (w1.freeze ⟨w.heap.size,cap,none⟩ 1).heap:=by
  intro i hi;rw[hf,D4,F0 (by omega)];exact FW i hi
 have hn:(w1.freeze ⟨w.heap.size,cap,none⟩ 1).heap[w.heap.size]? = some (.cells cs T (cap,cap+1)):=by
  rw[hf,D4];simp[w1]
 refine⟨_,w1.freeze ⟨w.heap.size,cap,none⟩ 1,?_,?_,h w.heap.size cap _ hcap hE (I0 _) hn⟩
 ·simp only[Conv.stringToBytes,Q0,run_choose,Question.forced,K3,if_false,L0,EM,markStringish,run_shape,O1];have hsh:World.shape? w1 w.heap.size=some (T,cap):=by simp[World.shape?,hb,hcs]
  simp only[w1,cs,DJ,cap] at hsh ⊢;simp[hsh]
 ·unfold World.freeze;simp only[Nat.one_ne_zero,if_false];exact⟨rfl,rfl⟩
def VU {t e:Tj}{l c:Vz}{k:Kt}(ht:P.underlying t=some (.slice e))(h:Aa (Am P e) (BM P e) (Fh P e) e l c w.heap k) :
  ∃ v w',(Instr.makeSlice t l c).run P w=.ok v w'/\Do w w'/\k v w'.heap:=by
 obtain⟨kl,kc,n,m,zv,rfl,rfl,hz,h0,h1,h2,h3,h⟩:=h;obtain⟨i,hi,hiz⟩:=LZ hz;have hwn:IntKind.i64.wrap n=n:=by unfold IntKind.wrap;simp[IntKind.bits,IntKind.signed];omega
 have hwm:IntKind.i64.wrap m=m:=by unfold IntKind.wrap;simp[IntKind.bits,IntKind.signed];omega
 rw[Jk hi] at h2;rw[Vd hi] at h;have hmb:¬((i.bytes:Int)*m>2^48):=by rw[Int.mul_comm];omega
 have hnb:¬((i.bytes:Int)*n>2^48):=by
  have:(i.bytes:Int)*n<=i.bytes*m:=Int.mul_le_mul_of_nonneg_left h1 (by omega);omega
 refine⟨.slice (some ⟨w.heap.size,0,none⟩) n.toNat m.toNat,{w with heap:=w.heap.push (.cells (BN zv.cells (m.toNat*i.size)) e)},?_,BX,h _ _ FW (I0 _) GX⟩;have hm0:¬m<0:=by omega
 have hn0:¬n<0:=by omega
 have hnm:¬n>m:=by omega
 simp only[Instr.makeSlice,Q0,AZ ht,L0,asInt,asIntOf,O1,DT hi,hwn,hwm];have hc:((decide (m<0)||decide ((i.bytes:Int)*m>2^48))||decide (n<0)||decide (n>m))=false:=by simp[hm0,hn0,hnm];omega
 simp only[hc,K3,if_false,Q0,run_askRoom,L0,IZ hi,Sem.run_ite,O1,CE hz];by_cases hz0:m.toNat*i.size=0
 ·simp only[hz0,if_true,L0,EM,O1];congr 3;congr 1;simp[BN,hz0]
 ·simp only[hz0,if_false,L0,EM,O1];rfl
def OG {x:Option Vz}{d n:Nat}(h:Bb d x=some n):(x=none/\n=d)\/∃ kk i,x=some (.int kk i)/\0<=i/\n=i.toNat:=by
 unfold Bb at h;split at h
 ·cases h;exact .inl ⟨rfl,rfl⟩
 ·split at h
  ·cases h;rename_i kk i hi;exact .inr ⟨kk,i,rfl,hi,rfl⟩
  ·cases h
 ·cases h
def Km {isS:Bool}{len cap:Nat}{lo hi:Option Vz}{l r:Nat}(hl:Bb 0 lo=some l)(hr:Bb len hi=some r)(h1:l<=r)(h2:r<=cap)(hlen:hi=none->len<=cap) :
  (Instr.sliceBounds isS len cap lo hi none).run P w=.ok (l,r,cap) w:=by
 rcases OG hr with⟨rfl,rfl⟩|⟨kk,i,rfl,h0,rfl⟩<;>rcases OG hl with⟨rfl,rfl⟩|⟨kk',i',rfl,h0',rfl⟩
 ·simp[Instr.sliceBounds]
 ·have:i'<=(r:Int):=by omega
  simp[Instr.sliceBounds,Instr.sliceBound,asIntOf,h0',this]
 ·have:i<=(cap:Int):=by omega
  simp[Instr.sliceBounds,Instr.sliceBound,asIntOf,h0,this]
 ·have h3:i<=(cap:Int):=by omega
  have h4:i'<=i:=by omega
  have h5:i'<=max i 0:=by omega
  simp[Instr.sliceBounds,Instr.sliceBound,asIntOf,h0,h3,h0',h4,h5]
def Oy {t:Tj}{d:SliceKind}(h:DU P t=d) :
  (d=.str/\P.underlying t=some .string)\/(∃ e,d=.slice (BM P e)/\P.underlying t=some (.slice e)/\GA P e=true)\/
  (∃ n e,d=.arr n (BM P e)/\P.underlying t=some (.array n e)/\GA P e=true)\/d=.none:=by
 unfold DU at h;split at h
 ·exact .inl ⟨h.symm,by assumption⟩
 ·rename_i e he;cases ho:GA P e with
  | false=>rw[ho] at h;exact .inr (.inr (.inr h.symm))
  | true=>rw[ho] at h;exact .inr (.inl ⟨e,h.symm,he,ho⟩)
 ·rename_i n e he;cases ho:GA P e with
  | false=>rw[ho] at h;exact .inr (.inr (.inr h.symm))
  | true=>rw[ho] at h;exact .inr (.inr (.inl ⟨n,e,h.symm,he,ho⟩))
 ·exact .inr (.inr (.inr h.symm))
def RA {t:Tj}{x v:Vz}{lo hi:Option Vz}(h:Bi (DU P t) x lo hi=some v):(Instr.sliceAt t x lo hi none).run P w=.ok v w:=by
 rcases Oy (P:=P) (t:=t) rfl with⟨hd,hu⟩|⟨e,hd,hu,ho⟩|⟨n,e,hd,hu,ho⟩|hd
 ·rw[hd] at h;cases x<;>(try (cases h;done));rename_i s;unfold Bi at h;dsimp only at h;split at h
  ·rename_i l r hl hr;split at h
   ·rename_i hle;cases h;simp only[Instr.sliceAt,Instr.slice,Q0,AZ hu,L0,Km (isS:=false) hl hr hle.1 hle.2 (fun _=>I0 _),O1,Z5,K3,if_false]
   ·cases h
  ·cases h
 ·rw[hd] at h;cases x<;>(try (cases h;done));rename_i a len cap;unfold Bi at h;dsimp only at h;split at h
  ·rename_i l r hl hr;split at h
   ·rename_i hle;cases h;have hlen:hi=none->len<=cap:=by
     rintro rfl;rcases OG hr with⟨_,h⟩|⟨_,_,h,_⟩
     ·omega
     ·cases h
    simp only[Instr.sliceAt,Instr.slice,Q0,AZ hu,L0,Km (isS:=true) hl hr hle.1 hle.2 hlen,O1,Bh ho]
   ·cases h
  ·cases h
 ·rw[hd] at h;cases x<;>(try (cases h;done));rename_i p;cases p with
  | none=>cases h
  | some a=>
   unfold Bi at h;dsimp only at h;split at h
   ·rename_i l r hl hr;split at h
    ·rename_i hle;cases h;simp only[Instr.sliceAt,Q0,AZ hu,L0,Instr.sureAddr,Km (isS:=false) hl hr hle.1 hle.2 (fun _=>I0 _),O1,Bh ho]
    ·cases h
   ·cases h
 ·rw[hd] at h;cases h
def NB {t:Tj}{x i:Vz}{k:Vz->Prop}(h:Ap (DU P t) x i k):∃ v,(Instr.indexAt t x i).run P w=.ok v w/\k v:=by
 obtain⟨kk,n,rfl,h⟩:=h;rcases Oy (P:=P) (t:=t) rfl with⟨hd,hu⟩|⟨e,hd,hu,ho⟩|⟨m,e,hd,hu,ho⟩|hd<;>rw[hd] at h
 ·exact h.elim
 ·obtain⟨a,len,cap,rfl,h0,h1,hk⟩:=h;refine⟨_,?_,hk⟩;simp only[Instr.indexAt,Q0,asIntOf,O1,L0,AZ hu];rw[D0 ⟨h0,h1⟩];simp only[Q0,Bh ho,L0,O1]
 ·obtain⟨a,rfl,h0,h1,hk⟩:=h;refine⟨_,?_,hk⟩;simp only[Instr.indexAt,Q0,asIntOf,O1,L0,AZ hu,Instr.sureAddr];rw[D0 ⟨h0,h1⟩];simp only[Q0,Bh ho,L0,O1]
 ·exact h.elim
def VW {t:Tj}{cs:Array Vz}{off:Nat}{v:Vz}(ho:GA P t=true)(h:VB (DD P t) (BM P t) cs off=some v):(part t cs off).run P w=.ok v w:=by
 unfold part VB at *;simp only[Q0,NE ho,L0];cases hg:DD P t with
 | true=>rw[hg] at h;cases h;simp[Bh ho]
 | false=>rw[hg] at h;simp only[cond] at h;simp[h]
def PZ {t:Tj}{x i:Vz}{k:Vz->Prop}(hu:P.underlying t=some .string)(h:Ef x i k):∃ v,(Instr.index t x i).run P w=.ok v w/\k v:=by
 obtain⟨s,kk,n,b,rfl,rfl,h0,hb,hk⟩:=h;refine⟨_,?_,hk⟩;simp[Instr.index,asIntOf,AZ hu,h0,hb]
def PY {t e:Tj}{m:Nat}{x i:Vz}{k:Vz->Prop}(hu:P.underlying t=some (.array m e))(ho:GA P e=true)(h:Jq (DD P e) m (BM P e) x i k):∃ v,(Instr.index t x i).run P w=.ok v w/\k v:=by
 obtain⟨cs,kk,n,v,rfl,rfl,h0,h1,hp,hk⟩:=h;refine⟨v,?_,hk⟩;simp only[Instr.index,Q0,asIntOf,O1,L0,AZ hu];rw[D0 ⟨h0,h1⟩];simp only[Q0,Bh ho,L0];exact VW ho hp
def PW {t:Tj}{f:Nat}{fs:Array Field}{fd:Field}{x:Vz}{k:Vz->Prop}(hu:P.underlying t=some (.struct fs))(hf:fs[f]? = some fd)(ho:GA P fd.type=true)
  (h:Ng (DD P fd.type) fd.offset (BM P fd.type) x k):∃ v,(Instr.field t x f).run P w=.ok v w/\k v:=by
 obtain⟨cs,v,rfl,hp,hk⟩:=h;refine⟨v,?_,hk⟩;simp only[Instr.field,Q0,AZ hu,L0];simp only[hf,Q0,asAgg,O1,L0];exact VW ho hp
def Yl {t:Tj}{key:Vz}(h:EA (Ov P t) key=true):∃ kt e d,P.underlying t=some (.map kt e)/\P.underlying kt=some d/\EA (some d) key=true:=by
 unfold Ov at h;split at h
 ·rename_i kt e hu;cases hd:P.underlying kt with
  | none=>rw[hd] at h;cases h
  | some d=>rw[hd] at h;exact⟨kt,e,d,hu,hd,h⟩
 ·cases h
def El {kt:Tj}{d:TypeDesc}{key:Vz}{em:Bool}(hd:P.underlying kt=some d)(h:EA (some d) key=true):(Instr.checkKey em 10000 kt key).run P w=.ok () w:=by
 show (Instr.checkKey em (9999+1) kt key).run P w=_;unfold Instr.checkKey;unfold EA at h;split at h<;>rename_i he<;>first|(cases h;done)|skip
 all_goals (try (cases he))
 all_goals simp[AZ hd]
theorem Ob {d:TypeDesc}{key:Vz}(h:EA (some d) key=true):∀ (l:List MapEntry) (i:Nat) (r:Option (Nat×Vz)),DI key l i=some r->Instr.findNow d key l i=some r
 | [],i,r,hr=>hr
 | e::l,i,r,hr=>by
  unfold DI at hr;unfold Instr.findNow;have hs:∀ b,JM key e.key=some b->Instr.sameNow d key e.key=some b:=by
   intro b hb;unfold EA at h;split at h<;>rename_i he<;>first|(cases h;done)|skip
   all_goals (try (cases he))
   all_goals (cases hek:e.key<;>rw[hek] at hb<;>(try (cases hb;done)))
   all_goals (simp only[JM] at hb;simp only[Instr.sameNow];exact hb)
  cases hk:JM key e.key with
  | none=>rw[hk] at hr;cases hr
  | some b=>
   rw[hk] at hr;rw[hs b hk];cases b with
   | true=>exact hr
   | false=>exact Ob h l (i+1) r hr
def Fc {kt:Tj}{d:TypeDesc}{key:Vz}{l:List MapEntry}{r:Option (Nat×Vz)}(hd:P.underlying kt=some d)(h:EA (some d) key=true)(hr:DI key l 0=some r) :
  (Instr.findKey kt key l).run P w=.ok r w:=by
 unfold Instr.findKey;simp only[Q0,AZ hd,L0,Ob h l 0 r hr,O1]
def CP {r:Nat}{es:Array MapEntry}{c:Nat}(h:w.heap[r]? = some (.map es c)):(getObj r).run P w=.ok (.map es c) w:=by simp[getObj,Sem.run,h]
def En {r:Nat}{es:Array MapEntry}{c:Nat}{o:Obj}(h:w.heap[r]? = some (.map es c)):(setObj r o).run P w=.ok () {w with heap:=w.heap.setIfInBounds r o}:=by simp[setObj,Sem.run,h]
def Pa {t e:Tj}{ok:Bool}{x key:Vz}{k:Vz->Prop}(he:AGv P t=some e)(h:IV (Ov P t) (Am P e) ok x key w.heap k) :
  ∃ v,(Instr.lookup t x key ok).run P w=.ok v w/\k v:=by
 obtain⟨hp,zv,r,hz,hl,hk⟩:=h;obtain⟨kt,e',d,hu,hd,hp'⟩:=Yl hp;have:e'=e:=by unfold AGv at he;rw[hu] at he;exact V0 he
 subst this;refine⟨_,?_,hk⟩;unfold Lc at hl;split at hl
 ·cases hl;simp only[Instr.lookup,Q0,AZ hu,L0,O1,El hd hp',Fc (l:=[]) hd hp' rfl,CE hz];cases ok<;>rfl
 ·rename_i rr;split at hl
  ·rename_i es c hb;simp only[Instr.lookup,Q0,AZ hu,L0,CP hb,O1,El hd hp',Fc hd hp' hl];cases r with
   | none=>simp only[Q0,CE hz,L0,O1];cases ok<;>rfl
   | some q=>obtain⟨j,v⟩:=q;simp only[O1,L0];cases ok<;>rfl
  ·cases hl
 ·cases hl
theorem Mu {key:Vz}:∀ (l:List MapEntry) (i j:Nat) (v:Vz),DI key l i=some (some (j,v))->i<=j/\∃ e,l[j-i]? = some e/\JM key e.key=some true
 | [],i,j,v,h=>by cases h
 | e::l,i,j,v,h=>by
  unfold DI at h;split at h
  ·rename_i hk;cases h;exact⟨I0 _,e,by simp,hk⟩
  ·obtain⟨h1,e',h2,h3⟩:=Mu l (i+1) j v h;refine⟨by omega,e',?_,h3⟩;rw[show j-i=(j-(i+1))+1 by omega];exact h2
  ·cases h
def Tz {a b:ByteArray}(h:(a == b)=true):a=b:=by
 have:(a.data == b.data)=true:=h;exact ByteArray.ext (by simpa using this)
def QM (a:ByteArray):(a == a)=true:=by
 show (a.data == a.data)=true;simp
def Yk {a b:Vz}(h:JM a b=some true):a=b:=by
 unfold JM at h;split at h
 ·simp only[M2] at h;rw[Tz h]
 ·split at h
  ·rename_i hk;simp only[M2,beq_iff_eq] at h;rw[hk,h]
  ·cases h
 ·simp only[M2,beq_iff_eq] at h;rw[h]
 ·cases h
def TA {old new:Vz}(h:JM new old=some true):(Instr.keyThatStays old new).run P w=.ok new w:=by
 have:=Yk h;subst this;unfold Instr.keyThatStays;have:Instr.sameBits 10000 new new=true:=by
  cases new<;>(try (cases h;done))<;>simp[Instr.sameBits,QM]
 simp[this]
def QC {t:Tj}{x key v:Vz}{k:H->Prop}(h:Ld (Ov P t) x key v w.heap k):∃ w',(Instr.mapUpdate t x key v).run P w=.ok () w'/\Do w w'/\k w'.heap:=by
 obtain⟨hp,r,es,c,o,rfl,hb,ho,hk⟩:=h;obtain⟨kt,e,d,hu,hd,hp'⟩:=Yl hp;cases hm:DI key es.toList 0 with
 | none=>rw[hm] at ho;cases ho
 | some q=>
  rw[hm] at ho;refine⟨{w with heap:=w.heap.setIfInBounds r o},?_,BX,hk⟩;simp only[Instr.mapUpdate,Q0,AZ hu,L0,CP hb,El hd hp',Fc hd hp' hm];cases q with
  | none=>
   unfold Yn at ho;cases ho;exact En hb
  | some jv=>
   obtain⟨j,u⟩:=jv;unfold Yn at ho;cases ho;obtain⟨_,e',he',hke⟩:=Mu _ _ _ _ hm;rw[C8,Q7] at he';simp only[he',N5,C9,Q0,TA hke,L0];exact En hb
theorem Yy {ty t:Tj}{us:List Tj}{x key:Vz}{k:H->Prop}(h:Sh (Ov P t) x key w.heap k):∃ w',(Builtin.delete_ (t::us).toArray ty #[x,key]).run P w=.ok (.tuple #[]) w'/\Do w w'/\k w'.heap:=by
 obtain⟨hp,r,es,c,q,rfl,hb,hm,hk⟩:=h;obtain⟨kt,e,d,hu,hd,hp'⟩:=Yl hp;have h0:((t::us).toArray:Array Tj)[0]? = some t:=rfl;have h1:(#[Value.map (some r),key]:Array Vz)[0]? = some (.map (some r)):=rfl;have h2:(#[Value.map (some r),key]:Array Vz)[1]? = some key:=rfl;cases q with
 | none=>
  refine⟨{w with heap:=w.heap.setIfInBounds r (.map es c)},?_,BX,hk⟩;simp only[Builtin.delete_,h0,h1,h2,Q0,AZ hu,L0,CP hb,El hd hp',Fc hd hp' hm];simp only[En hb,L0,O1]
 | some jv=>
  obtain⟨j,u⟩:=jv;refine⟨{w with heap:=w.heap.setIfInBounds r (.map (es.eraseIdxIfInBounds j) c)},?_,BX,hk⟩;simp only[Builtin.delete_,h0,h1,h2,Q0,AZ hu,L0,CP hb,El hd hp',Fc hd hp' hm];simp only[En hb,L0,O1]
def py {t kt e:Tj}{x:Vz}{k:Kt}(hu:P.underlying t=some (.map kt e))(h:HM x w.heap k):∃ v w',(Instr.range t x).run P w=.ok v w'/\Do w w'/\k v w'.heap:=by
 unfold HM at h;split at h
 ·refine⟨_,{w with heap:=w.heap.push (.mapIter none 0 #[] 0)},?_,BX,h w.heap.size _ FW (I0 _) GX⟩;simp[Instr.range,AZ hu]
 ·obtain⟨es,c,hb,h⟩:=h;refine⟨_,{w with heap:=w.heap.push (.mapIter (some _) c #[] c)},?_,BX,h w.heap.size _ FW (I0 _) GX⟩;simp[Instr.range,AZ hu,CP hb]
 ·exact h.elim
def EH {r:Nat}{m:Option Nat}{s l:Nat}{seen:Array Nat}(h:w.heap[r]? = some (.mapIter m s seen l)):(getObj r).run P w=.ok (.mapIter m s seen l) w:=by simp[getObj,Sem.run,h]
def Qz {x:Vz}{k:Vz->Prop}(h:OO x w.heap k):∃ v,(Instr.entry x).run P w=.ok v w/\k v:=by
 obtain⟨r,m,since,seen,es,c,stamp,e,rfl,hr,hs,hm,hf,hk⟩:=h;refine⟨_,?_,hk⟩;simp[Instr.entry,EH hr,hs,CP hm,hf]
def PV {α:Type}{c:Array α}(hc:0<c.size):∃ j w',(choose (.mapNext c.size)).run P w=.ok j w'/\j<c.size/\Do w w'/\w'.heap=w.heap:=by
 rw[run_choose];by_cases hf:Question.forced (.mapNext c.size)=true
 ·rw[D0 hf];exact⟨0,w,rfl,hc,BX,rfl⟩
 ·rw[F0 hf];exact⟨_,_,rfl,by simp only[Question.cut];exact Nat.mod_lt _ hc,BX,rfl⟩
def NR {r:Nat}{m:Option Nat}{s l:Nat}{seen:Array Nat}{o:Obj}(h:w.heap[r]? = some (.mapIter m s seen l)):(setObj r o).run P w=.ok () {w with heap:=w.heap.setIfInBounds r o}:=by simp[setObj,Sem.run,h]
def AEM {x:Vz}{ty:Tj}{k:Kt}(h:PH x w.heap k):∃ v w',(Instr.next x false ty).run P w=.ok v w'/\Do w w'/\k v w'.heap:=by
 obtain⟨r,rfl,⟨s,seen,l,hr,hk⟩|⟨m,since,seen,es,hr,hm,hall,hend,hstep⟩⟩:=h
 ·exact⟨_,w,by simp[Instr.next,EH hr],BX,hk⟩
 ·have hchk:(!seen.isEmpty && !es.isEmpty&&es.all (fun e=>decide (e.born>=since)))=false:=by
   cases hes:es.isEmpty with
   | true=>simp
   | false=>
    have:es.all (fun e=>decide (e.born>=since))=false:=by
     rw[<-Bool.not_eq_true];intro hc;rw[Array.all_eq_true] at hc;have hpos:0<es.size:=by
      rcases X7 es.size with h0|h0
      ·rw[Array.isEmpty] at hes;simp[h0] at hes
      ·exact h0
     have h1:=hc 0 hpos;have h2:=hall es[0] (Array.getElem_mem hpos);simp at h1;omega
    simp[this]
  have hold:(es.filter fun e=>!seen.contains e.born).filter (fun e=>decide (e.born<since))=es.filter fun e=>!seen.contains e.born:=by
   rw[Array.filter_eq_self];intro e he;have:=hall e (Array.mem_filter.1 he).1;simpa using this
  have hnew:(es.filter fun e=>!seen.contains e.born).filter (fun e=>decide (e.born>=since))=#[]:=by
   rw[Array.filter_eq_empty_iff];intro e he;have:=hall e (Array.mem_filter.1 he).1;simp;omega
  generalize hL:(es.filter fun e=>!seen.contains e.born)=L at hold hnew;by_cases hemp:L.isEmpty=true
  ·have hL0:L=#[]:=by simpa using hemp
   refine⟨.tuple #[.bool false],w,?_,BX,hend fun e he=>?_⟩
   ·simp only[Instr.next,Q0,EH hr,L0,CP hm,hchk,K3,if_false,O1,hL,hold,hnew,hemp,if_true];simp[hL0,Question.forced]
   ·rw[<-Bool.not_eq_false];intro hc;have:e∈L:=by rw[<-hL];exact Array.mem_filter.2 ⟨he,by rw[hc];rfl⟩
    rw[hL0] at this;simp at this
  ·have hne:L.isEmpty=false:=by simpa using hemp
   have hcand:(#[]++(L++#[]).map some:Array (Option MapEntry))=L.map some:=by simp
   have hpos:0<(L.map some).size:=by
    rcases X7 L.size with h0|h0
    ·rw[Array.isEmpty] at hne;simp[h0] at hne
    ·simpa using h0
   obtain⟨j,w1,hj,hlt,hs,hh⟩:=PV (P:=P) (w:=w) hpos;have hjl:j<L.size:=by simpa using hlt
   have hget:(L.map some)[j]? = some (some L[j]):=by simp[hjl]
   have hmem:L[j]∈es.filter fun e=>!seen.contains e.born:=by rw[hL];exact Array.getElem_mem hjl
   obtain⟨hme,hms⟩:=Array.mem_filter.1 hmem;have hr1:w1.heap[r]? = some (.mapIter (some m) since seen since):=by rw[hh];exact hr
   refine⟨.tuple #[.bool true,L[j].key,L[j].val],{w1 with heap:=w1.heap.setIfInBounds r (.mapIter (some m) since (seen.push L[j].born) since)},?_,hs,?_⟩
   ·simp only[Instr.next,Q0,EH hr,L0,CP hm,hchk,K3,if_false,O1,hL,hold,hnew,hne,hcand,hj,hget,NR hr1]
   ·show k _ (w1.heap.setIfInBounds r _);rw[hh];exact hstep _ hme (by simpa using hms)
def Ia {x:Vz}{n:Nat}(h:srcLen x=some n):(Builtin.lenOf x).run P w=.ok n w:=by
 unfold srcLen at h;split at h
 ·cases h;rfl
 ·cases h;rfl
 ·cases h
def GB {sz n:Nat}{x:Vz}{cs:Array Vz}(h:By sz n w.heap x=some cs):(Builtin.firstCells sz n x).run P w=.ok cs w:=by
 unfold By at h;split at h
 ·cases h;rfl
 ·rename_i a len cap;have fin:(if n*sz=0 then some #[] else none)=some cs->(Builtin.firstCells sz n (.slice (some a) len cap)).run P w=.ok cs w:=fun hh=>by
   split at hh
   ·rename_i h0;cases hh;show (loadCells a (n*sz)).run P w=_;rw[h0];rfl
   ·cases hh
  split at h
  ·rename_i c T fz hb;split at h
   ·exact fin h
   ·rename_i hsp;split at h
    ·rename_i hle;cases h;obtain⟨b,o,sp⟩:=a;cases sp with
     | some q=>simp at hsp
     | none=>exact HN hb hle
    ·exact fin h
  ·exact fin h
 ·cases h;rfl
 ·cases h
def Ln {c:Array Vz}{T:Tj}{a:Addr}{off:Nat}{vs:Array Vz}(hb:w.heap[a.block]? = some (.cells c T (0,0)))(hsp:a.spot=none)(hle:a.off+off+vs.size<=c.size)
  (hone:vs.toList.all Value.oneCell'=true):∃ w',(storeCells (a.add off) vs.toList).run P w=.ok () w'/\Do w w'/\w'.heap=w.heap.setIfInBounds a.block (.cells (Av c (a.off+off) vs.toList) T (0,0)):=by
 obtain⟨b,o,sp⟩:=a;subst hsp;have:(⟨b,o,none⟩:Addr).add off=⟨b,o+off,none⟩:=by
  unfold Addr.add;split
  ·rename_i h0;subst h0;rfl
  ·rfl
 rw[this];obtain⟨w',hr,hs,hh⟩:=GY (P:=P) vs.toList w (o+off) 0 c hb (by simpa using hle) hone;exact⟨w',hr,hs,hh⟩
def Om {need cap bytes:Nat}(h1:cap<need)(h2:need*bytes<=140737488355328):¬(Builtin.nextslicecap need cap*bytes>2^48):=by
 have:=growslice_fits h1 h2;omega
theorem Fp {e:Tj}{i:TypeInfo}{s:Vz}{n:Nat}{new:Array Vz}{k:Kt}{zeros:Bool}{A:Sem (Array Vz)}{base:Option Addr}{sLen sCap:Nat}{mk:Sem Vz}{G:Prop}[Decidable G]
  (hs:s=.slice base sLen sCap) (hi:P.info? e=some i)
  (hA:∀ w':World,w'.heap=w.heap->A.run P w'=.ok new w')
  (hG:¬G)
  (hnew:new.size<=n*BM P e)
  (h:Mp e (Am P e) (BM P e) (Fh P e) s n new w.heap k) :
  ∃ v w',(do
   if sLen+n<=sCap then
    let new <-A
    if let some a:=base then storeCells (a.add (sLen*BM P e)) new.toList
    pure (.slice base (sLen+n) sCap)
   else
    if ((sLen+n:Nat):Int)>IntKind.i64.max/\(zeros=true\/(<-typeInfo e).bytes=0) then runtimePanic (.error "growslice: len out of range")
    if G then mk else
    let newCap <-choose (.appendCap (sLen+n) sCap e)
    askRoom (newCap*(<-typeInfo e).bytes)
    let old <-Builtin.firstCells (BM P e) sLen s
    let new <-A
    let rest:=Builtin.zeroCells (<-zeroValue e).cells (newCap-(sLen+n))
    pure (.slice (some (<-newRow e (old++new++rest))) (sLen+n) newCap):Sem Vz).run P w=.ok v w'/\Do w w'/\k v w'.heap:=by
 obtain⟨base',len,cap,zv,old,hs',hz,hzs,hb,hb2,hold,hroom,hgrow⟩:=h;rw[hs] at hs';cases hs';by_cases hle:sLen+n<=sCap
 ·rw[D0 hle];rcases hroom hle with⟨rfl,rfl,hk⟩|⟨a,c,T',rfl,hsp,hbl,hfit,hone,hk⟩
  ·refine⟨_,w,?_,BX,hk⟩;simp[hA w rfl]
  ·rw[V5] at hfit;obtain⟨w',hr,hsd,hh⟩:=Ln (P:=P) (off:=sLen*BM P e) (vs:=new) hbl hsp (by omega) hone;refine⟨.slice (some a) (sLen+n) sCap,w',?_,hsd,by rw[hh];exact hk⟩;simp[hA w rfl,hr]
 ·rw[F0 hle];have hlt:sCap<sLen+n:=by omega
  have hbig:¬(((sLen+n:Nat):Int)>IntKind.i64.max/\(zeros=true\/i.bytes=0)):=by
   rintro⟨h1,_⟩;have:IntKind.i64.max=9223372036854775807:=rfl;rw[this] at h1;omega
  let q:=Question.appendCap (sLen+n) sCap e
  let c':=q.cut (w.tape w.drawn q)
  have hc1:sLen+n<=c':=by simp[c',q,Question.cut]
  have hc2:c'<=9223372036854775807:=by
   have hmod:=Nat.mod_lt (w.tape w.drawn q) (show 0<2^63-(sLen+n) by omega);simp only[c',q,Question.cut] at hmod ⊢;omega
  let cells:=old++new++Builtin.zeroCells zv.cells (c'-(sLen+n))
  let w1:World:={w with drawn:=w.drawn+1}
  refine⟨.slice (some ⟨w.heap.size,0,none⟩) (sLen+n) c',{w with drawn:=w.drawn+1,heap:=w.heap.push (.cells cells e)},?_,BX,hgrow hlt _ c' _ hc1 hc2 FW (I0 _) GX⟩;have hold1:(Builtin.firstCells (BM P e) sLen s).run P w1=.ok old w1:=GB (by exact hold);have hA1:=hA w1 rfl;have hzv:(zeroValue e).run P w1=.ok zv w1:=CE hz;have hch:(choose (.appendCap (sLen+n) sCap e)).run P w=.ok c' w1:=by rw[run_choose];simp[Question.forced,c',q,w1]
  simp only[Q0,DT hi,L0,Sem.run_ite,hbig,if_false,O1,hG,hch,run_askRoom,hold1,hA1,hzv,EM];rfl
theorem Ih {sz n:Nat}{h:H}{x:Vz}{new:Array Vz}(hsz:1<=sz)(hc:By sz n h x=some new):new.size<=n*sz:=by
 unfold By at hc;split at hc
 ·cases hc;simp
 ·have fin:(if n*sz=0 then some #[] else none)=some new->new.size<=n*sz:=fun hh=>by
   split at hh
   ·cases hh;simp
   ·cases hh
  split at hc
  ·split at hc
   ·exact fin hc
   ·split at hc
    ·cases hc;simp;omega
    ·exact fin hc
  ·exact fin hc
 ·rename_i s;cases hc;have h1:(DJ (s.extract 0 n)).size<=n:=by
   simp only[DJ,Array.size_map];have:(s.extract 0 n).data.size=(s.extract 0 n).size:=rfl;rw[this,ByteArray.size_extract];omega
  exact C6 h1 (Nat.le_mul_of_pos_right n hsz)
 ·cases hc
def ADy {t:Tj}(h:GA P t=true):1<=BM P t:=by
 unfold GA at h;simp only[W2,M7] at h;rcases X7 (BM P t) with h0|h0
 ·rw[h0] at h;simp at h
 ·exact h0
def jd {e:Tj}{s:Vz}{n:Nat}{z:Option Vz}{sz by_:Nat}{new:Array Vz}{h:H}{k:Kt}(hg:Mp e z sz by_ s n new h k):∃ base len cap,s=.slice base len cap/\(len+n)*by_<=140737488355328:=by
 obtain⟨base,len,cap,zv,old,hs,hz,hzs,hb,hb2,hold,hroom,hgrow⟩:=hg;exact⟨base,len,cap,hs,hb⟩
theorem Yx {t u e ty:Tj}{d:TypeDesc}{s x:Vz}{k:Kt}(ht:Gl P t=some e)(hu:P.underlying u=some d)(hd:∀ kk,d≠.int kk)
  (h:Ac e (Am P e) (BM P e) (Fh P e) s x w.heap k):∃ v w',(Builtin.append_ #[t,u] ty #[s,x]).run P w=.ok v w'/\Do w w'/\k v w'.heap:=by
 obtain⟨n,new,hn,hc,hg⟩:=h;obtain⟨hte,ho⟩:=LK ht;obtain⟨i,_,hi,_,_⟩:=No ho;obtain⟨base,sLen,sCap,hs,hb⟩:=jd hg;have h0:(#[t,u]:Array Tj)[0]? = some t:=rfl;have h1:(#[t,u]:Array Tj)[1]? = some u:=rfl;have h2:(#[s,x]:Array Vz)[0]? = some s:=rfl;have h3:(#[s,x]:Array Vz)[1]? = some x:=rfl;by_cases hle:sLen+n<=sCap
 ·obtain⟨v,w',hr,hsd,hk⟩:=Fp (P:=P) (zeros:=false) (A:=Builtin.firstCells (BM P e) n x) (mk:=pure .nilIface) (G:=False) hs hi (fun w' hw=>GB (by rw[hw];exact hc)) (fun h=>h) (Ih (ADy ho) hc) hg;refine⟨v,w',?_,hsd,hk⟩;rw[<-hr];subst hs;cases d<;>first
   | exact absurd rfl (hd _)
   | (simp only[Builtin.append_,h0,h1,h2,h3,Q0,AZ hte,L0,Bh ho,AZ hu,O1,K3,if_false,Ia hn,T5,if_true,hle];rfl)
 ·have hG:=Om (Nat.lt_of_not_le hle) hb;rw[Jk hi] at hG;obtain⟨v,w',hr,hsd,hk⟩:=Fp (P:=P) (zeros:=false) (A:=Builtin.firstCells (BM P e) n x) (mk:=pure .nilIface) (G:=False) hs hi (fun w' hw=>GB (by rw[hw];exact hc)) (fun h=>h) (Ih (ADy ho) hc) hg;refine⟨v,w',?_,hsd,hk⟩;rw[<-hr];subst hs;cases d<;>first
   | exact absurd rfl (hd _)
   | (simp only[Builtin.append_,h0,h1,h2,h3,Q0,AZ hte,L0,Bh ho,AZ hu,O1,K3,if_false,Ia hn,T5,if_true,hle,DT hi,hG,Sem.run_ite];done)
theorem VO {t u e ty:Tj}{ku:Iq}{s x:Vz}{k:Kt}(ht:Gl P t=some e)(hu:P.underlying u=some (.int ku))
  (h:HY e (Am P e) (BM P e) (Fh P e) s x w.heap k):∃ v w',(Builtin.append_ #[t,u] ty #[s,x]).run P w=.ok v w'/\Do w w'/\k v w'.heap:=by
 obtain⟨kk,l,zv,rfl,hl0,hlb,hl2,hz,hg⟩:=h;obtain⟨hte,ho⟩:=LK ht;obtain⟨i,_,hi,_,_⟩:=No ho;obtain⟨base,sLen,sCap,hs,hb⟩:=jd hg;have hzs:zv.cells.size=BM P e:=by
  obtain⟨_,_,_,zv',_,_,hz',hzs,_⟩:=hg;rw[hz] at hz';cases hz';exact hzs
 have h0:(#[t,u]:Array Tj)[0]? = some t:=rfl;have h1:(#[t,u]:Array Tj)[1]? = some u:=rfl;have h2:(#[s,.int kk l]:Array Vz)[0]? = some s:=rfl;have h3:(#[s,.int kk l]:Array Vz)[1]? = some (.int kk l):=rfl;have hwl:IntKind.i64.wrap l=l:=by unfold IntKind.wrap;simp[IntKind.bits,IntKind.signed];omega
 have hneg:¬l<0:=by omega
 have hbytes:¬l*(i.bytes:Int)>2^48:=by rw[Jk hi] at hlb;omega
 have hA:∀ w':World,w'.heap=w.heap->((if l.toNat*BM P e=0 then pure #[] else do pure (Builtin.zeroCells (<-zeroValue e).cells l.toNat):Sem (Array Vz))).run P w' =
   .ok (if l.toNat*BM P e=0 then #[] else Builtin.zeroCells zv.cells l.toNat) w':=by
  intro w' _;split
  ·rfl
  ·simp only[Q0,CE hz,L0,O1]
 have hnew:(if l.toNat*BM P e=0 then #[] else Builtin.zeroCells zv.cells l.toNat).size<=l.toNat*BM P e:=by
  split
  ·simp
  ·rw[size_zeroCells,hzs];exact I0 _
 obtain⟨v,w',hr,hsd,hk⟩:=Fp (P:=P) (zeros:=true) (mk:=pure .nilIface) (G:=False) hs hi hA (fun h=>h) hnew hg;refine⟨v,w',?_,hsd,hk⟩;rw[<-hr];subst hs;by_cases hle:sLen+l.toNat<=sCap
 ·simp only[Builtin.append_,h0,h1,h2,h3,Q0,AZ hte,L0,Bh ho,AZ hu,O1,if_true,asInt,asIntOf,hwl,hneg,if_false,DT hi,hbytes,Sem.run_ite,P3,K3,hle];rfl
 ·have hG:=Om (Nat.lt_of_not_le hle) hb;rw[Jk hi] at hG;simp only[Builtin.append_,h0,h1,h2,h3,Q0,AZ hte,L0,Bh ho,AZ hu,O1,if_true,asInt,asIntOf,hwl,hneg,if_false,DT hi,hbytes,Sem.run_ite,P3,K3,hle,hG]
theorem AEL {t u e ty:Tj}{d x:Vz}{k:Kt}(ht:Gl P t=some e)(h:JB (BM P e) d x w.heap k) :
  ∃ v w',(Builtin.copy_ #[t,u] ty #[d,x]).run P w=.ok v w'/\Do w w'/\k v w'.heap:=by
 obtain⟨base,len,cap,n,cs,rfl,hn,hc,hh⟩:=h;obtain⟨hte,ho⟩:=LK ht;have h0:(#[t,u]:Array Tj)[0]? = some t:=rfl;have h2:(#[.slice base len cap,x]:Array Vz)[0]? = some (.slice base len cap):=rfl;have h3:(#[.slice base len cap,x]:Array Vz)[1]? = some x:=rfl;have hf:(Builtin.firstCells (BM P e) (Nat.min n len) x).run P w=.ok cs w:=GB hc;rcases hh with⟨rfl,hk⟩|⟨a,c,T,rfl,hsp,hb,hle,hone,hk⟩
 ·refine⟨_,w,?_,BX,hk⟩;simp only[Builtin.copy_,h0,h2,h3,Q0,AZ hte,L0,Ia hn,Bh ho,hf,O1];rfl
 ·obtain⟨w',hr,hsd,hh⟩:=Ln (P:=P) (off:=0) (vs:=cs) hb hsp (by simpa using hle) hone;refine⟨_,w',?_,hsd,by rw[hh];exact hk⟩;have ha:a.add 0=a:=rfl;rw[ha] at hr;simp only[Builtin.copy_,h0,h2,h3,Q0,AZ hte,L0,Ia hn,Bh ho,hf,O1,hr];rfl
theorem VT {t ty:Tj}{x:Vz}{k:Vz->Prop}(ht:P.underlying t=some .string)(h:PB x k):∃ v,(Builtin.len_ #[t] ty #[x]).run P w=.ok v w/\k v:=by
 obtain⟨s,rfl,hk⟩:=h;refine⟨_,?_,hk⟩;have h0:(#[t]:Array Tj)[0]? = some t:=rfl;have h2:(#[Value.string s]:Array Vz)[0]? = some (.string s):=rfl;simp only[Builtin.len_,h0,h2,Q0,AZ ht,L0,O1,goInt]
theorem VQ {t e ty:Tj}{x:Vz}{k:Vz->Prop}(ht:P.underlying t=some (.slice e))(h:DM x k):∃ v,(Builtin.len_ #[t] ty #[x]).run P w=.ok v w/\k v:=by
 obtain⟨a,n,c,rfl,hk⟩:=h;refine⟨_,?_,hk⟩;have h0:(#[t]:Array Tj)[0]? = some t:=rfl;have h2:(#[Value.slice a n c]:Array Vz)[0]? = some (.slice a n c):=rfl;simp only[Builtin.len_,h0,h2,Q0,AZ ht,L0,O1,goInt]
theorem VP {t e ty:Tj}{x:Vz}{k:Vz->Prop}(ht:P.underlying t=some (.slice e))(h:ZV x k):∃ v,(Builtin.cap_ #[t] ty #[x]).run P w=.ok v w/\k v:=by
 obtain⟨a,n,c,rfl,hk⟩:=h;refine⟨_,?_,hk⟩;have h0:(#[t]:Array Tj)[0]? = some t:=rfl;have h2:(#[Value.slice a n c]:Array Vz)[0]? = some (.slice a n c):=rfl;simp only[Builtin.cap_,h0,h2,Q0,AZ ht,L0,O1,goInt]
theorem VR {t kt e ty:Tj}{x:Vz}{k:Vz->Prop}(ht:P.underlying t=some (.map kt e))(h:Uq x w.heap k):∃ v,(Builtin.len_ #[t] ty #[x]).run P w=.ok v w/\k v:=by
 have h0:(#[t]:Array Tj)[0]? = some t:=rfl;rcases h with⟨rfl,hk⟩|⟨r,es,c,rfl,hb,hk⟩
 ·refine⟨_,?_,hk⟩;have h2:(#[Value.map none]:Array Vz)[0]? = some (.map none):=rfl;simp only[Builtin.len_,h0,h2,Q0,AZ ht,L0,O1,goInt]
 ·refine⟨_,?_,hk⟩;have h2:(#[Value.map (some r)]:Array Vz)[0]? = some (.map (some r)):=rfl;simp only[Builtin.len_,h0,h2,Q0,AZ ht,L0,CP hb,O1,goInt]
def kg {ats:Array Tj}{ty:Tj}{x y:Vz}{k:Vz->Prop}(h:ADs x y k):∃ v,(Builtin.min_ ats ty #[x,y]).run P w=.ok v w/\k v:=by
 obtain⟨kk,a,b,rfl,rfl,hk⟩:=h;exact⟨_,by simp[Builtin.min_,Builtin.min2],hk⟩
def kf {ats:Array Tj}{ty:Tj}{x y:Vz}{k:Vz->Prop}(h:AGt x y k):∃ v,(Builtin.max_ ats ty #[x,y]).run P w=.ok v w/\k v:=by
 obtain⟨kk,a,b,rfl,rfl,hk⟩:=h;exact⟨_,by simp[Builtin.max_,Builtin.max2],hk⟩
def Mz {x:Vz}{i:Nat}{k:Vz->Prop}(h:Ck x i k):∃ v,(Instr.extract x i).run P w=.ok v w/\k v:=by
 obtain⟨vs,v,rfl,hi,hk⟩:=h;exact⟨v,by simp[Instr.extract,hi],hk⟩
def Lo {t xt:Tj}{d:TypeDesc}{ok:Bool}{x:Vz}{k:Vz->Prop}(hd:P.underlying t=some d)(hni:∀ ms,d≠.interface ms)(h:GJ t (Am P t) ok x k) :
  ∃ v,(Instr.typeAssert x xt t ok).run P w=.ok v w/\k v:=by
 obtain⟨zv,hz,h⟩:=h;cases x with
 | nilIface=>
  obtain⟨rfl,hk⟩:=h;refine⟨_,?_,hk⟩;cases d<;>first
   | exact absurd rfl (hni _)
   | (simp only[Instr.typeAssert,Q0,AZ hd,L0,if_true,CE hz,O1])
 | iface u v=>
  dsimp only at h;split at h
  ·rename_i he;refine⟨_,?_,h⟩;cases d<;>first
    | exact absurd rfl (hni _)
    | (simp only[Instr.typeAssert,Q0,AZ hd,L0,he,if_true,O1];cases ok<;>rfl)
  ·rename_i he;obtain⟨rfl,hk⟩:=h;refine⟨_,?_,hk⟩;cases d<;>first
    | exact absurd rfl (hni _)
    | (simp only[Instr.typeAssert,Q0,AZ hd,L0,he,if_false,if_true,CE hz,O1])
 | _=>exact h.elim
theorem Pc:∀ (fs:List Field),(fs.all fun f=>GA P f.type)=true->(fs.mapM fun f=>(do pure (f.offset,<-sizeOf f.type):Sem (Nat×Nat))).run P w=.ok (Lh P fs) w
 | [],_=>rfl
 | f::fs,h=>by
  simp only[U7,W2] at h;simp only[List.mapM_cons,Q0,Bh h.1,L0,O1,Pc fs h.2];rfl
def Qy {t:Tj}{parts:List (Nat×Vz)}{k:Vz->Prop}(hne:GN P t≠.none)(h:An (GN P t) (Am P t) parts k):∃ v,(Instr.build t parts.toArray).run P w=.ok v w/\k v:=by
 obtain⟨zv,cs,hz,hf,hk⟩:=h;refine⟨_,?_,hk⟩;unfold GN at hf hne;split at hf
 ·rename_i fs hu;cases ho:fs.toList.all (fun f=>GA P f.type) with
  | false=>simp[hu,ho] at hne
  | true=>
   rw[ho] at hf;simp only[cond,DB] at hf;have hm:(fs.mapM fun f=>(do pure (f.offset,<-sizeOf f.type):Sem (Nat×Nat))).run P w=.ok (Lh P fs.toList).toArray w:=by
    rw[<-Array.toArray_toList (xs:=fs),List.mapM_toArray];simp only[Sem.run_map,Pc _ ho,L0]
   have hp:(fun i:Nat=>(Lh P fs.toList).toArray[i]?)=fun i:Nat=>(Lh P fs.toList)[i]?:=by funext i;simp
   simp only[Instr.build,Q0,CE hz,L0,AZ hu,hm,hp,hf,O1]
 ·rename_i n e hu;cases ho:GA P e with
  | false=>simp[hu,ho] at hne
  | true=>
   rw[ho] at hf;simp only[cond,DB] at hf;simp only[Instr.build,Q0,CE hz,L0,AZ hu,Bh ho,hf,O1]
 ·rename_i h1 h2;exact absurd (by split<;>first|(exact absurd ‹_› (h1 _))|(exact absurd ‹_› (h2 _ _))|rfl) hne
def PU {t e:Tj}{n:Nat}{parts:List (Nat×Vz)}{k:Kt}(ht:Gl P t=some e)(h:AK (.arr (BM P e)) e (Am P e) (BM P e) n parts w.heap k) :
  ∃ v w',(Instr.buildSlice t n parts.toArray).run P w=.ok v w'/\Do w w'/\k v w'.heap:=by
 obtain⟨zv,cs,hz,hn,hf,hk⟩:=h;obtain⟨hte,ho⟩:=LK ht;refine⟨.slice (some ⟨w.heap.size,0,none⟩) n n,{w with heap:=w.heap.push (.cells cs e)},?_,BX,hk _ _ FW (I0 _) GX⟩;have hbig:¬n*BM P e>2^24:=by omega
 simp only[DB] at hf;by_cases h0:n*BM P e=0
 ·rw[D0 h0] at hf;have hm:(Array.range (n*BM P e)).map (fun x=>(#[]:Array Vz)[x%(#[]:Array Vz).size]!)=#[]:=by rw[h0];simp
  simp only[Instr.buildSlice,Q0,AZ hte,L0,Bh ho,hbig,if_false,O1,h0,if_true,pure_bind];rw[h0] at hm;rw[hm,hf];have h00:¬(0>2^24):=by omega
  simp only[h00,if_false,Q0,EM,L0,O1]
 ·rw[F0 h0] at hf;unfold BN at hf;simp only[Instr.buildSlice,Q0,AZ hte,L0,Bh ho,hbig,if_false,O1,h0,CE hz,pure_bind];rw[hf];simp only[Q0,EM,L0,O1]
end
end Go.Proofs.YtollddkkdgoonaaGreatDoor
