/- A part of a proof over images that are written and read. No condition; a step. -/
import Derived.Tactics
import Derived.Orders
import Derived.KernelRfl
namespace Go.Proofs.YtollddkkdgoonaaGreatDoor
open Go
set_option linter.unusedVariables false
set_option linter.unusedSimpArgs false
set_option maxRecDepth 100000
theorem A00.{u}:type_of% @List.getElem?_eq_getElem.{u}:=@List.getElem?_eq_getElem.{u}
theorem A02.{u}:type_of% @List.getElem?_eq_some_iff.{u}:=@List.getElem?_eq_some_iff.{u}
theorem A01.{u}:type_of% @List.length_append.{u}:=@List.length_append.{u}
theorem A03.{u}:type_of% @if_pos.{u}:=@if_pos.{u}
theorem A04:type_of% @decide_eq_true:=@decide_eq_true
theorem A05.{u}:type_of% @if_neg.{u}:=@if_neg.{u}
theorem A07:type_of% @Nat.le_refl:=@Nat.le_refl
theorem A06:type_of% @Go.Result.andThen_ok:=@Go.Result.andThen_ok
theorem A08:type_of% @decide_eq_false:=@decide_eq_false
theorem A10.{u}:type_of% @List.getD_eq_getElem?_getD.{u}:=@List.getD_eq_getElem?_getD.{u}
theorem A09.{u}:type_of% @List.length_replicate.{u}:=@List.length_replicate.{u}
theorem A11:type_of% @Go.Sem.run_bind:=@Go.Sem.run_bind
theorem A12.{u}:type_of% @List.append_assoc.{u}:=@List.append_assoc.{u}
theorem A31.{u}:type_of% @List.size_toArray.{u}:=@List.size_toArray.{u}
theorem A13.{u}:type_of% @List.mem_cons_self.{u}:=@List.mem_cons_self.{u}
theorem A16.{u}:type_of% @List.mem_cons_of_mem.{u}:=@List.mem_cons_of_mem.{u}
theorem A19.{u}:type_of% @List.length_cons.{u}:=@List.length_cons.{u}
theorem A28.{u}:type_of% @List.mem_of_getElem?.{u}:=@List.mem_of_getElem?.{u}
theorem A14.{u}:type_of% @Option.some.inj.{u}:=@Option.some.inj.{u}
theorem A18.{u}:type_of% @List.getElem?_append_left.{u}:=@List.getElem?_append_left.{u}
theorem A26.{u}:type_of% @Option.some.injEq.{u}:=@Option.some.injEq.{u}
theorem A17.{u}:type_of% @List.getElem?_append_right.{u}:=@List.getElem?_append_right.{u}
theorem A15:type_of% @Go.Sem.run_pure:=@Go.Sem.run_pure
theorem A20.{u}:type_of% @List.length_take.{u}:=@List.length_take.{u}
theorem A21.{u,v}:type_of% @List.getElem?_map.{u,v}:=@List.getElem?_map.{u,v}
theorem A22.{u}:type_of% @List.append_nil.{u}:=@List.append_nil.{u}
theorem A24.{u}:type_of% @List.take_append_of_le_length.{u}:=@List.take_append_of_le_length.{u}
theorem A25.{u,v}:type_of% @List.length_map.{u,v}:=@List.length_map.{u,v}
theorem A23:type_of% @Nat.mod_eq_of_lt:=@Nat.mod_eq_of_lt
theorem A27.{u}:type_of% @List.length_drop.{u}:=@List.length_drop.{u}
theorem A29:type_of% @Nat.zero_add:=@Nat.zero_add
theorem A32.{u}:type_of% @List.mem_cons.{u}:=@List.mem_cons.{u}
theorem A41.{u}:type_of% @List.getElem?_take.{u}:=@List.getElem?_take.{u}
theorem A33.{u,v}:type_of% @List.map_cons.{u,v}:=@List.map_cons.{u,v}
theorem A30:type_of% @Nat.min_eq_left:=@Nat.min_eq_left
theorem A36.{u,v}:type_of% @List.map_append.{u,v}:=@List.map_append.{u,v}
theorem A37.{u,v}:type_of% @List.flatMap_cons.{u,v}:=@List.flatMap_cons.{u,v}
theorem A35.{u,v}:type_of% @List.mem_map.{u,v}:=@List.mem_map.{u,v}
theorem A39:type_of% @Nat.zero_le:=@Nat.zero_le
theorem A38.{u}:type_of% @List.take_length.{u}:=@List.take_length.{u}
theorem A43.{u}:type_of% @List.take_of_length_le.{u}:=@List.take_of_length_le.{u}
theorem A34.{u}:type_of% @List.nil_append.{u}:=@List.nil_append.{u}
theorem A42:type_of% @Bool.and_eq_true:=@Bool.and_eq_true
theorem A40.{u}:type_of% @List.getElem?_eq_none.{u}:=@List.getElem?_eq_none.{u}
theorem A45:type_of% @Bool.false_eq_true:=@Bool.false_eq_true
theorem A44.{u}:type_of% @List.extract_eq_take_drop.{u}:=@List.extract_eq_take_drop.{u}
theorem A46.{u}:type_of% @Array.getElem?_eq_some_iff.{u}:=@Array.getElem?_eq_some_iff.{u}
theorem A48:type_of% @Nat.mul_le_mul_right:=@Nat.mul_le_mul_right
theorem A50.{u}:type_of% @List.drop_eq_getElem_cons.{u}:=@List.drop_eq_getElem_cons.{u}
theorem A53.{u}:type_of% @List.getElem?_drop.{u}:=@List.getElem?_drop.{u}
theorem A47.{u}:type_of% @Array.getElem?_setIfInBounds.{u}:=@Array.getElem?_setIfInBounds.{u}
theorem A51.{u}:type_of% @List.getElem?_cons_zero.{u}:=@List.getElem?_cons_zero.{u}
theorem A49.{u}:type_of% @List.drop_take.{u}:=@List.drop_take.{u}
theorem A52.{u}:type_of% @List.drop_append_of_le_length.{u}:=@List.drop_append_of_le_length.{u}
theorem A77:type_of% @Int.toNat_natCast:=@Int.toNat_natCast
theorem A54.{u}:type_of% @List.getElem?_set.{u}:=@List.getElem?_set.{u}
theorem A74.{u,v}:type_of% @Option.map_eq_some_iff.{u,v}:=@Option.map_eq_some_iff.{u,v}
theorem A55:type_of% @Bool.toNat_le:=@Bool.toNat_le
theorem A60.{u}:type_of% @List.ext_getElem?.{u}:=@List.ext_getElem?.{u}
theorem A73.{u,v}:type_of% @List.flatMap_append.{u,v}:=@List.flatMap_append.{u,v}
theorem A63.{u}:type_of% @List.getElem?_cons_succ.{u}:=@List.getElem?_cons_succ.{u}
theorem A56.{u}:type_of% @Array.ext'.{u}:=@Array.ext'.{u}
theorem A57.{u}:type_of% @List.length_singleton.{u}:=@List.length_singleton.{u}
theorem A58:type_of% @Nat.add_zero:=@Nat.add_zero
theorem A59.{u}:type_of% @List.drop_eq_nil_of_le.{u}:=@List.drop_eq_nil_of_le.{u}
theorem A85.{u}:type_of% @List.take_add_one.{u}:=@List.take_add_one.{u}
theorem B00.{u}:type_of% @List.getElem_of_mem.{u}:=@List.getElem_of_mem.{u}
theorem A61.{u}:type_of% @List.length_nil.{u}:=@List.length_nil.{u}
theorem A62:type_of% @Nat.add_sub_cancel_left:=@Nat.add_sub_cancel_left
theorem A75.{u}:type_of% @List.sum_cons.{u}:=@List.sum_cons.{u}
theorem A64.{u}:type_of% @List.drop_drop.{u}:=@List.drop_drop.{u}
theorem A65.{u}:type_of% @List.nodup_append.{u}:=@List.nodup_append.{u}
theorem A66:type_of% @Nat.lt_or_ge:=@Nat.lt_or_ge
theorem A78.{u}:type_of% @List.mem_singleton.{u}:=@List.mem_singleton.{u}
theorem A91:type_of% @Bool.not_true:=@Bool.not_true
theorem A67:type_of% @Nat.mul_one:=@Nat.mul_one
theorem A71.{u,v}:type_of% @List.foldl_cons.{u,v}:=@List.foldl_cons.{u,v}
theorem A88.{u}:type_of% @List.mem_append.{u}:=@List.mem_append.{u}
theorem A68.{u}:type_of% @List.drop_zero.{u}:=@List.drop_zero.{u}
theorem A69.{u}:type_of% @List.length_eq_zero_iff.{u}:=@List.length_eq_zero_iff.{u}
theorem A84:type_of% @decide_eq_true_eq:=@decide_eq_true_eq
theorem B01:type_of% @Nat.or_lt_two_pow:=@Nat.or_lt_two_pow
theorem A82.{u}:type_of% @List.cons_append.{u}:=@List.cons_append.{u}
theorem A70.{u}:type_of% @Array.getD_eq_getD_getElem?.{u}:=@Array.getD_eq_getD_getElem?.{u}
theorem A72.{u,v}:type_of% @List.map_congr_left.{u,v}:=@List.map_congr_left.{u,v}
theorem A76.{u,v}:type_of% @congrArg.{u,v}:=@congrArg.{u,v}
theorem A80.{u,v}:type_of% @Option.map_some.{u,v}:=@Option.map_some.{u,v}
theorem A79:type_of% @Nat.add_sub_cancel:=@Nat.add_sub_cancel
theorem A81.{u}:type_of% @List.mem_append_left.{u}:=@List.mem_append_left.{u}
theorem A89.{u}:type_of% @List.length_set.{u}:=@List.length_set.{u}
theorem A86.{u}:type_of% @Option.isSome_none.{u}:=@Option.isSome_none.{u}
theorem B06:type_of% @Nat.lt_of_le_of_lt:=@Nat.lt_of_le_of_lt
theorem A93:type_of% @Nat.add_mul:=@Nat.add_mul
theorem A87:type_of% @Nat.sub_self:=@Nat.sub_self
theorem A97:type_of% @UInt8.toNat_inj:=@UInt8.toNat_inj
theorem A83.{u}:type_of% @List.drop_left.{u}:=@List.drop_left.{u}
theorem B04.{u,v}:type_of% @List.flatMap_singleton.{u,v}:=@List.flatMap_singleton.{u,v}
theorem A90.{u}:type_of% @List.nodup_cons.{u}:=@List.nodup_cons.{u}
theorem A99.{u}:type_of% @List.length_pos_iff.{u}:=@List.length_pos_iff.{u}
theorem A92:type_of% @Nat.zero_mul:=@Nat.zero_mul
theorem A94:type_of% @Nat.lt_of_lt_of_le:=@Nat.lt_of_lt_of_le
theorem A95.{u}:type_of% @List.take_take.{u}:=@List.take_take.{u}
theorem A96:type_of% @List.mem_range:=@List.mem_range
theorem A98.{u,v}:type_of% @List.mem_flatMap.{u,v}:=@List.mem_flatMap.{u,v}
theorem B02.{u}:type_of% @Array.ext_getElem?.{u}:=@Array.ext_getElem?.{u}
theorem B05.{u,v,w}:type_of% @List.map_map.{u,v,w}:=@List.map_map.{u,v,w}
theorem B03.{u,v}:type_of% @List.map_replicate.{u,v}:=@List.map_replicate.{u,v}
theorem B21.{u}:type_of% @Array.length_toList.{u}:=@Array.length_toList.{u}
theorem B20:type_of% @Nat.and_le_left:=@Nat.and_le_left
theorem B07:type_of% @Nat.xor_lt_two_pow:=@Nat.xor_lt_two_pow
theorem B08.{u}:type_of% @List.filter_append.{u}:=@List.filter_append.{u}
theorem B09:type_of% @UInt8.toNat_ofNat':=@UInt8.toNat_ofNat'
theorem B10.{u}:type_of% @List.all_eq_true.{u}:=@List.all_eq_true.{u}
theorem B11.{u,v}:type_of% @List.map_take.{u,v}:=@List.map_take.{u,v}
theorem B22.{u,v}:type_of% @List.map_set.{u,v}:=@List.map_set.{u,v}
theorem B12.{u}:type_of% @List.take_succ_cons.{u}:=@List.take_succ_cons.{u}
theorem B14:type_of% @Bool.or_eq_true:=@Bool.or_eq_true
theorem B15.{u}:type_of% @List.drop_length.{u}:=@List.drop_length.{u}
theorem B16.{u}:type_of% @List.pairwise_cons.{u}:=@List.pairwise_cons.{u}
theorem B34:type_of% @Nat.one_mul:=@Nat.one_mul
theorem B44:type_of% @Bool.not_false:=@Bool.not_false
theorem B17.{u}:type_of% @List.take_zero.{u}:=@List.take_zero.{u}
theorem B18.{u}:type_of% @List.getElem?_replicate.{u}:=@List.getElem?_replicate.{u}
theorem B19.{u,v}:type_of% @List.foldl_append.{u,v}:=@List.foldl_append.{u,v}
theorem B30.{u}:type_of% @List.sum_append.{u}:=@List.sum_append.{u}
theorem B28:type_of% @Nat.le_trans:=@Nat.le_trans
theorem B29:type_of% @Int.ofNat_lt:=@Int.ofNat_lt
theorem B45.{u}:type_of% @List.not_mem_nil.{u}:=@List.not_mem_nil.{u}
theorem Q3.{u}:type_of% @List.getElem_mem.{u}:=@List.getElem_mem.{u}
theorem B23:type_of% @Nat.eq_of_beq_eq_true:=@Nat.eq_of_beq_eq_true
theorem B24.{u}:type_of% @Array.mem_of_getElem?.{u}:=@Array.mem_of_getElem?.{u}
theorem B41.{u}:type_of% @Array.getElem?_toList.{u}:=@Array.getElem?_toList.{u}
theorem B25:type_of% @Nat.eq_zero_or_pos:=@Nat.eq_zero_or_pos
theorem B26.{u}:type_of% @List.take_left.{u}:=@List.take_left.{u}
theorem B27.{u}:type_of% @List.mk_mem_zipIdx_iff_getElem?.{u}:=@List.mk_mem_zipIdx_iff_getElem?.{u}
theorem B31:type_of% @Bool.not_eq_true':=@Bool.not_eq_true'
theorem B32.{u,v}:type_of% @List.pairwise_map.{u,v}:=@List.pairwise_map.{u,v}
theorem B33.{u}:type_of% @List.all_cons.{u}:=@List.all_cons.{u}
theorem B35:type_of% @Nat.sub_zero:=@Nat.sub_zero
theorem B36.{u}:type_of% @List.take_append_drop.{u}:=@List.take_append_drop.{u}
theorem B37.{u}:type_of% @List.getElem?_toArray.{u}:=@List.getElem?_toArray.{u}
theorem B38.{u}:type_of% @List.length_filter_le.{u}:=@List.length_filter_le.{u}
theorem B39.{u}:type_of% @List.mem_filter.{u}:=@List.mem_filter.{u}
theorem B40:type_of% @UInt8.lt_iff_toNat_lt:=@UInt8.lt_iff_toNat_lt
theorem B43.{u,v}:type_of% @Prod.mk.injEq.{u,v}:=@Prod.mk.injEq.{u,v}
theorem B42.{u}:type_of% @List.extract_toArray.{u}:=@List.extract_toArray.{u}
theorem B52.{u}:type_of% @Option.getD_some.{u}:=@Option.getD_some.{u}
theorem B46.{u,v}:type_of% @List.map_nil.{u,v}:=@List.map_nil.{u,v}
theorem B48.{u}:type_of% @List.drop_succ_cons.{u}:=@List.drop_succ_cons.{u}
theorem B49.{u}:type_of% @List.take_replicate.{u}:=@List.take_replicate.{u}
theorem B50.{u}:type_of% @List.replicate_zero.{u}:=@List.replicate_zero.{u}
theorem B62:type_of% @Nat.add_assoc:=@Nat.add_assoc
theorem B54:type_of% @Nat.add_comm:=@Nat.add_comm
theorem B59:type_of% @Nat.pow_le_pow_right:=@Nat.pow_le_pow_right
theorem B67:type_of% @Nat.div_le_self:=@Nat.div_le_self
abbrev H:=Array Obj
abbrev Env:=Nat→Value
abbrev Kt:=Value→H→Prop
def La (e:Env)(i:Nat)(v:Value):Env:=fun j=>bif Nat.beq j i then v else e j
def ev (e:Env):Operand→Value
 | .tmp t=>e t
 | .const v=>v
 | .global g=>.pointer (some ⟨g,0,none⟩)
 | .func f=>.func (.func f) #[] #[]
def U4 (h h':H):Prop:=∀ i,i<h.size→h'[i]? = h[i]?
abbrev Pt (b:Nat):Value:=.pointer (some ⟨b,0,none⟩)
def Mo (h:H)(a:Addr):Option Value:=
 match h[a.block]? with
 | some (.cells c _ _)=>if a.spot.isSome then none else c[a.off]?
 | _=>none
def Ce (w w':World):Prop:=w'.os=w.os∧w'.output=w.output
def UD (w:World)(k:Kt):Ending→World→Prop
 | .returned v,w'=>Ce w w'∧k v w'.heap
 | _,_=>False
def Call (P:Program)(f:FuncId)(args:List Value)(h:H)(k:Kt):Prop:=
 ∀ w:World,w.heap=h→Calls P f args.toArray w (UD w k)
def Cm (P:Program)(t:TypeId):Bool:=match P.underlying t with|some (.struct _)|some (.array _ _)=>true|_=>false
def Ap (P:Program)(t:TypeId):Nat:=((P.info? t).map (·.size)).getD 0
def F4 (P:Program)(t:TypeId):Nat:=((P.info? t).map (·.bytes)).getD 0
def AG (P:Program)(t:TypeId):Option Value:=(P.info? t).bind (·.zero)
def ED (P:Program)(t:TypeId):Bool:=(P.underlying t).isSome && !Nat.beq (Ap P t) 0
def HN (P:Program)(t:TypeId):Option TypeId:=match P.underlying t with|some (.slice e)=>bif ED P e then some e else none|_=>none
def Pd (P:Program)(t:TypeId):Option TypeDesc:=match P.underlying t with|some (.map k _)=>P.underlying k|_=>none
def AD5 (P:Program)(t:TypeId):Option TypeId:=match P.underlying t with|some (.map _ e)=>some e|_=>none
def QT (P:Program)(t:TypeId)(f:Nat):Option Nat:=
 match P.underlying t with
 | some (.struct fs)=>match fs[f]? with
  | some fd=>bif ED P fd.type then some fd.offset else none
  | none=>none
 | _=>none
def AK (c:Value)(A B:Prop):Prop:=match c with|.bool t=>bif t then A else B|_=>False
def Az (c:Value)(want:Bool)(A B:Prop):Prop:=match c with|.bool t=>bif (t == want) then A else B|_=>False
def skN (c:Value)(want:Bool)(B:Prop):Prop:=match c with|.bool t=>bif (t == want) then False else B|_=>B
def Hk (c a b:Value)(k:Value→Prop):Prop:=match c with|.bool t=>k (bif t then a else b)|_=>False
def BB (T:TypeId)(cs:Array Value)(h:H)(k:Kt):Prop:=
 ∀ b h',U4 h h'→h.size≤b→h'[b]? = some (.cells cs T (0,0))→k (Pt b) h'
def AQ (z:Option Value)(T:TypeId)(h:H)(k:Kt):Prop:=match z with|some z=>BB T z.cells h k|none=>False
def MM (agg:Bool)(n:Nat)(h:H)(p:Addr):Option Value:=
 bif agg then
  match h[p.block]? with
  | some (.cells c _ _)=>if p.spot.isSome then none else if p.off+n≤c.size then some (.agg (c.extract p.off (p.off+n))) else none
  | _=>none
 else Mo h p
def AB (agg:Bool)(n:Nat)(a:Value)(h:H)(k:Value→Prop):Prop:=∃ p v,a=.pointer (some p)∧MM agg n h p=some v∧k v
def Ai (c:Array Value):Nat→List Value→Array Value
 | _,[]=>c
 | o,v::vs=>Ai (c.setIfInBounds o v) (o+1) vs
def AJ (n:Nat)(a v:Value)(h:H)(k:H→Prop):Prop:=
 ∃ p c T,a=.pointer (some p)∧p.spot=none∧h[p.block]? = some (.cells c T (0,0))∧v.cells.size=n∧p.off+n≤c.size∧(v.cells.toList.all Value.oneCell'=true)∧
  k (h.setIfInBounds p.block (.cells (Ai c p.off v.cells.toList) T (0,0)))
def Lk:Value→Bool
 | .pointer (some _)=>true
 | .func (.func _) _ _=>true
 | _=>false
def AE (x:Value)(k:Value→Prop):Prop:=Lk x=true∧k x
def AC (off:Nat)(x:Value)(k:Value→Prop):Prop:=∃ p,x=.pointer (some p)∧k (.pointer (some (p.add off)))
def AO (x:Value)(i:Nat)(k:Value→Prop):Prop:=∃ vs v,x=.tuple vs∧vs[i]? = some v∧k v
def CT (op:BinOp)(x y:Value):Option Value:=
 match x,y with
 | .int k a,.int k' b=>
  match op with
  | .shl=>if b<0 then none else some (.int k (k.wrap (a*2^(min b.toNat k.bits))))
  | .shr=>if b<0 then none else some (.int k (a.fdiv (2^(min b.toNat k.bits))))
  | op=>if k=k' then
    match op with
    | .add=>some (.int k (k.wrap (a+b)))
    | .sub=>some (.int k (k.wrap (a-b)))
    | .mul=>some (.int k (k.wrap (a*b)))
    | .quo=>if b=0 then none else some (.int k (k.wrap (a.tdiv b)))
    | .rem=>if b=0 then none else some (.int k (a.tmod b))
    | .and=>some (.int k (k.wrap (BitVec.ofInt k.bits a &&& BitVec.ofInt k.bits b).toNat))
    | .or=>some (.int k (k.wrap (BitVec.ofInt k.bits a ||| BitVec.ofInt k.bits b).toNat))
    | .xor=>some (.int k (k.wrap (BitVec.ofInt k.bits a ^^^ BitVec.ofInt k.bits b).toNat))
    | .andNot=>some (.int k (k.wrap (BitVec.ofInt k.bits a &&& ~~~ BitVec.ofInt k.bits b).toNat))
    | .lss=>some (.bool (decide (a<b)))
    | .leq=>some (.bool (decide (a≤b)))
    | .gtr=>some (.bool (decide (a>b)))
    | .geq=>some (.bool (decide (a≥b)))
    | .eql=>some (.bool (a == b))
    | .neq=>some (.bool (a != b))
    | _=>none
   else none
 | .string a,.string b=>
  match op with
  | .add=>if ((a.size+b.size:Nat):Int)>IntKind.i64.max then none else some (.string (a++b))
  | .eql=>some (.bool (a.toList == b.toList))
  | .neq=>some (.bool (!(a.toList == b.toList)))
  | .lss=>some (.bool (Op.bytesLess a.toList b.toList))
  | .leq=>some (.bool (Op.bytesLess a.toList b.toList||a.toList == b.toList))
  | .gtr=>some (.bool (!(Op.bytesLess a.toList b.toList||a.toList == b.toList)))
  | .geq=>some (.bool (!(Op.bytesLess a.toList b.toList)))
  | _=>none
 | _,_=>none
def AD (op:BinOp)(x y:Value)(k:Value→Prop):Prop:=∃ v,CT op x y=some v∧k v
def Gs (h:H)(a:Addr):Bool:=match h[a.block]? with|some (.cells _ _ (0,0))=>true|_=>false
def ME:List Value→List Value→Option Bool
 | [],[]=>some true
 | .int k a::xs,.int k' b::ys=>if k=k' then (if a == b then ME xs ys else some false) else none
 | .bool a::xs,.bool b::ys=>if a == b then ME xs ys else some false
 | _,_=>none
inductive Nx where
 | bool|ptr|iface|slice|map|func|flat|none
def Bd (P:Program)(t:TypeId):Nx:=
 match P.underlying t with
 | some .bool=>.bool
 | some (.pointer e)=>if Ap P e=0 then .none else .ptr
 | some (.interface _)=>.iface
 | some (.slice _)=>.slice
 | some (.map _ _)=>.map
 | some (.func _ _ _)=>.func
 | _=>.none
def GG (d:Nx)(c:Bool)(h:H)(x y:Value):Option Bool:=
 match d,x,y with
 | .bool,.bool a,.bool b=>some (a == b)
 | .ptr,.pointer none,.pointer b=>some b.isNone
 | .ptr,.pointer (some _),.pointer none=>some false
 | .ptr,.pointer (some a),.pointer (some b)=>if a.block=b.block then some (a == b) else if Gs h a&&Gs h b then some false else none
 | .iface,.nilIface,.nilIface=>if c then some true else none
 | .iface,.nilIface,.iface _ _=>some false
 | .iface,.iface _ _,.nilIface=>some false
 | .slice,.slice none _ _,.slice b _ _=>some b.isNone
 | .slice,.slice (some _) _ _,.slice none _ _=>some false
 | .map,.map none,.map b=>some b.isNone
 | .map,.map (some _),.map none=>some false
 | .func,.nilFunc,.nilFunc=>some true
 | .func,.nilFunc,.func _ _ _=>some false
 | .func,.func _ _ _,.nilFunc=>some false
 | _,_,_=>none
def Bq (d:Nx)(c neg:Bool)(h:H)(x y:Value)(k:Value→Prop):Prop:=∃ r,GG d c h x y=some r∧k (.bool (bif neg then !r else r))
def unV (op:UnOp)(x:Value):Option Value:=
 match op,x with
 | .not,.bool b=>some (.bool (!b))
 | .neg,.int k n=>some (.int k (k.wrap (0-n)))
 | .xor,.int k n=>some (.int k (k.wrap (BitVec.ofInt k.bits (if k.signed then -1 else k.max) ^^^ BitVec.ofInt k.bits n).toNat))
 | _,_=>none
def LH (op:UnOp)(x:Value)(k:Value→Prop):Prop:=∃ v,unV op x=some v∧k v
def AV (d:IntKind)(x:Value)(k:Value→Prop):Prop:=∃ s n,x=.int s n∧k (.int d (d.wrap n))
def DU : List Value→Option (List UInt8)
 | []=>some []
 | .int .u8 n::r=>match DU r with|some l=>some (UInt8.ofNat n.toNat::l)|none=>none
 | _=>none
def J5 (h:H)(x:Value):Option Value:=
 match x with
 | .slice none _ _=>some (.string .empty)
 | .slice (some a) len _=>
  match h[a.block]? with
  | some (.cells c _ _)=>if a.spot.isSome then (if len=0 then some (.string .empty) else none) else if a.off+len≤c.size then
    match DU (c.extract a.off (a.off+len)).toList with|some l=>some (.string ⟨l.toArray⟩)|none=>none
   else if len=0 then some (.string .empty) else none
  | _=>if len=0 then some (.string .empty) else none
 | _=>none
def HI (x:Value)(h:H)(k:Value→Prop):Prop:=∃ v,J5 h x=some v∧k v
def Bw (s:ByteArray):Array Value:=s.data.map fun b=>.int .u8 b.toNat
def Uv (T:TypeId)(x:Value)(h:H)(k:Kt):Prop:=
 ∃ s,x=.string s∧∀ b cap h',s.size≤cap→U4 h h'→h.size≤b →
  h'[b]? = some (.cells (Bw s++Array.replicate (cap-s.size) (.int .u8 0)) T (cap,cap+1))→k (.slice (some ⟨b,0,none⟩) s.size cap) h'
def Gl (h:H)(k:Kt):Prop:=∀ b h',U4 h h'→h.size≤b→h'[b]? = some (.map #[] 0)→k (.map (some b)) h'
def Ax (z:Array Value)(n:Nat):Array Value:=(Array.range n).map (z[· % z.size]!)
def AY (z:Option Value)(sz by_:Nat)(T:TypeId)(l c:Value)(h:H)(k:Kt):Prop:=
 ∃ kl kc n m zv,l=.int kl n∧c=.int kc m∧z=some zv∧0≤n∧n≤m∧m*by_≤140737488355328∧m≤140737488355328∧∀ b h',U4 h h'→h.size≤b →
  h'[b]? = some (.cells (Ax zv.cells (m.toNat*sz)) T (0,0))→k (.slice (some ⟨b,0,none⟩) n.toNat m.toNat) h'
inductive EL where
 | str|slice (sz:Nat)|arr (n sz:Nat)|none
def C2 (P:Program)(t:TypeId):EL:=
 match P.underlying t with
 | some .string=>.str
 | some (.slice e)=>bif ED P e then .slice (Ap P e) else .none
 | some (.array n e)=>bif ED P e then .arr n (Ap P e) else .none
 | _=>.none
def Ay (d:Nat):Option Value→Option Nat
 | none=>some d
 | some (.int _ i)=>if 0≤i then some i.toNat else none
 | some _=>none
def A6 (d:EL)(x:Value)(lo hi:Option Value):Option Value:=
 match d,x with
 | .str,.string s=>match Ay 0 lo,Ay s.size hi with
  | some l,some h=>if l≤h∧h≤s.size then some (.string (s.extract l h)) else none
  | _,_=>none
 | .slice sz,.slice a len cap=>match Ay 0 lo,Ay len hi with
  | some l,some h=>if l≤h∧h≤cap then some (.slice (if cap=l then a else a.map (·.add (l*sz))) (h-l) (cap-l)) else none
  | _,_=>none
 | .arr n sz,.pointer (some a)=>match Ay 0 lo,Ay n hi with
  | some l,some h=>if l≤h∧h≤n then some (.slice (some (if n=l then a else a.add (l*sz))) (h-l) (n-l)) else none
  | _,_=>none
 | _,_=>none
def AZ (d:EL)(x:Value)(lo hi:Option Value)(k:Value→Prop):Prop:=∃ v,A6 d x lo hi=some v∧k v
def AI (d:EL)(x i:Value)(k:Value→Prop):Prop:=
 ∃ kk n,i=.int kk n∧match d with
  | .slice sz=>∃ a len cap,x=.slice (some a) len cap∧0≤n∧n<(len:Int)∧k (.pointer (some (a.add (n.toNat*sz))))
  | .arr m sz=>∃ a,x=.pointer (some a)∧0≤n∧n<(m:Int)∧k (.pointer (some (a.add (n.toNat*sz))))
  | _=>False
def BQ (x i:Value)(k:Value→Prop):Prop:=∃ s kk n b,x=.string s∧i=.int kk n∧0≤n∧s[n.toNat]? = some b∧k (.int .u8 b.toNat)
def Pa (agg:Bool)(sz:Nat)(cs:Array Value)(off:Nat):Option Value:=bif agg then some (.agg (cs.extract off (off+sz))) else cs[off]?
def Ch (agg:Bool)(len sz:Nat)(x i:Value)(k:Value→Prop):Prop:=∃ cs kk n v,x=.agg cs∧i=.int kk n∧0≤n∧n<(len:Int)∧Pa agg sz cs (n.toNat*sz)=some v∧k v
def S3 (agg:Bool)(off sz:Nat)(x:Value)(k:Value→Prop):Prop:=∃ cs v,x=.agg cs∧Pa agg sz cs off=some v∧k v
def HO:Value→Value→Option Bool
 | .string a,.string b=>some (a == b)
 | .int k a,.int k' b=>if k=k' then some (a == b) else none
 | .bool a,.bool b=>some (a == b)
 | _,_=>none
def Cd (k:Value):List MapEntry→Nat→Option (Option (Nat×Value))
 | [],_=>some none
 | e::es,i=>match HO k e.key with
  | some true=>some (some (i,e.val))
  | some false=>Cd k es (i+1)
  | none=>none
def Jv (h:H)(x key:Value):Option (Option (Nat×Value)):=
 match x with
 | .map none=>some none
 | .map (some r)=>match h[r]? with
  | some (.map es _)=>Cd key es.toList 0
  | _=>none
 | _=>none
def Ct:Option TypeDesc→Value→Bool
 | some .string,.string _=>true
 | some (.int k),.int k' _=>k == k'
 | some .bool,.bool _=>true
 | _,_=>false
def CC (kd:Option TypeDesc)(z:Option Value)(ok:Bool)(x key:Value)(h:H)(k:Value→Prop):Prop:=
 Ct kd key=true∧∃ zv r,z=some zv∧Jv h x key=some r ∧
  k (match r with|some (_,v)=>(bif ok then .tuple #[v,.bool true] else v)|none=>(bif ok then .tuple #[zv,.bool false] else zv))
def Qr (es:Array MapEntry)(clock:Nat)(key v:Value):Option (Option (Nat×Value))→Option Obj
 | some (some (i,_))=>some (.map (es.modify i fun e=>{e with key,val:=v}) clock)
 | some none=>some (.map (es.push {key,val:=v,born:=clock}) (clock+1))
 | none=>none
def Gp (kd:Option TypeDesc)(x key v:Value)(h:H)(k:H→Prop):Prop:=
 Ct kd key=true∧∃ r es clock o,x=.map (some r)∧h[r]? = some (.map es clock)∧Qr es clock key v (Cd key es.toList 0)=some o∧k (h.setIfInBounds r o)
def TM (kd:Option TypeDesc)(x key:Value)(h:H)(k:H→Prop):Prop:=
 Ct kd key=true∧∃ r es clock q,x=.map (some r)∧h[r]? = some (.map es clock)∧Cd key es.toList 0=some q ∧
  k (h.setIfInBounds r (match q with|some (i,_)=>.map (es.eraseIdxIfInBounds i) clock|none=>.map es clock))
def D5 (x:Value)(h:H)(k:Kt):Prop:=
 match x with
 | .map none=>∀ b h',U4 h h'→h.size≤b→h'[b]? = some (.mapIter none 0 #[] 0)→k (Pt b) h'
 | .map (some m)=>∃ es clock,h[m]? = some (.map es clock)∧∀ b h',U4 h h'→h.size≤b→h'[b]? = some (.mapIter (some m) clock #[] clock)→k (Pt b) h'
 | _=>False
def HM (x:Value)(h:H)(k:Kt):Prop:=
 ∃ r,x=Pt r∧((∃ s seen l,h[r]? = some (.mapIter none s seen l)∧k (.tuple #[.bool false]) h)∨
  ∃ m since seen es,h[r]? = some (.mapIter (some m) since seen since)∧h[m]? = some (.map es since)∧(∀ e∈es,e.born<since)∧
   ((∀ e∈es,seen.contains e.born=true)→k (.tuple #[.bool false]) h)∧
   ∀ e∈es,seen.contains e.born=false→k (.tuple #[.bool true,e.key,e.val]) (h.setIfInBounds r (.mapIter (some m) since (seen.push e.born) since)))
def Hb (x:Value)(h:H)(k:Value→Prop):Prop:=
 ∃ r m since seen es clock stamp e,x=Pt r∧h[r]? = some (.mapIter (some m) since seen clock)∧seen.back? = some stamp∧h[m]? = some (.map es clock)∧
  es.find? (·.born == stamp)=some e∧k (.tuple #[e.key,e.val])
def CL (x:Value)(k:Value→Prop):Prop:=∃ s,x=.string s∧k (.int .i64 s.size)
def Ab (x:Value)(k:Value→Prop):Prop:=∃ a n c,x=.slice a n c∧k (.int .i64 n)
def Sp (x:Value)(k:Value→Prop):Prop:=∃ a n c,x=.slice a n c∧k (.int .i64 c)
def Ti (x:Value)(h:H)(k:Value→Prop):Prop:=(x=.map none∧k (.int .i64 0))∨∃ r es c,x=.map (some r)∧h[r]? = some (.map es c)∧k (.int .i64 es.size)
def NW (x y:Value)(k:Value→Prop):Prop:=∃ kk a b,x=.int kk a∧y=.int kk b∧k (.int kk (if b<a then b else a))
def ACp (x y:Value)(k:Value→Prop):Prop:=∃ kk a b,x=.int kk a∧y=.int kk b∧k (.int kk (if a<b then b else a))
def BF (sz n:Nat)(h:H)(x:Value):Option (Array Value):=
 match x with
 | .slice none _ _=>some #[]
 | .slice (some a) _ _=>match h[a.block]? with
  | some (.cells c _ _)=>if a.spot.isSome then (if n*sz=0 then some #[] else none) else if a.off+n*sz≤c.size then some (c.extract a.off (a.off+n*sz)) else if n*sz=0 then some #[] else none
  | _=>if n*sz=0 then some #[] else none
 | .string s=>some (Bw (s.extract 0 n))
 | _=>none
def srcLen (x:Value):Option Nat:=match x with|.slice _ n _=>some n|.string s=>some s.size|_=>none
def JI (T:TypeId)(z:Option Value)(sz by_:Nat)(s:Value)(n:Nat)(new:Array Value)(h:H)(k:Kt):Prop:=
 ∃ base len cap zv old,s=.slice base len cap∧z=some zv∧zv.cells.size=sz∧(len+n)*by_≤140737488355328∧len+n≤140737488355328 ∧
  BF sz len h s=some old ∧
  (len+n≤cap→(base=none∧new=#[]∧k (.slice none (len+n) cap) h)∨
   ∃ a c T',base=some a∧a.spot=none∧h[a.block]? = some (.cells c T' (0,0))∧a.off+(len+n)*sz≤c.size∧new.toList.all Value.oneCell'=true ∧
    k (.slice base (len+n) cap) (h.setIfInBounds a.block (.cells (Ai c (a.off+len*sz) new.toList) T' (0,0))))∧
  (cap<len+n→∀ b c' h',len+n≤c'→c'≤9223372036854775807→U4 h h'→h.size≤b →
   h'[b]? = some (.cells (old++new++Builtin.zeroCells zv.cells (c'-(len+n))) T (0,0))→k (.slice (some ⟨b,0,none⟩) (len+n) c') h')
def AM (T:TypeId)(z:Option Value)(sz by_:Nat)(s x:Value)(h:H)(k:Kt):Prop:=
 ∃ n new,srcLen x=some n∧BF sz n h x=some new∧JI T z sz by_ s n new h k
def CI (T:TypeId)(z:Option Value)(sz by_:Nat)(s x:Value)(h:H)(k:Kt):Prop:=
 ∃ kk l zv,x=.int kk l∧0≤l∧l*by_≤140737488355328∧l≤140737488355328∧z=some zv ∧
  JI T z sz by_ s l.toNat (if l.toNat*sz=0 then #[] else Builtin.zeroCells zv.cells l.toNat) h k
def DI (sz:Nat)(d x:Value)(h:H)(k:Kt):Prop:=
 ∃ base len cap n cs,d=.slice base len cap∧srcLen x=some n∧BF sz (min n len) h x=some cs ∧
  ((base=none∧k (.int .i64 (min n len:Nat)) h)∨
   ∃ a c T,base=some a∧a.spot=none∧h[a.block]? = some (.cells c T (0,0))∧a.off+cs.size≤c.size∧cs.toList.all Value.oneCell'=true ∧
    k (.int .i64 (min n len:Nat)) (h.setIfInBounds a.block (.cells (Ai c a.off cs.toList) T (0,0))))
def FP (asserted:TypeId)(z:Option Value)(ok:Bool)(x:Value)(k:Value→Prop):Prop:=
 ∃ zv,z=some zv∧match x with
  | .nilIface=>ok=true∧k (.tuple #[zv,.bool false])
  | .iface t v=>if t=asserted then k (bif ok then .tuple #[v,.bool true] else v) else ok=true∧k (.tuple #[zv,.bool false])
  | _=>False
def Hj (P:Program)(fs:List Field):List (Nat×Nat):=fs.map fun f=>(f.offset,Ap P f.type)
inductive FV where
 | struct (places:List (Nat×Nat))|arr (sz:Nat)|none
def F8 (P:Program)(t:TypeId):FV:=
 match P.underlying t with
 | some (.struct fs)=>bif fs.toList.all (fun f=>ED P f.type) then .struct (Hj P fs.toList) else .none
 | some (.array _ e)=>bif ED P e then .arr (Ap P e) else .none
 | _=>.none
def Br (d:FV):Nat→Option (Nat×Nat):=
 match d with
 | .struct l=>fun i=>l[i]?
 | .arr sz=>fun i=>some (i*sz,sz)
 | .none=>fun _=>Option.none
def Ae (d:FV)(z:Option Value)(parts:List (Nat×Value))(k:Value→Prop):Prop:=
 ∃ zv cs,z=some zv∧Instr.fill (Br d) zv.cells parts=some cs∧k (.agg cs)
def AH (d:FV)(T:TypeId)(z:Option Value)(sz n:Nat)(parts:List (Nat×Value))(h:H)(k:Kt):Prop:=
 ∃ zv cs,z=some zv∧n*sz≤16777216∧Instr.fill (Br d) (if n*sz=0 then #[] else Ax zv.cells (n*sz)) parts=some cs ∧
  ∀ b h',U4 h h'→h.size≤b→h'[b]? = some (.cells cs T (0,0))→k (.slice (some ⟨b,0,none⟩) n n) h'
def V1 (P:Program)(f:Value)(args:List Value)(h:H)(k:Kt):Prop:=∃ n fst cap,f=.func (.func n) fst cap∧Call P n (fst.toList++args++cap.toList) h k
def H5:Operand→Bool
 | .const _=>true
 | _=>false
def Ij (P:Program)(t:TypeId):Bool:=match P.underlying t with|some .string=>true|some (.int _)=>true|_=>false
def F9 (P:Program)(f:FuncId):Bool:=match P.funcs[f]? with|some fn=>fn.body.isSome|none=>false
def LT (op:BinOp):Option Bool:=match op with|.eql=>some false|.neq=>some true|_=>none
def Hh (P:Program)(o:Oper)(ρ:Operand→Value)(h:H)(k:Kt):Prop:=
 match o.op with
 | .move x=>k (ρ x) h
 | .assign x=>k (ρ x) h
 | .pick c a b=>Hk (ρ c) (ρ a) (ρ b) fun v=>k v h
 | .alloc t=>AQ (AG P t) t h k
 | .box t x=>BB t (ρ x).cells h k
 | .build t parts=>match F8 P t with
  | .none=>False
  | d=>Ae d (AG P t) (parts.toList.map fun p=>(p.1,ρ p.2)) fun v=>k v h
 | .buildSlice t n parts=>match HN P t with
  | some e=>AH (.arr (Ap P e)) e (AG P e) (Ap P e) n (parts.toList.map fun p=>(p.1,ρ p.2)) h k
  | none=>False
 | .load t a=>bif ED P t then AB (Cm P t) (Ap P t) (ρ a) h fun v=>k v h else False
 | .store t a v=>bif ED P t then AJ (Ap P t) (ρ a) (ρ v) h fun h=>k undef h else False
 | .nilCheck x=>AE (ρ x) fun v=>k v h
 | .binOp op t x y _=>
  bif Ij P t then AD op (ρ x) (ρ y) fun v=>k v h
  else match LT op with
   | some neg=>Bq (Bd P t) (H5 x||H5 y) neg h (ρ x) (ρ y) fun v=>k v h
   | none=>False
 | .unOp op _ x=>LH op (ρ x) fun v=>k v h
 | .convert s d x=>
  match P.underlying s,P.underlying d with
  | some (.int _),some (.int kd)=>AV kd (ρ x) fun v=>k v h
  | some .string,some .string=>(∃ s,ρ x=.string s)∧k (ρ x) h
  | some .string,some (.slice e)=>match P.underlying e with
   | some (.int .u8)=>Uv e (ρ x) h k
   | _=>False
  | some (.slice e),some .string=>match P.underlying e with
   | some (.int .u8)=>HI (ρ x) h fun v=>k v h
   | _=>False
  | _,_=>False
 | .makeInterface t x=>match P.underlying t with
  | some (.interface _)=>False
  | some _=>k (.iface t (ρ x)) h
  | none=>False
 | .makeFunc fn first captured=>k (.func fn (first.map ρ) (captured.map ρ)) h
 | .makeMap _ none=>Gl h k
 | .makeSlice t l c=>match HN P t with
  | some e=>AY (AG P e) (Ap P e) (F4 P e) e (ρ l) (ρ c) h k
  | none=>False
 | .slice t x lo hi none=>AZ (C2 P t) (ρ x) (lo.map ρ) (hi.map ρ) fun v=>k v h
 | .fieldAddr t x f=>match QT P t f with
  | some off=>AC off (ρ x) fun v=>k v h
  | none=>False
 | .field t x f=>match P.underlying t with
  | some (.struct fs)=>match fs[f]? with
   | some fd=>bif ED P fd.type then S3 (Cm P fd.type) fd.offset (Ap P fd.type) (ρ x) fun v=>k v h else False
   | none=>False
  | _=>False
 | .indexAddr t x i=>AI (C2 P t) (ρ x) (ρ i) fun v=>k v h
 | .index t x i=>match P.underlying t with
  | some .string=>BQ (ρ x) (ρ i) fun v=>k v h
  | some (.array n e)=>bif ED P e then Ch (Cm P e) n (Ap P e) (ρ x) (ρ i) fun v=>k v h else False
  | _=>False
 | .lookup t x i ok=>match AD5 P t with
  | some e=>CC (Pd P t) (AG P e) ok (ρ x) (ρ i) h fun v=>k v h
  | none=>False
 | .mapUpdate t m i v=>Gp (Pd P t) (ρ m) (ρ i) (ρ v) h fun h=>k undef h
 | .range t x=>match P.underlying t with
  | some (.map _ _)=>D5 (ρ x) h k
  | _=>False
 | .next x false=>HM (ρ x) h k
 | .entry x=>Hb (ρ x) h fun v=>k v h
 | .typeAssert x _ t ok=>match P.underlying t with
  | some (.interface _)=>False
  | some _=>FP t (AG P t) ok (ρ x) fun v=>k v h
  | none=>False
 | .extract x i=>AO (ρ x) i fun v=>k v h
 | .call c=>match c.callee with
  | .value (.func f)=>bif F9 P f then Call P f (c.args.toList.map ρ) h k else False
  | .value f=>(∃ n fst cap,ρ f=.func (.func n) fst cap∧F9 P n=true)∧V1 P (ρ f) (c.args.toList.map ρ) h k
  | .builtin .len=>match c.args.toList,c.argTypes.toList with
   | [x],[t]=>match P.underlying t with
    | some .string=>CL (ρ x) fun v=>k v h
    | some (.slice _)=>Ab (ρ x) fun v=>k v h
    | some (.map _ _)=>Ti (ρ x) h fun v=>k v h
    | _=>False
   | _,_=>False
  | .builtin .cap=>match c.args.toList,c.argTypes.toList with
   | [x],[t]=>match P.underlying t with
    | some (.slice _)=>Sp (ρ x) fun v=>k v h
    | _=>False
   | _,_=>False
  | .builtin .append=>match c.args.toList,c.argTypes.toList with
   | [s,x],[t,u]=>match HN P t,P.underlying u with
    | some e,some (.int _)=>CI e (AG P e) (Ap P e) (F4 P e) (ρ s) (ρ x) h k
    | some e,some _=>AM e (AG P e) (Ap P e) (F4 P e) (ρ s) (ρ x) h k
    | _,_=>False
   | _,_=>False
  | .builtin .copy=>match c.args.toList,c.argTypes.toList with
   | [d,x],[t,_]=>match HN P t with
    | some e=>DI (Ap P e) (ρ d) (ρ x) h k
    | none=>False
   | _,_=>False
  | .builtin .min=>match c.args.toList with
   | [x,y]=>NW (ρ x) (ρ y) fun v=>k v h
   | _=>False
  | .builtin .max=>match c.args.toList with
   | [x,y]=>ACp (ρ x) (ρ y) fun v=>k v h
   | _=>False
  | .builtin .delete=>match c.args.toList,c.argTypes.toList with
   | [m,x],t::_=>TM (Pd P t) (ρ m) (ρ x) h fun h=>k (.tuple #[]) h
   | _,_=>False
  | _=>False
 | _=>False
def Ns (e:Env)(d:Option Tmp)(v:Value):Env:=match d with|some d=>La e d v|none=>e
def YV (ops:Array Oper):Nat→Nat×Bool→Env→(Env→Prop)→(Env→Prop)→Prop
 | 0,_,_,_,_=>False
 | f+1,(j,want),e,A,B=>match ops[j]? with
  | some oj=>match oj.dst with
   | some d=>match oj.guard with
    | none=>Az (e d) want (A (La e d (.bool want))) (B (La e d (.bool (!want))))
    | some g=>YV ops f g e (fun e=>Az (e d) want (A (La e d (.bool want))) (B (La e d (.bool (!want))))) (fun e=>skN (e d) want (B e))
   | none=>False
  | none=>False
def U5 (ops:Array Oper)(g:Option (Nat×Bool))(e:Env)(A B:Env→Prop):Prop:=
 match g with
 | none=>A e
 | some g=>YV ops 9 g e A B
def Ed (P:Program)(ops:Array Oper):List Oper→(Env→H→Prop)→Env→H→Prop
 | [],K=>K
 | o::rest,K=>fun e h=>U5 ops o.guard e
   (fun e=>Hh P o (ev e) h fun v h'=>Ed P ops rest K (Ns e o.dst v) h')
   (fun e=>Ed P ops rest K (Ns e o.dst undef) h)
def calmB (P:Program)(o:Oper):Bool:=
 match o.op with
 | .assign _=>false
 | .alloc _|.box _ _|.buildSlice _ _ _|.makeSlice _ _ _|.makeMap _ _|.store _ _ _|.mapUpdate _ _ _ _|.range _ _|.next _ _=>false
 | .convert s d _=>match P.underlying s,P.underlying d with
  | some .string,some (.slice _)=>false
  | _,_=>true
 | .call c=>match c.callee with
  | .builtin .len|.builtin .cap|.builtin .min|.builtin .max=>true
  | _=>false
 | _=>true
def looksB (P:Program)(o:Oper):Bool:=
 match o.op with
 | .load _ _|.lookup _ _ _ _|.entry _=>true
 | .convert s d _=>match P.underlying s,P.underlying d with
  | some (.slice _),some .string=>true
  | _,_=>false
 | .call c=>match c.callee with
  | .builtin .len=>match (c.argTypes[0]?).bind P.underlying with|some (.map _ _)=>true|_=>false
  | _=>false
 | .binOp op t _ _ _=>match LT op,Bd P t with
  | some _,.ptr=>true
  | _,_=>false
 | _=>false
def assignB (o:Oper):Bool:=match o.op with|.assign _=>true|_=>false
def depB (o:Oper):Nat:=o.after.toList.foldl (fun s e=>bif Region.binds .any e then s ||| (1 <<< e.on) else s) 0
def hasB (s i:Nat):Bool:=Nat.beq (Nat.land (Nat.shiftRight s i) 1) 1
def RT:List Nat→List Nat→List Nat
 | [],acc=>acc
 | d::r,acc=>RT r (acc++[(acc.zipIdx.foldl (fun s x=>bif hasB d x.2 then s ||| x.1 else s) d)])
def EO (L:Nat):List Nat→Nat→List Nat
 | [],_=>[]
 | d::ds,i=>bif !hasB L i&&Nat.beq (Nat.land d L) d then i::EO L ds (i+1) else EO L ds (i+1)
structure I3 where
 deps:List Nat
 befs:List Nat
 calm:List Bool
 looks:List Bool
 asg:List Bool
def MC (P:Program)(ops:List Oper):I3:=
 let deps:=ops.map depB
 ⟨deps,RT deps [],ops.map (calmB P),ops.map (looksB P),ops.map assignB⟩
def EH (pl:I3):List Nat→Option Nat
 | []=>none
 | i::r=>bif pl.calm.getD i false then some i else EH pl r
def Ig (L R:Nat):List Bool→Nat→List Nat
 | [],_=>[]
 | b::r,i=>bif b&&hasB L i && !hasB R i then i::Ig L R r (i+1) else Ig L R r (i+1)
def Kh (P:Program)(ops:Array Oper):List Nat→Env→H→Prop→Prop
 | [],_,_,A=>A
 | j::js,e,h,A=>(match ops[j]? with
  | some o=>U5 ops o.guard e (fun e=>Hh P o (ev e) h fun v _=>v=(match o.dst with|some d=>e d|none=>undef)) (fun _=>True)
  | none=>False)∧Kh P ops js e h A
def HK (P:Program)(ops:Array Oper)(i:Nat)(ks:List Nat)(K:Env→H→Prop)(e:Env)(h:H):Prop:=
 match ops[i]? with
 | some o=>U5 ops o.guard e
   (fun e=>Hh P o (ev e) h fun v h'=>Kh P ops ks (Ns e o.dst v) h' (K (Ns e o.dst v) h'))
   (fun e=>K (Ns e o.dst undef) h)
 | none=>False
def OB:List Nat→(Nat→Env→H→Prop)→Env→H→Prop
 | [],_=>fun _ _=>True
 | [i],F=>F i
 | i::j::r,F=>fun e h=>F i e h∧OB (j::r) F e h
def C7 (P:Program)(ops:Array Oper)(pl:I3):Nat→Nat→Nat→(Env→H→Prop)→Env→H→Prop
 | 0,L,_,K=>fun e h=>match EO L pl.deps 0 with|[]=>K e h|_=>False
 | f+1,L,R,K=>fun e h=>match EO L pl.deps 0 with
  | []=>K e h
  | r=>match EH pl r with
   | some i=>HK P ops i [] (C7 P ops pl f (L ||| (1 <<< i)) R K) e h
   | none=>OB r (fun i=>HK P ops i (bif pl.asg.getD i false then [] else Ig (L ||| (1 <<< i)) (R ||| pl.befs.getD i 0) pl.looks 0)
     (C7 P ops pl f (L ||| (1 <<< i)) (R ||| pl.befs.getD i 0) K)) e h
def ABf (B:(Env→H→Prop)→Env→H→Prop)(e:Env)(h:H):Prop:=
 ∃ I:Nat→Env→H→Prop,(∃ m,I m e h)∧∀ m e h,I m e h→B (fun e' h'=>∃ m',m'<m∧I m' e' h') e h
def Ck (P:Program):Code→(Env→H→Prop)→(Env→H→Prop)→(Nat→Env→H→Prop)→Env→H→Prop
 | .skip,Kn,_,_=>Kn
 | .region _ ops draw,Kn,_,_=>bif draw then C7 P ops (MC P ops.toList) ops.size 0 0 Kn else Ed P ops ops.toList Kn
 | .seq a b,Kn,Kr,Kx=>Ck P a (Ck P b Kn Kr Kx) Kr Kx
 | .cond (.tmp t) a b,Kn,Kr,Kx=>fun e h=>AK (e t) (Ck P a Kn Kr Kx (La e t (.bool true)) h) (Ck P b Kn Kr Kx (La e t (.bool false)) h)
 | .block id b,Kn,Kr,Kx=>Ck P b Kn Kr (fun i=>bif Nat.beq i id then Kn else Kx i)
 | .exit id,_,_,Kx=>Kx id
 | .ret,_,Kr,_=>Kr
 | .loop b,_,Kr,Kx=>ABf fun rec=>Ck P b rec Kr Kx
 | _,_,_,_=>fun _ _=>False
def Lj (P:Program)(rs:List ResultVar)(e:Env)(h:H)(Q:Kt):Prop:=
 match rs with
 | []=>Q (.tuple #[]) h
 | [.tmp t]=>Q (e t) h
 | [.cell a t]=>AB (Cm P t) (Ap P t) (e a) h fun v=>Q v h
 | [.tmp t,.tmp u]=>Q (.tuple #[e t,e u]) h
 | [.tmp t,.tmp u,.tmp v]=>Q (.tuple #[e t,e u,e v]) h
 | [.tmp t,.tmp u,.tmp v,.tmp x]=>Q (.tuple #[e t,e u,e v,e x]) h
 | [.cell a t,.tmp u]=>AB (Cm P t) (Ap P t) (e a) h fun v=>Q (.tuple #[v,e u]) h
 | [.tmp u,.cell a t]=>AB (Cm P t) (Ap P t) (e a) h fun v=>Q (.tuple #[e u,v]) h
 | _=>False
section
def GK (f:Func):Code:=f.body.getD .skip
def ZC (args:List Value):Env:=fun i=>args.getD i undef
abbrev Bj (P:Program)(f:Value)(args:List Value)(h:H)(k:Kt):Prop:=(∃ n fst cap,f=.func (.func n) fst cap∧F9 P n=true)∧V1 P f args h k
def Gi (cs:List Nat):Code→Bool
 | .region _ ops _=>ops.toList.all fun o=>match o.dst with|some d=>!cs.any (Nat.beq d)|none=>true
 | .seq a b=>Gi cs a&&Gi cs b
 | .cond _ a b=>Gi cs a&&Gi cs b
 | .block _ b=>Gi cs b
 | .loop b=>Gi cs b
 | _=>true
theorem OA {c:Value}{A B A' B':Prop}(ha:A→A')(hb:B→B')(h:AK c A B):AK c A' B':=by
 unfold AK at *
 cases c<;>first|exact h|(rename_i t;cases t<;>first|exact hb h|exact ha h)
theorem AAL {Kn Kn':Env→H→Prop}{Kx Kx':Nat→Env→H→Prop}{id:Nat}(hn:∀ e h,Kn e h→Kn' e h)(hx:∀ i e h,Kx i e h→Kx' i e h) :
  ∀ i e h,(bif Nat.beq i id then Kn else Kx i) e h→(bif Nat.beq i id then Kn' else Kx' i) e h:=by
 intro i e h
 cases Nat.beq i id<;>first|exact hx _ _ _|exact hn _ _
section
variable {P:Program} {h:H}
theorem Ua {c a b:Value}{k k':Value→Prop}(hk:∀ v,k v→k' v):Hk c a b k→Hk c a b k':=by
 unfold Hk;cases c<;>first|exact fun h=>h|exact hk _
theorem O3 {T:TypeId}{cs:Array Value}{k k':Kt}(hk:∀ v h,k v h→k' v h):BB T cs h k→BB T cs h k':=
 fun H b h' a c d=>hk _ _ (H b h' a c d)
theorem AJs {z:Option Value}{T:TypeId}{k k':Kt}(hk:∀ v h,k v h→k' v h):AQ z T h k→AQ z T h k':=by
 unfold AQ;cases z<;>first|exact fun h=>h|exact O3 hk
theorem QY {n:Nat}{a v:Value}{k k':H→Prop}(hk:∀ h,k h→k' h):AJ n a v h k→AJ n a v h k':=
 fun⟨p,c,T,h1,h2,h3,h4,h5,h6,h7⟩=>⟨p,c,T,h1,h2,h3,h4,h5,h6,hk _ h7⟩
theorem Ni {d:EL}{x i:Value}{k k':Value→Prop}(hk:∀ v,k v→k' v):AI d x i k→AI d x i k':=by
 rintro⟨kk,n,h1,h2⟩
 refine⟨kk,n,h1,?_⟩
 cases d<;>first
  | exact h2
  | (obtain⟨a,len,cap,h3,h4,h5,h6⟩:=h2;exact⟨a,len,cap,h3,h4,h5,hk _ h6⟩)
  | (obtain⟨a,h3,h4,h5,h6⟩:=h2;exact⟨a,h3,h4,h5,hk _ h6⟩)
theorem Rm {x:Value}{k k':Kt}(hk:∀ v h,k v h→k' v h):D5 x h k→D5 x h k':=by
 unfold D5
 cases x with
 | map r=>cases r with
  | none=>exact fun H b h' a c d=>hk _ _ (H b h' a c d)
  | some m=>rintro⟨es,clock,h1,H⟩;exact⟨es,clock,h1,fun b h' a c d=>hk _ _ (H b h' a c d)⟩
 | _=>exact fun h=>h
theorem Uq {x:Value}{k k':Kt}(hk:∀ v h,k v h→k' v h):HM x h k→HM x h k':=by
 rintro⟨r,h1,⟨s,seen,l,h2,h3⟩|⟨m,since,seen,es,h2,h3,h4,h5,h6⟩⟩
 ·exact⟨r,h1,.inl ⟨s,seen,l,h2,hk _ _ h3⟩⟩
 ·exact⟨r,h1,.inr ⟨m,since,seen,es,h2,h3,h4,fun a=>hk _ _ (h5 a),fun e he hs=>hk _ _ (h6 e he hs)⟩⟩
theorem MV {T:TypeId}{z:Option Value}{sz by_:Nat}{s:Value}{n:Nat}{new:Array Value}{k k':Kt}(hk:∀ v h,k v h→k' v h):JI T z sz by_ s n new h k→JI T z sz by_ s n new h k':=by
 rintro⟨base,len,cap,zv,old,h1,h2,h3,h4,h5,h6,h7,h8⟩
 refine⟨base,len,cap,zv,old,h1,h2,h3,h4,h5,h6,fun hc=>?_,fun hc b c' h' a1 a2 a3 a4 a5=>hk _ _ (h8 hc b c' h' a1 a2 a3 a4 a5)⟩
 rcases h7 hc with⟨g1,g2,g3⟩|⟨a,c,T',g1,g2,g3,g4,g5,g6⟩
 ·exact .inl ⟨g1,g2,hk _ _ g3⟩
 ·exact .inr ⟨a,c,T',g1,g2,g3,g4,g5,hk _ _ g6⟩
theorem Uh {sz:Nat}{d x:Value}{k k':Kt}(hk:∀ v h,k v h→k' v h):DI sz d x h k→DI sz d x h k':=by
 rintro⟨base,len,cap,n,cs,h1,h2,h3,⟨h4,h5⟩|⟨a,c,T,h4,h5,h6,h7,h8,h9⟩⟩
 ·exact⟨base,len,cap,n,cs,h1,h2,h3,.inl ⟨h4,hk _ _ h5⟩⟩
 ·exact⟨base,len,cap,n,cs,h1,h2,h3,.inr ⟨a,c,T,h4,h5,h6,h7,h8,hk _ _ h9⟩⟩
theorem Lg {t:TypeId}{z:Option Value}{ok:Bool}{x:Value}{k k':Value→Prop}(hk:∀ v,k v→k' v):FP t z ok x k→FP t z ok x k':=by
 rintro⟨zv,hz,H⟩
 refine⟨zv,hz,?_⟩
 cases x with
 | nilIface=>exact⟨H.1,hk _ H.2⟩
 | iface u v=>
  dsimp only at H ⊢
  split
  ·rename_i e;rw[A03 e] at H;exact hk _ H
  ·rename_i e;rw[A05 e] at H;exact⟨H.1,hk _ H.2⟩
 | _=>exact H
theorem VU {w:World}{k k':Kt}(hk:∀ v h,k v h→k' v h):∀ e w',UD w k e w'→UD w k' e w':=by
 intro e w' H
 cases e with
 | returned v=>exact⟨H.1,hk _ _ H.2⟩
 | panicked c=>exact H
 | outgrown=>exact H
theorem Ok {f:FuncId}{args:List Value}{k k':Kt}(hk:∀ v h,k v h→k' v h)(H:Call P f args h k):Call P f args h k':=
 fun w hw=>(H w hw).mono (VU hk)
set_option maxHeartbeats 1000000 in
theorem El {o:Oper}{ρ:Operand→Value}{k k':Kt}(hk:∀ v h,k v h→k' v h):Hh P o ρ h k→Hh P o ρ h k':=by
 obtain⟨dst,op,type,pos,after,guard⟩:=o
 have hv:∀ v,k v h→k' v h:=fun v=>hk v h
 unfold Hh
 cases op<;>dsimp only
 case move x=>exact hk _ _
 case assign x=>exact hk _ _
 case pick=>exact Ua hv
 case alloc=>exact AJs hk
 case box=>exact O3 hk
 case build=>split;exact fun h=>h;exact fun⟨a,b,c,d,e⟩=>⟨a,b,c,d,hv _ e⟩
 case buildSlice=>split;exact fun⟨a,b,c,d,e,f⟩=>⟨a,b,c,d,e,fun b h' g1 g2 g3=>hk _ _ (f b h' g1 g2 g3)⟩;exact fun h=>h
 case load t a=>cases ED P t;exact fun h=>h;exact fun⟨a,b,c,d,e⟩=>⟨a,b,c,d,hv _ e⟩
 case store t a v=>cases ED P t;exact fun h=>h;exact QY fun h=>hk _ h
 case nilCheck=>exact fun⟨a,b⟩=>⟨a,hv _ b⟩
 case binOp op t x y u=>
  cases Ij P t
  ·dsimp only[cond]
   split
   ·exact fun⟨a,b,c⟩=>⟨a,b,hv _ c⟩
   ·exact fun h=>h
  ·exact fun⟨a,b,c⟩=>⟨a,b,hv _ c⟩
 case unOp=>exact fun⟨a,b,c⟩=>⟨a,b,hv _ c⟩
 case convert=>
  split
  ·exact fun⟨a,b,c,d⟩=>⟨a,b,c,hv _ d⟩
  ·exact fun⟨a,b⟩=>⟨a,hv _ b⟩
  ·split
   ·exact fun⟨s,e,f⟩=>⟨s,e,fun b c h' g1 g2 g3 g4=>hk _ _ (f b c h' g1 g2 g3 g4)⟩
   ·exact fun h=>h
  ·split
   ·exact fun⟨a,b,c⟩=>⟨a,b,hv _ c⟩
   ·exact fun h=>h
  ·exact fun h=>h
 case makeInterface=>split;exact fun h=>h;exact hv _;exact fun h=>h
 case makeFunc=>exact hv _
 case makeMap t r=>cases r;exact fun f b h' g1 g2 g3=>hk _ _ (f b h' g1 g2 g3);exact fun h=>h
 case makeSlice=>split;exact fun⟨a1,a2,a3,a4,a5,a6,a7,a8,a9,a10,a11,a12,f⟩=>⟨a1,a2,a3,a4,a5,a6,a7,a8,a9,a10,a11,a12,fun b h' g1 g2 g3=>hk _ _ (f b h' g1 g2 g3)⟩;exact fun h=>h
 case slice t x lo hi mx=>cases mx;exact fun⟨a,b,c⟩=>⟨a,b,hv _ c⟩;exact fun h=>h
 case fieldAddr=>split;exact fun⟨a,b,c⟩=>⟨a,b,hv _ c⟩;exact fun h=>h
 case field=>
  split
  ·split
   ·rename_i fd _;cases ED P fd.type;exact fun h=>h;exact fun⟨a,b,c,d,e⟩=>⟨a,b,c,d,hv _ e⟩
   ·exact fun h=>h
  ·exact fun h=>h
 case indexAddr=>exact Ni hv
 case index=>
  split
  ·exact fun⟨a,b,c,d,e,f,g,i,j⟩=>⟨a,b,c,d,e,f,g,i,hv _ j⟩
  ·rename_i n e _;cases ED P e;exact fun h=>h;exact fun⟨a,b,c,d,e,f,g,i,j,l⟩=>⟨a,b,c,d,e,f,g,i,j,hv _ l⟩
  ·exact fun h=>h
 case lookup=>split;exact fun⟨a,b,c,d,e,f⟩=>⟨a,b,c,d,e,hv _ f⟩;exact fun h=>h
 case mapUpdate=>exact fun⟨a,b,c,d,e,f,g,i,j⟩=>⟨a,b,c,d,e,f,g,i,hk _ _ j⟩
 case range=>split;exact Rm hk;exact fun h=>h
 case next x s=>cases s;exact Uq hk;exact fun h=>h
 case entry=>exact fun⟨a,b,c,d,e,f,g,i,j,l,m,n,o,p⟩=>⟨a,b,c,d,e,f,g,i,j,l,m,n,o,hv _ p⟩
 case typeAssert=>split;exact fun h=>h;exact Lg hv;exact fun h=>h
 case extract=>exact fun⟨a,b,c,d,e⟩=>⟨a,b,c,d,hv _ e⟩
 case call c=>
  split
  ·rename_i f _
   cases F9 P f
   ·exact fun h=>h
   ·exact Ok hk
  ·exact fun⟨a,n,fst,cap,e,f⟩=>⟨a,n,fst,cap,e,Ok hk f⟩
  ·split
   ·split
    ·exact fun⟨a,b,c⟩=>⟨a,b,hv _ c⟩
    ·exact fun⟨a,b,c,d,e⟩=>⟨a,b,c,d,hv _ e⟩
    ·exact fun H=>H.imp (fun⟨a,b⟩=>⟨a,hv _ b⟩) (fun⟨a,b,c,d,e,f⟩=>⟨a,b,c,d,e,hv _ f⟩)
    ·exact fun h=>h
   ·exact fun h=>h
  ·split
   ·split
    ·exact fun⟨a,b,c,d,e⟩=>⟨a,b,c,d,hv _ e⟩
    ·exact fun h=>h
   ·exact fun h=>h
  ·split
   ·split
    ·exact fun⟨a,b,c,d,e,f,g,z,i⟩=>⟨a,b,c,d,e,f,g,z,MV hk i⟩
    ·exact fun⟨a,b,c,d,e⟩=>⟨a,b,c,d,MV hk e⟩
    ·exact fun h=>h
   ·exact fun h=>h
  ·split
   ·split
    ·exact Uh hk
    ·exact fun h=>h
   ·exact fun h=>h
  ·split
   ·exact fun⟨a,b,c,d,e,f⟩=>⟨a,b,c,d,e,hv _ f⟩
   ·exact fun h=>h
  ·split
   ·exact fun⟨a,b,c,d,e,f⟩=>⟨a,b,c,d,e,hv _ f⟩
   ·exact fun h=>h
  ·split
   ·exact fun⟨a,b,c,d,e,f,g,i,j⟩=>⟨a,b,c,d,e,f,g,i,hk _ _ j⟩
   ·exact fun h=>h
  ·exact fun h=>h
 all_goals exact fun h=>h
end
theorem TQ {c:Value}{w:Bool}{A B A' B':Prop}(ha:A→A')(hb:B→B')(h:Az c w A B):Az c w A' B':=by
 unfold Az at *
 cases c<;>first|exact h|(rename_i t;cases t<;>cases w<;>first|exact hb h|exact ha h)
theorem TV {c:Value}{w:Bool}{B B':Prop}(hb:B→B')(h:skN c w B):skN c w B':=by
 unfold skN at *
 cases c<;>first|exact hb h|(rename_i t;cases t<;>cases w<;>first|exact h|exact hb h)
theorem Sm {ops:Array Oper}:∀ (f:Nat) (g:Nat×Bool) (e:Env) {A B A' B':Env→Prop},(∀ e,A e→A' e)→(∀ e,B e→B' e)→YV ops f g e A B→YV ops f g e A' B'
 | 0,_,_,_,_,_,_=>fun _ _ h=>h
 | f+1,(j,want),e,A,B,A',B'=>fun ha hb h=>by
  unfold YV at *
  cases ho:ops[j]? with
  | none=>rw[ho] at h;exact h
  | some oj=>
   rw[ho] at h
   dsimp only at h ⊢
   cases hd:oj.dst with
   | none=>rw[hd] at h;exact h
   | some d=>
    rw[hd] at h
    dsimp only at h ⊢
    cases hg:oj.guard with
    | none=>rw[hg] at h;exact TQ (ha _) (hb _) h
    | some g=>rw[hg] at h;exact Sm f g e (fun e=>TQ (ha _) (hb _)) (fun e=>TV (hb _)) h
theorem SV {ops:Array Oper}{g:Option (Nat×Bool)}{e:Env}{A B A' B':Env→Prop}(ha:∀ e,A e→A' e)(hb:∀ e,B e→B' e)(h:U5 ops g e A B):U5 ops g e A' B':=by
 unfold U5 at *
 cases g with
 | none=>exact ha _ h
 | some jw=>exact Sm 9 jw e ha hb h
theorem HQ {P:Program}{ops:Array Oper}{K K':Env→H→Prop}(hk:∀ e h,K e h→K' e h):∀ (l:List Oper) (e:Env) (h:H),Ed P ops l K e h→Ed P ops l K' e h
 | [],e,h=>hk e h
 | o::rest,e,h=>by
  unfold Ed
  exact SV (fun _=>El fun _ _=>HQ hk rest _ _) (fun _=>HQ hk rest _ _)
theorem HV {P:Program}{ops:Array Oper}{e:Env}{h:H}{A A':Prop}(ha:A→A'):∀ l:List Nat,Kh P ops l e h A→Kh P ops l e h A'
 | []=>ha
 | _::js=>fun⟨x,y⟩=>⟨x,HV ha js y⟩
theorem Ll {P:Program}{ops:Array Oper}{i:Nat}{ks:List Nat}{K K':Env→H→Prop}(hk:∀ e h,K e h→K' e h){e:Env}{h:H}:HK P ops i ks K e h→HK P ops i ks K' e h:=by
 unfold HK
 split
 ·exact SV (fun _=>El fun _ _=>HV (hk _ _) ks) (fun _=>hk _ _)
 ·exact fun h=>h
theorem Iv {F F':Nat→Env→H→Prop}{e:Env}{h:H}(hf:∀ i,F i e h→F' i e h):∀ l:List Nat,OB l F e h→OB l F' e h
 | []=>fun h=>h
 | [i]=>hf i
 | i::j::r=>fun⟨a,b⟩=>⟨hf i a,Iv hf (j::r) b⟩
theorem HU {P:Program}{ops:Array Oper}{pl:I3}{K K':Env→H→Prop}(hk:∀ e h,K e h→K' e h):∀ (f L R:Nat) (e:Env) (h:H),C7 P ops pl f L R K e h→C7 P ops pl f L R K' e h
 | 0,L,R,e,h=>by
  unfold C7
  split
  ·exact hk e h
  ·exact fun h=>h
 | f+1,L,R,e,h=>by
  unfold C7
  split
  ·exact hk e h
  ·split
   ·exact Ll (HU hk f _ _)
   ·exact Iv (fun i=>Ll (HU hk f _ _)) _
theorem FW {P:Program}(c:Code){Kn Kn' Kr Kr':Env→H→Prop}{Kx Kx':Nat→Env→H→Prop}(hn:∀ e h,Kn e h→Kn' e h)(hr:∀ e h,Kr e h→Kr' e h)
  (hx:∀ i e h,Kx i e h→Kx' i e h):∀ e h,Ck P c Kn Kr Kx e h→Ck P c Kn' Kr' Kx' e h:=by
 induction c generalizing Kn Kn' Kx Kx' with
 | skip=>exact hn
 | region id ops draw=>
  intro e h
  unfold Ck
  cases draw
  ·exact HQ hn _ e h
  ·exact HU hn _ _ _ e h
 | seq a b iha ihb=>exact iha (ihb hn hx) hx
 | cond c a b iha ihb=>
  intro e h
  cases c<;>unfold Ck<;>first|exact fun h=>h|exact OA (iha hn hx _ _) (ihb hn hx _ _)
 | block id b ih=>exact ih hn (AAL hn hx)
 | exit id=>exact hx id
 | ret=>exact hr
 | loop b ih=>
  intro e h
  unfold Ck
  rintro⟨I,h0,hs⟩
  exact⟨I,h0,fun m e h hI=>ih (fun _ _ x=>x) hx _ _ (hs m e h hI)⟩
 | _=>intro e h;unfold Ck;exact fun h=>h
def H3 (cs:List Nat)(e e':Env):Prop:=∀ i∈cs,e' i=e i
theorem Lq {e:Env}{d i:Nat}{v:Value}(h:i≠d):La e d v i=e i:=by
 unfold La
 have:Nat.beq i d=false:=by
  cases hb:Nat.beq i d with
  | false=>rfl
  | true=>exact absurd (B23 hb) h
 rw[this];rfl
theorem YB {e:Env}{d:Nat}{v:Value}:La e d v d=v:=by
 unfold La;rw[show Nat.beq d d=true from Nat.beq_refl d];rfl
theorem GU {e:Env}{d:Nat}{v:Value}(h:e d=v):La e d v=e:=by
 funext i
 by_cases hi:i=d
 ·subst hi;rw[YB,h]
 ·exact Lq hi
theorem T0 {c:Value}{w:Bool}{A B:Prop}(h:Az c w A B):(c=.bool w∧A)∨(c=.bool (!w)∧B):=by
 unfold Az at h
 cases c<;>first|exact h.elim|(rename_i t;cases t<;>cases w<;>first|exact .inl ⟨rfl,h⟩|exact .inr ⟨rfl,h⟩)
theorem AED {c:Value}{w:Bool}{A B:Prop}(h:(c=.bool w∧A)∨(c=.bool (!w)∧B)):Az c w A B:=by
 unfold Az
 rcases h with⟨rfl,h⟩|⟨rfl,h⟩<;>cases w<;>exact h
theorem Xx {ops:Array Oper}:∀ (f:Nat) (g:Nat×Bool) (e:Env) {A B A' B':Env→Prop},(A e→A' e)→(B e→B' e)→YV ops f g e A B→YV ops f g e A' B'
 | 0,_,_,_,_,_,_=>fun _ _ h=>h
 | f+1,(j,want),e,A,B,A',B'=>fun ha hb h=>by
  have key:∀ d:Nat,Az (e d) want (A (La e d (.bool want))) (B (La e d (.bool (!want))))→Az (e d) want (A' (La e d (.bool want))) (B' (La e d (.bool (!want)))):=fun d h=>by
   refine AED ?_
   rcases T0 h with⟨h1,h2⟩|⟨h1,h2⟩
   ·rw[GU h1] at h2 ⊢;exact .inl ⟨h1,ha h2⟩
   ·rw[GU h1] at h2 ⊢;exact .inr ⟨h1,hb h2⟩
  unfold YV at *
  cases ho:ops[j]? with
  | none=>rw[ho] at h;exact h
  | some oj=>
   rw[ho] at h
   dsimp only at h ⊢
   cases hd:oj.dst with
   | none=>rw[hd] at h;exact h
   | some d=>
    rw[hd] at h
    dsimp only at h ⊢
    cases hg:oj.guard with
    | none=>rw[hg] at h;exact key d h
    | some g=>rw[hg] at h;exact Xx f g e (key d) (TV hb) h
theorem XD {ops:Array Oper}{g:Option (Nat×Bool)}{e:Env}{A B A' B':Env→Prop}(ha:A e→A' e)(hb:B e→B' e)(h:U5 ops g e A B):U5 ops g e A' B':=by
 unfold U5 at *
 cases g with
 | none=>exact ha h
 | some jw=>exact Xx 9 jw e ha hb h
def Kb (cs:List Nat)(d:Option Tmp):Bool:=match d with|some d=>!cs.any (Nat.beq d)|none=>true
theorem Gv {cs:List Nat}{d:Option Tmp}{e e1:Env}{v:Value}(hd:Kb cs d=true)(h:H3 cs e e1):H3 cs e (Ns e1 d v):=by
 intro i hi
 cases d with
 | none=>exact h i hi
 | some d=>
  have hne:i≠d:=by
   rintro rfl
   simp only[Kb,B31,List.any_eq_false] at hd
   exact hd i hi (Nat.beq_refl i)
  rw[show Ns e1 (some d) v=La e1 d v from rfl,Lq hne]
  exact h i hi
theorem GW {P:Program}{ops:Array Oper}{K:Env→H→Prop}{cs:List Nat}{e0:Env}:∀ (l:List Oper) (e:Env) (h:H),(l.all fun o=>Kb cs o.dst)=true→H3 cs e0 e→Ed P ops l K e h →
  Ed P ops l (fun e' h'=>H3 cs e0 e'∧K e' h') e h
 | [],e,h,_,hs,H=>⟨hs,H⟩
 | o::rest,e,h,ha,hs,H=>by
  simp only[B33,A42] at ha
  unfold Ed at H ⊢
  refine XD (fun b=>?_) (fun b=>?_) H
  ·exact El (fun v h'=>GW rest _ _ ha.2 (Gv ha.1 hs)) b
  ·exact GW rest _ _ ha.2 (Gv ha.1 hs) b
theorem J9 {P:Program}{ops:Array Oper}{i:Nat}{ks:List Nat}{K K':Env→H→Prop}{cs:List Nat}{e0:Env}(ha:(ops.toList.all fun o=>Kb cs o.dst)=true)
  (hk:∀ e h,H3 cs e0 e→K e h→K' e h) {e:Env} {h:H} (hs:H3 cs e0 e):HK P ops i ks K e h→HK P ops i ks K' e h:=by
 intro H
 unfold HK at H ⊢
 split
 ·rename_i o ho
  simp only[ho] at H
  have hd:Kb cs o.dst=true:=B10.1 ha o (by
   have:=B24 ho
   exact Array.mem_toList_iff.2 this)
  refine XD (fun b=>?_) (fun b=>?_) H
  ·exact El (fun v h'=>HV (hk _ _ (Gv hd hs)) ks) b
  ·exact hk _ _ (Gv hd hs) b
 ·rename_i ho
  simp only[ho] at H
theorem GZ {P:Program}{ops:Array Oper}{pl:I3}{K:Env→H→Prop}{cs:List Nat}{e0:Env}(ha:(ops.toList.all fun o=>Kb cs o.dst)=true):∀ (f L R:Nat) (e:Env) (h:H),H3 cs e0 e→C7 P ops pl f L R K e h →
  C7 P ops pl f L R (fun e' h'=>H3 cs e0 e'∧K e' h') e h
 | 0,L,R,e,h=>fun hs=>by
  unfold C7
  split
  ·exact fun H=>⟨hs,H⟩
  ·exact fun h=>h
 | f+1,L,R,e,h=>fun hs=>by
  unfold C7
  split
  ·exact fun H=>⟨hs,H⟩
  ·split
   ·exact J9 ha (fun e h=>GZ ha f _ _ e h) hs
   ·exact Iv (fun i=>J9 ha (fun e h=>GZ ha f _ _ e h) hs) _
theorem Pj {c:Value}{A B:Prop}(h:AK c A B):(c=.bool true∧A)∨(c=.bool false∧B):=by
 unfold AK at h
 cases c<;>first|exact h.elim|(rename_i t;cases t<;>first|exact .inl ⟨rfl,h⟩|exact .inr ⟨rfl,h⟩)
theorem ZZ {c:Value}{A B:Prop}(h:(c=.bool true∧A)∨(c=.bool false∧B)):AK c A B:=by
 unfold AK
 rcases h with⟨rfl,h⟩|⟨rfl,h⟩<;>exact h
theorem Uw {P:Program}{cs:List Nat}{e0:Env}(c:Code){Kn Kr:Env→H→Prop}{Kx:Nat→Env→H→Prop}(hc:Gi cs c=true) :
  ∀ e h,H3 cs e0 e→Ck P c Kn Kr Kx e h→Ck P c (fun e' h'=>H3 cs e0 e'∧Kn e' h') Kr (fun i e' h'=>H3 cs e0 e'∧Kx i e' h') e h:=by
 induction c generalizing Kn Kx with
 | skip=>exact fun e h hs H=>⟨hs,H⟩
 | region id ops draw=>
  intro e h hs
  unfold Ck
  have hc':(ops.toList.all fun o=>Kb cs o.dst)=true:=hc
  cases draw
  ·exact GW _ e h hc' hs
  ·exact GZ hc' _ _ _ e h hs
 | seq a b iha ihb=>
  simp only[Gi,A42] at hc
  intro e h hs H
  have:=iha hc.1 e h hs H
  exact FW a (fun e h ⟨hs,x⟩=>ihb hc.2 e h hs x) (fun _ _ x=>x) (fun _ _ _ x=>x) e h this
 | cond c a b iha ihb=>
  simp only[Gi,A42] at hc
  intro e h hs
  cases c<;>unfold Ck<;>first
   | exact fun h=>h
   | (
     intro H
     refine ZZ ((Pj H).imp (fun⟨x,y⟩=>⟨x,?_⟩) (fun⟨x,y⟩=>⟨x,?_⟩))
     ·exact iha hc.1 _ _ (by rw[GU x];exact hs) y
     ·exact ihb hc.2 _ _ (by rw[GU x];exact hs) y)
 | block id b ih=>
  intro e h hs H
  have:=ih hc e h hs H
  refine FW b (fun _ _ x=>x) (fun _ _ x=>x) (fun i e h x=>?_) e h this
  cases hb:Nat.beq i id<;>rw[hb] at x<;>exact x
 | exit id=>exact fun e h hs H=>⟨hs,H⟩
 | ret=>exact fun e h hs H=>H
 | loop b ih=>
  intro e h hs
  unfold Ck
  rintro⟨I,⟨m,h0⟩,hstep⟩
  refine⟨fun m e h=>H3 cs e0 e∧I m e h,⟨m,hs,h0⟩,fun m e h ⟨hs,hI⟩=>?_⟩
  refine FW b (fun e h ⟨hs,m',hm,x⟩=>⟨m',hm,hs,x⟩) (fun _ _ x=>x) (fun _ _ _ x=>x) e h (ih hc e h hs (hstep m e h hI))
 | _=>intro e h hs;unfold Ck;exact fun h=>h
theorem Vl {P:Program}{c:Code}{Kr:Env→H→Prop}{Kx:Nat→Env→H→Prop}{e:Env}{h:H}(cs:List Nat)(hcs:Gi cs c=true)(I:Nat→Env→H→Prop)(m:Nat)(h0:I m e h)
  (step:∀ m e' h',(∀ i∈cs,e' i=e i)→I m e' h'→Ck P c (fun e'' h''=>∃ m',m'<m∧I m' e'' h'') Kr Kx e' h'):ABf (fun rec=>Ck P c rec Kr Kx) e h:=by
 refine⟨fun m e' h'=>H3 cs e e'∧I m e' h',⟨m,fun _ _=>rfl,h0⟩,fun m e' h' ⟨hs,hI⟩=>?_⟩
 have:=Uw (e0:=e) c hcs e' h' hs (step m e' h' hs hI)
 exact FW c (fun e h ⟨hs,m',hm,x⟩=>⟨m',hm,hs,x⟩) (fun _ _ x=>x) (fun _ _ _ x=>x.2) e' h' this
end
end Go.Proofs.YtollddkkdgoonaaGreatDoor
