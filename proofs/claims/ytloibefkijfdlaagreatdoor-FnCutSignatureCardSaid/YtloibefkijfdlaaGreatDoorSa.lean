/- The symbolic executor, part 1: what it computes (symbolic values, states, one operation). No theorem here. -/
import Derived.Orders
import Derived.KernelRfl
import Derived.Laws.Cells
import Derived.Laws.Externs
namespace Go.Proofs.YtloibefkijfdlaaGreatDoor
section
open Go
theorem z8:type_of% @Nat.le_trans:=@Nat.le_trans
theorem Hm:type_of% @Result.andThen_ok:=@Result.andThen_ok
theorem EH:type_of% @congrArg:=@congrArg
theorem OQ:type_of% @List.getElem?_eq_some_iff:=@List.getElem?_eq_some_iff
theorem IR:type_of% @List.mem_cons:=@List.mem_cons
theorem IY:type_of% @Sem.run_bind:=@Sem.run_bind
theorem MN:type_of% @List.length_append:=@List.length_append
theorem NB:type_of% @List.mem_singleton:=@List.mem_singleton
theorem Mx:type_of% @List.all_eq_true:=@List.all_eq_true
theorem Ng:type_of% @List.getElem?_map:=@List.getElem?_map
theorem KT:type_of% @Sem.run_pure:=@Sem.run_pure
theorem Ti:type_of% @Array.getD_eq_getD_getElem?:=@Array.getD_eq_getD_getElem?
theorem Km:type_of% @Nat.zero_add:=@Nat.zero_add
theorem Qs:type_of% @List.length_replicate:=@List.length_replicate
theorem KA:type_of% @Nat.le_refl:=@Nat.le_refl
theorem NE:type_of% @List.map_cons:=@List.map_cons
theorem RD:type_of% @Bool.false_eq_true:=@Bool.false_eq_true
theorem Ru:type_of% @List.getD_cons_zero:=@List.getD_cons_zero
theorem Ul:type_of% @List.getElem?_cons_zero:=@List.getElem?_cons_zero
theorem Vu:type_of% @Option.map_eq_some_iff:=@Option.map_eq_some_iff
theorem Rk:type_of% @List.length_take:=@List.length_take
theorem SN:type_of% @Int.toNat_natCast:=@Int.toNat_natCast
theorem Rw:type_of% @List.append_nil:=@List.append_nil
theorem P5:type_of% @Nat.add_zero:=@Nat.add_zero
theorem YD:type_of% @Int.eq_ofNat_of_zero_le:=@Int.eq_ofNat_of_zero_le
theorem Zm:type_of% @List.getElem?_append_left:=@List.getElem?_append_left
theorem Tg:type_of% @List.length_map:=@List.length_map
theorem dh:type_of% @List.getElem?_append_right:=@List.getElem?_append_right
theorem Uk:type_of% @List.length_cons:=@List.length_cons
theorem UA:type_of% @Option.map_some:=@Option.map_some
theorem Uj:type_of% @List.length_drop:=@List.length_drop
theorem RP:type_of% @Int.le_trans:=@Int.le_trans
theorem X7:type_of% @List.getD_cons_succ:=@List.getD_cons_succ
theorem iD:type_of% @List.getElem?_replicate:=@List.getElem?_replicate
theorem Zx:type_of% @List.map_congr_left:=@List.map_congr_left
theorem iB:type_of% @List.mem_append_right:=@List.mem_append_right
theorem Ve:type_of% @Nat.add_assoc:=@Nat.add_assoc
theorem XW:type_of% @Option.some.inj:=@Option.some.inj
theorem Uf:type_of% @List.map_nil:=@List.map_nil
theorem UT:type_of% @List.mem_map:=@List.mem_map
theorem dX:type_of% @List.getElem_of_mem:=@List.getElem_of_mem
theorem iH:type_of% @Nat.lt_of_lt_of_le:=@Nat.lt_of_lt_of_le
theorem bU:type_of% @List.append_assoc:=@List.append_assoc
theorem Xt:type_of% @Int.mul_assoc:=@Int.mul_assoc
theorem ut:type_of% @Array.getElem?_eq_none:=@Array.getElem?_eq_none
theorem vM:type_of% @Nat.ble_eq_true_of_le:=@Nat.ble_eq_true_of_le
theorem I3:type_of% @List.eq_nil_of_length_eq_zero:=@List.eq_nil_of_length_eq_zero
theorem Xg:type_of% @Int.mul_comm:=@Int.mul_comm
theorem yl:type_of% @List.getElem?_cons_succ:=@List.getElem?_cons_succ
theorem lY:type_of% @List.getElem_mem:=@List.getElem_mem
theorem jd:type_of% @List.mem_append:=@List.mem_append
theorem sU:type_of% @Int.natCast_nonneg:=@Int.natCast_nonneg
theorem lZ:type_of% @List.mem_range:=@List.mem_range
theorem N3:type_of% @List.take_of_length_le:=@List.take_of_length_le
theorem Hj:type_of% @List.mem_replicate:=@List.mem_replicate
theorem yN:type_of% @List.nil_append:=@List.nil_append
theorem LL:type_of% @List.mem_of_mem_drop:=@List.mem_of_mem_drop
theorem nE:type_of% @Nat.lt_or_ge:=@Nat.lt_or_ge
theorem lh:type_of% @Int.le_refl:=@Int.le_refl
theorem vg:type_of% @Nat.mul_comm:=@Nat.mul_comm
theorem ql:type_of% @Nat.pow_succ:=@Nat.pow_succ
theorem qR:type_of% @Int.mul_add:=@Int.mul_add
theorem xN:type_of% @Int.ofNat_lt:=@Int.ofNat_lt
theorem XS:type_of% @Nat.pow_le_pow_right:=@Nat.pow_le_pow_right
theorem Th:type_of% @Int.emod_eq_of_lt:=@Int.emod_eq_of_lt
theorem HQ:type_of% @Int.add_zero:=@Int.add_zero
theorem ym:type_of% @Nat.mod_lt:=@Nat.mod_lt
theorem SM:type_of% @List.length_nil:=@List.length_nil
theorem HW:type_of% @Int.add_mul:=@Int.add_mul
theorem RW:type_of% @Int.pow_succ:=@Int.pow_succ
theorem zct:type_of% @List.cons_append:=@List.cons_append
theorem RT:type_of% @Nat.pow_pos:=@Nat.pow_pos
theorem zcv:type_of% @Int.zero_mul:=@Int.zero_mul
theorem zcw:type_of% @List.drop_zero:=@List.drop_zero
theorem zcx:type_of% @List.take_zero:=@List.take_zero
theorem zcy:type_of% @Nat.sub_self:=@Nat.sub_self
theorem zcz:type_of% @Int.zero_add:=@Int.zero_add
theorem zda:type_of% @Int.one_mul:=@Int.one_mul
theorem zdb:type_of% @Nat.lt_of_le_of_lt:=@Nat.lt_of_le_of_lt
theorem zdd:type_of% @Int.mul_one:=@Int.mul_one
universe u
theorem Ai {α : Type u} (a b : α) : (some a = some b) = (a = b) := Option.some.injEq a b
theorem CR {n m : Nat} (h : Nat.beq n m = true) : n = m := Nat.eq_of_beq_eq_true h
theorem Bl (a b : Bool) : ((a && b) = true) = (a = true /\ b = true) := Bool.and_eq_true a b
theorem MQ {n m : Nat} (h : Nat.ble n m = true) : n <= m := Nat.le_of_ble_eq_true h
theorem JC {α : Type u} {l : List α} {i : Nat} (h : i < l.length) : l[i]? = some l[i] := List.getElem?_eq_getElem h
theorem Kh {α : Type u} {a : α} {l : List α} : a ∈ a :: l := List.mem_cons_self
theorem Lv {α : Type u} (y : α) {a : α} {l : List α} (h : a ∈ l) : a ∈ y :: l := List.mem_cons_of_mem y h
theorem Le {α : Type u} {a : α} {l : List α} {i : Nat} (h : l[i]? = some a) : a ∈ l := List.mem_of_getElem? h
def lk{α:Type}(t:Nat):List (Nat×α)->Option α
 | []=>none
 |(k,v)::r=>bif Nat.beq k t then some v else lk t r
def TU{α:Type}:List α->Nat->List α->List α
 | [],_,_=>[]
 |c::cs,0,[]=>c::cs
 |_::cs,0,v::vs=>v::TU cs 0 vs
 |c::cs,o+1,vs=>c::TU cs o vs
def Iw(a b:Int):Bool:=match a,b with
 | .ofNat m,.ofNat n=>Nat.beq m n
 | .negSucc m,.negSucc n=>Nat.beq m n
 |_,_=>false
def Oc{α:Type}(f:α->α->Bool):List α->List α->Bool
 | [],[]=>true
 |a::as,b::bs=>f a b&&Oc f as bs
 |_,_=>false
inductive X where
 |lit (n:Int)
 |v (i k:Nat)
abbrev Br:=Nat->List Int
def X.den(ρ:Br):X->Int
 | .lit n=>n
 | .v i k=>(ρ i).getD k 0
def X.lt(nv:Nat):X->Bool
 | .lit _=>true
 | .v i _=>Nat.blt i nv
def X.beq:X->X->Bool
 | .lit a,.lit b=>Iw a b
 | .v i k,.v j m=>Nat.beq i j&&Nat.beq k m
 |_,_=>false
structure Vl where
 ρ:Br
 ν:Nat->Nat×Nat
 σ:Nat->Value
inductive CX where
 |n (x:X)
 |s (i:Nat)
def AHM:Value->Nat
 | .slice _ _ c=>c
 |_=>0
def CX.den(V:Vl):CX->Int
 | .n x=>x.den V.ρ
 | .s i=>((AHM (V.σ i):Nat):Int)
def CX.lt(nv:Nat):CX->Bool
 | .n x=>x.lt nv
 | .s i=>Nat.blt i nv
def CX.beq:CX->CX->Bool
 | .n a,.n b=>a.beq b
 | .s a,.s b=>Nat.beq a b
 |_,_=>false
def ui(ρ:Br)(x:X):UInt8:=UInt8.ofNat (x.den ρ).toNat
inductive LV where
 |int (k:IntKind) (x:X)
 |bool (x:X)
 |ptr (l o:Nat)
 |nil
 |sl (l o n:Nat) (c:CX) (d:Nat)
 |se (l o s:Nat) (c:CX) (d a:Nat)
 |str (xs:List X)
 |C6
 |eg
 |val (v:Value)
 |Hx (i:Nat)
 |err (i:Nat)
 |pd (l o n s:Nat) (x:X)
 |fy (l o n i:Nat)
def LV.den(V:Vl):LV->Value
 | .int k x=>.int k (x.den V.ρ)
 | .bool x=>.bool (x.den V.ρ != 0)
 | .ptr l o=>.pointer (some ⟨(V.ν l).1,(V.ν l).2+o,none⟩)
 | .nil=>.pointer none
 | .sl l o n c d=>.slice (some ⟨(V.ν l).1,(V.ν l).2+o,none⟩) n ((c.den V).toNat-d)
 | .se l o s c d a=>.slice (some ⟨(V.ν l).1,(V.ν l).2+(if(c.den V).toNat-d=a then o else o+a*s),none⟩) 0 ((c.den V).toNat-d-a)
 | .str xs=>.string ⟨(xs.map (ui V.ρ)).toArray⟩
 | .C6=>.slice none 0 0
 | .eg=>.nilIface
 | .val v=>v
 | .Hx i=>V.σ i
 | .err i=>V.σ i
 | .pd l o _ s x=>.pointer (some ⟨(V.ν l).1,(V.ν l).2+o+(x.den V.ρ).toNat*s,none⟩)
 | .fy _ _ _ i=>V.σ i
def IU(k:IntKind)(n:Int):Prop:=k.min<=n/\n<=k.max
def Yl(k:IntKind)(n:Int):Bool:=decide (k.min<=n)&&decide (n<=k.max)
def LV.ok(V:Vl):LV->Prop
 | .int k x=>IU k (x.den V.ρ)
 | .sl _ _ n c d=>((n+d:Nat):Int)<=c.den V
 | .se _ _ _ c d a=>((a+d:Nat):Int)<=c.den V
 | .str xs=>∀x∈xs,IU .u8 (x.den V.ρ)
 | .err i=>∃t v,V.σ i= .iface t v
 | .val v=>v.oneCell'=true
 | .Hx i=>(V.σ i).oneCell'=true
 | .pd _ _ n _ x=>0<=x.den V.ρ/\x.den V.ρ<n
 | .fy l o n i=>∃m c,V.σ i= .slice (some ⟨(V.ν l).1,(V.ν l).2+o,none⟩) m c/\n<=m
 |_=>True
def ED(l:Nat):List Nat->Bool
 | []=>false
 |i::r=>Nat.beq i l||ED l r
def LV.lt(nv:Nat)(ids:List Nat):LV->Bool
 | .int _ x=>x.lt nv
 | .bool x=>x.lt nv
 | .ptr l _=>ED l ids
 | .sl l _ _ c _=>ED l ids&&c.lt nv
 | .se l _ _ c _ _=>ED l ids&&c.lt nv
 | .str xs=>xs.all (·.lt nv)
 | .pd l _ _ _ x=>ED l ids&&x.lt nv
 | .fy l _ _ i=>ED l ids&&Nat.blt i nv
 | .Hx i=>Nat.blt i nv
 | .err i=>Nat.blt i nv
 |_=>true
def ikN:IntKind->Nat
 | .i8=>0 | .i16=>1 | .i32=>2 | .i64=>3 | .u8=>4 | .u16=>5 | .u32=>6 | .u64=>7
def pu(a b:IntKind):Bool:=Nat.beq (ikN a) (ikN b)
def LV.beq:LV->LV->Bool
 | .int k x,.int k' x'=>pu k k'&&x.beq x'
 | .bool x,.bool x'=>x.beq x'
 | .ptr l o,.ptr l' o'=>Nat.beq l l'&&Nat.beq o o'
 | .nil,.nil=>true
 | .sl l o n c d,.sl l' o' n' c' d'=>Nat.beq l l'&&Nat.beq o o'&&Nat.beq n n'&&c.beq c'&&Nat.beq d d'
 | .se l o s c d a,.se l' o' s' c' d' a'=>Nat.beq l l'&&Nat.beq o o'&&Nat.beq s s'&&c.beq c'&&Nat.beq d d'&&Nat.beq a a'
 | .str xs,.str ys=>Oc X.beq xs ys
 | .C6,.C6=>true
 | .eg,.eg=>true
 | .Hx i,.Hx j=>Nat.beq i j
 | .err i,.err j=>Nat.beq i j
 | .pd l o n s x,.pd l' o' n' s' x'=>Nat.beq l l'&&Nat.beq o o'&&Nat.beq n n'&&Nat.beq s s'&&x.beq x'
 | .fy l o n i,.fy l' o' n' i'=>Nat.beq l l'&&Nat.beq o o'&&Nat.beq n n'&&Nat.beq i i'
 |_,_=>false
inductive TV where
 |l (v:LV)
 |a (vs:List LV)
def TV.den(V:Vl):TV->Value
 | .l v=>v.den V
 | .a vs=>.agg (vs.map (·.den V)).toArray
def TV.ok(V:Vl):TV->Prop
 | .l v=>v.ok V
 | .a vs=>∀v∈vs,v.ok V
def TV.lt(nv:Nat)(ids:List Nat):TV->Bool
 | .l v=>v.lt nv ids
 | .a vs=>vs.all (·.lt nv ids)
def TV.beq:TV->TV->Bool
 | .l v,.l v'=>v.beq v'
 | .a vs,.a vs'=>Oc LV.beq vs vs'
 |_,_=>false
def TV.cells:TV->List LV
 | .l v=>[v]
 | .a vs=>vs
inductive SV where
 |t (v:TV)
 |pn (vs:List TV)
 |any (i:Nat)
def SV.den(V:Vl):SV->Value
 | .t v=>v.den V
 | .pn vs=>.tuple (vs.map (·.den V)).toArray
 | .any i=>V.σ i
def SV.ok(V:Vl):SV->Prop
 | .t v=>v.ok V
 | .pn vs=>∀v∈vs,v.ok V
 | .any _=>True
def SV.lt(nv:Nat)(ids:List Nat):SV->Bool
 | .t v=>v.lt nv ids
 | .pn vs=>vs.all (·.lt nv ids)
 | .any i=>Nat.blt i nv
def SV.beq:SV->SV->Bool
 | .t v,.t v'=>v.beq v'
 | .pn vs,.pn vs'=>Oc TV.beq vs vs'
 | .any i,.any j=>Nat.beq i j
 |_,_=>false
def LV.Wf:Value->Option LV
 | .int k n=>bif Yl k n then some (.int k (.lit n)) else none
 | .bool b=>some (.bool (.lit (cond b 1 0)))
 | .pointer none=>some .nil
 | .slice none 0 0=>some .C6
 | .nilIface=>some .eg
 | .string s=>some (.val (.string s))
 |_=>none
def iT:List Value->Option (List LV)
 | []=>some []
 | v::vs=>match LV.Wf v with
  |none=>none
  |some x=>match iT vs with
   |none=>none
   |some xs=>some (x::xs)
def SV.Wf:Value->Option SV
 | .agg cs=>match iT cs.toList with
  |some vs=>some (.t (.a vs))
  |none=>none
 |v=>match LV.Wf v with
  |some x=>some (.t (.l x))
  |none=>none
structure Rg where
 id:Nat
 gi:Nat
 wr:Bool
 cs:List (Option LV)
structure St where
 lc:List (Nat×SV)
 tm:List (Nat×SV)
 rg:List Rg
 gl:List (Nat×Nat)
 ln:List (Nat×Nat)
 nt:Nat
 nv:Nat
 nl:Nat
def gF(l:Nat):List Rg->Option Rg
 | []=>none
 |r::rs=>bif Nat.beq r.id l then some r else gF l rs
def RO{α:Type}:List (Option α)->Option (List α)
 | []=>some []
 |none::_=>none
 |some x::xs=>match RO xs with
  |some ys=>some (x::ys)
  |none=>none
def Kc(rg:List Rg)(l o n:Nat):Option (List LV):=
 match gF l rg with
 |none=>none
 |some r=>bif Nat.ble (o+n) r.cs.length then RO ((r.cs.drop o).take n) else none
def VK(l o g n:Nat)(vs:List (Option LV))(r:Rg):Rg:=
 bif Nat.beq r.id l then { r with cs:=TU r.cs o vs }
 else bif !(Nat.beq g 0)&&Nat.beq r.gi g then { r with cs:=TU r.cs o (List.replicate n none) } else r
def Dh(rg:List Rg):List Nat:=rg.map (·.id)
def Nw(bv:Nat)(rg:List Rg)(l o:Nat)(vs:List LV):Option (List Rg):=
 match gF l rg with
 |none=>none
 |some r=>bif r.wr&&Nat.ble (o+vs.length) r.cs.length&&vs.all (·.lt bv (Dh rg)) then some (rg.map (VK l o r.gi vs.length (vs.map some))) else none
def og(r:Rg):List Rg->List Rg
 | []=>[r]
 |r'::rs=>bif Nat.blt r'.id r.id then r::r'::rs else r'::og r rs
def aU(bv:Nat)(rg:List Rg)(l:Nat)(cs:List LV):Option (List Rg):=
 bif !(ED l (Dh rg))&&cs.all (·.lt bv (Dh rg)) then some (og ⟨l,0,true,cs.map some⟩ rg) else none
inductive TK where
 |int (k:IntKind)
 |ptr (e:Nat)
 |sl (e:Nat)
 |arr (n e:Nat)
 |str (fs:List (Nat×Nat))
 |iface
 |stg
 |other
structure TD where
 k:TK
 size:Nat
 bytes:Nat
 agg:Bool
 zero:List LV
def TK.dr:TypeDesc->TK
 | .int k=>.int k
 | .pointer e=>.ptr e
 | .slice e=>.sl e
 | .array n e=>.arr n e
 | .struct fs=>.str (fs.toList.map λf=>(f.offset,f.type))
 | .interface _=>.iface
 | .string=>.stg
 |_=>.other
def uZ:TypeDesc->Bool
 | .struct _ | .array _ _=>true
 |_=>false
def TD.of (P:Program) (t:Nat):Option TD:=
 match P.underlying t with
 |none=>none
 | some d=>match P.info? t with
  |none=>none
  | some i=>match i.zero with
   |none=>none
   |some z=>match iT z.cells.toList with
    |none=>none
    |some zs=>some { k:=TK.dr d,size:=i.size,bytes:=i.bytes,agg:=uZ d,zero:=zs }
inductive IZ where
 |vec (j:Nat)
 |xs (l:List X)
def IZ.den(ρ:Br):IZ->List Int
 | .vec j=>ρ j
 | .xs l=>l.map (·.den ρ)
def IZ.lt(nv:Nat):IZ->Bool
 | .vec j=>Nat.blt j nv
 | .xs l=>l.all (·.lt nv)
def IZ.beq:IZ->IZ->Bool
 | .vec i,.vec j=>Nat.beq i j
 | .xs a,.xs b=>Oc X.beq a b
 |_,_=>false
inductive Na where
 |bin (op:BinOp) (k:IntKind)
 |conv (k:IntKind)
 |not
 |pick
 |wA
 |setAt
 |Bm (s:Nat)
 |eqv
 |rN
 |sC
 |fn (f:Nat) (b:Bool) (o:Nat)
structure GG where
 op:Na
 args:List IZ
def opN:BinOp->Nat
 | .add=>0 | .sub=>1 | .mul=>2 | .quo=>3 | .rem=>4 | .and=>5 | .or=>6 | .xor=>7 | .shl=>8 | .shr=>9 | .andNot=>10
 | .eql=>11 | .neq=>12 | .lss=>13 | .leq=>14 | .gtr=>15 | .geq=>16
def Na.beq:Na->Na->Bool
 | .bin a k,.bin b j=>Nat.beq (opN a) (opN b)&&pu k j
 | .conv k,.conv j=>pu k j
 | .not,.not=>true
 | .pick,.pick=>true
 | .wA,.wA=>true
 | .setAt,.setAt=>true
 | .Bm a,.Bm b=>Nat.beq a b
 | .eqv,.eqv=>true
 | .rN,.rN=>true
 | .sC,.sC=>true
 | .fn a b e,.fn c d f=>Nat.beq a c&&(b == d)&&Nat.beq e f
 |_,_=>false
def GG.beq(a b:GG):Bool:=a.op.beq b.op&&Oc IZ.beq a.args b.args
def GG.lt(nv:Nat)(d:GG):Bool:=d.args.all (·.lt nv)
def XH(b:Bool):Int:=cond b 1 0
def Dp(op:BinOp)(k:IntKind)(x y:Int):Int:=
 let a:=BitVec.ofInt k.bits x
 let b:=BitVec.ofInt k.bits y
 k.wrap (match op with
  | .and=>a &&& b
  | .or=>a ||| b
  | .xor=>a ^^^ b
  |_=>a &&& ~~~b).toNat
def Ah(op:BinOp)(k:IntKind)(x y:Int):Int:=
 match op with
 | .add=>k.wrap (x+y)
 | .sub=>k.wrap (x-y)
 | .mul=>k.wrap (x*y)
 | .quo=>k.wrap (x.tdiv y)
 | .rem=>x.tmod y
 | .and=>Dp .and k x y
 | .or=>Dp .or k x y
 | .xor=>Dp .xor k x y
 | .andNot=>Dp .andNot k x y
 | .shl=>k.wrap (x*2^(min y.toNat k.bits))
 | .shr=>x.fdiv (2^(min y.toNat k.bits))
 | .eql=>XH (x == y)
 | .neq=>XH (x != y)
 | .lss=>XH (decide (x<y))
 | .leq=>XH (decide (x<=y))
 | .gtr=>XH (decide (x>y))
 | .geq=>XH (decide (x >= y))
inductive GD where
 |int (k:IntKind)
 |bool
 |mem (ks:List IntKind) (gi:Nat) (wr:Bool)
 |agg (ks:List IntKind)
 |sl (ks:List IntKind) (gi:Nat) (wr:Bool)
 |fy (ks:List IntKind) (gi:Nat) (wr:Bool)
abbrev PF:=List (List Int)->List Int
abbrev PI:=List (List Int)->Int
inductive Pw where
 |int (k:IntKind) (f:PI)
 |bool (f:PI)
 |cy (i:Nat)
 |i7 (j:Nat)
 |agg (ks:List IntKind) (f:PF)
 |nil
 |eg
 |ya (j n c:Nat)
 |slP (i n c:Nat)
 |On (j n:Nat)
 |err
structure BH where
 params:List GD
 hp:Bool
 pre:List (List Int)->Prop
 outs:List (Nat×List IntKind×PF)
 fresh:List (List IntKind×PF)
 ret:List Pw
inductive FE where
 |one (s:BH)
 |two (c:List (List Int)->Bool) (s1 s2:BH)
def FE.ca:FE->Bool->BH
 | .one s,_=>s
 | .two _ s1 s2,b=>cond b s1 s2
def FE.oe:FE->List (List Int)->Bool
 | .one _,_=>true
 | .two c _ _,as=>c as
abbrev Tb:=List (Nat×FE)
structure LD where
 xT:Nat
 ps:List Nat
 ss:List Nat
 cl:List Nat
 nt:Nat
structure IF where
 c:Code
 nt:Nat
 cF:List ResultVar
structure Cx where
 tt:List (Nat×TD)
 T:Tb
 Kp:Nat
 Kf:Nat
 loops:List (Nat×LD)
 inl:List (Nat×IF):=[]
 eqs:List (Nat×List IntKind):=[]
inductive PR where
 |i (f:PI)
 |l (f:PF)
 |no
def Pw.pr:Pw->PR
 | .int _ f=>.i f
 | .bool f=>.i f
 | .agg _ f=>.l f
 |_=>.no
def BH.AK(s:BH):List PR:=s.outs.map (λp=>.l p.2.2)++s.fresh.map (λp=>.l p.2)++s.ret.map Pw.pr
def BH.pr(s:BH)(o:Nat):PR:=(s.AK).getD o .no
def PR.den(as:List (List Int)):PR->List Int
 | .i f=>[f as]
 | .l f=>f as
 | .no=>[]
def d1:List Int->Int
 | [x]=>x
 |_=>0
def Na.den(T:Tb)(op:Na)(as:List (List Int)):List Int:=
 match op with
 | .bin op k=>[Ah op k (d1 (as.getD 0 [])) (d1 (as.getD 1 []))]
 | .conv k=>[k.wrap (d1 (as.getD 0 []))]
 | .not=>[XH (d1 (as.getD 0 []) == 0)]
 | .pick=>[if d1 (as.getD 0 []) != 0 then d1 (as.getD 1 []) else d1 (as.getD 2 [])]
 | .wA=>[(as.getD 0 []).getD (d1 (as.getD 1 [])).toNat 0]
 | .setAt=>(as.getD 0 []).set (d1 (as.getD 1 [])).toNat (d1 (as.getD 2 []))
 | .Bm s=>((as.getD 0 []).drop ((d1 (as.getD 1 [])).toNat*s)).take s
 | .eqv=>[XH (as.getD 0 [] == as.getD 1 [])]
 | .rN=>[(d1 (as.getD 0 [])+d1 (as.getD 1 [])+d1 (as.getD 2 []))%18446744073709551616,if d1 (as.getD 0 [])+d1 (as.getD 1 [])+d1 (as.getD 2 [])<18446744073709551616 then 0 else 1]
 | .sC=>[(d1 (as.getD 0 [])+18446744073709551616-d1 (as.getD 1 [])-d1 (as.getD 2 []))%18446744073709551616,if d1 (as.getD 0 [])<d1 (as.getD 1 [])+d1 (as.getD 2 []) then 1 else 0]
 | .fn f b o=>match lk f T with
  |some s=>((s.ca b).pr o).den as
  |none=>[]
def GG.den(T:Tb)(ρ:Br)(d:GG):List Int:=d.op.den T (d.args.map (·.den ρ))
inductive JU where
 |jn (x:X) (n:Nat)
 |vq (x:X)
 |vn (x:X)
 |nz (x:X)
 |zr (x:X)
 |pre (f:Nat) (as:List IZ)
def JU.den(T:Tb)(ρ:Br):JU->Prop
 | .jn x n=>0<=x.den ρ/\x.den ρ<n
 | .vq x=>0<=x.den ρ
 | .vn x=>x.den ρ=0\/x.den ρ=1
 | .nz x=>x.den ρ≠0
 | .zr x=>x.den ρ=0
 | .pre f as=>match lk f T with
  |some s=>(s.ca true).pre (as.map (·.den ρ))
  |none=>False
def JU.beq:JU->JU->Bool
 | .jn x n,.jn y m=>x.beq y&&Nat.beq n m
 | .vq x,.vq y=>x.beq y
 | .vn x,.vn y=>x.beq y
 | .nz x,.nz y=>x.beq y
 | .zr x,.zr y=>x.beq y
 | .pre f a,.pre g b=>Nat.beq f g&&Oc IZ.beq a b
 |_,_=>false
end
section
open Go
def St.look(st:St)(t:Nat):Option SV:=match lk t st.lc with
 |some v=>some v
 |none=>lk t st.tm
def St.cN(st:St):Operand->Option SV
 | .tmp t=>st.look t
 | .const v=>SV.Wf v
 | .global g=>match lk g st.gl with
  |some l=>some (.t (.l (.ptr l 0)))
  |none=>none
 | .func _=>none
structure NY where
 v:SV
 ds:List (Nat×GG)
 ob:List JU
 ln:List (Nat×Nat)
def NY.val(v:SV):NY:=⟨v,[],[],[]⟩
def IB(v:LV):SV:=.t (.l v)
def Rv(op:BinOp)(k:IntKind)(x y:X)(nb:Nat):X×List (Nat×GG):=
 match x,y with
 | .lit a,.lit b=>(.lit (Ah op k a b),[])
 |x,y=>(.v nb 0,[(nb,⟨.bin op k,[.xs [x],.xs [y]]⟩)])
def Rq:BinOp->Bool
 | .eql | .neq | .lss | .leq | .gtr | .geq=>true
 |_=>false
def oK:BinOp->Bool
 | .shl | .shr=>true
 |_=>false
def vq:X->Bool
 | .lit (.ofNat _)=>true
 |_=>false
def Ob:IntKind->Bool
 | .u8 | .u16 | .u32 | .u64=>true
 |_=>false
def nz:X->Bool
 | .lit n=> !(Iw n 0)
 |_=>false
def aP(k:IntKind):X->Bool
 | .lit n=>Yl k n
 |_=>true
def WU (op:BinOp) (k k':IntKind) (x y:X) (nb:Nat):Option NY:=
 bif oK op then
  let r:=Rv op k x y nb
  bif !(aP k r.1) then none else
  some ⟨IB (.int k r.1),r.2,bif vq y||Ob k' then[] else[.vq y],[]⟩
 else bif !(pu k k') then none
 else bif Rq op then
  let r:=Rv op k x y nb
  some ⟨IB (.bool r.1),r.2,[],[]⟩
 else match op with
  | .quo | .rem=>bif nz y then
    let r:=Rv op k x y nb
    bif !(aP k r.1) then none else some ⟨IB (.int k r.1),r.2,[],[]⟩
   else none
  |_=>
   let r:=Rv op k x y nb
   bif !(aP k r.1) then none else some ⟨IB (.int k r.1),r.2,[],[]⟩
def Jz:List LV->Option (List IntKind×List X)
 | []=>some ([],[])
 | .int k x::r=>match Jz r with
  |some (ks,xs)=>some (k::ks,x::xs)
  |none=>none
 |_::_=>none
def Ph(j:Nat):Nat->List X->Bool
 |_,[]=>true
 |i,.v j' i'::r=>Nat.beq j j'&&Nat.beq i i'&&Ph j (i+1) r
 |_,_=>false
def Rn(ln:List (Nat×Nat))(xs:List X):IZ:=
 match xs with
 | .v j 0::r=>bif Ph j 1 r&&(match lk j ln with|some n=>Nat.beq n xs.length|none=>false) then .vec j else .xs xs
 |xs=>.xs xs
def gH(k:IntKind):List IntKind->Bool
 | []=>true
 |j::r=>pu k j&&gH k r
def I8(j:Nat)(ks:List IntKind):List LV:=ks.zipIdx.map λ(k,i)=>.int k (.v j i)
def Jl(C:Cx)(t:Nat):Option Nat:=match lk t C.tt with
 |some d=>some d.size
 |none=>none
def uw(C:Cx)(t:Nat)(cs:List LV)(off:Nat):Option SV:=match lk t C.tt with
 |none=>none
 | some d=>bif d.agg then
   (bif Nat.ble (off+d.size) cs.length then some (.t (.a ((cs.drop off).take d.size))) else none)
  else match cs[off]? with
   |some v=>some (IB v)
   |none=>none
def ZH (C:Cx) (k:TK) (cells:List LV):List (Nat×TV)->Option (List LV)
 | []=>some cells
 | (i,v)::r=>
  match (match k with
   | .str fs=>match fs[i]? with
    |some (off,t)=>match Jl C t with
     |some s=>some (off,s)
     |none=>none
    |none=>none
   | .arr _ e=>match Jl C e with
    |some s=>some (i*s,s)
    |none=>none
   |_=>none) with
  |none=>none
  |some (off,s)=>bif Nat.beq v.cells.length s&&Nat.ble (off+s) cells.length then ZH C k (TU cells off v.cells) r else none
def Sq(C:Cx):TK->Bool
 | .str fs=>fs.all λp=>(Jl C p.2).isSome
 | .arr _ e=>(Jl C e).isSome
 |_=>false
def St.parts(st:St):List (Nat×Operand)->Option (List (Nat×TV))
 | []=>some []
 |(i,x)::r=>match st.cN x,st.parts r with
  |some (.t v),some vs=>some ((i,v)::vs)
  |_,_=>none
def lO(st:St)(afi:Nat):Option Operand->Option Nat
 |none=>some afi
 |some x=>match st.cN x with
  |some (.t (.l (.int _ (.lit (.ofNat n)))))=>some n
  |_=>none
def Ls(C:Cx)(t:Nat):Option (Option Nat×Nat):=match lk t C.tt with
 |some ⟨.arr n e,_,_,_,_⟩=>match Jl C e with
  |some s=>some (some n,s)
  |none=>none
 |some ⟨.sl e,_,_,_,_⟩=>match Jl C e with
  |some s=>some (none,s)
  |none=>none
 |_=>none
def QE (C:Cx) (o:Oper) (nb:Nat) (st:St):Option NY:=
 match o.op with
 | .move x=>match st.cN x with
  |some v=>some (.val v)
  |none=>none
 | .assign x=>match st.cN x with
  |some v=>some (.val v)
  |none=>none
 | .pick c a b=>match st.cN c,st.cN a,st.cN b with
  |some (.t (.l (.bool (.lit n)))),some va,some vb=>some (.val (bif Iw n 0 then vb else va))
  |some (.t (.l (.bool (.lit n)))),some va,none=>bif Iw n 0 then none else some (.val va)
  |some (.t (.l (.bool (.lit n)))),none,some vb=>bif Iw n 0 then some (.val vb) else none
  |some (.t (.l (.bool x))),some (.t (.l (.bool y))),some (.t (.l (.bool z)))=>some ⟨IB (.bool (.v nb 0)),[(nb,⟨.pick,[.xs [x],.xs [y],.xs [z]]⟩)],[],[]⟩
  |_,_,_=>none
 | .build t ps=>match lk t C.tt,st.parts ps.toList with
  |some d,some vs=>bif Sq C d.k then(match ZH C d.k d.zero vs with
   |some cs=>some (.val (.t (.a cs)))
   |none=>none) else none
  |_,_=>none
 | .nilCheck x=>match st.cN x with
  |some (.t (.l (.ptr l o)))=>some (.val (IB (.ptr l o)))
  |some (.t (.l (.pd l o n s x)))=>some (.val (IB (.pd l o n s x)))
  |_=>none
 | .binOp op xt x y _=>match st.cN x,st.cN y with
  |some (.t (.l (.int k a))),some (.t (.l (.int k' b)))=>WU op k k' a b nb
  | some (.t (.l .eg)),some (.t (.l .eg))=>
   (match lk xt C.tt,(match x,y with | .const _,_=>true|_,.const _=>true|_,_=>false) with
    |some ⟨.iface,_,_,_,_⟩,true=>(match op with
     | .eql=>some (.val (IB (.bool (.lit 1))))
     | .neq=>some (.val (IB (.bool (.lit 0))))
     |_=>none)
    |_,_=>none)
  | some (.t (.l (.err _))),some (.t (.l .eg))=>
   (match lk xt C.tt with
    |some ⟨.iface,_,_,_,_⟩=>(match op with
     | .eql=>some (.val (IB (.bool (.lit 0))))
     | .neq=>some (.val (IB (.bool (.lit 1))))
     |_=>none)
    |_=>none)
  | some (.t (.l (.sl _ _ _ _ _))),some (.t (.l .C6))=>
   (match lk xt C.tt with
    |some ⟨.sl _,_,_,_,_⟩=>(match op with
     | .eql=>some (.val (IB (.bool (.lit 0))))
     | .neq=>some (.val (IB (.bool (.lit 1))))
     |_=>none)
    |_=>none)
  |_,_=>none
 | .unOp op _ x=>match st.cN x with
  |some (.t (.l (.int k a)))=>(match op with
   | .neg=>WU .sub k k (.lit 0) a nb
   | .xor=>bif Ob k then WU .xor k k (.lit k.max) a nb else WU .xor k k (.lit (-1)) a nb
   |_=>none)
  |some (.t (.l (.bool (.lit n))))=>(match op with
   | .not=>some (.val (IB (.bool (.lit (XH (Iw n 0))))))
   |_=>none)
  |some (.t (.l (.bool a)))=>(match op with
   | .not=>some ⟨IB (.bool (.v nb 0)),[(nb,⟨.not,[.xs [a]]⟩)],[],[]⟩
   |_=>none)
  |_=>none
 | .convert s d x=>match lk s C.tt,lk d C.tt,st.cN x with
  |some _,some ⟨.int k,_,_,_,_⟩,some (.t (.l (.int k' a)))=>
   (bif pu k k' then some (.val (IB (.int k a))) else
   match a with
   | .lit n=>some (.val (IB (.int k (.lit (k.wrap n)))))
   |a=>some ⟨IB (.int k (.v nb 0)),[(nb,⟨.conv k,[.xs [a]]⟩)],[],[]⟩)
  |_,_,_=>none
 | .fieldAddr s x f=>match lk s C.tt,st.cN x with
  | some ⟨.str fs,_,_,_,_⟩,some (.t (.l (.ptr l o)))=>(match fs[f]? with
   |some (off,t)=>(match Jl C t with
    |some n=>bif Nat.beq n 0 then none else some (.val (IB (.ptr l (o+off))))
    |none=>none)
   |none=>none)
  |_,_=>none
 | .field t x f=>match lk t C.tt,st.cN x with
  | some ⟨.str fs,_,_,_,_⟩,some (.t (.a cs))=>(match fs[f]? with
   |some (off,t')=>(match uw C t' cs off with
    |some v=>some (.val v)
    |none=>none)
   |none=>none)
  |_,_=>none
 | .indexAddr t x ix=>match Ls C t,st.cN x,st.cN ix with
  |some (some n,s),some (.t (.l (.ptr l o))),some (.t (.l (.int _ i)))=>(match i with
   | .lit (.ofNat i)=>bif Nat.blt i n then some (.val (IB (.ptr l (o+i*s)))) else none
   | .lit _=>none
   |i=>some ⟨IB (.pd l o n s i),[],[.jn i n],[]⟩)
  |some (none,s),some (.t (.l (.sl l o n _ _))),some (.t (.l (.int _ i)))=>(match i with
   | .lit (.ofNat i)=>bif Nat.blt i n then some (.val (IB (.ptr l (o+i*s)))) else none
   | .lit _=>none
   |i=>some ⟨IB (.pd l o n s i),[],[.jn i n],[]⟩)
  |some (none,s),some (.t (.l (.fy l o n _))),some (.t (.l (.int _ i)))=>(match i with
   | .lit (.ofNat i)=>bif Nat.blt i n then some (.val (IB (.ptr l (o+i*s)))) else none
   | .lit _=>none
   |i=>some ⟨IB (.pd l o n s i),[],[.jn i n],[]⟩)
  |_,_,_=>none
 | .index t x ix=>match lk t C.tt,st.cN x,st.cN ix with
  | some ⟨.arr n e,_,_,_,_⟩,some (.t (.a cs)),some (.t (.l (.int _ i)))=>(match i with
   | .lit (.ofNat i)=>bif Nat.blt i n then(match Jl C e with
     |some s=>(match uw C e cs (i*s) with
      |some v=>some (.val v)
      |none=>none)
     |none=>none) else none
   | .lit _=>none
   |i=>(match lk e C.tt,Jz cs with
    | some ⟨.int k,1,_,false,_⟩,some (ks,xs)=>bif gH k ks&&Nat.beq cs.length n then
      some ⟨IB (.int k (.v nb 0)),[(nb,⟨.wA,[Rn st.ln xs,.xs [i]]⟩)],[.jn i n],[]⟩ else none
    |_,_=>none))
  |_,_,_=>none
 | .extract x i=>match st.cN x with
  |some (.pn vs)=>(match vs[i]? with
   |some v=>some (.val (.t v))
   |none=>none)
  |_=>none
 | .slice t x lo hi mx=>match mx,lk t C.tt,st.cN x with
  | none,some ⟨.ptr ar,_,_,_,_⟩,some (.t (.l (.ptr l o)))=>(match Ls C ar with
   |some (some n,s)=>(match lO st 0 lo,lO st n hi with
    | some a,some b=>bif Nat.ble a b&&Nat.ble b n then
      some (.val (IB (.sl l (bif Nat.beq n a then o else o+a*s) (b-a) (.n (.lit n)) a))) else none
    |_,_=>none)
   |_=>none)
  | none,some ⟨.arr n e,_,_,_,_⟩,some (.t (.l (.ptr l o)))=>(match Jl C e with
   |some s=>(match lO st 0 lo,lO st n hi with
    | some a,some b=>bif Nat.ble a b&&Nat.ble b n then
      some (.val (IB (.sl l (bif Nat.beq n a then o else o+a*s) (b-a) (.n (.lit n)) a))) else none
    |_,_=>none)
   |none=>none)
  | none,some ⟨.sl _,_,_,_,_⟩,some (.t (.l (.sl l o n c d)))=>(match Ls C t with
   |some (_,s)=>(match lO st 0 lo,lO st n hi with
    | some a,some b=>bif Nat.ble a b&&Nat.ble b n then
      (bif Nat.blt a n||Nat.beq a 0 then some (.val (IB (.sl l (o+a*s) (b-a) c (d+a)))) else some (.val (IB (.se l o s c d a)))) else none
    |_,_=>none)
   |_=>none)
  | some m,some ⟨.sl _,_,_,_,_⟩,some (.t (.l (.sl l o n _ _)))=>(match Ls C t with
   |some _=>(match lO st 0 lo,hi,lO st 0 hi,lO st 0 (some m) with
    |some 0,some _,some b,some m=>bif Nat.ble b m&&Nat.ble m n then some (.val (IB (.sl l o b (.n (.lit m)) 0))) else none
    |_,_,_,_=>none)
   |_=>none)
  |_,_,_=>none
 | .call ⟨.builtin .len,args,iv⟩=>match iv[0]?,args[0]? with
  |some t,some x=>(match lk t C.tt,st.cN x with
   |some ⟨.sl _,_,_,_,_⟩,some (.t (.l (.sl _ _ n _ _)))=>bif Nat.ble n 65536 then some (.val (IB (.int .i64 (.lit n)))) else none
   |some ⟨.sl _,_,_,_,_⟩,some (.t (.l .C6))=>some (.val (IB (.int .i64 (.lit 0))))
   |some ⟨.sl _,_,_,_,_⟩,some (.t (.l (.se _ _ _ _ _ _)))=>some (.val (IB (.int .i64 (.lit 0))))
   |some ⟨.arr n _,_,_,_,_⟩,some _=>bif Nat.ble n 65536 then some (.val (IB (.int .i64 (.lit n)))) else none
   |_,_=>none)
  |_,_=>none
 |_=>none
structure ZV where
 o:NY
 rg:List Rg
 er:Bool:=false
def j4 (C:Cx) (t:Nat) (a:LV) (nb:Nat) (st:St):Option NY:=
 match lk t C.tt,a with
 | some d,.ptr l o=>bif d.agg then(match Kc st.rg l o d.size with
   |some cs=>some (.val (.t (.a cs)))
   |none=>none)
  else(match Kc st.rg l o 1 with
   |some [v]=>some (.val (IB v))
   |_=>none)
 | some d,.pd l o n s x=>(match Kc st.rg l o (n*s) with
   | some cs=>(match Jz cs with
    | some (k::ks,xs)=>bif gH k ks then
      bif d.agg then(bif Nat.beq d.size s then
       some ⟨.t (.a (I8 nb (List.replicate s k))),[(nb,⟨.Bm s,[Rn st.ln xs,.xs [x]]⟩)],[],[(nb,s)]⟩ else none)
      else(bif Nat.beq s 1 then some ⟨IB (.int k (.v nb 0)),[(nb,⟨.wA,[Rn st.ln xs,.xs [x]]⟩)],[],[]⟩ else none)
     else none
    |_=>none)
   |none=>none)
 |_,_=>none
def oQ (C:Cx) (t:Nat) (a:LV) (v:TV) (nb bv:Nat) (st:St):Option ZV:=
 match lk t C.tt,a with
 | some d,.ptr l o=>bif Nat.beq v.cells.length d.size then(match Nw bv st.rg l o v.cells with
   |some rg=>some ⟨.val (.pn []),rg,false⟩
   |none=>none) else none
 | some d,.pd l o n s x=>(match v with
   | .l (.int k y)=>bif Nat.beq d.size 1&&Nat.beq s 1 then(match Kc st.rg l o n with
    |some cs=>(match Jz cs with
     | some (ks,xs)=>bif gH k ks then(match Nw bv st.rg l o (I8 nb ks) with
       |some rg=>some ⟨⟨.pn [],[(nb,⟨.setAt,[Rn st.ln xs,.xs [x],.xs [y]]⟩)],[],[(nb,n)]⟩,rg,false⟩
       |none=>none) else none
     |none=>none)
    |none=>none) else none
   |_=>none)
 |_,_=>none
structure MP where
 l:Nat
 o:Nat
 n:Nat
 g:Nat
 wr:Bool
 lv:LV
def KZ:List IntKind->List IntKind->Bool:=Oc pu
def AKl(st:St)(p:GD)(v:SV):Option (IZ×Option MP):=
 match p,v with
 | .int k,.t (.l (.int k' x))=>bif pu k k' then some (.xs [x],none) else none
 | .bool,.t (.l (.bool x))=>some (.xs [x],none)
 | .mem ks g wr,.t (.l (.ptr l o))=>(match Kc st.rg l o ks.length with
  |some cs=>(match Jz cs with
   |some (φ,xs)=>bif KZ ks φ then some (Rn st.ln xs,some ⟨l,o,ks.length,g,wr,.ptr l o⟩) else none
   |none=>none)
  |none=>none)
 | .agg ks,.t (.a cs)=>(match Jz cs with
  |some (φ,xs)=>bif KZ ks φ then some (Rn st.ln xs,none) else none
  |none=>none)
 | .sl ks g wr,.t (.l (.sl l o n c d))=>bif Nat.beq n ks.length then(match Kc st.rg l o n with
  |some cs=>(match Jz cs with
   |some (φ,xs)=>bif KZ ks φ then some (Rn st.ln xs,some ⟨l,o,n,g,wr,.sl l o n c d⟩) else none
   |none=>none)
  |none=>none) else none
 | .fy ks g wr,.t (.l (.fy l o n i))=>bif Nat.beq n ks.length then(match Kc st.rg l o n with
  |some cs=>(match Jz cs with
   |some (φ,xs)=>bif KZ ks φ then some (Rn st.ln xs,some ⟨l,o,n,g,wr,.fy l o n i⟩) else none
   |none=>none)
  |none=>none) else none
 |_,_=>none
def Oj(st:St):List GD->List SV->Option (List IZ×List (Option MP))
 | [],[]=>some ([],[])
 |p::ps,v::vs=>match AKl st p v,Oj st ps vs with
  |some (a,m),some (as,ms)=>some (a::as,m::ms)
  |_,_=>none
 |_,_=>none
def pA(st:St):List Operand->Option (List SV)
 | []=>some []
 |x::xs=>match st.cN x,pA st xs with
  |some v,some vs=>some (v::vs)
  |_,_=>none
def AFu(o1 n1 o2 n2:Nat):Bool:=Nat.ble (o1+n1) o2||Nat.ble (o2+n2) o1
def AId(rg:List Rg)(a b:MP):Bool:=
 !(a.wr||b.wr) ||
 (let same:=Nat.beq a.g b.g && !(Nat.beq a.g 0)&&Nat.beq a.o b.o&&Nat.beq a.n b.n
   bif Nat.beq a.l b.l then AFu a.o a.n b.o b.n||same
   else match gF a.l rg,gF b.l rg with
  |some r,some r'=>(r.wr||r'.wr)&&(bif Nat.beq r.gi r'.gi && !(Nat.beq r.gi 0) then AFu a.o a.n b.o b.n||same else true)
  |_,_=>false)
def VT(rg:List Rg):List (Option MP)->Bool
 | []=>true
 |none::r=>VT rg r
 |some a::r=>(r.all fun|some b=>AId rg a b|none=>true)&&VT rg r
def Vz(rg:List Rg):List (Option MP)->Bool
 | []=>true
 |none::r=>Vz rg r
 |some a::r=>(!a.wr||(match gF a.l rg with|some g=>g.wr|none=>false))&&Vz rg r
def XA (bv:Nat) (ms:List (Option MP)) (nb:Nat):List (Nat×List IntKind×PF)->List Rg->Option (List Rg)
 | [],rg=>some rg
 | (i,ks,_)::r,rg=>match ms[i]? with
  | some (some m)=>bif Nat.beq m.n ks.length&&m.wr then(match Nw bv rg m.l m.o (I8 nb ks) with
    |some fR=>XA bv ms (nb+1) r fR
    |none=>none) else none
  |_=>none
def Yz(bv nb lb:Nat):List (List IntKind×PF)->List Rg->Option (List Rg)
 | [],rg=>some rg
 |(ks,_)::r,rg=>match aU bv rg lb (I8 nb ks) with
  |some fR=>Yz bv (nb+1) (lb+1) r fR
  |none=>none
def XU(ms:List (Option MP))(nb lb:Nat):Pw->Option TV
 | .int k _=>some (.l (.int k (.v nb 0)))
 | .bool _=>some (.l (.bool (.v nb 0)))
 | .cy i=>match ms[i]? with
  |some (some m)=>some (.l m.lv)
  |_=>none
 | .i7 j=>some (.l (.ptr (lb+j) 0))
 | .agg ks _=>some (.a (I8 nb ks))
 | .nil=>some (.l .nil)
 | .eg=>some (.l .eg)
 | .ya j n c=>bif Nat.ble n c then some (.l (.sl (lb+j) 0 n (.n (.lit c)) 0)) else none
 | .slP i n c=>(match ms[i]? with
  |some (some m)=>(match m.lv with
   | .ptr l o=>bif Nat.ble n c then some (.l (.sl l o n (.n (.lit c)) 0)) else none
   |_=>none)
  |_=>none)
 | .On j n=>some (.l (.sl (lb+j) 0 n (.s nb) 0))
 | .err=>some (.l (.err nb))
def ja(ms:List (Option MP))(nb lb:Nat):List Pw->Option (List TV)
 | []=>some []
 |r::rs=>match XU ms nb lb r,ja ms (nb+1) lb rs with
  |some v,some vs=>some (v::vs)
  |_,_=>none
def ADe(nb:Nat):List Pw->List (Nat×Nat)
 | []=>[]
 | .agg ks _::rs=>(nb,ks.length)::ADe (nb+1) rs
 |_::rs=>ADe (nb+1) rs
def Qd(f:Nat)(ca:Bool)(as:List IZ)(nb:Nat):Nat->List PR->List (Nat×GG)
 |_,[]=>[]
 |i,.no::r=>Qd f ca as nb (i+1) r
 |i,_::r=>(nb+i,⟨.fn f ca i,as⟩)::Qd f ca as nb (i+1) r
def Qe:List TV->SV
 | [v]=>.t v
 |vs=>.pn vs
structure APw where
 vs:List TV
 ds:List (Nat×GG)
 ob:List JU
 ln:List (Nat×Nat)
 rg:List Rg
 er:Bool
def SK:List Pw->Bool
 | []=>false
 | .err::_=>true
 | .On _ _::_=>true
 |_::r=>SK r
def qx (C:Cx) (f:Nat) (ca:Bool) (vs:List SV) (nb lb bv:Nat) (st:St):Option APw:=
 match lk f C.T with
 |none=>none
 | some fe=>
  let s:=fe.ca ca
  match Oj st s.params vs with
  |none=>none
  | some (as,ms)=>
   bif VT st.rg ms&&Vz st.rg ms then(match XA bv ms nb s.outs st.rg with
    |none=>none
    | some rg=>
     let no:=s.outs.length
     let nf:=s.fresh.length
     (match Yz bv (nb+no) lb s.fresh rg with
     |none=>none
     |some fR=>(match ja ms (nb+no+nf) lb s.ret with
      |none=>none
      | some tv=>some ⟨tv,Qd f ca as nb 0 s.AK,bif s.hp then[.pre f as] else[],
        (s.outs.zipIdx.map λ(p,i)=>(nb+i,p.2.1.length))++(s.fresh.zipIdx.map λ(p,i)=>(nb+no+i,p.1.length))++ADe (nb+no+nf) s.ret,fR,SK s.ret⟩)))
   else none
def ow(C:Cx)(st:St)(vs:List SV):Nat->Nat->Nat
 |0,k=>k
 | n+1,k=>match lk k C.T with
  |some (.one s)=>(match Oj st s.params vs with
   |some _=>k
   |none=>ow C st vs n (k+10000))
  |_=>k
def AIY:Option FE->Bool
 |some (.one _)=>true
 |_=>false
def AIX (C:Cx) (f:Nat) (ca:Bool) (args:List Operand) (nb lb bv:Nat) (st:St):Option ZV:=
 match pA st args with
 |none=>none
 | some vs=>
  bif Nat.beq f C.Kp then(match vs with
   | [.t (.l (.int .u64 x)),.t (.l (.int .u64 y)),.t (.l (.int .u64 z))]=>
    some ⟨⟨.pn [.l (.int .u64 (.v nb 0)),.l (.int .u64 (.v nb 1))],[(nb,⟨.rN,[.xs [x],.xs [y],.xs [z]]⟩)],[.vn z],[(nb,2)]⟩,st.rg,false⟩
   |_=>none)
  else bif Nat.beq f C.Kf then(match vs with
   | [.t (.l (.int .u64 x)),.t (.l (.int .u64 y)),.t (.l (.int .u64 z))]=>
    some ⟨⟨.pn [.l (.int .u64 (.v nb 0)),.l (.int .u64 (.v nb 1))],[(nb,⟨.sC,[.xs [x],.xs [y],.xs [z]]⟩)],[.vn z],[(nb,2)]⟩,st.rg,false⟩
   |_=>none)
  else bif !(Nat.blt f 10000) then none else
   let k:=ow C st vs 20 f
   bif Nat.beq k f||(ca&&AIY (lk k C.T)) then(match qx C k ca vs nb lb bv st with
   |none=>none
   |some r=>some ⟨⟨Qe r.vs,r.ds,r.ob,r.ln⟩,r.rg,r.er⟩) else none
def WQ{α:Type}:Nat->List α->List α
 |0,_=>[]
 |n+1,l=>l++WQ n l
def ng(bv:Nat)(rg:List Rg)(l:Nat)(cs:List LV)(v:LV):Option ZV:=
 match aU bv rg l cs with
 |some fR=>some ⟨.val (IB v),fR,false⟩
 |none=>none
def zq(op:BinOp)(a b:IZ)(nb:Nat):Option NY:=match op with
 | .eql=>some ⟨IB (.bool (.v nb 0)),[(nb,⟨.eqv,[a,b]⟩)],[],[]⟩
 | .neq=>some ⟨IB (.bool (.v (nb+1) 0)),[(nb,⟨.eqv,[a,b]⟩),(nb+1,⟨.not,[.xs [.v nb 0]]⟩)],[],[]⟩
 |_=>none
def ACf(rg:List Rg):Option NY->Option ZV
 |some r=>some ⟨r,rg,false⟩
 |none=>none
def eqM(C:Cx)(op:BinOp)(xt:Nat)(cs vl:List LV)(nb:Nat)(st:St):Option ZV:=
 match lk xt C.eqs,Jz cs,Jz vl with
 |some ks,some (k1,x1),some (k2,x2)=>bif KZ ks k1&&KZ ks k2 then ACf st.rg (zq op (Rn st.ln x1) (Rn st.ln x2) nb) else none
 |_,_,_=>none
def Mk (C:Cx) (o:Oper) (ca:Bool) (nb lb bv:Nat) (st:St):Option ZV:=
 match o.op with
 | .load t a=>match st.cN a with
  |some (.t (.l v))=>(match j4 C t v nb st with
   |some r=>some ⟨r,st.rg,false⟩
   |none=>none)
  |_=>none
 | .store t a x=>match st.cN a,st.cN x with
  |some (.t (.l v)),some (.t y)=>oQ C t v y nb bv st
  |_,_=>none
 | .alloc t=>match lk t C.tt with
  |some d=>ng bv st.rg lb d.zero (.ptr lb 0)
  |none=>none
 | .box _ x=>match st.cN x with
  |some (.t v)=>ng bv st.rg lb v.cells (.ptr lb 0)
  |_=>none
 | .buildSlice t n ps=>match lk t C.tt,st.parts ps.toList with
  | some ⟨.sl e,_,_,_,_⟩,some vs=>(match lk e C.tt with
   |some d=>bif Nat.ble (n*d.size) 16777216&&Nat.blt 0 (n*d.size)&&Nat.beq d.zero.length d.size then(match ZH C (.arr n e) (WQ n d.zero) vs with
    |some cs=>ng bv st.rg lb cs (.sl lb 0 n (.n (.lit n)) 0)
    |none=>none) else(bif Nat.beq n 0 then(match vs with
    | []=>ng bv st.rg lb [] (.sl lb 0 0 (.n (.lit 0)) 0)
    |_=>none) else none)
   |none=>none)
  |_,_=>none
 | .makeSlice t n c=>match lk t C.tt,lO st 0 (some n),lO st 0 (some c) with
  |some ⟨.sl e,_,_,_,_⟩,some n,some c=>(match lk e C.tt with
   | some d=>bif Nat.ble n c&&Nat.ble c 65536&&Nat.ble (d.bytes*c) 281474976710656&&Nat.blt 0 (c*d.size)&&Nat.beq d.zero.length d.size then
     ng bv st.rg lb (WQ c d.zero) (.sl lb 0 n (.n (.lit c)) 0) else none
   |none=>none)
  |_,_,_=>none
 | .call ⟨.value (.func f),args,_⟩=>AIX C f ca args.toList nb lb bv st
 | .call ⟨.builtin .copy,args,iv⟩=>match iv[0]?,args[0]?,args[1]? with
  | some t,some x,some y=>(match lk t C.tt,st.cN x,st.cN y with
   | some ⟨.sl e,_,_,_,_⟩,some (.t (.l (.sl l o n _ _))),some (.t (.l (.sl l' o' n' _ _)))=>
    (match Jl C e with
    | some 1=>bif Nat.ble n 65536 then(match Kc st.rg l' o' (min n' n) with
     |some cs=>(match Nw bv st.rg l o cs with
      |some rg=>some ⟨.val (IB (.int .i64 (.lit (min n' n:Nat)))),rg,false⟩
      |none=>none)
     |none=>none) else none
    |_=>none)
   |_,_,_=>none)
  |_,_,_=>none
 | .call ⟨.builtin .append,args,iv⟩=>match iv[0]?,iv[1]?,args[0]?,args[1]? with
  | some t,some t',some x,some y=>(match lk t C.tt,lk t' C.tt,st.cN x,st.cN y with
   | some ⟨.sl e,_,_,_,_⟩,some ⟨.sl _,_,_,_,_⟩,some (.t (.l (.sl l o n (.n (.lit (.ofNat c))) d))),some (.t (.l (.sl l' o' n' _ _)))=>
    (match Jl C e with
    | some 1=>bif Nat.ble (n+n') (c-d) then(bif Nat.blt 0 n' then(match Kc st.rg l' o' n' with
     |some cs=>(match Nw bv st.rg l (o+n) cs with
      |some rg=>some ⟨.val (IB (.sl l o (n+n') (.n (.lit c)) d)),rg,false⟩
      |none=>none)
     |none=>none) else none)
     else none
    |_=>none)
   |_,_,_,_=>none)
  |_,_,_,_=>none
 | .binOp op xt x y _=>match st.cN x,st.cN y with
  |some (.t (.a cs)),some (.t (.a vl))=>eqM C op xt cs vl nb st
  |_,_=>match QE C o nb st with
   |some r=>some ⟨r,st.rg,false⟩
   |none=>none
 |_=>match QE C o nb st with
  |some r=>some ⟨r,st.rg,false⟩
  |none=>none
end
section
open Go
inductive Ex where
 |normal
 |exit (id:Nat)
 |ret
inductive Bz where
 |leaf (e:Ex) (st:St)
 |fz (ds:List (Nat×GG)) (ob:List JU) (t:Bz)
 |br (x:X) (t f:Bz)
 |j8 (f:Nat) (as:List IZ) (t e:Bz)
 |dc (t k:Bz)
 |bad (why:Nat)
def ABW(x:X):Bz->Bz->Bz
 | .bad _,f=>.fz [] [.zr x] f
 |t,.bad _=>.fz [] [.nz x] t
 |t,f=>.br x t f
inductive K where
 |code (c:Code)
 |blk (id:Nat)
def GL:Nat->Nat->List (Nat×GG)->Bool
 |_,_,[]=>true
 |lo,hi,(n,d)::r=>Nat.ble lo n&&Nat.blt n hi&&d.lt n&&GL (n+1) hi r
def IZ.len(ln:List (Nat×Nat)):IZ->Option Nat
 | .vec j=>lk j ln
 | .xs l=>some l.length
def Pw.len:Pw->Option Nat
 | .agg ks _=>some ks.length
 |_=>none
def GD.len:GD->Nat
 | .int _=>1
 | .bool=>1
 | .mem ks _ _=>ks.length
 | .agg ks=>ks.length
 | .sl ks _ _=>ks.length
 | .fy ks _ _=>ks.length
def BH.lens(s:BH):List (Option Nat):=s.outs.map (λp=>some p.2.1.length)++s.fresh.map (λp=>some p.1.length)++s.ret.map Pw.len
def Uc(ln:List (Nat×Nat)):List IZ->List GD->Bool
 | [],[]=>true
 |a::as,p::ps=>(match a.len ln with
  |some n=>Nat.beq n p.len
  |none=>false)&&Uc ln as ps
 |_,_=>false
def ABE(T:Tb)(ln:List (Nat×Nat))(d:GG):Option Nat:=
 match d.op with
 | .rN=>some 2
 | .sC=>some 2
 | .setAt=>(match d.args with
  |a::_=>a.len ln
  | []=>none)
 | .fn f b o=>(match lk f T with
  |some fe=>bif Uc ln d.args (fe.ca b).params then(match (fe.ca b).lens[o]? with
   |some r=>r
   |none=>none) else none
  |none=>none)
 |_=>none
def J5(T:Tb):List (Nat×Nat)->List (Nat×GG)->List (Nat×Nat)
 |ln,[]=>ln
 |ln,(n,d)::r=>match ABE T ln d with
  |some k=>J5 T ((n,k)::ln) r
  |none=>J5 T ln r
def Jm(bv:Nat):List JU->Bool
 | []=>true
 | .jn x _::r=>x.lt bv&&Jm bv r
 | .vq x::r=>x.lt bv&&Jm bv r
 | .vn x::r=>x.lt bv&&Jm bv r
 | .nz x::r=>x.lt bv&&Jm bv r
 | .zr x::r=>x.lt bv&&Jm bv r
 | .pre _ as::r=>as.all (·.lt bv)&&Jm bv r
def St.put(st:St)(d:Option Nat)(v:SV):Option St:=match d with
 |none=>some st
 |some t=>bif Nat.blt t st.nt&&v.lt st.nv (Dh st.rg) then some { st with lc:=(t,v)::st.lc } else none
def rmv{α:Type}(t:Nat):List (Nat×α)->List (Nat×α)
 | []=>[]
 |(k,v)::r=>bif Nat.beq k t then r else(k,v)::rmv t r
def flush:List (Nat×SV)->List (Nat×SV)->List (Nat×SV)
 | [],tm=>tm
 |(t,v)::r,tm=>(t,v)::rmv t (flush r tm)
def St.flush(st:St):St:= { st with lc:=[],tm:=YtloibefkijfdlaaGreatDoor.flush st.lc st.tm }
def St.tw(st:St)(t:Nat)(n:Int):St:= { st with lc:=(t,.t (.l (.bool (.lit n))))::st.lc }
def Y7(C:Cx)(o:Oper):Option Nat:=match o.op with
 | .call ⟨.value (.func f),_,_⟩=>(match lk f C.T with
  |some (.two _ _ _)=>some f
  |_=>none)
 |_=>none
def vZ(C:Cx)(o:Oper)(f:Nat)(st:St):Option (List IZ):=match o.op with
 | .call ⟨_,args,_⟩=>(match pA st args.toList,lk f C.T with
  |some vs,some fe=>(match Oj st (fe.ca true).params vs,Oj st (fe.ca false).params vs with
   |some (as,_),some (bs,_)=>bif Oc IZ.beq as bs then some as else none
   |_,_=>none)
  |_,_=>none)
 |_=>none
def jP(C:Cx)(o:Oper)(ca:Bool)(st:St)(κ:St->Bz):Bz:=
 match Mk C o ca st.nv st.nl (st.nv+16) st with
 |none=>.bad 1
 | some m=>
  match St.put { st with rg:=m.rg,ln:=J5 C.T st.ln m.o.ds,nv:=st.nv+16,nl:=st.nl+16 } o.dst m.o.v with
  |none=>.bad 2
  |some cH=>(match m.o.ds,m.o.ob with
   | [],[]=>κ cH
   |ds,ob=>bif GL st.nv (st.nv+16) ds&&Jm (st.nv+16) ob then .fz ds ob (κ cH) else .bad 3)
def uH(C:Cx)(st:St):ResultVar->Option TV
 | .tmp t=>(match lk t st.tm with
  |some (.t v)=>some v
  |_=>none)
 | .cell a t=>(match lk a st.tm with
  |some (.t (.l (.ptr l o)))=>(match j4 C t (.ptr l o) 0 st with
   |some ⟨.t v,[],[],_⟩=>some v
   |_=>none)
  |_=>none)
def SG(C:Cx)(st:St):List ResultVar->Option (List TV)
 | []=>some []
 |r::rs=>match uH C st r,SG C st rs with
  |some v,some vs=>some (v::vs)
  |_,_=>none
def Bz.bind(k:Ex->St->Bz):Bz->Bz
 | .leaf e st=>k e st
 | .fz ds ob t=>.fz ds ob (t.bind k)
 | .br x t f=>.br x (t.bind k) (f.bind k)
 | .j8 f as t e=>.j8 f as (t.bind k) (e.bind k)
 | .dc t e=>.dc t (e.bind k)
 | .bad n=>.bad n
def Bz.sy(p:Ex->St->Bool):Bz->Bool
 | .leaf e st=>p e st
 | .fz _ _ t=>t.sy p
 | .br _ t f=>t.sy p&&f.sy p
 | .j8 _ _ t e=>t.sy p&&e.sy p
 | .dc _ k=>k.sy p
 | .bad _=>true
def Sc:Nat->List SV->List (Nat×SV)
 |_,[]=>[]
 |i,v::vs=>(i,v)::Sc (i+1) vs
def AAN(C:Cx)(o:Oper):Option (Nat×IF×List Operand):=match o.op with
 | .call ⟨.value (.func f),args,_⟩=>(match lk f C.inl with
  |some i=>some (f,i,args.toList)
  |none=>none)
 |_=>none
def ZO:Option LV->Option LV->Bool
 |none,none=>true
 |some a,some b=>a.beq b
 |_,_=>false
def Rg.beq(a b:Rg):Bool:=Nat.beq a.id b.id&&Nat.beq a.gi b.gi&&(a.wr == b.wr)&&Oc ZO a.cs b.cs
def vO(rg:List Rg)(e:Ex)(st:St):Bool:=match e with
 | .exit _=>false
 |_=>Oc Rg.beq st.rg rg
def AIG:List ResultVar->Bool
 | []=>true
 |_=>false
def ACe (C:Cx) (run:Code->St->Bz) (i:IF) (args:List Operand) (dst:Option Nat) (st:St) (κ:St->Bz):Bz:=
 match pA st args with
 |none=>.bad 40
 | some vs=>bif Nat.ble vs.length i.nt then
   let t:=run i.c { st with lc:=[],tm:=Sc 0 vs,nt:=i.nt }
   bif AIG i.cF&&t.sy (vO st.rg) then(match St.put st dst (.pn []) with
    |none=>.bad 45
    |some yq=>.dc t (κ yq))
   else t.bind λex cH=>match ex with
    | .exit _=>.bad 41
    | _=>(match SG C cH i.cF with
     |none=>.bad 42
     |some P0=>(match St.put { cH with lc:=st.lc,tm:=st.tm,nt:=st.nt } dst (Qe P0) with
      |none=>.bad 43
      |some yq=>κ yq))
  else .bad 44
def zo(C:Cx)(o:Oper)(st:St)(κ:St->Bz):Bz:=match Y7 C o with
 |none=>jP C o true st κ
 |some f=>(match vZ C o f st with
  |some as=>bif as.all (·.lt st.nv) then .j8 f as (jP C o true st κ) (jP C o false st κ) else .bad 9
  |none=>.bad 4)
def AC7(C:Cx)(run:Code->St->Bz)(o:Oper)(st:St)(κ:St->Bz):Bz:=match AAN C o with
 |some (_,i,args)=>ACe C run i args o.dst st κ
 |none=>zo C o st κ
def Sb (C:Cx) (run:Code->St->Bz) (ops:Array Oper) (κ:St->Bz):List Oper->St->Bz
 | [],st=>κ st.flush
 | o :: r,st=>
  let go (st:St):Bz:=AC7 C run o st (Sb C run ops κ r)
  let skip (st:St):Bz:=match st.put o.dst (.pn []) with
   |some cH=>Sb C run ops κ r cH
   |none=>.bad 5
  match o.guard with
  |none=>go st
  | some (j,want)=>(match ops[j]? with
   | some g=>(match g.dst with
    |some t=>(match st.look t with
     |some (.t (.l (.bool (.lit n))))=>bif (Iw n 0 != want) then go st else skip st
     |some (.t (.l (.bool x)))=>bif want then ABW x (go (st.tw t 1)) (skip (st.tw t 0)) else ABW x (skip (st.tw t 1)) (go (st.tw t 0))
     |_=>.bad 6)
    |none=>.bad 7)
   |none=>.bad 8)
structure DS where
 ls:Array Bool
 lc:List (Nat×SV)
 rg:List Rg
def Vv(new:List (Nat×SV)):List (Nat×SV)->Bool
 | []=>true
 |(t,v)::r=>(match lk t new with
  |some u=>u.beq v
  |none=>false)&&Vv new r
def Ut:List (Nat×GG)->List (Nat×GG)->Bool:=Oc λa b=>Nat.beq a.1 b.1&&a.2.beq b.2
structure Rf where
 ds:List (Nat×GG)
 ob:List JU
 rg:List Rg
def AFS (C:Cx) (nv nl bv:Nat):List Oper->St->Option (List Rf)
 | [],_=>some []
 | o::r,st=>match o.guard,Mk C o true nv nl bv st with
  | none,some m=>(match St.put { st with rg:=m.rg,ln:=J5 C.T st.ln m.o.ds } o.dst m.o.v with
   |some cH=>(match AFS C (nv+16) (nl+16) bv r cH with
    |some rs=>some (⟨m.o.ds,m.o.ob,m.rg⟩::rs)
    |none=>none)
   |none=>none)
  |_,_=>none
def AHc(C:Cx)(o:Oper)(nb:Nat)(kp:List Rg)(st:St):Option NY:=
 match o.op with
 | .load t a=>(match st.cN a with
  |some (.t (.l v))=>j4 C t v nb { st with rg:=kp }
  |_=>none)
 |_=>QE C o nb st
def ACV(rg:List Rg):List Rg->Bool
 | []=>true
 |r::rs=>(match gF r.id rg with
  |some r'=>r.beq r'
  |none=>false)&&ACV rg rs
def Sd(C:Cx)(o:Oper)(rf:Rf)(i nv nl bv:Nat)(kp:List Rg)(st:St)(w:Bool)(s:DS):Option DS:=
 let fY:= { st with lc:=s.lc,rg:=s.rg }
 match Y7 C o with
 |some _=>none
 |none=>
 match (bif w then(match AHc C o (nv+16*i) kp fY with
   |some r=>some ⟨r,s.rg,false⟩
   |none=>none) else(match Mk C o true (nv+16*i) (nl+16*i) bv fY with
   |some m=>bif ACV m.rg kp && !m.er then some m else none
   |none=>none)) with
 |none=>none
 | some m=>bif Ut m.o.ds rf.ds&&Oc JU.beq m.o.ob rf.ob then
   (match St.put { fY with rg:=m.rg } o.dst m.o.v with
   |some rh=>some ⟨s.ls.setIfInBounds i true,rh.lc,rh.rg⟩
   |none=>none) else none
def aX(C:Cx)(ops:Array Oper)(fj:List Rf)(nv nl bv:Nat)(kp:List Rg)(st:St)(s:DS):List Nat->Option DS
 | []=>none
 | i::r=>match ops[i]?,fj[i]? with
  |some o,some rf=>(match Sd C o rf i nv nl bv kp st true s with
   |some s'=>bif Region.free .any ops s.ls i then some s' else aX C ops fj nv nl bv kp st s r
   |none=>aX C ops fj nv nl bv kp st s r)
  |_,_=>none
def AEE(C:Cx)(ops:Array Oper)(fj:List Rf)(nv nl bv:Nat)(kp:List Rg)(st:St)(s:DS):List Nat->Option (List DS)
 | []=>some []
 | i::r=>match ops[i]?,fj[i]? with
  |some o,some rf=>(match Sd C o rf i nv nl bv kp st false s,AEE C ops fj nv nl bv kp st s r with
   |some s',some ss=>some (s'::ss)
   |_,_=>none)
  |_,_=>none
def ACg(C:Cx)(ops:Array Oper)(fj:List Rf)(nv nl bv:Nat)(kp:List Rg)(st:St)(s:DS):Option (List DS):=
 let R:=Region.ready .any ops s.ls
 match R with
 | []=>none
 |R=>(match aX C ops fj nv nl bv kp st s R with
  |some s'=>some [s']
  |none=>AEE C ops fj nv nl bv kp st s R)
def dP(a b:Bool):Bool:=cond a b (!b)
def ACM(s:DS):List DS->Option (List DS)
 | []=>some [s]
 | e::r=>bif Oc dP e.ls.toList s.ls.toList then
   (bif Vv s.lc e.lc&&Vv e.lc s.lc&&Oc Rg.beq s.rg e.rg then some (e::r) else none)
  else(match ACM s r with
   |some r'=>some (e::r')
   |none=>none)
def VA:List DS->List DS->Option (List DS)
 | [],L=>some L
 |s::r,L=>match ACM s L with
  |some L'=>VA r L'
  |none=>none
def ZY(C:Cx)(ops:Array Oper)(fj:List Rf)(nv nl bv:Nat)(kp:List Rg)(st:St):List DS->List DS->Option (List DS)
 | [],acc=>some acc
 | s::r,acc=>match ACg C ops fj nv nl bv kp st s with
  |some ss=>(match VA ss acc with
   |some adv=>ZY C ops fj nv nl bv kp st r adv
   |none=>none)
  |none=>none
def xe(C:Cx)(ops:Array Oper)(fj:List Rf)(nv nl bv:Nat)(kp:List Rg)(st:St):Nat->List DS->Option DS
 |0,[s]=>bif (Region.ready .any ops s.ls).isEmpty then some s else none
 |0,_=>none
 |n+1,L=>match ZY C ops fj nv nl bv kp st L [] with
  |some L'=>xe C ops fj nv nl bv kp st n L'
  |none=>none
def ALG(rg:List Rg)(fj:List Rf):List Rg:=match fj.getLast? with
 |none=>[]
 | some f=>rg.filter λr=>Nat.ble r.cs.length 256&&(match gF r.id f.rg with
   |some r'=>r.beq r'
   |none=>false)
def cz(C:Cx)(ops:Array Oper)(st:St)(κ:St->Bz):Bz:=
 let bv:=st.nv+16*ops.size
 let bl:=st.nl+16*ops.size
 let ZZ:= { st with nv:=bv,nl:=bl }
 bif !(Region.noSelect ops) then .bad 10 else
 match AFS C st.nv st.nl bv ops.toList ZZ with
 |none=>.bad 11
 | some fj=>
  let ds:=fj.flatMap (·.ds)
  let ob:=fj.flatMap (·.ob)
  let fY:= { ZZ with ln:=J5 C.T st.ln ds }
  let kp:=ALG st.rg fj
  match xe C ops fj st.nv st.nl bv kp fY ops.size [⟨Array.replicate ops.size false,[],st.rg⟩] with
  |none=>.bad 12
  |some s=>
   let rh:=St.flush { fY with lc:=s.lc,rg:=s.rg }
   match ds,ob with
   | [],[]=>κ rh
   |ds,ob=>bif GL st.nv bv ds&&Jm bv ob then .fz ds ob (κ rh) else .bad 13
def looks(st:St):List Nat->Option (List SV)
 | []=>some []
 |t::r=>match st.look t,looks st r with
  |some v,some vs=>some (v::vs)
  |_,_=>none
def AFR(ts:List Nat)(tm:List (Nat×SV)):List (Nat×SV):=tm.filter λp=> !(ED p.1 ts)
def mO(st:St):List Nat->List TV->Option St
 | [],[]=>some st
 |t::ts,v::vs=>match st.put (some t) (.t v) with
  |some cH=>mO cH ts vs
  |none=>none
 |_,_=>none
def cZ (C:Cx) (d:LD) (st:St) (κ:St->Bz):Bz:=
 bif !(Nat.beq st.nt d.nt) then .bad 24 else
 match looks st d.ps with
 |none=>.bad 20
 | some vs=>match qx C d.xT true vs st.nv st.nl (st.nv+16) st with
  |none=>.bad 21
  | some r=>
   match mO { st with lc:=[],tm:=AFR d.cl st.tm,rg:=r.rg,ln:=J5 C.T st.ln r.ds,nv:=st.nv+16,nl:=st.nl+16 } d.ss r.vs with
   |none=>.bad 22
   |some cH=>(match r.ds,r.ob with
    | [],[]=>κ cH.flush
    |ds,ob=>bif GL st.nv (st.nv+16) ds&&Jm (st.nv+16) ob then .fz ds ob (κ cH.flush) else .bad 23)
def AMD:List K->Option (Code×List K)
 | []=>none
 | .code c::k=>some (c,k)
 | .blk _::k=>AMD k
def lC(id:Nat):List K->Option (List K)
 | []=>none
 | .blk j::k=>bif Nat.beq j id then some k else lC id k
 | .code _::k=>lC id k
def OT(C:Cx):Nat->List K->Code->St->Bz
 |0,_,_,_=>.bad 30
 | n+1,k,c,st=>
  let fin (k:List K) (st:St):Bz:=match AMD k with
   |none=>.leaf .normal st
   |some (c,k')=>OT C n k' c st
  match c with
  | .skip=>fin k st
  | .region _ ops draw=>cond draw (cz C ops st (fin k)) (Sb C (OT C n []) ops (fin k) ops.toList st)
  | .seq a b=>OT C n (.code b::k) a st
  | .cond x t e=>(match st.cN x with
   |some (.t (.l (.bool (.lit m))))=>bif Iw m 0 then OT C n k e st else OT C n k t st
   |some (.t (.l (.bool y)))=>ABW y (OT C n k t st) (OT C n k e st)
   |_=>.bad 31)
  | .block id body=>(match lk id C.loops with
   |some d=>cZ C d st (fin k)
   |none=>OT C n (.blk id::k) body st)
  | .loop body=>OT C n (.code (.loop body)::k) body st
  | .exit id=>(match lC id k with
   |none=>.leaf (.exit id) st
   |some k'=>fin k' st)
  | .ret=>.leaf .ret st
  |_=>.bad 32
end
section
open Go
theorem Ni{α:Type}{t:Nat}{v:α}:∀ {l:List (Nat×α)},lk t l=some v->(t,v)∈l
 | [],h=>by simp[lk] at h
 | (k,u)::r,h=>by
  unfold lk at h;cases hb:Nat.beq k t with
  |true=>
   rw[hb] at h;simp only[cond_true,Ai] at h;have:=CR hb;subst this;subst h;exact Kh
  |false=>
   rw[hb] at h;exact Lv _ (Ni h)
theorem Mr{a b:Int}(h:Iw a b=true):a=b:=by
 cases a<;>cases b<;>simp only[Iw,RD] at h
 ·rw[CR h]
 ·rw[CR h]
theorem O9{a b:Int}(h:Iw a b=false):a≠b:=by
 intro e;subst e;cases a<;>simp[Iw] at h
theorem Gy{α:Type}{f:α->α->Bool}(hf:∀a b,f a b=true->a=b):∀ {l m:List α},Oc f l m=true->l=m
 | [],[],_=>rfl
 | [],_::_,h=>by simp[Oc] at h
 |_::_,[],h=>by simp[Oc] at h
 |a::as,b::bs,h=>by
  simp only[Oc,Bl] at h;rw[hf _ _ h.1,Gy hf h.2]
theorem X.beq_eq{a b:X}(h:a.beq b=true):a=b:=by
 cases a<;>cases b<;>simp only[X.beq,Bl,RD] at h
 ·rw[Mr h]
 ·rw[CR h.1,CR h.2]
theorem NK{a b:IntKind}(h:pu a b=true):a=b:=by
 cases a<;>cases b<;>first|rfl|(exact absurd h (by decide))
theorem CX.beq_eq{a b:CX}(h:a.beq b=true):a=b:=by
 cases a<;>cases b<;>simp only[CX.beq,RD] at h
 ·rw[X.beq_eq h]
 ·rw[CR h]
theorem LV.beq_eq{a b:LV}(h:a.beq b=true):a=b:=by
 cases a<;>cases b<;>simp only[LV.beq,Bl,RD] at h
 all_goals first
  |rfl
  |rw[Gy (λ_ _=>X.beq_eq) h]
  |rw[NK h.1,X.beq_eq h.2]
  |rw[X.beq_eq h]
  |rw[CR h]
  |rw[CR h.1,CR h.2]
  |rw[CR h.1.1.1,CR h.1.1.2,CR h.1.2,CR h.2]
  | (obtain⟨⟨⟨⟨h1,h2⟩,h3⟩,h4⟩,h5⟩:=h
     first
    |rw[CR h1,CR h2,CR h3,CX.beq_eq h4,CR h5]
    |rw[CR h1,CR h2,CR h3,CR h4,X.beq_eq h5])
  | (obtain⟨⟨⟨⟨⟨h1,h2⟩,h3⟩,h4⟩,h5⟩,h6⟩:=h
     rw[CR h1,CR h2,CR h3,CX.beq_eq h4,CR h5,CR h6])
theorem TV.beq_eq{a b:TV}(h:a.beq b=true):a=b:=by
 cases a<;>cases b<;>simp only[TV.beq,RD] at h
 ·rw[LV.beq_eq h]
 ·rw[Gy (λ_ _=>LV.beq_eq) h]
theorem SV.beq_eq{a b:SV}(h:a.beq b=true):a=b:=by
 cases a<;>cases b<;>simp only[SV.beq,RD] at h
 ·rw[TV.beq_eq h]
 ·rw[Gy (λ_ _=>TV.beq_eq) h]
 ·rw[CR h]
theorem j5{a b:Option LV}(h:ZO a b=true):a=b:=by
 cases a<;>cases b<;>simp only[ZO,RD] at h
 ·rfl
 ·rw[LV.beq_eq h]
theorem Rg.beq_eq{a b:Rg}(h:a.beq b=true):a=b:=by
 simp only[Rg.beq,Bl,beq_iff_eq] at h;obtain⟨⟨⟨h1,h2⟩,h3⟩,h4⟩:=h;cases a;cases b;simp only at h1 h2 h3 h4;rw[CR h1,CR h2,h3,Gy (λ_ _=>j5) h4]
theorem IZ.beq_eq{a b:IZ}(h:a.beq b=true):a=b:=by
 cases a<;>cases b<;>simp only[IZ.beq,RD] at h
 ·rw[CR h]
 ·rw[Gy (λ_ _=>X.beq_eq) h]
theorem ALf{a b:BinOp}(h:Nat.beq (opN a) (opN b)=true):a=b:=by
 cases a<;>cases b<;>first|rfl|(exact absurd h (by decide))
theorem Na.beq_eq{a b:Na}(h:a.beq b=true):a=b:=by
 cases a<;>cases b<;>simp only[Na.beq,Bl,beq_iff_eq,RD] at h
 all_goals first
  |rfl
  |rw[ALf h.1,NK h.2]
  |rw[NK h]
  |rw[CR h]
  |rw[CR h.1.1,h.1.2,CR h.2]
theorem GG.beq_eq{a b:GG}(h:a.beq b=true):a=b:=by
 simp only[GG.beq,Bl] at h;cases a;cases b;simp only at h;rw[Na.beq_eq h.1,Gy (λ_ _=>IZ.beq_eq) h.2]
theorem Yg{a b:List (Nat×GG)}(h:Ut a b=true):a=b:=
 Gy (λa b h=>by
  simp only[Bl] at h;cases a;cases b;simp only at h;rw[CR h.1,GG.beq_eq h.2]) h
theorem JU.beq_eq{a b:JU}(h:a.beq b=true):a=b:=by
 cases a<;>cases b<;>simp only[JU.beq,Bl,RD] at h
 all_goals first
  |rw[X.beq_eq h]
  |rw[X.beq_eq h.1,CR h.2]
  |rw[CR h.1,Gy (λ_ _=>IZ.beq_eq) h.2]
theorem Nk{α:Type}:∀(cs:List α) (o:Nat) (vs:List α),(TU cs o vs).length=cs.length
 | [],_,_=>by simp[TU]
 |_::_,0,[]=>by simp[TU]
 |c::cs,0,v::vs=>by simp[TU,Nk cs 0 vs]
 |c::cs,o+1,vs=>by simp[TU,Nk cs o vs]
theorem QD{α:Type}:∀(cs:List α) (o:Nat) (vs:List α) (i:Nat),i<cs.length->
  (TU cs o vs)[i]? = if o<=i/\i<o+vs.length then vs[i-o]? else cs[i]?
 | [],_,_,i,h=>by simp at h
 |c::cs,0,[],i,_=>by simp[TU]
 |c::cs,0,v::vs,0,_=>by simp[TU]
 |c::cs,0,v::vs,i+1,h=>by
  simp only[TU,yl,Uk];rw[QD cs 0 vs i (by simpa using h)];simp only[Nat.zero_le,true_and,Km,Nat.sub_zero];by_cases h1:i<vs.length
  ·rw[if_pos h1,if_pos (by omega)];simp
  ·rw[if_neg h1,if_neg (by omega)]
 |c::cs,o+1,vs,0,_=>by simp[TU]
 |c::cs,o+1,vs,i+1,h=>by
  simp only[TU,yl];rw[QD cs o vs i (by simpa using h)];by_cases h1:o<=i/\i<o+vs.length
  ·rw[if_pos h1,if_pos (by omega),Nat.add_sub_add_right]
  ·rw[if_neg h1,if_neg (by omega)]
theorem XF{α:Type}:∀ {l:List (Option α)} {r:List α},RO l=some r->l=r.map some
 | [],r,h=>by simp[RO] at h;subst h;rfl
 |none::_,r,h=>by simp[RO] at h
 | some x::xs,r,h=>by
  unfold RO at h;cases hx:RO xs with
  |none=>rw[hx] at h;simp at h
  |some ys=>
   rw[hx] at h;simp only[Ai] at h;subst h;rw[XF hx];rfl
def CY(f:Bool)(w:World)(b o:Nat)(v:Value):Prop:=w.cell? ⟨b,o,none⟩=some v/\(f=true->w.frozen? ⟨b,o,none⟩=false)
theorem CY.lt{f:Bool}{w:World}{b o:Nat}{v:Value}(h:CY f w b o v):b<w.heap.size:=by
 have h1:=h.1;unfold World.cell? at h1;rcases nE b w.heap.size with h2|h2
 ·exact h2
 ·simp[ut h2] at h1
theorem CY.gO{f:Bool}{w:World}{b o:Nat}{v:Value}(h:CY true w b o v):CY f w b o v:=⟨h.1,λ_=>h.2 rfl⟩
theorem CY.obj{f:Bool}{w:World}{b o:Nat}{v:Value}(h:CY f w b o v):
  ∃c e lo hi,w.heap[b]? = some (.cells c e (lo,hi))/\c[o]? = some v/\(f=true->¬(lo<=o/\o<hi)):=by
 obtain⟨h1,h2⟩:=h;unfold World.cell? at h1;unfold World.frozen? at h2;simp only at h1 h2;split at h1
 ·rename_i c e fr heq;rw[heq] at h2;obtain⟨lo,hi⟩:=fr;simp only[Option.isSome_none,RD,if_false] at h1;exact⟨c,e,lo,hi,heq,h1,λhf=>by simpa using h2 hf⟩
 ·exact absurd h1 (by simp)
theorem CY.fh{f:Bool}{w:World}{b o:Nat}{v:Value}{c:Array Value}{e lo hi:Nat}(h:w.heap[b]? = some (.cells c e (lo,hi)))(hc:c[o]? = some v)
  (hf:f=true->¬(lo<=o/\o<hi)):CY f w b o v:=by
 constructor
 ·unfold World.cell?;simp only[h];simpa using hc
 ·intro hft;unfold World.frozen?;simp only[h];simpa using hf hft
theorem World.eJ(w:World)(b o:Nat)(v:Value)(j:Nat):
  (w.setCell ⟨b,o,none⟩ v).heap[j]? = if j=b then(w.heap[b]?).map (λ| .cells c e f=>.cells (c.setIfInBounds o v) e f|x=>x) else w.heap[j]? := by
 unfold World.setCell;simp only[Array.getElem?_modify];by_cases h:b=j
 ·subst h;simp;generalize w.heap[b]? = q;cases q with
  |none=>rfl
  |some x=>cases x<;>rfl
 ·rw[if_neg h,if_neg (λe=>h e.symm)]
theorem Rc(w:World)(a:Addr)(v:Value):(w.setCell a v).heap.size=w.heap.size:=by
 unfold World.setCell;simp
theorem CY.nj{f:Bool}{w:World}{b o:Nat}{u v:Value}(h:CY f w b o u):CY f (w.setCell ⟨b,o,none⟩ v) b o v:=by
 obtain⟨c,e,lo,hi,h1,h2,h3⟩:=h.obj;refine CY.fh (c:=c.setIfInBounds o v) (e:=e) (lo:=lo) (hi:=hi) ?_ ?_ h3
 ·rw[World.eJ,if_pos rfl,h1];rfl
 ·have:o<c.size:=by
   rcases nE o c.size with h|h
   ·exact h
   ·simp[ut h] at h2
  simp[this]
theorem CY.cX{f:Bool}{w:World}{b o b' o':Nat}{u v:Value}(h:CY f w b o u)(cq:¬(b=b'/\o=o')):CY f (w.setCell ⟨b',o',none⟩ v) b o u:=by
 obtain⟨c,e,lo,hi,h1,h2,h3⟩:=h.obj;by_cases hb:b=b'
 ·subst hb;have ho:o'≠o:=λe=>cq ⟨rfl,e.symm⟩
  refine CY.fh (c:=c.setIfInBounds o' v) (e:=e) (lo:=lo) (hi:=hi) ?_ ?_ h3
  ·rw[World.eJ,if_pos rfl,h1];rfl
  ·rw[Array.getElem?_setIfInBounds_ne ho];exact h2
 ·refine CY.fh (c:=c) (e:=e) (lo:=lo) (hi:=hi) ?_ h2 h3;rw[World.eJ,if_neg hb];exact h1
def BR(S:Nat->Prop)(x y:Obj):Prop:=
 x=y\/∃c c' e f,x= .cells c e f/\y= .cells c' e f/\c'.size=c.size/\∀o,¬S o->c'[o]? = c[o]?
theorem BR.refl(S:Nat->Prop)(x:Obj):BR S x x:=.inl rfl
theorem BR.trans{S:Nat->Prop}{x y z:Obj}(h:BR S x y)(h':BR S y z):BR S x z:=by
 rcases h with rfl|⟨c,c',e,f,rfl,rfl,h1,h2⟩
 ·exact h'
 ·rcases h' with rfl|⟨d,d',e',f',h3,rfl,h4,h5⟩
  ·exact .inr ⟨c,c',e,f,rfl,rfl,h1,h2⟩
  ·cases h3;exact .inr ⟨c,d',e,f,rfl,rfl,by rw[h4,h1],λo ho=>by rw[h5 o ho,h2 o ho]⟩
theorem BR.mono{S S':Nat->Prop}{x y:Obj}(h:BR S x y)(hs:∀o,S o->S' o):BR S' x y:=by
 rcases h with rfl|⟨c,c',e,f,rfl,rfl,h1,h2⟩
 ·exact .inl rfl
 ·exact .inr ⟨c,c',e,f,rfl,rfl,h1,λo ho=>h2 o λh=>ho (hs o h)⟩
def BM(B w:World)(S:Nat->Nat->Prop):Prop:=
 B.heap.size<=w.heap.size/\(∀b x,B.heap[b]? = some x->∃y,w.heap[b]? = some y/\BR (S b) x y)/\w.os=B.os/\w.output=B.output/\w.tape=B.tape
theorem BM.refl(w:World)(S:Nat->Nat->Prop):BM w w S:=⟨KA _,λ_ x h=>⟨x,h,.refl _ x⟩,rfl,rfl,rfl⟩
theorem BM.trans{A B w:World}{S:Nat->Nat->Prop}(h:BM A B S)(h':BM B w S):BM A w S:=
 ⟨z8 h.1 h'.1,λb x hx=>by
  obtain⟨y,hy,h1⟩:=h.2.1 b x hx;obtain⟨z,hz,h2⟩:=h'.2.1 b y hy;exact⟨z,hz,h1.trans h2⟩,h'.2.2.1.trans h.2.2.1,h'.2.2.2.1.trans h.2.2.2.1,h'.2.2.2.2.trans h.2.2.2.2⟩
theorem BM.mono{B w:World}{S S':Nat->Nat->Prop}(h:BM B w S)(hs:∀b o,b<B.heap.size->S b o->S' b o):BM B w S':=
 ⟨h.1,λb x hx=>by
  obtain⟨y,hy,h1⟩:=h.2.1 b x hx;have hb:b<B.heap.size:=by
   rcases nE b B.heap.size with h2|h2
   ·exact h2
   ·simp[ut h2] at hx
  exact⟨y,hy,h1.mono λo=>hs b o hb⟩,h.2.2⟩
theorem BM.of_heap{B w w':World}{S:Nat->Nat->Prop}(h:BM B w S)(e:w'.heap=w.heap)(e1:w'.os=w.os)(e2:w'.output=w.output)(e3:w'.tape=w.tape):BM B w' S:=by
 unfold BM;rw[e,e1,e2,e3];exact h
theorem BM.setCell{B w:World}{S:Nat->Nat->Prop}(h:BM B w S){b o:Nat}{v:Value}(hs:B.heap.size<=b\/S b o):BM B (w.setCell ⟨b,o,none⟩ v) S:=by
 refine⟨by rw[Rc];exact h.1,λj x hx=>?_,h.2.2⟩;obtain⟨y,hy,h1⟩:=h.2.1 j x hx;have hj:j<B.heap.size:=by
  rcases nE j B.heap.size with h2|h2
  ·exact h2
  ·simp[ut h2] at hx
 rw[World.eJ];by_cases hjb:j=b
 ·subst hjb;rw[if_pos rfl,hy];have hS:S j o:=hs.resolve_left (by omega);refine⟨_,rfl,h1.trans ?_⟩;cases y with
  | cells c e f=>exact .inr ⟨c,_,e,f,rfl,rfl,by simp,λo' ho'=>by
    have:o≠o':=λe=>ho' (e ▸ hS)
    exact Array.getElem?_setIfInBounds_ne this⟩
  |_=>exact .refl _ _
 ·rw[if_neg hjb];exact⟨y,hy,h1⟩
theorem BM.push{B w w':World}{S:Nat->Nat->Prop}(h:BM B w S){o:Obj}(e:w'.heap=w.heap.push o)(e1:w'.os=w.os)(e2:w'.output=w.output)(e3:w'.tape=w.tape):BM B w' S:=by
 refine⟨by rw[e,Array.size_push];have:=h.1;omega,λj x hx=>?_,by rw[e1,e2,e3];exact h.2.2⟩;obtain⟨y,hy,h1⟩:=h.2.1 j x hx;refine⟨y,?_,h1⟩;have hj:j<w.heap.size:=by
  rcases nE j w.heap.size with h2|h2
  ·exact h2
  ·simp[ut h2] at hy
 rw[e,Array.getElem?_push_lt hj];simpa[Array.getElem?_eq_getElem hj] using hy
theorem BM.fp{f:Bool}{B w:World}{S:Nat->Nat->Prop}(h:BM B w S){b o:Nat}{v:Value}(hc:CY f B b o v)(hs:¬S b o):CY f w b o v:=by
 obtain⟨c,e,lo,hi,h1,h2,h3⟩:=hc.obj;obtain⟨y,hy,hb⟩:=h.2.1 b _ h1;rcases hb with rfl|⟨c0,c',e0,fr,h4,rfl,h5,h6⟩
 ·exact CY.fh hy h2 h3
 ·cases h4;exact CY.fh hy (by rw[h6 o hs];exact h2) h3
theorem CY.push{f:Bool}{w w':World}{b o:Nat}{v:Value}{x:Obj}(h:CY f w b o v)(e:w'.heap=w.heap.push x):CY f w' b o v:=by
 have hb:=h.lt;obtain⟨c,el,lo,hi,h1,h2,h3⟩:=h.obj;refine CY.fh (c:=c) (e:=el) (lo:=lo) (hi:=hi) ?_ h2 h3;rw[e,Array.getElem?_push_lt hb];simpa[Array.getElem?_eq_getElem hb] using h1
theorem CY.of_heap{f:Bool}{w w':World}{b o:Nat}{v:Value}(h:CY f w b o v)(e:w'.heap=w.heap):CY f w' b o v:=by
 unfold CY World.cell? World.frozen?;rw[e];exact h
theorem CY.inj{f g:Bool}{w:World}{b o:Nat}{v u:Value}(h:CY f w b o v)(h':CY g w b o u):v=u:=by
 have:=h.1.symm.trans h'.1;simpa using this
end
section
open Go
structure En where
 P:Program
 C:Cx
 B:World
 S:Nat->Nat->Prop
 GB:Nat
 GC:Nat->Nat->Option Value
 I:List (Nat×(Nat×Nat)):=[]
 sn:Nat:=0
 σ0:Nat->Value:=λ_=>undef
def GW(GC:Nat->Nat->Option Value)(w:World):Prop:=∀b o v,GC b o=some v->w.cell? ⟨b,o,none⟩=some v
def RgH(V:Vl)(w:World)(r:Rg):Prop:=
 ∀(i:Nat) (c:Option LV),r.cs[i]? = some c->∃v,CY r.wr w (V.ν r.id).1 ((V.ν r.id).2+i) v/\∀lv,c=some lv->v=lv.den V/\lv.ok V
def ZQ(a b:Nat×Nat)(n m:Nat):Prop:=a.1≠b.1\/a.2+n<=b.2\/b.2+m<=a.2\/n=0\/m=0
def qO(V:Vl)(r r':Rg):Prop:=
 (r.gi=r'.gi/\r.gi≠0/\V.ν r.id=V.ν r'.id/\r.cs.length=r'.cs.length)\/ZQ (V.ν r.id) (V.ν r'.id) r.cs.length r'.cs.length
structure Oi (E:En) (rg:List Rg) (V:Vl) (w:World):Prop where
 pH:∀r∈rg,RgH V w r
 one:∀r∈rg,∀r'∈rg,r.id=r'.id->r=r'
 sep:∀r∈rg,∀r'∈rg,r.wr=true->r.id≠r'.id->qO V r r'
 sY:∀r∈rg,r.wr=true->E.GB<=(V.ν r.id).1/\∀i,i<r.cs.length->E.B.heap.size<=(V.ν r.id).1\/E.S (V.ν r.id).1 ((V.ν r.id).2+i)
 an:BM E.B w E.S
 gw:GW E.GC w
def Xl(nv:Nat)(rg:List Rg):Prop:=∀r∈rg,∀lv,some lv∈r.cs->lv.lt nv (Dh rg)=true
structure Sv (st:St) (V:Vl) (a:Act):Prop where
 tm:∀t v,st.look t=some v->a.tmps.getD t undef=v.den V/\v.ok V/\v.lt st.nv (Dh st.rg)=true
 gl:∀g l,lk g st.gl=some l->V.ν l=(g,0)/\ED l (Dh st.rg)=true
 ln:∀p∈st.ln,(V.ρ p.1).length=p.2
structure Sat (E:En) (st:St) (V:Vl) (a:Act) (w:World):Prop where
 m:Oi E st.rg V w
 nF:Xl st.nv st.rg
 t:Sv st V a
 nt:a.tmps.size=st.nt
 df:a.defers= []
def Ag(nv:Nat)(ids:List Nat)(V V':Vl):Prop:=
 (∀i,i<nv->V'.ρ i=V.ρ i)/\(∀i,i<nv->V'.σ i=V.σ i)/\(∀l,ED l ids=true->V'.ν l=V.ν l)
theorem Ag.refl(nv:Nat)(ids:List Nat)(V:Vl):Ag nv ids V V:=⟨λ_ _=>rfl,λ_ _=>rfl,λ_ _=>rfl⟩
theorem D7{a b:Nat}(h:Nat.blt a b=true):a<b:=by
 have:=MQ h;omega
theorem X.cr{nv:Nat}{ids:List Nat}{V V':Vl}(h:Ag nv ids V V'){x:X}(hx:x.lt nv=true):x.den V'.ρ=x.den V.ρ:=by
 cases x with
 |lit n=>rfl
 |v i k=>simp only[X.den,h.1 i (D7 hx)]
theorem CX.cr{nv:Nat}{ids:List Nat}{V V':Vl}(h:Ag nv ids V V'){x:CX}(hx:x.lt nv=true):x.den V'=x.den V:=by
 cases x with
 |n x=>exact X.cr h hx
 |s i=>simp only[CX.den,h.2.1 i (D7 hx)]
theorem LV.cr{nv:Nat}{ids:List Nat}{V V':Vl}(h:Ag nv ids V V'){v:LV}(hv:v.lt nv ids=true):v.den V'=v.den V:=by
 cases v with
 |int k x=>simp only[LV.den,X.cr h hv]
 |bool x=>simp only[LV.den,X.cr h hv]
 |ptr l o=>simp only[LV.den,h.2.2 l hv]
 |sl l o n c d=>
  simp only[LV.lt,Bl] at hv;simp only[LV.den,h.2.2 l hv.1,CX.cr h hv.2]
 |se l o s c d a=>
  simp only[LV.lt,Bl] at hv;simp only[LV.den,h.2.2 l hv.1,CX.cr h hv.2]
 |str xs=>
  simp only[LV.lt,Mx] at hv;simp only[LV.den];rw[Zx λx hx=>show ui V'.ρ x=ui V.ρ x by unfold ui;rw[X.cr h (hv x hx)]]
 |pd l o n s x=>
  simp only[LV.lt,Bl] at hv;simp only[LV.den,h.2.2 l hv.1,X.cr h hv.2]
 |fy l o n i=>
  simp only[LV.lt,Bl] at hv;simp only[LV.den,h.2.1 i (D7 hv.2)]
 |Hx i=>simp only[LV.den,h.2.1 i (D7 hv)]
 |err i=>simp only[LV.den,h.2.1 i (D7 hv)]
 |_=>rfl
theorem LV.ff{nv:Nat}{ids:List Nat}{V V':Vl}(h:Ag nv ids V V'){v:LV}(hv:v.lt nv ids=true)(ho:v.ok V):v.ok V':=by
 cases v with
 |int k x=>simpa only[LV.ok,X.cr h hv] using ho
 |sl l o n c d=>
  simp only[LV.lt,Bl] at hv;simpa only[LV.ok,CX.cr h hv.2] using ho
 |se l o s c d a=>
  simp only[LV.lt,Bl] at hv;simpa only[LV.ok,CX.cr h hv.2] using ho
 |str xs=>
  simp only[LV.lt,Mx] at hv;exact λx hx=>by rw[X.cr h (hv x hx)];exact ho x hx
 |pd l o n s x=>
  simp only[LV.lt,Bl] at hv;simpa only[LV.ok,X.cr h hv.2] using ho
 |fy l o n i=>
  simp only[LV.lt,Bl] at hv;simpa only[LV.ok,h.2.1 i (D7 hv.2),h.2.2 l hv.1] using ho
 |Hx i=>simpa only[LV.ok,h.2.1 i (D7 hv)] using ho
 |err i=>simpa only[LV.ok,h.2.1 i (D7 hv)] using ho
 |val v=>exact ho
 |_=>trivial
theorem TV.cr{nv:Nat}{ids:List Nat}{V V':Vl}(h:Ag nv ids V V'){v:TV}(hv:v.lt nv ids=true):v.den V'=v.den V:=by
 cases v with
 |l v=>exact LV.cr h hv
 |a vs=>
  simp only[TV.lt,Mx] at hv;simp only[TV.den];rw[Zx λx hx=>LV.cr h (hv x hx)]
theorem TV.ff{nv:Nat}{ids:List Nat}{V V':Vl}(h:Ag nv ids V V'){v:TV}(hv:v.lt nv ids=true)(ho:v.ok V):v.ok V':=by
 cases v with
 |l v=>exact LV.ff h hv ho
 |a vs=>
  simp only[TV.lt,Mx] at hv;exact λx hx=>LV.ff h (hv x hx) (ho x hx)
theorem SV.cr{nv:Nat}{ids:List Nat}{V V':Vl}(h:Ag nv ids V V'){v:SV}(hv:v.lt nv ids=true):v.den V'=v.den V:=by
 cases v with
 |t v=>exact TV.cr h hv
 |pn vs=>
  simp only[SV.lt,Mx] at hv;simp only[SV.den];rw[Zx λx hx=>TV.cr h (hv x hx)]
 |any i=>exact h.2.1 i (D7 hv)
theorem SV.ff{nv:Nat}{ids:List Nat}{V V':Vl}(h:Ag nv ids V V'){v:SV}(hv:v.lt nv ids=true)(ho:v.ok V):v.ok V':=by
 cases v with
 |t v=>exact TV.ff h hv ho
 |pn vs=>
  simp only[SV.lt,Mx] at hv;exact λx hx=>TV.ff h (hv x hx) (ho x hx)
 |any i=>trivial
theorem OE{rg:List Rg}{l:Nat}:ED l (Dh rg)=true↔∃r∈rg,r.id=l:=by
 induction rg with
 |nil=>simp[Dh,ED]
 | cons r rs ih=>
  simp only[Dh,NE,ED,Bool.or_eq_true] at ih ⊢;rw[show ED l (List.map (λx=>x.id) rs)=true↔∃r∈rs,r.id=l from ih];constructor
  ·rintro(h|⟨r',h1,h2⟩)
   ·exact⟨r,Kh,CR h⟩
   ·exact⟨r',Lv _ h1,h2⟩
  ·rintro⟨r',h1,h2⟩;rcases IR.1 h1 with rfl|h1
   ·exact .inl (by rw[h2];exact Nat.beq_refl l)
   ·exact .inr ⟨r',h1,h2⟩
theorem GY{rg:List Rg}{r:Rg}(h:r∈rg):ED r.id (Dh rg)=true:=OE.2 ⟨r,h,rfl⟩
theorem X.bh{a b:Nat}(h:a<=b){x:X}(hx:x.lt a=true):x.lt b=true:=by
 cases x with
 |lit n=>rfl
 |v i k=>exact vM (by have:=D7 hx;omega)
theorem CX.bh{a b:Nat}(h:a<=b){x:CX}(hx:x.lt a=true):x.lt b=true:=by
 cases x with
 |n x=>exact X.bh h hx
 |s i=>exact vM (by have:=D7 hx;omega)
theorem LV.bh{a b:Nat}{is js:List Nat}(h:a<=b)(hi:∀l,ED l is=true->ED l js=true){v:LV}(hv:v.lt a is=true):v.lt b js=true:=by
 cases v with
 |int k x=>exact X.bh h hv
 |bool x=>exact X.bh h hv
 |ptr l o=>exact hi l hv
 |sl l o n c d=>
  simp only[LV.lt,Bl] at hv ⊢;exact⟨hi l hv.1,CX.bh h hv.2⟩
 |se l o s c d a=>
  simp only[LV.lt,Bl] at hv ⊢;exact⟨hi l hv.1,CX.bh h hv.2⟩
 |str xs=>
  simp only[LV.lt,Mx] at hv ⊢;exact λx hx=>X.bh h (hv x hx)
 |pd l o n s x=>
  simp only[LV.lt,Bl] at hv ⊢;exact⟨hi l hv.1,X.bh h hv.2⟩
 |fy l o n i=>
  simp only[LV.lt,Bl] at hv ⊢;exact⟨hi l hv.1,vM (by have:=D7 hv.2;omega)⟩
 |Hx i=>exact vM (by have:=D7 hv;omega)
 |err i=>exact vM (by have:=D7 hv;omega)
 |_=>rfl
theorem TV.bh{a b:Nat}{is js:List Nat}(h:a<=b)(hi:∀l,ED l is=true->ED l js=true){v:TV}(hv:v.lt a is=true):v.lt b js=true:=by
 cases v with
 |l v=>exact LV.bh h hi hv
 |a vs=>
  simp only[TV.lt,Mx] at hv ⊢;exact λx hx=>LV.bh h hi (hv x hx)
theorem SV.bh{a b:Nat}{is js:List Nat}(h:a<=b)(hi:∀l,ED l is=true->ED l js=true){v:SV}(hv:v.lt a is=true):v.lt b js=true:=by
 cases v with
 |t v=>exact TV.bh h hi hv
 |pn vs=>
  simp only[SV.lt,Mx] at hv ⊢;exact λx hx=>TV.bh h hi (hv x hx)
 |any i=>exact vM (by have:=D7 hv;omega)
theorem RgH.ag{nv:Nat}{rg:List Rg}{V V':Vl}(h:Ag nv (Dh rg) V V')(hs:Xl nv rg){w:World}{r:Rg}(hr:r∈rg)(hh:RgH V w r):RgH V' w r:=by
 intro i c hc;obtain⟨v,h1,h2⟩:=hh i c hc;rw[h.2.2 r.id (GY hr)];refine⟨v,h1,λlv e=>?_⟩;subst e;obtain⟨h3,h4⟩:=h2 lv rfl;have hl:=hs r hr lv (Le hc);exact⟨by rw[LV.cr h hl];exact h3,LV.ff h hl h4⟩
theorem Oi.ag{E:En}{nv:Nat}{rg:List Rg}{V V':Vl}{w:World}(h:Ag nv (Dh rg) V V')(hs:Xl nv rg)(hm:Oi E rg V w):Oi E rg V' w where
 pH r hr:=(hm.pH r hr).ag h hs hr
 one:=hm.one
 sep r hr r' cL hw cq:=by
  have:=hm.sep r hr r' cL hw cq;unfold qO at *
  rw[h.2.2 r.id (GY hr),h.2.2 r'.id (GY cL)];exact this
 sY r hr hw:=by
  have:=hm.sY r hr hw;rw[h.2.2 r.id (GY hr)];exact this
 an:=hm.an
 gw:=hm.gw
theorem KD{l:Nat}{rg:List Rg}{r:Rg}(h:gF l rg=some r):r∈rg/\r.id=l:=by
 induction rg with
 |nil=>simp[gF] at h
 | cons x xs ih=>
  unfold gF at h;cases hb:Nat.beq x.id l with
  |true=>
   rw[hb] at h;simp only[cond_true,Ai] at h;subst h;exact⟨Kh,CR hb⟩
  |false=>
   rw[hb] at h;exact⟨Lv _ (ih h).1,(ih h).2⟩
theorem GN{rg:List Rg}{l o n:Nat}{cs:List LV}(h:Kc rg l o n=some cs):
  cs.length=n/\∃r∈rg,r.id=l/\o+n<=r.cs.length/\∀i v,cs[i]? = some v->r.cs[o+i]? = some (some v):=by
 unfold Kc at h;cases hf:gF l rg with
 |none=>rw[hf] at h;simp at h
 | some r=>
  rw[hf] at h;simp only at h;cases hb:Nat.ble (o+n) r.cs.length with
  |false=>rw[hb] at h;simp at h
  | true=>
   rw[hb] at h;simp only[cond_true] at h;have hle:=MQ hb;have he:=XF h;have hlen:cs.length=n:=by
    have:=EH List.length he;simp at this;omega
   refine⟨hlen,r,(KD hf).1,(KD hf).2,hle,λi v hv=>?_⟩;have h1:=EH (λl=>l[i]?) he;simp only[Ng,hv,UA,List.getElem?_take,List.getElem?_drop] at h1;have hi:i<n:=by
    have:=(OQ.1 hv).1;omega
   rw[if_pos hi] at h1;exact h1
theorem Oi.read{E:En}{rg:List Rg}{V:Vl}{w:World}(hm:Oi E rg V w){l o n:Nat}{cs:List LV}(h:Kc rg l o n=some cs):
  ∀i v,cs[i]? = some v->w.cell? ⟨(V.ν l).1,(V.ν l).2+o+i,none⟩=some (v.den V)/\v.ok V:=by
 obtain⟨hlen,r,hr,rfl,hle,hg⟩:=GN h;intro i v hv;obtain⟨u,h1,h2⟩:=hm.pH r hr _ _ (hg i v hv);obtain⟨h3,h4⟩:=h2 v rfl;refine⟨?_,h4⟩;rw[Ve, <- h3];exact h1.1
def setCells(w:World)(b o:Nat):List Value->World
 | []=>w
 |v::vs=>setCells (w.setCell ⟨b,o,none⟩ v) b (o+1) vs
theorem Tx(b:Nat):∀(vs:List Value) (w:World) (o:Nat),(setCells w b o vs).heap.size=w.heap.size
 | [],_,_=>rfl
 |v::vs,w,o=>by rw[setCells,Tx b vs,Rc]
theorem CY.ct{f:Bool}{b o:Nat}{u:Value}(b':Nat):∀(vs:List Value) (w:World) (o':Nat),CY f w b o u->(b≠b'\/o<o'\/o'+vs.length<=o)->CY f (setCells w b' o' vs) b o u
 | [],_,_,h,_=>h
 |v::vs,w,o',h,hn=>by
  simp only[Uk] at hn;exact CY.ct b' vs _ (o'+1) (h.cX (by rintro⟨rfl,rfl⟩;omega)) (by omega)
theorem CY.ep{f:Bool}{b:Nat}:∀(vs:List Value) (w:World) (o i:Nat) (v:Value),vs[i]? = some v->(∃u,CY f w b (o+i) u)->CY f (setCells w b o vs) b (o+i) v
 | [],_,_,i,_,h,_=>by simp at h
 |x::vs,w,o,0,v,h,⟨u,hu⟩=>by
  simp only[Ul,Ai] at h;subst h;exact CY.ct b vs _ (o+1) (by simpa using hu.nj) (by omega)
 | x::vs,w,o,i+1,v,h,⟨u,hu⟩=>by
  simp only[yl] at h;have:=CY.ep (f:=f) (b:=b) vs (w.setCell ⟨b,o,none⟩ x) (o+1) i v h ⟨u,(by
   rw[show o+1+i=o+(i+1) by omega];exact hu.cX (by omega))⟩
  rwa [show o+1+i=o+(i+1) by omega] at this
theorem BM.setCells{B:World}{S:Nat->Nat->Prop}{b:Nat}:∀(vs:List Value) (w:World) (o:Nat),BM B w S->(∀i,i<vs.length->B.heap.size<=b\/S b (o+i))->BM B (setCells w b o vs) S
 | [],_,_,h,_=>h
 | v::vs,w,o,h,hs=>BM.setCells vs _ (o+1) (h.setCell (hs 0 (by simp))) (λi hi=>by
   rw[show o+1+i=o+(i+1) by omega];exact hs (i+1) (by simp;omega))
theorem KE{P:Program}(b o:Nat):∀(vs:List Value) (i:Nat) (w:World),(∀v∈vs,v.oneCell'=true)->(∀j,j<vs.length->∃u,CY true w b (o+i+j) u)->
  (storeCells ⟨b,o,none⟩ vs i).run P w= .ok () (setCells w b (o+i) vs)
 | [],i,w,_,_=>rfl
 | v::vs,i,w,h1,h2=>by
  obtain⟨u,hu⟩:=h2 0 (by simp);have ha:(⟨b,o,none⟩:Addr).add i=⟨b,o+i,none⟩:=by
   unfold Addr.add;split
   ·rename_i h;subst h;rfl
   ·rfl
  simp only[storeCells,IY,run_store P w _ v _ (h1 v Kh),ha];rw[P5] at hu;simp only[hu.1,hu.2 rfl,RD,if_false,Hm];rw[KE b o vs (i+1) _ (λv hv=>h1 v (Lv _ hv)) (λj hj=>by
   obtain⟨u',HU⟩:=h2 (j+1) (by simp;omega);by_cases he:o+i=o+(i+1)+j
   ·omega
   ·exact⟨u',by rw[show o+(i+1)+j=o+i+(j+1) by omega];exact HU.cX (by omega)⟩)]
  simp only[setCells,Ve]
theorem LG{bv:Nat}{rg fR:List Rg}{l o:Nat}{vs:List LV}(h:Nw bv rg l o vs=some fR):
  ∃r∈rg,r.id=l/\r.wr=true/\o+vs.length<=r.cs.length/\(∀v∈vs,v.lt bv (Dh rg)=true)/\fR=rg.map (VK l o r.gi vs.length (vs.map some)):=by
 unfold Nw at h;cases hf:gF l rg with
 |none=>rw[hf] at h;simp at h
 | some r=>
  rw[hf] at h;simp only at h;cases hb:(r.wr&&Nat.ble (o+vs.length) r.cs.length&&vs.all (·.lt bv (Dh rg))) with
  |false=>rw[hb] at h;simp at h
  |true=>
   rw[hb] at h;simp only[Bl,Mx] at hb;simp only[cond_true,Ai] at h;exact⟨r,(KD hf).1,(KD hf).2,hb.1.1,MQ hb.1.2,hb.2,h.symm⟩
theorem N9(l o g n:Nat)(vs:List (Option LV))(r:Rg):(VK l o g n vs r).id=r.id:=by
 unfold VK;cases Nat.beq r.id l<;>simp only[cond_true,cond_false]
 cases (!(Nat.beq g 0)&&Nat.beq r.gi g)<;>rfl
theorem ACS(l o g n:Nat)(vs:List (Option LV))(r:Rg):(VK l o g n vs r).gi=r.gi:=by
 unfold VK;cases Nat.beq r.id l<;>simp only[cond_true,cond_false]
 cases (!(Nat.beq g 0)&&Nat.beq r.gi g)<;>rfl
theorem Xe(l o g n:Nat)(vs:List (Option LV))(r:Rg):(VK l o g n vs r).wr=r.wr:=by
 unfold VK;cases Nat.beq r.id l<;>simp only[cond_true,cond_false]
 cases (!(Nat.beq g 0)&&Nat.beq r.gi g)<;>rfl
theorem Pk(l o g n:Nat)(vs:List (Option LV))(r:Rg):(VK l o g n vs r).cs.length=r.cs.length:=by
 unfold VK;cases Nat.beq r.id l<;>simp only[cond_true,cond_false,Nk]
 cases (!(Nat.beq g 0)&&Nat.beq r.gi g)<;>simp only[cond_true,cond_false,Nk]
theorem wS(rg:List Rg)(l o g n:Nat)(vs:List (Option LV)):Dh (rg.map (VK l o g n vs))=Dh rg:=by
 simp only[Dh,List.map_map];exact Zx λr _=>N9 l o g n vs r
theorem Oi.write{E:En}{bv:Nat}{rg fR:List Rg}{V:Vl}{w:World}(hm:Oi E rg V w)(Ly:∀b o v,E.GC b o=some v->b<E.GB){l o:Nat}{vs:List LV}(h:Nw bv rg l o vs=some fR)
  (fS:∀v∈vs,v.ok V):Oi E fR V (setCells w (V.ν l).1 ((V.ν l).2+o) (vs.map (·.den V))):=by
 obtain⟨R,hR,rfl,pe,hle,cf,rfl⟩:=LG h;have ω:=hm.sY R hR pe;refine⟨?_,?_,?_,?_,?_,?_⟩
 ·intro r' cL;obtain⟨r,hr,rfl⟩:=UT.1 cL;intro i c hc;rw[N9,Xe];have tU:i<r.cs.length:=by
   have:=(OQ.1 hc).1;rwa [Pk] at this
  unfold VK at hc;cases hb:Nat.beq r.id R.id with
  | true=>
   rw[hb] at hc;simp only[cond_true] at hc;have hrR:r=R:=hm.one r hr R hR (CR hb);subst hrR;rw[QD _ _ _ _ tU,Tg] at hc;obtain⟨u,hu,vj⟩:=hm.pH r hr i _ (JC tU);by_cases eC:o<=i/\i<o+vs.length
   ·rw[if_pos eC] at hc;simp only[Ng,Vu] at hc;obtain⟨v,hv,rfl⟩:=hc;refine⟨v.den V,?_,λlv e=>?_⟩
    ·have h1:=CY.ep (f:=r.wr) (b:=(V.ν r.id).1) (vs.map (·.den V)) w ((V.ν r.id).2+o) (i-o) (v.den V) (by simp[hv]) ⟨u,by
      rw[show(V.ν r.id).2+o+(i-o)=(V.ν r.id).2+i by omega];exact hu⟩
     rwa [show(V.ν r.id).2+o+(i-o)=(V.ν r.id).2+i by omega] at h1
    ·cases e;exact⟨rfl,fS v (Le hv)⟩
   ·rw[if_neg eC,JC tU] at hc;simp only[Ai] at hc;subst hc;exact⟨u,CY.ct _ _ _ _ hu (by simp only[Tg];omega),vj⟩
  | false=>
   rw[hb] at hc;simp only[cond_false] at hc;have cq:R.id≠r.id:=λe=>by rw[e,Nat.beq_refl] at hb;exact absurd hb (by simp)
   have ki:=hm.sep R hR r hr pe cq;obtain⟨u,hu,vj⟩:=hm.pH r hr i _ (JC tU);rcases ki with⟨hg,hg0,hν,hlen⟩|hd
   ·have me:(!(Nat.beq R.gi 0)&&Nat.beq r.gi R.gi)=true:=by
     simp only[Bl,Bool.not_eq_true'];refine⟨?_,by rw[hg];exact Nat.beq_refl _⟩;cases hz:Nat.beq R.gi 0 with
     |false=>rfl
     |true=>exact absurd (CR hz) hg0
    rw[me] at hc;simp only[cond_true] at hc;rw[QD _ _ _ _ tU,Qs] at hc;rw[<- hν] at hu ⊢;by_cases eC:o<=i/\i<o+vs.length
    ·rw[if_pos eC] at hc;have hcn:c=none:=by
      have:=Le hc;exact(Hj.1 this).2
     subst hcn;obtain⟨v,hv⟩:∃v,vs[i-o]? = some v:=⟨_,JC (by omega)⟩;refine⟨v.den V,?_,λlv e=>by cases e⟩;have h1:=CY.ep (f:=r.wr) (b:=(V.ν R.id).1) (vs.map (·.den V)) w ((V.ν R.id).2+o) (i-o) (v.den V) (by simp[hv]) ⟨u,by
      rw[show(V.ν R.id).2+o+(i-o)=(V.ν R.id).2+i by omega];exact hu⟩
     rwa [show(V.ν R.id).2+o+(i-o)=(V.ν R.id).2+i by omega] at h1
    ·rw[if_neg eC,JC tU] at hc;simp only[Ai] at hc;subst hc;exact⟨u,CY.ct _ _ _ _ hu (by simp only[Tg];omega),vj⟩
   ·have aaO:CY r.wr (setCells w (V.ν R.id).1 ((V.ν R.id).2+o) (vs.map (·.den V))) (V.ν r.id).1 ((V.ν r.id).2+i) u:=by
     refine CY.ct _ _ _ _ hu ?_;simp only[Tg];rcases hd with h|h|h|h|h
     ·exact .inl λe=>h e.symm
     ·omega
     ·omega
     ·omega
     ·omega
    cases me:(!(Nat.beq R.gi 0)&&Nat.beq r.gi R.gi) with
    |false=>
     rw[me] at hc;simp only[cond_false,JC tU,Ai] at hc;subst hc;exact⟨u,aaO,vj⟩
    | true=>
     rw[me] at hc;simp only[cond_true] at hc;rw[QD _ _ _ _ tU,Qs] at hc;refine⟨u,aaO,λlv e=>?_⟩;subst e;by_cases eC:o<=i/\i<o+vs.length
     ·rw[if_pos eC] at hc;have:=Le hc;exact absurd (Hj.1 this).2 (by simp)
     ·rw[if_neg eC,JC tU] at hc;simp only[Ai] at hc;exact vj lv hc
 ·intro r1 h1 r2 h2 he;obtain⟨r,hr,rfl⟩:=UT.1 h1;obtain⟨r',cL,rfl⟩:=UT.1 h2;rw[N9,N9] at he;rw[hm.one r hr r' cL he]
 ·intro r1 h1 r2 h2 hw cq;obtain⟨r,hr,rfl⟩:=UT.1 h1;obtain⟨r',cL,rfl⟩:=UT.1 h2;rw[Xe] at hw;rw[N9,N9] at cq;have:=hm.sep r hr r' cL hw cq;unfold qO at *
  simp only[N9,ACS,Pk];exact this
 ·intro r1 h1 hw;obtain⟨r,hr,rfl⟩:=UT.1 h1;rw[Xe] at hw;rw[N9,Pk];exact hm.sY r hr hw
 ·refine BM.setCells _ _ _ hm.an λi hi=>?_
  rw[Tg] at hi;rw[Ve];exact ω.2 (o+i) (by omega)
 ·intro b o' v hv;have hb:=Ly b o' v hv;have h0:CY false w b o' v:=⟨hm.gw b o' v hv,λh=>by cases h⟩;exact(CY.ct _ _ _ _ h0 (.inl (by have:=ω.1;omega))).1
theorem Xl.write{nv:Nat}{rg fR:List Rg}(hs:Xl nv rg){l o:Nat}{vs:List LV}(h:Nw nv rg l o vs=some fR):Xl nv fR/\Dh fR=Dh rg:=by
 obtain⟨R,hR,rfl,pe,hle,cf,rfl⟩:=LG h;refine⟨?_,wS _ _ _ _ _ _⟩;intro r1 h1 lv oA;rw[wS];obtain⟨r,hr,rfl⟩:=UT.1 h1;obtain⟨i,hi,he⟩:=dX oA;rw[Pk] at hi;have hg:(VK R.id o R.gi vs.length (vs.map some) r).cs[i]? = some (some lv):=by
  rw[JC (by rw[Pk];exact hi),he]
 have hold:r.cs[i]? = some (some lv)->lv.lt nv (Dh rg)=true:=λh=>hs r hr lv (Le h)
 unfold VK at hg;cases hb:Nat.beq r.id R.id<;>rw[hb] at hg<;>simp only[cond_true,cond_false] at hg
 ·cases me:(!(Nat.beq R.gi 0)&&Nat.beq r.gi R.gi)<;>rw[me] at hg<;>simp only[cond_true,cond_false] at hg
  ·exact hold hg
  ·rw[QD _ _ _ _ hi,Qs] at hg;split at hg
   ·exact absurd (Hj.1 (Le hg)).2 (by simp)
   ·exact hold hg
 ·rw[QD _ _ _ _ hi,Tg] at hg;split at hg
  ·obtain⟨v,hv,hve⟩:=UT.1 (Le hg);cases hve;exact cf _ hv
  ·exact hold hg
end
section
open Go
theorem X.be(ρ:Br)(n:Int):(X.lit n).den ρ=n:=rfl
theorem IZ.gS(ρ:Br)(l:List X):(IZ.xs l).den ρ=l.map (·.den ρ):=rfl
section
variable(V:Vl)
theorem SV.aE(v:TV):(SV.t v).den V=v.den V:=rfl
theorem SV.ux(vs:List TV):(SV.pn vs).den V= .tuple (vs.map (·.den V)).toArray:=rfl
theorem TV.aq(v:LV):(TV.l v).den V=v.den V:=rfl
theorem TV.r7(vs:List LV):(TV.a vs).den V= .agg (vs.map (·.den V)).toArray:=rfl
theorem LV.cQ(k:IntKind)(x:X):(LV.int k x).den V= .int k (x.den V.ρ):=rfl
theorem LV.cg(x:X):(LV.bool x).den V= .bool (x.den V.ρ != 0):=rfl
theorem LV.cx(l o:Nat):(LV.ptr l o).den V= .pointer (some ⟨(V.ν l).1,(V.ν l).2+o,none⟩):=rfl
theorem LV.cI(l o n:Nat)(c:CX)(d:Nat):(LV.sl l o n c d).den V= .slice (some ⟨(V.ν l).1,(V.ν l).2+o,none⟩) n ((c.den V).toNat-d):=rfl
theorem CX.eW(x:X):(CX.n x).den V=x.den V.ρ:=rfl
theorem LV.ua:(LV.C6).den V= .slice none 0 0:=rfl
theorem LV.mS:(LV.eg).den V= .nilIface:=rfl
theorem LV.Bs(i:Nat):(LV.err i).den V=V.σ i:=rfl
theorem LV.lB(l o n s:Nat)(x:X):(LV.pd l o n s x).den V= .pointer (some ⟨(V.ν l).1,(V.ν l).2+o+(x.den V.ρ).toNat*s,none⟩):=rfl
end
theorem Uv(k:IntKind)(n:Int):IU k (k.wrap n):=by
 cases k<;>simp only[IU,IntKind.wrap,IntKind.min,IntKind.max,IntKind.bits,IntKind.signed]<;>simp<;>omega
theorem Yo{k:IntKind}{n:Int}:Yl k n=true↔IU k n:=by simp[Yl,IU]
theorem dW(b:Bool):(XH b != 0)=b:=by cases b<;>rfl
theorem LV.uc{v:Value}{x:LV}(h:LV.Wf v=some x)(V:Vl)(nv:Nat)(ids:List Nat):x.den V=v/\x.ok V/\x.lt nv ids=true:=by
 unfold LV.Wf at h;split at h
 ·rename_i k n;cases hb:Yl k n with
  |false=>rw[hb] at h;simp at h
  |true=>
   rw[hb] at h;simp only[cond_true,Ai] at h;subst h;exact⟨rfl,Yo.1 hb,rfl⟩
 ·rename_i b;simp only[Ai] at h;subst h;refine⟨?_,trivial,rfl⟩;cases b<;>rfl
 all_goals first
  |(simp only[Ai] at h;subst h;exact⟨rfl,trivial,rfl⟩)
  |(simp only[Ai] at h;subst h;exact⟨rfl,rfl,rfl⟩)
  |cases h
theorem TY:∀ {vs:List Value} {xs:List LV},iT vs=some xs->∀(V:Vl) (nv:Nat) (ids:List Nat),xs.map (·.den V)=vs/\∀x∈xs,x.ok V/\x.lt nv ids=true
 | [],xs,h,V,nv,ids=>by simp[iT] at h;subst h;exact⟨rfl,λ_ h=>by cases h⟩
 | v::vs,xs,h,V,nv,ids=>by
  unfold iT at h;split at h
  ·cases h
  ·rename_i x hx;split at h
   ·cases h
   ·rename_i ys hy;simp only[Ai] at h;subst h;obtain⟨h1,h2,h3⟩:=LV.uc hx V nv ids;obtain⟨h4,h5⟩:=TY hy V nv ids;refine⟨by rw[NE,h1,h4],λy hy=>?_⟩;rcases IR.1 hy with rfl|hy
    ·exact⟨h2,h3⟩
    ·exact h5 y hy
theorem SV.uc{v:Value}{x:SV}(h:SV.Wf v=some x)(V:Vl)(nv:Nat)(ids:List Nat):x.den V=v/\x.ok V/\x.lt nv ids=true:=by
 unfold SV.Wf at h;split at h
 ·rename_i cs;split at h
  ·rename_i vs oE;simp only[Ai] at h;subst h;obtain⟨h1,h2⟩:=TY oE V nv ids;refine⟨?_,λx hx=>(h2 x hx).1,?_⟩
   ·simp only[SV.den,TV.den,h1,Array.toArray_toList]
   ·simp only[SV.lt,TV.lt,Mx];exact λx hx=>(h2 x hx).2
  ·cases h
 ·split at h
  ·rename_i y hy;simp only[Ai] at h;subst h;exact LV.uc hy V nv ids
  ·cases h
section
variable{st:St}{V:Vl}{a:Act}
theorem Sv.cN(h:Sv st V a){x:Operand}{v:SV}(hx:st.cN x=some v):a.eval x=v.den V/\v.ok V/\v.lt st.nv (Dh st.rg)=true:=by
 unfold St.cN at hx;split at hx
 ·exact h.tm _ _ hx
 ·obtain⟨h1,h2,h3⟩:=SV.uc hx V st.nv (Dh st.rg);exact⟨h1.symm,h2,h3⟩
 ·rename_i g;split at hx
  ·rename_i l hl;simp only[Ai] at hx;subst hx;obtain⟨h1,h2⟩:=h.gl g l hl;refine⟨?_,trivial,h2⟩;simp only[Act.eval,SV.den,TV.den,LV.den,h1,P5]
  ·cases hx
 ·cases hx
theorem Sv.den(h:Sv st V a){x:Operand}{v:SV}(hx:st.cN x=some v):a.eval x=v.den V:=(h.cN hx).1
end
def AER(P:Program)(tt:List (Nat×TD)):Prop:=∀t d,lk t tt=some d->TD.of P t=some d
theorem TD.jx{P:Program}{t:Nat}{d:TD}(h:TD.of P t=some d):∃desc i z,P.underlying t=some desc/\P.info? t=some i/\i.size=d.size/\d.k=TK.dr desc/\
  d.agg=uZ desc/\i.zero=some z/\iT z.cells.toList=some d.zero/\i.bytes=d.bytes:=by
 unfold TD.of at h;split at h
 ·cases h
 rename_i desc hd;split at h
 ·cases h
 rename_i i hi;split at h
 ·cases h
 rename_i z hz;split at h
 ·cases h
 rename_i zs hzs;simp only[Ai] at h;subst h;exact⟨desc,i,z,hd,hi,rfl,rfl,rfl,hz,hzs,rfl⟩
section
variable{P:Program}{t:Nat}{d:TD}(h:TD.of P t=some d)(w:World)
include h
theorem TD.c9:(sizeOf t).run P w= .ok d.size w:=by
 obtain⟨desc,i,z,h1,h2,h3,-⟩:=TD.jx h;simp[sizeOf,typeInfo,h2,h3]
theorem TD.rj:(isAgg t).run P w= .ok d.agg w:=by
 obtain⟨desc,i,z,h1,h2,h3,h4,h5,h6,h7⟩:=TD.jx h;simp only[isAgg,underlying,IY,run_program,Hm,h1,KT,h5];cases desc<;>rfl
theorem TD.jj:∃z,(zeroValue t).run P w= .ok z w/\iT z.cells.toList=some d.zero:=by
 obtain⟨desc,i,z,h1,h2,h3,h4,h5,h6,h7,-⟩:=TD.jx h;exact⟨z,by simp[zeroValue,typeInfo,h2,h6],h7⟩
end
theorem TK.Pc{desc:TypeDesc}{k:IntKind}(h:TK.int k=TK.dr desc):desc= .int k:=by
 cases desc<;>simp[TK.dr] at h;subst h;rfl
theorem TK.MT{desc:TypeDesc}{e:Nat}(h:TK.ptr e=TK.dr desc):desc= .pointer e:=by
 cases desc<;>simp[TK.dr] at h;subst h;rfl
theorem TK.eE{desc:TypeDesc}{e:Nat}(h:TK.sl e=TK.dr desc):desc= .slice e:=by
 cases desc<;>simp[TK.dr] at h;subst h;rfl
theorem TK.j7{desc:TypeDesc}{n e:Nat}(h:TK.arr n e=TK.dr desc):desc= .array n e:=by
 cases desc<;>simp[TK.dr] at h;obtain⟨rfl,rfl⟩:=h;rfl
theorem TK.ur{desc:TypeDesc}{fs:List (Nat×Nat)}(h:TK.str fs=TK.dr desc):∃fields,desc= .struct fields/\fs=fields.toList.map λf=>(f.offset,f.type):=by
 cases desc<;>simp[TK.dr] at h;exact⟨_,rfl,h⟩
theorem TK.tx{desc:TypeDesc}(h:TK.iface=TK.dr desc):∃ms,desc= .interface ms:=by
 cases desc<;>simp[TK.dr] at h;exact⟨_,rfl⟩
theorem TD.bj{P:Program}{t:Nat}{d:TD}(h:TD.of P t=some d){k:TK}(hk:d.k=k):∃desc,(∀w,(underlying t).run P w= .ok desc w)/\k=TK.dr desc:=by
 obtain⟨desc,i,z,h1,h2,h3,h4,h5,h6,h7⟩:=TD.jx h;exact⟨desc,λw=>by simp[underlying,h1],by rw[<- hk];exact h4⟩
theorem Cu(b o n:Nat):(⟨b,o,none⟩:Addr).add n=⟨b,o+n,none⟩:=by
 unfold Addr.add;split
 ·rename_i h;subst h;rfl
 ·rfl
theorem ky(P:Program)(op:BinOp)(t:Nat)(x y:Operand)(k k':IntKind)(a b:Int)(w:World):(eqGuard op t x y (.int k a) (.int k' b)).run P w= .ok () w:=by
 unfold eqGuard;split<;>rfl
theorem QS(P:Program)(op:BinOp)(t:Nat)(k:IntKind)(a b:Int)(w:World)(hs:oK op=false)(hc:Rq op=false)(hz:op= .quo\/op= .rem->b≠0):
  (binOp op t (.int k a) (.int k b)).run P w= .ok (.int k (Ah op k a b)) w:=by
 cases op<;>simp only[oK,Rq,Bool.true_eq_false] at hs hc
 case quo=>have hb:b≠0:=hz (.inl rfl);simp[binOp,Op.intDiv,hb,Ah]
 case rem=>have hb:b≠0:=hz (.inr rfl);simp[binOp,Op.intDiv,hb,Ah]
 all_goals (simp[binOp,Op.intArith,Op.intBits,Ah,Dp])
theorem yI(P:Program)(op:BinOp)(t:Nat)(k:IntKind)(a b:Int)(w:World)(hc:Rq op=true):
  (binOp op t (.int k a) (.int k b)).run P w= .ok (.bool (Ah op k a b != 0)) w:=by
 cases op<;>simp only[Rq,RD] at hc
 all_goals (simp[binOp,Op.intCmp,Ah,dW])
theorem iY(P:Program)(op:BinOp)(t:Nat)(k k':IntKind)(a b:Int)(w:World)(hs:oK op=true)(hb:0<=b):
  (binOp op t (.int k a) (.int k' b)).run P w= .ok (.int k (Ah op k a b)) w:=by
 have xp:¬b<0:=by omega
 cases op<;>simp only[oK,RD] at hs
 all_goals (simp[binOp,Op.shift,Ah,xp])
theorem ABG{k:IntKind}{a b:Int}(ha:IU k a):IU k (a.tmod b):=by
 have h1:a.tmod b=Int.tmod a b:=rfl;have h2:(a.tmod b).natAbs<=a.natAbs:=by
  rw[Int.natAbs_tmod];exact Nat.mod_le _ _
 have h3:0<=a->0<=a.tmod b:=λh=>Int.tmod_nonneg b h
 have h4:a<=0->a.tmod b<=0:=λh=>by
  have h5:=Int.tmod_nonneg b (a:= -a) (by omega);rw[Int.neg_tmod] at h5;omega
 cases k<;>simp only[IU,IntKind.min,IntKind.max,IntKind.bits,IntKind.signed] at ha ⊢ <;> simp at ha ⊢ <;> omega
theorem ABP{k:IntKind}{a:Int}(ha:IU k a)(n:Nat):IU k (a.fdiv (2^n)):=by
 have hp:(0:Int)<2^n:=Int.pow_pos (by omega);rw[Int.fdiv_eq_ediv_of_nonneg _ (by omega)];have AW:(1:Int)<=2^n:=by omega
 have h1:0<=a->0<=a/2^n/\a/2^n<=a:=λh=>⟨Int.ediv_nonneg h (by omega),Int.ediv_le_self _ h⟩
 have h2:a<0->a<=a/2^n/\a/2^n<0:=λh=>by
  refine⟨?_,Int.ediv_neg_of_neg_of_pos h hp⟩;rw[Int.le_ediv_iff_mul_le hp];have:a*2^n<=a*1:=Int.mul_le_mul_of_nonpos_left (by omega) AW;omega
 cases k<;>simp only[IU,IntKind.min,IntKind.max,IntKind.bits,IntKind.signed] at ha ⊢ <;> simp at ha ⊢ <;> omega
theorem ku{op:BinOp}{k:IntKind}{a b:Int}(ha:IU k a)(hc:Rq op=false):IU k (Ah op k a b):=by
 cases op<;>simp only[Rq,Bool.true_eq_false] at hc
 all_goals first
  |exact Uv _ _
  |exact ABG ha
  |exact ABP ha _
def Ix(T:Tb)(V:Vl)(ds:List (Nat×GG)):Prop:=∀p∈ds,V.ρ p.1=p.2.den T V.ρ
def ObH(T:Tb)(V:Vl)(ob:List JU):Prop:=∀q∈ob,q.den T V.ρ
theorem Ws{op:BinOp}{k:IntKind}{x y:X}{nb:Nat}{T:Tb}{V:Vl}(h:Ix T V (Rv op k x y nb).2):
  (Rv op k x y nb).1.den V.ρ=Ah op k (x.den V.ρ) (y.den V.ρ):=by
 unfold Rv at h ⊢;split
 ·rfl
 ·rename_i x' y' cq;have h1:=h _ (by
   split
   ·rename_i a b;exact(cq a b rfl rfl).elim
   ·exact NB.2 rfl)
  simp only[X.den,h1];rfl
section
variable{P:Program}{V:Vl}{T:Tb}
theorem Tc {op:BinOp} {k k':IntKind} {x y:X} {nb:Nat} {r:NY} (h:WU op k k' x y nb=some r) (hx:IU k (x.den V.ρ)) (hy:IU k' (y.den V.ρ))
  (hd:Ix T V r.ds) (ho:ObH T V r.ob) (t:Nat) (w:World):
  (binOp op t (.int k (x.den V.ρ)) (.int k' (y.den V.ρ))).run P w= .ok (r.v.den V) w/\r.v.ok V/\r.ln= []:=by
 unfold WU at h;cases hs:oK op with
 | true=>
  have NX:Rq op=false:=by cases op<;>simp[oK] at hs<;>rfl
  rw[hs] at h;simp only[cond_true] at h;cases hl:aP k (Rv op k x y nb).1 with
  |false=>rw[hl] at h;simp at h
  | true=>
   rw[hl] at h;simp only[Bool.not_true,cond_false,Ai] at h;subst h;have hb:0<=y.den V.ρ:=by
    cases hg:(vq y||Ob k') with
    | true=>
     simp only[Bool.or_eq_true] at hg;rcases hg with hg|hg
     ·cases y with
      |lit n=>cases n with
       |ofNat n=>exact sU n
       |negSucc n=>simp[vq] at hg
      |v i j=>simp[vq] at hg
     ·cases k'<;>simp[Ob] at hg<;>exact hy.1
    |false=>
     simp only[hg,cond_false] at ho;exact ho (.vq y) (NB.2 rfl)
   rw[iY P op t k k' _ _ w hs hb];have he:=Ws hd;exact⟨by simp only[IB,SV.den,TV.den,LV.den,he],by simp only[IB,SV.ok,TV.ok,LV.ok,he];exact ku hx NX,rfl⟩
 | false =>
  rw[hs] at h;simp only[cond_false] at h;cases hk:pu k k' with
  |false=>rw[hk] at h;simp at h
  | true =>
   have gE:=NK hk;subst gE;rw[hk] at h;simp only[Bool.not_true,cond_false] at h;cases NX:Rq op with
   |true=>
    rw[NX] at h;simp only[cond_true,Ai] at h;subst h;rw[yI P op t k _ _ w NX];have he:=Ws hd;exact⟨by simp only[IB,SV.den,TV.den,LV.den,he],trivial,rfl⟩
   | false=>
    rw[NX] at h;simp only[cond_false] at h;have key:(op= .quo\/op= .rem->y.den V.ρ≠0)->(bif !(aP k (Rv op k x y nb).1) then none else some (⟨IB (.int k (Rv op k x y nb).1),(Rv op k x y nb).2,[],[]⟩:NY))=some r->
      (binOp op t (.int k (x.den V.ρ)) (.int k (y.den V.ρ))).run P w= .ok (r.v.den V) w/\r.v.ok V/\r.ln= []:=by
     intro hz h;cases hl:aP k (Rv op k x y nb).1 with
     |false=>rw[hl] at h;simp at h
     |true=>
      rw[hl] at h;simp only[Bool.not_true,cond_false,Ai] at h;subst h;rw[QS P op t k _ _ w hs NX hz];have he:=Ws hd;exact⟨by simp only[IB,SV.den,TV.den,LV.den,he],by simp only[IB,SV.ok,TV.ok,LV.ok,he];exact ku hx NX,rfl⟩
    have hnz:nz y=true->y.den V.ρ≠0:=by
     intro hn;cases y with
     |lit n=>
      simp only[nz,Bool.not_eq_true'] at hn;exact O9 hn
     |v i j=>simp[nz] at hn
    cases op<;>simp only[] at h
    all_goals first
     |exact key (by simp) h
     | (cases hn:nz y with
        |false=>rw[hn] at h;simp at h
        |true=>
         rw[hn] at h;simp only[cond_true] at h;exact key (λ_=>hnz hn) h)
end
end
section
open Go
theorem ZB{j:Nat}{ρ:Br}:∀ {l:List X} {i:Nat},Ph j i l=true->∀k x,l[k]? = some x->x.den ρ=(ρ j).getD (i+k) 0
 | [],_,_,k,x,h=>by simp at h
 | .lit n::r,i,h,k,x,hk=>by simp[Ph] at h
 | .v j' i'::r,i,h,0,x,hk=>by
  simp only[Ph,Bl] at h;simp only[Ul,Ai] at hk;subst hk;rw[<- CR h.1.1, <- CR h.1.2];rfl
 | .v j' i'::r,i,h,k+1,x,hk=>by
  simp only[Ph,Bl] at h;have:=ZB (ρ:=ρ) h.2 k x (by simpa using hk);rw[this,show i+1+k=i+(k+1) by omega]
theorem Hr{ln:List (Nat×Nat)}{ρ:Br}(hl:∀p∈ln,(ρ p.1).length=p.2)(xs:List X):(Rn ln xs).den ρ=xs.map (·.den ρ):=by
 unfold Rn;split
 ·rename_i j r;cases hb:(Ph j 1 r&&(match lk j ln with|some n=>Nat.beq n (X.v j 0::r).length|none=>false)) with
  |false=>rfl
  | true=>
   simp only[Bl] at hb;obtain⟨h1,h2⟩:=hb;simp only[cond_true,IZ.den];split at h2
   ·rename_i n hn;have hlen:=hl _ (Ni hn);have SW:=CR h2;simp only at hlen;apply List.ext_getElem?;intro k;by_cases hk:k<n
    ·rw[Ng,JC (by omega)];cases k with
     |zero=>simp[X.den,List.getD,JC (show 0<(ρ j).length by omega)]
     |succ k=>
      simp only[Uk] at SW;have gE:k<r.length:=by omega
      simp only[yl,JC gE,UA];rw[ZB (ρ:=ρ) h1 k _ (JC gE)];simp[List.getD,Nat.add_comm 1 k,JC (show k+1<(ρ j).length by omega)]
    ·rw[List.getElem?_eq_none (by omega),List.getElem?_eq_none (by simp only[Tg];omega)]
   ·cases h2
 ·rfl
theorem Ku:∀ {cs:List LV} {ks:List IntKind} {xs:List X},Jz cs=some (ks,xs)->cs.length=ks.length/\cs.length=xs.length/\
  ∀(i:Nat) (c:LV),cs[i]? = some c->∃k x,ks[i]? = some k/\xs[i]? = some x/\c=LV.int k x
 | [],ks,xs,h=>by
  simp only[Jz,Ai,Prod.mk.injEq] at h;obtain⟨rfl,rfl⟩:=h;exact⟨rfl,rfl,λi c h=>by simp at h⟩
 | c::r,ks,xs,h=>by
  cases c with
  | int k x=>
   unfold Jz at h;split at h
   ·rename_i φ xs' hr;simp only[Ai,Prod.mk.injEq] at h;obtain⟨rfl,rfl⟩:=h;obtain⟨h1,h2,h3⟩:=Ku hr;refine⟨by simp[h1],by simp[h2],λi c hc=>?_⟩;cases i with
    |zero=>simp at hc;subst hc;exact⟨k,x,rfl,rfl,rfl⟩
    |succ i=>simp at hc;obtain⟨k',x',e1,e2,e3⟩:=h3 i c hc;exact⟨k',x',by simpa using e1,by simpa using e2,e3⟩
   ·cases h
  |_=>simp[Jz] at h
theorem TN{k:IntKind}:∀ {ks:List IntKind},gH k ks=true->∀k'∈ks,k'=k
 | [],_,_,h=>by cases h
 |j::r,h,k',hk=>by
  simp only[gH,Bl] at h;rcases IR.1 hk with rfl|hk
  ·exact(NK h.1).symm
  ·exact TN h.2 k' hk
theorem LV.one{V:Vl}{v:LV}(h:v.ok V):(v.den V).oneCell'=true:=by
 cases v with
 |err i=>obtain⟨t,u,h⟩:=h;simp only[LV.den,h,Value.oneCell']
 |fy l o n i=>obtain⟨m,c,h,_⟩:=h;simp only[LV.den,h,Value.oneCell']
 |val v=>exact h
 |Hx i=>exact h
 |_=>rfl
theorem Value.Cd{v:Value}(h:v.oneCell'=true):v.cells= #[v]:=by
 cases v<;>first|rfl|(simp[Value.oneCell'] at h)
theorem TV.oT{V:Vl}{v:TV}(h:v.ok V):(v.den V).cells.toList=v.cells.map (·.den V):=by
 cases v with
 |l v=>simp only[TV.den,TV.cells,Value.Cd (LV.one h),NE,Uf]
 |a vs=>simp[TV.den,TV.cells,Value.cells]
theorem TV.rK{V:Vl}{v:TV}(h:v.ok V):∀c∈v.cells,c.ok V:=by
 cases v with
 |l v=>intro c hc;simp only[TV.cells,NB] at hc;subst hc;exact h
 |a vs=>exact h
theorem pF{C:Cx}{t n:Nat}(h:Jl C t=some n):∃d,lk t C.tt=some d/\d.size=n:=by
 unfold Jl at h;split at h
 ·rename_i d hd;exact⟨d,hd,by simpa using h⟩
 ·cases h
section
variable{P:Program}{C:Cx}(ht:AER P C.tt){V:Vl}
include ht
theorem Hq{t n:Nat}(h:Jl C t=some n)(w:World):(sizeOf t).run P w= .ok n w:=by
 obtain⟨d,hd,rfl⟩:=pF h;exact TD.c9 (ht t d hd) w
theorem kN{t:Nat}{cs:List LV}{off:Nat}{v:SV}(h:uw C t cs off=some v)(hc:∀c∈cs,c.ok V)(w:World):
  (part t (cs.map (·.den V)).toArray off).run P w= .ok (v.den V) w/\v.ok V:=by
 unfold uw at h;split at h
 ·cases h
 rename_i d hd;have ha:=TD.rj (ht t d hd) w;have hs:=TD.c9 (ht t d hd) w;cases gk:d.agg with
 | true=>
  rw[gk] at h ha;simp only[cond_true] at h;cases hb:Nat.ble (off+d.size) cs.length with
  |false=>rw[hb] at h;simp at h
  |true=>
   rw[hb] at h;simp only[cond_true,Ai] at h;subst h;refine⟨?_,λc i6=>hc c (LL (List.mem_of_mem_take i6))⟩;simp only[part,IY,ha,Hm,if_true,hs,KT,SV.den,TV.den]
   congr 2
   apply Array.ext';simp[List.map_take,List.map_drop]
 | false=>
  rw[gk] at h ha;simp only[cond_false] at h;split at h
  ·rename_i c cS;simp only[Ai] at h;subst h;refine⟨?_,hc c (Le cS)⟩;simp only[part,IY,ha,Hm,RD,if_false];simp[cS,IB,SV.den,TV.den]
  ·cases h
end
theorem uF{α:Type}:∀(l:List α) (o:Nat) (v:α) (vs:List α),TU (l.set o v) (o+1) vs=TU l o (v::vs)
 | [],o,v,vs=>by simp[TU]
 |c::cs,0,v,vs=>by simp[TU]
 |c::cs,o+1,v,vs=>by simp[TU,uF cs o v vs]
theorem sD{α:Type}:∀(l:List α) (o:Nat),TU l o []=l
 | [],_=>by simp[TU]
 |c::cs,0=>by simp[TU]
 |c::cs,o+1=>by simp[TU,sD cs o]
theorem aD(off:Nat):∀(vs:List Value) (k:Nat) (cells:Array Value),
  (List.foldl (λ(cs:Array Value) (p:Value×Nat)=>cs.setIfInBounds (off+p.2) p.1) cells (vs.zipIdx k)).toList=TU cells.toList (off+k) vs
 | [],k,cells=>by simp[sD]
 |v::vs,k,cells=>by
  rw[List.zipIdx_cons,List.foldl_cons,aD off vs (k+1)];simp only[Array.toList_setIfInBounds];rw[show off+(k+1)=off+k+1 by omega,uF]
theorem xH(cells:Array Value)(off:Nat)(v:Value):
  (v.cells.zipIdx.foldl (λcs (c,j)=>cs.setIfInBounds (off+j) c) cells).toList=TU cells.toList off v.cells.toList:=by
 rw[<- Array.foldl_toList,Array.toList_zipIdx];exact aD off v.cells.toList 0 cells
theorem fV{α β:Type}(f:α->β):∀(l:List α) (o:Nat) (vs:List α),(TU l o vs).map f=TU (l.map f) o (vs.map f)
 | [],_,_=>by simp[TU]
 |c::cs,0,[]=>by simp[TU]
 |c::cs,0,v::vs=>by simp[TU,fV f cs 0 vs]
 |c::cs,o+1,vs=>by simp[TU,fV f cs o vs]
def YM(C:Cx)(k:TK)(i:Nat):Option (Nat×Nat):=match k with
 | .str fs=>match fs[i]? with
  |some (off,t)=>match Jl C t with
   |some s=>some (off,s)
   |none=>none
  |none=>none
 | .arr _ e=>match Jl C e with
  |some s=>some (i*s,s)
  |none=>none
 |_=>none
theorem Vd{C:Cx}{k:TK}{V:Vl}{place:Nat->Option (Nat×Nat)}(hp:∀i p,YM C k i=some p->place i=some p):
  ∀ {ps:List (Nat×TV)} {cells cs:List LV},ZH C k cells ps=some cs->(∀c∈cells,c.ok V)->(∀p∈ps,p.2.ok V)->
  Instr.fill place (cells.map (·.den V)).toArray (ps.map λp=>(p.1,p.2.den V))=some (cs.map (·.den V)).toArray/\∀c∈cs,c.ok V
 | [],cells,cs,h,hc,_=>by
  simp only[ZH,Ai] at h;subst h;exact⟨rfl,hc⟩
 | (i,v)::r,cells,cs,h,hc,hv=>by
  unfold ZH at h;split at h
  ·cases h
  rename_i off s C2;have akp:YM C k i=some (off,s):=C2;cases hb:(Nat.beq v.cells.length s&&Nat.ble (off+s) cells.length) with
  |false=>rw[hb] at h;simp at h
  | true=>
   rw[hb] at h;simp only[cond_true] at h;simp only[Bl] at hb;have h1:=CR hb.1;have h2:=MQ hb.2;have hvo:=hv _ Kh;have FA:=TV.oT hvo;have eA:(v.den V).cells.size=s:=by
    rw[<- Array.length_toList,FA,Tg];exact h1
   have Z1:∀c∈TU cells off v.cells,c.ok V:=by
    intro c i6;obtain⟨j,hj,rfl⟩:=dX i6;rw[Nk] at hj;have hg:=QD cells off v.cells j hj;rw[JC (by rw[Nk];exact hj)] at hg;split at hg
    ·exact TV.rK hvo _ (Le hg.symm)
    ·exact hc _ (Le hg.symm)
   obtain⟨h3,h4⟩:=Vd hp h Z1 (λp hp=>hv p (Lv _ hp));refine⟨?_,h4⟩;rw[NE];unfold Instr.fill;simp only[hp i _ akp,eA];rw[if_neg (by simp;omega)];rw[<- h3]
   congr 1
   apply Array.ext';rw[xH,FA,fV]
section
variable{st:St}{V:Vl}{a:Act}
theorem Sv.parts(h:Sv st V a):∀ {ps:List (Nat×Operand)} {vs:List (Nat×TV)},st.parts ps=some vs->
  (ps.map λp=>(p.1,a.eval p.2))=(vs.map λp=>(p.1,p.2.den V))/\∀p∈vs,p.2.ok V/\p.2.lt st.nv (Dh st.rg)=true
 | [],vs,hp=>by
  simp only[St.parts,Ai] at hp;subst hp;exact⟨rfl,λp h=>by cases h⟩
 | (i,x)::r,vs,hp=>by
  unfold St.parts at hp;split at hp
  ·rename_i v ws hx hr;simp only[Ai] at hp;subst hp;obtain⟨h1,h2,h3⟩:=h.cN hx;obtain⟨h4,h5⟩:=h.parts hr;refine⟨by simp only[NE,h4,h1,SV.den],λp hp=>?_⟩;rcases IR.1 hp with rfl|hp
   ·exact⟨h2,h3⟩
   ·exact h5 p hp
  ·cases hp
theorem Sv.lO(h:Sv st V a){x:Operand}{n d:Nat}(hb:lO st d (some x)=some n):∃k,a.eval x= .int k n:=by
 unfold Go.Proofs.YtloibefkijfdlaaGreatDoor.lO at hb;simp only at hb;split at hb
 ·rename_i k m hx;simp only[Ai] at hb;subst hb;exact⟨k,by rw[h.den hx];rfl⟩
 ·cases hb
theorem CW(P:Program)(w:World){k:IntKind}{n y:Nat}(h:n<=y)(code:BoundsCode):(Instr.sliceBound (.int k n) y code).run P w= .ok n w:=by
 simp only[Instr.sliceBound,asIntOf,IY,KT,Hm];rw[if_pos (by omega)];rfl
theorem Sv.bounds(h:Sv st V a)(P:Program){lo hi:Option Operand}{n c l r:Nat}(isS:Bool)(Q1:Go.Proofs.YtloibefkijfdlaaGreatDoor.lO st 0 lo=some l)(Jx:Go.Proofs.YtloibefkijfdlaaGreatDoor.lO st n hi=some r)(hlr:l<=r)(hrc:r<=c)(w:World):
  (Instr.sliceBounds isS n c (lo.map a.eval) (hi.map a.eval) none).run P w= .ok (l,r,c) w:=by
 cases lo with
 | none=>
  simp only[Go.Proofs.YtloibefkijfdlaaGreatDoor.lO,Ai] at Q1;subst Q1;cases hi with
  |none=>
   simp only[Go.Proofs.YtloibefkijfdlaaGreatDoor.lO,Ai] at Jx;subst Jx;simp[Instr.sliceBounds]
  |some x=>
   obtain⟨k,hx⟩:=h.lO Jx;simp[Instr.sliceBounds,hx,CW P w hrc]
 | some y=>
  obtain⟨k',hy⟩:=h.lO Q1;cases hi with
  |none=>
   simp only[Go.Proofs.YtloibefkijfdlaaGreatDoor.lO,Ai] at Jx;subst Jx;simp[Instr.sliceBounds,hy,CW P w hlr]
  |some x=>
   obtain⟨k,hx⟩:=h.lO Jx;simp[Instr.sliceBounds,hx,hy,CW P w hrc,CW P w hlr]
theorem Sv.Ln(h:Sv st V a)(P:Program){lo:Option Operand}{x z:Operand}{n c r m:Nat}(Q1:Go.Proofs.YtloibefkijfdlaaGreatDoor.lO st 0 lo=some 0)(Jx:Go.Proofs.YtloibefkijfdlaaGreatDoor.lO st 0 (some x)=some r)(hmx:Go.Proofs.YtloibefkijfdlaaGreatDoor.lO st 0 (some z)=some m)(hrm:r<=m)(hmc:m<=c)(w:World):
  (Instr.sliceBounds true n c (lo.map a.eval) (some (a.eval x)) (some (a.eval z))).run P w= .ok (0,r,m) w:=by
 obtain⟨k,hx⟩:=h.lO Jx;obtain⟨k2,hz⟩:=h.lO hmx;cases lo with
 |none=>simp[Instr.sliceBounds,hx,hz,CW P w hrm,CW P w hmc]
 |some y=>
  obtain⟨k',hy⟩:=h.lO Q1;have h00:=CW P w (k:=k') (Nat.zero_le r) .slice3C;simp only[Int.ofNat_zero] at h00;simp[Instr.sliceBounds,hx,hy,hz,CW P w hrm,CW P w hmc,h00]
end
theorem PE{j:Nat}{ks:List IntKind}{i:Nat}{c:LV}(h:(I8 j ks)[i]? = some c):∃k,ks[i]? = some k/\c=LV.int k (.v j i):=by
 unfold I8 at h;simp only[Ng,Vu] at h;obtain⟨⟨k,i'⟩,h1,h2⟩:=h;rw[List.getElem?_zipIdx] at h1;simp only[Vu,Prod.mk.injEq] at h1;obtain⟨k',h3,rfl,rfl⟩:=h1;exact⟨k',h3,by rw[<- h2,Km]⟩
theorem Tw{P:Program}{t:Nat}{ms:Array (String×TypeId)}(hu:∀w,(underlying t).run P w= .ok (.interface ms) w)(w:World):
  (Op.equal t .nilIface .nilIface).run P w= .ok true w:=by
 have h:∀d,(Op.equalIn (d+1) t .nilIface .nilIface).run P w= .ok true w:=λd=>by
  unfold Op.equalIn;simp only[IY,hu,Hm,KT]
 exact h 9999
theorem Rs{P:Program}{t:Nat}{ms:Array (String×TypeId)}(hu:∀w,(underlying t).run P w= .ok (.interface ms) w)(t':Nat)(u:Value)(w:World):
  (Op.equal t (.iface t' u) .nilIface).run P w= .ok false w:=by
 have h:∀d,(Op.equalIn (d+1) t (.iface t' u) .nilIface).run P w= .ok false w:=λd=>by
  unfold Op.equalIn;simp only[IY,hu,Hm,KT]
 exact h 9999
theorem Vy{P:Program}{t:Nat}{e:TypeId}(hu:∀w,(underlying t).run P w= .ok (.slice e) w)(p:Addr)(n c:Nat)(w:World):
  (Op.equal t (.slice (some p) n c) (.slice none 0 0)).run P w= .ok false w:=by
 have h:∀d,(Op.equalIn (d+1) t (.slice (some p) n c) (.slice none 0 0)).run P w= .ok false w:=λd=>by
  unfold Op.equalIn;simp only[IY,hu,Hm,KT]
 exact h 9999
section
variable{P:Program}{C:Cx}(ht:AER P C.tt){st:St}{V:Vl}{a:Act}(hT:Sv st V a)
include ht hT
set_option maxHeartbeats 1600000 in
theorem jh {o:Oper} {nb:Nat} {r:NY} (h:QE C o nb st=some r) (hd:Ix C.T V r.ds) (ho:ObH C.T V r.ob):
  (∀w,(execOp a.eval o).run P w= .ok (.value (r.v.den V)) w)/\r.v.ok V/\r.ln= []:=by
 obtain⟨dst,op,type,pos,after,guard⟩:=o;cases op
 case call c=>
  obtain⟨callee,args,iv⟩:=c;cases callee with
  |value f=>simp only[QE] at h;cases h
  |invoke r m=>simp only[QE] at h;cases h
  | builtin b=>
   cases b<;>simp only[QE] at h<;>first|(cases h;done)|skip
   split at h
   ·rename_i t x SZ kB;have fg:args[0]? = some x:=kB;have hlen:∀(v:Value),a.eval x=v->∀(w:World),(execOp a.eval ⟨dst,.call ⟨.builtin .len,args,iv⟩,type,pos,after,guard⟩).run P w=
      ((Builtin.len_ iv type (args.map a.eval)).run P w).andThen λr w'=>.ok (.value r) w':=by
     intro v hv w;simp only[execOp,resolve,IY,KT,Hm,invoke,builtin]
    clear fg;have iS:(args.map a.eval)[0]? = some (a.eval x):=by
     rw[Array.getElem?_map,kB];rfl
    split at h
    ·rename_i e sz rL ag zz l o' n c d hl hx;cases hb:Nat.ble n 65536 with
     |false=>rw[hb] at h;simp at h
     |true=>
     rw[hb] at h;have hn:=MQ hb;simp only[cond_true,Ai] at h;subst h;have h1:=hT.den hx;obtain⟨desc,hu,hk⟩:=TD.bj (ht _ _ hl) rfl;have:=TK.eE hk;subst this;refine⟨λw=>?_,?_,rfl⟩
     ·rw[hlen _ rfl w];simp only[Builtin.len_,SZ,iS,h1,SV.aE,TV.aq,LV.cI,IY,hu,Hm,KT,goInt];rfl
     ·simp[NY.val,IB,SV.ok,TV.ok,LV.ok,X.be,IU,IntKind.min,IntKind.max,IntKind.bits,IntKind.signed];omega
    ·rename_i e sz rL ag zz hl hx;simp only[Ai] at h;subst h;have h1:=hT.den hx;obtain⟨desc,hu,hk⟩:=TD.bj (ht _ _ hl) rfl;have:=TK.eE hk;subst this;refine⟨λw=>?_,?_,rfl⟩
     ·rw[hlen _ rfl w];simp only[Builtin.len_,SZ,iS,h1,SV.aE,TV.aq,LV.ua,IY,hu,Hm,KT,goInt];rfl
     ·simp[NY.val,IB,SV.ok,TV.ok,LV.ok,X.be,IU,IntKind.min,IntKind.max,IntKind.bits,IntKind.signed]
    ·rename_i e sz rL ag zz l1 o1 s1 c1 d1 a1 hl hx;simp only[Ai] at h;subst h;have h1:=hT.den hx;obtain⟨desc,hu,hk⟩:=TD.bj (ht _ _ hl) rfl;have:=TK.eE hk;subst this;refine⟨λw=>?_,?_,rfl⟩
     ·rw[hlen _ rfl w];simp only[Builtin.len_,SZ,iS,h1,SV.aE,TV.aq,LV.den,IY,hu,Hm,KT,goInt];rfl
     ·simp[NY.val,IB,SV.ok,TV.ok,LV.ok,X.be,IU,IntKind.min,IntKind.max,IntKind.bits,IntKind.signed]
    ·rename_i n e sz rL ag zz v hl hx;cases hb:Nat.ble n 65536 with
     |false=>rw[hb] at h;simp at h
     |true=>
     rw[hb] at h;have hn:=MQ hb;simp only[cond_true,Ai] at h;subst h;have h1:=hT.den hx;obtain⟨desc,hu,hk⟩:=TD.bj (ht _ _ hl) rfl;have:=TK.j7 hk;subst this;refine⟨λw=>?_,?_,rfl⟩
     ·rw[hlen _ rfl w];simp only[Builtin.len_,SZ,iS,IY,hu,Hm,KT,goInt];rfl
     ·simp[NY.val,IB,SV.ok,TV.ok,LV.ok,X.be,IU,IntKind.min,IntKind.max,IntKind.bits,IntKind.signed];omega
    ·cases h
   ·cases h
 all_goals simp only[QE] at h
 case move x=>
  split at h
  ·rename_i v hv;simp only[Ai] at h;subst h;obtain⟨h1,h2,h3⟩:=hT.cN hv;exact⟨λw=>by simp[execOp,h1,NY.val],h2,rfl⟩
  ·cases h
 case assign x=>
  split at h
  ·rename_i v hv;simp only[Ai] at h;subst h;obtain⟨h1,h2,h3⟩:=hT.cN hv;exact⟨λw=>by simp[execOp,h1,NY.val],h2,rfl⟩
  ·cases h
 case pick c x y=>
  split at h
  ·rename_i n va vb hc hx hy;simp only[Ai] at h;subst h;obtain⟨h1,h2,-⟩:=hT.cN hx;obtain⟨h3,h4,-⟩:=hT.cN hy;have h5:=hT.den hc;cases hn:Iw n 0 with
   |true=>
    have:=Mr hn;subst this;exact⟨λw=>by simp[execOp,h5,h3,NY.val,SV.aE,TV.aq,LV.cg,X.be,asBool],h4,rfl⟩
   |false=>
    have:=O9 hn;exact⟨λw=>by simp[execOp,h5,h1,NY.val,SV.aE,TV.aq,LV.cg,X.be,asBool,this],h2,rfl⟩
  ·rename_i n va hc hx hy;obtain⟨h1,h2,-⟩:=hT.cN hx;have h5:=hT.den hc;cases hn:Iw n 0 with
   |true=>rw[hn] at h;simp at h
   |false=>
    rw[hn] at h;simp only[cond_false,Ai] at h;subst h;have:=O9 hn;exact⟨λw=>by simp[execOp,h5,h1,NY.val,SV.aE,TV.aq,LV.cg,X.be,asBool,this],h2,rfl⟩
  ·rename_i n vb hc hx hy;obtain⟨h3,h4,-⟩:=hT.cN hy;have h5:=hT.den hc;cases hn:Iw n 0 with
   |false=>rw[hn] at h;simp at h
   |true=>
    rw[hn] at h;simp only[cond_true,Ai] at h;subst h;have:=Mr hn;subst this;exact⟨λw=>by simp[execOp,h5,h3,NY.val,SV.aE,TV.aq,LV.cg,X.be,asBool],h4,rfl⟩
  ·rename_i xc xa xb cq hc hx hy;simp only[Ai] at h;subst h;have h1:=hT.den hc;have h2:=hT.den hx;have h3:=hT.den hy;have h4:=hd _ (NB.2 rfl);simp only[GG.den,Na.den,NE,Uf,IZ.gS] at h4;refine⟨λw=>?_,trivial,rfl⟩;simp only[Ru,X7,d1] at h4;simp only[execOp,h1,h2,h3,IB,SV.aE,TV.aq,LV.cg,asBool,IY,KT,Hm];have h5:X.den V.ρ (.v nb 0)=if(X.den V.ρ xc != 0)=true then X.den V.ρ xa else X.den V.ρ xb:=by
    show(V.ρ nb).getD 0 0=_;rw[h4];rfl
   rw[h5];cases (X.den V.ρ xc != 0)<;>rfl
  ·cases h
 case build t ps=>
  split at h
  ·rename_i d vs qt oE;cases hf:Sq C d.k with
   |false=>rw[hf] at h;simp at h
   | true =>
    rw[hf] at h;simp only[cond_true] at h;split at h
    ·rename_i cs cS;simp only[Ai] at h;subst h;obtain⟨z,hz,hzl⟩:=TD.jj (ht t d qt) default;have hz':∀w,(zeroValue t).run P w= .ok z w:=λw=>by
      obtain⟨z',h1,-⟩:=TD.jj (ht t d qt) w;obtain⟨desc,i,zz,g1,g2,g3,g4,g5,g6,g7,-⟩:=TD.jx (ht t d qt);have e1:∀w,(zeroValue t).run P w= .ok zz w:=λw=>by simp[zeroValue,typeInfo,g2,g6]
      have:=(e1 default).symm.trans hz;simp only[Result.ok.injEq,and_true] at this;rw[e1 w,this]
     obtain⟨zE,xl⟩:=TY hzl V st.nv (Dh st.rg);obtain⟨AW,ot⟩:=hT.parts oE;have CD:(ps.map λ(p:Nat×Operand)=>(p.1,a.eval p.2)).toList=vs.map λp=>(p.1,p.2.den V):=by
      rw[Array.toList_map];exact AW
     obtain⟨desc,hu,hk⟩:=TD.bj (ht t d qt) rfl;have hzc:z.cells=(d.zero.map (·.den V)).toArray:=by
      apply Array.ext';rw[zE]
     cases hdk:d.k with
     | arr n e=>
      rw[hdk] at hk cS;have:=TK.j7 hk;subst this;have eA:∃s,Jl C e=some s\/vs= []:=by
       cases hs:Jl C e with
       |some s=>exact⟨s,.inl rfl⟩
       |none=>
        cases vs with
        |nil=>exact⟨0,.inr rfl⟩
        |cons p r=>simp only[ZH,hs] at cS;cases cS
      cases hs:Jl C e with
      |none=>
       exfalso;rw[hdk] at hf;simp[Sq,hs] at hf
      | some s=>
       have MA:=Hq ht hs;obtain⟨h3,h4⟩:=Vd (C:=C) (k:=.arr n e) (V:=V) (place:=λi=>some (i*s,s)) (λi p hp=>by
        simp only[YM,hs] at hp;exact hp) cS (λc hc=>(xl c hc).1) (λp hp=>(ot p hp).1)
       refine⟨λw=>?_,h4,rfl⟩;simp only[execOp,Instr.build,IY,hz',Hm,hu,MA,hzc];rw[show(ps.map λx=>match x with|(i,x)=>(i,a.eval x)).toList=vs.map λp=>(p.1,p.2.den V) from CD];simp only[h3,KT,Hm];rfl
     | str fs=>
      rw[hdk] at hk cS hf;obtain⟨fields,rfl,rfl⟩:=TK.ur hk;simp only[Sq,Mx,UT,forall_exists_index,and_imp] at hf;have hm:∀(l:List Field),(∀f∈l,(Jl C f.type).isSome=true)->∀w,(l.mapM λf=>(do pure (f.offset, <- sizeOf f.type):Sem (Nat×Nat))).run P w=
        .ok (l.map λf=>(f.offset,(Jl C f.type).getD 0)) w:=by
       intro l
       induction l with
       |nil=>intro _ w;rfl
       |cons f r ih=>
        intro hl w;obtain⟨s,hs⟩:=Option.isSome_iff_exists.1 (hl f Kh);rw[List.mapM_cons];simp only[IY,Hq ht hs,Hm,KT,ih (λg hg=>hl g (Lv _ hg)),NE,hs,Option.getD_some]
      have KK:∀f∈fields.toList,(Jl C f.type).isSome=true:=λf hf'=>hf _ f hf' rfl
      obtain⟨h3,h4⟩:=Vd (C:=C) (k:=.str (fields.toList.map λf=>(f.offset,f.type))) (V:=V)
       (place:=λi=>((fields.toList.map λf=>(f.offset,(Jl C f.type).getD 0)).toArray)[i]?) (λi p hp=>by
        simp only[YM,Ng] at hp;cases hfi:fields.toList[i]? with
        |none=>simp[hfi] at hp
        | some f=>
         simp only[hfi,UA] at hp;split at hp
         ·rename_i s hs;simp only[Ai] at hp;subst hp;rw[List.getElem?_toArray,Ng,hfi];simp[hs]
         ·cases hp) cS (λc hc=>(xl c hc).1) (λp hp=>(ot p hp).1)
      refine⟨λw=>?_,h4,rfl⟩;have hmA:(fields.mapM λf=>(do pure (f.offset, <- sizeOf f.type):Sem (Nat×Nat))).run P w= .ok ((fields.toList.map λf=>(f.offset,(Jl C f.type).getD 0)).toArray) w:=by
       rw[Array.mapM_eq_mapM_toList];simp only[Sem.run_map,hm fields.toList KK w,Hm]
      simp only[execOp,Instr.build,IY,hz',Hm,hu,hmA,hzc];rw[show(ps.map λx=>match x with|(i,x)=>(i,a.eval x)).toList=vs.map λp=>(p.1,p.2.den V) from CD];simp only[h3,KT,Hm];rfl
     |_=>
      rw[hdk] at hf;simp[Sq] at hf
    ·cases h
  ·cases h
 case nilCheck x=>
  split at h
  ·rename_i l o' hx;simp only[Ai] at h;subst h;obtain⟨h1,h2,-⟩:=hT.cN hx;exact⟨λw=>by simp[execOp,h1,SV.aE,TV.aq,LV.cx,NY.val,IB],h2,rfl⟩
  ·rename_i l o' n s y hx;simp only[Ai] at h;subst h;obtain⟨h1,h2,-⟩:=hT.cN hx;exact⟨λw=>by simp[execOp,h1,SV.aE,TV.aq,LV.lB,NY.val,IB],h2,rfl⟩
  ·cases h
 case binOp op xt x y yt=>
  split at h
  ·rename_i k x' k' y' hx hy;obtain⟨h1,h2,-⟩:=hT.cN hx;obtain⟨h3,h4,-⟩:=hT.cN hy;have key:=λw=>Tc (P:=P) h h2 h4 hd ho xt w
   refine⟨λw=>?_,(key default).2.1,(key default).2.2⟩;simp only[execOp,h1,h3,SV.aE,TV.aq,LV.cQ,IY,ky,Hm,(key w).1,KT]
  ·rename_i hx hy;split at h
   ·rename_i sz rL ag zz n9 aeQ;have h1:=hT.den hx;have h3:=hT.den hy;obtain⟨desc,hu,hk⟩:=TD.bj (ht _ _ n9) rfl;obtain⟨ms,rfl⟩:=TK.tx hk;have hg:∀op w,(eqGuard op xt x y .nilIface .nilIface).run P w= .ok () w:=by
     intro op w;unfold eqGuard;split<;>first|rfl|(cases x<;>cases y<;>first|rfl|(simp at aeQ))
    split at h
    ·simp only[Ai] at h;subst h;refine⟨λw=>?_,trivial,rfl⟩;simp[execOp,h1,h3,SV.aE,TV.aq,LV.cg,LV.mS,hg,binOp,Tw hu,NY.val,IB,X.be]
    ·simp only[Ai] at h;subst h;refine⟨λw=>?_,trivial,rfl⟩;simp[execOp,h1,h3,SV.aE,TV.aq,LV.cg,LV.mS,hg,binOp,Tw hu,NY.val,IB,X.be]
    ·cases h
   ·cases h
  ·rename_i i hx hy;split at h
   ·rename_i sz rL ag zz n9;obtain⟨h1,h2,-⟩:=hT.cN hx;have h3:=hT.den hy;obtain⟨t',u,hσ⟩:=h2;obtain⟨desc,hu,hk⟩:=TD.bj (ht _ _ n9) rfl;obtain⟨ms,rfl⟩:=TK.tx hk;have hg:∀op w,(eqGuard op xt x y (.iface t' u) .nilIface).run P w= .ok () w:=by
     intro op w;unfold eqGuard;split<;>rfl
    split at h
    ·simp only[Ai] at h;subst h;refine⟨λw=>?_,trivial,rfl⟩;simp[execOp,h1,h3,SV.aE,TV.aq,LV.cg,LV.mS,LV.Bs,hσ,hg,binOp,Rs hu,NY.val,IB,X.be]
    ·simp only[Ai] at h;subst h;refine⟨λw=>?_,trivial,rfl⟩;simp[execOp,h1,h3,SV.aE,TV.aq,LV.cg,LV.mS,LV.Bs,hσ,hg,binOp,Rs hu,NY.val,IB,X.be]
    ·cases h
   ·cases h
  ·rename_i l o n c d hx hy;split at h
   ·rename_i e sz rL ag zz n9;obtain⟨h1,h2,-⟩:=hT.cN hx;have h3:=hT.den hy;obtain⟨desc,hu,hk⟩:=TD.bj (ht _ _ n9) rfl;have:=TK.eE hk;subst this;have hg:∀op (p:Addr) (m k:Nat) w,(eqGuard op xt x y (.slice (some p) m k) (.slice none 0 0)).run P w= .ok () w:=by
     intro op p m k w;unfold eqGuard;split<;>rfl
    split at h
    ·simp only[Ai] at h;subst h;refine⟨λw=>?_,trivial,rfl⟩;simp[execOp,h1,h3,SV.aE,TV.aq,LV.cg,LV.cI,LV.ua,hg,binOp,Vy hu,NY.val,IB,X.be]
    ·simp only[Ai] at h;subst h;refine⟨λw=>?_,trivial,rfl⟩;simp[execOp,h1,h3,SV.aE,TV.aq,LV.cg,LV.cI,LV.ua,hg,binOp,Vy hu,NY.val,IB,X.be]
    ·cases h
   ·cases h
  ·cases h
 case unOp op t x=>
  split at h
  ·rename_i k x' hx;obtain⟨h1,h2,-⟩:=hT.cN hx;split at h
   ·have td:IU k (X.den V.ρ (.lit 0)):=by
     cases k<;>simp[X.be,IU,IntKind.min,IntKind.max,IntKind.bits,IntKind.signed]
    have key:=λw=>Tc (P:=P) h td h2 hd ho t w
    refine⟨λw=>?_,(key default).2.1,(key default).2.2⟩;have h4:=(key w).1.symm.trans (QS P .sub t k 0 (x'.den V.ρ) w rfl rfl (by simp));injection h4 with h5
    have oY:a.eval x= .int k (x'.den V.ρ):=h1;rw[h5];simp only[execOp,oY,Op.unary,Op.intArith,IY,KT,Hm];rfl
   ·cases hu:Ob k with
    | true=>
     rw[hu] at h;simp only[cond_true] at h;have td:IU k (X.den V.ρ (.lit k.max)):=by
      cases k<;>simp[X.be,IU,IntKind.min,IntKind.max,IntKind.bits,IntKind.signed]
     have key:=λw=>Tc (P:=P) h td h2 hd ho t w
     refine⟨λw=>?_,(key default).2.1,(key default).2.2⟩;have h4:=(key w).1.symm.trans (QS P .xor t k k.max (x'.den V.ρ) w rfl rfl (by simp));have HC:k.signed=false:=by cases k<;>first|rfl|(simp[Ob] at hu)
     injection h4 with h5
     have oY:a.eval x= .int k (x'.den V.ρ):=h1;rw[h5];simp only[execOp,oY,Op.unary,HC,RD,if_false];rfl
    | false=>
     rw[hu] at h;simp only[cond_false] at h;have HC:k.signed=true:=by cases k<;>first|rfl|(simp[Ob] at hu)
     have td:IU k (X.den V.ρ (.lit (-1))):=by
      cases k<;>simp[IntKind.signed] at HC<;>simp[X.be,IU,IntKind.min,IntKind.max,IntKind.bits,IntKind.signed]
     have key:=λw=>Tc (P:=P) h td h2 hd ho t w
     refine⟨λw=>?_,(key default).2.1,(key default).2.2⟩;have h4:=(key w).1.symm.trans (QS P .xor t k (-1) (x'.den V.ρ) w rfl rfl (by simp));injection h4 with h5
     have oY:a.eval x= .int k (x'.den V.ρ):=h1;rw[h5];simp only[execOp,oY,Op.unary,HC,if_true];rfl
   ·cases h
  ·rename_i n hx;have h1:=hT.den hx;split at h
   ·simp only[Ai] at h;subst h;refine⟨λw=>?_,trivial,rfl⟩;cases hn:Iw n 0 with
    |true=>have:=Mr hn;subst this;simp[execOp,h1,SV.aE,TV.aq,LV.cg,Op.unary,NY.val,IB,X.be,XH]
    |false=>have:=O9 hn;simp[execOp,h1,SV.aE,TV.aq,LV.cg,Op.unary,NY.val,IB,X.be,XH,this]
   ·cases h
  ·rename_i x' cq hx;have h1:=hT.den hx;split at h
   ·simp only[Ai] at h;subst h;have h4:=hd _ (NB.2 rfl);simp only[GG.den,Na.den,NE,Uf,IZ.gS,Ru,d1] at h4;refine⟨λw=>?_,trivial,rfl⟩;simp only[execOp,h1,IB,SV.aE,TV.aq,LV.cg,Op.unary,IY,KT,Hm];have h5:X.den V.ρ (.v nb 0)=XH (X.den V.ρ x' == 0):=by
     show(V.ρ nb).getD 0 0=_;rw[h4];rfl
    rw[h5,dW];simp[bne]
   ·cases h
  ·cases h
 case convert sr dt x=>
  split at h
  ·rename_i d1' k sz rL ag zz k' x' hl1 Of hx;obtain⟨h1,h2,-⟩:=hT.cN hx;obtain⟨ds1,hu1,-⟩:=TD.bj (ht _ _ hl1) rfl;obtain⟨ds2,vj,oX⟩:=TD.bj (ht _ _ Of) rfl;have:=TK.Pc oX;subst this;have cW:∀w,(execOp a.eval ⟨dst,.convert sr dt x,type,pos,after,guard⟩).run P w= .ok (.value (.int k (k.wrap (x'.den V.ρ)))) w:=λw=>by
    simp[execOp,h1,SV.aE,TV.aq,LV.cQ,convert,hu1,vj,Conv.intToInt]
   cases AM:pu k k' with
   | true=>
    rw[AM] at h;simp only[cond_true,Ai] at h;subst h;have:=NK AM;subst this;have hw:k.wrap (x'.den V.ρ)=x'.den V.ρ:=by
     have h3:IU k (x'.den V.ρ):=h2;revert h3;cases k<;>simp only[IU,IntKind.wrap,IntKind.min,IntKind.max,IntKind.bits,IntKind.signed]<;>simp<;>omega
    exact⟨λw=>by rw[cW w,hw];rfl,h2,rfl⟩
   | false=>
    rw[AM] at h;simp only[cond_false] at h;split at h
    ·simp only[Ai] at h;subst h;exact⟨λw=>by rw[cW w];rfl,Uv _ _,rfl⟩
    ·simp only[Ai] at h;subst h;have h4:=hd _ (NB.2 rfl);simp only[GG.den,Na.den,NE,Uf,IZ.gS,Ru,d1] at h4;have h5:X.den V.ρ (.v nb 0)=k.wrap (x'.den V.ρ):=by
      show(V.ρ nb).getD 0 0=_;rw[h4];rfl
     refine⟨λw=>by rw[cW w];simp only[IB,SV.aE,TV.aq,LV.cQ,h5],?_,rfl⟩;simp only[IB,SV.ok,TV.ok,LV.ok,h5];exact Uv _ _
  ·cases h
 case fieldAddr s x f=>
  split at h
  ·rename_i fs sz rL ag zz l o' hl hx;obtain⟨h1,-, -⟩:=hT.cN hx;obtain⟨desc,hu,hk⟩:=TD.bj (ht _ _ hl) rfl;obtain⟨fields,rfl,rfl⟩:=TK.ur hk;split at h
   ·rename_i off t hf;split at h
    ·rename_i n hs;cases hn:Nat.beq n 0 with
     |true=>rw[hn] at h;simp at h
     |false=>
      rw[hn] at h;simp only[cond_false,Ai] at h;subst h;rw[Ng,Vu] at hf;obtain⟨fd,Ek,he⟩:=hf;simp only[Prod.mk.injEq] at he;obtain⟨rfl,rfl⟩:=he;have aaQ:fields[f]? = some fd:=by simpa using Ek
      have Lz:n≠0:=λe=>by subst e;simp at hn
      refine⟨λw=>?_,trivial,rfl⟩;simp only[execOp,h1,SV.aE,TV.aq,LV.cx,Instr.fieldAt,IY,hu,Hm,aaQ,Instr.sureAddr,KT,fieldPlace,Hq ht hs,Lz,if_false,Cu];simp only[NY.val,IB,SV.aE,TV.aq,LV.cx,Ve]
    ·cases h
   ·cases h
  ·cases h
 case field t x f=>
  split at h
  ·rename_i fs sz rL ag zz cs hl hx;obtain⟨h1,h2,-⟩:=hT.cN hx;obtain⟨desc,hu,hk⟩:=TD.bj (ht _ _ hl) rfl;obtain⟨fields,rfl,rfl⟩:=TK.ur hk;split at h
   ·rename_i off t' hf;split at h
    ·rename_i v hp;simp only[Ai] at h;subst h;rw[Ng,Vu] at hf;obtain⟨fd,Ek,he⟩:=hf;simp only[Prod.mk.injEq] at he;obtain⟨rfl,rfl⟩:=he;have aaQ:fields[f]? = some fd:=by simpa using Ek
     have eN:=λw=>kN (P:=P) ht hp h2 w
     refine⟨λw=>?_,(eN default).2,rfl⟩;simp only[execOp,h1,SV.aE,TV.r7,Instr.field,IY,hu,Hm,aaQ,asAgg,KT,(eN w).1];rfl
    ·cases h
   ·cases h
  ·cases h
 case extract x i=>
  split at h
  ·rename_i vs hx;obtain⟨h1,h2,-⟩:=hT.cN hx;split at h
   ·rename_i v hv;simp only[Ai] at h;subst h;refine⟨λw=>?_,h2 v (Le hv),rfl⟩;simp[execOp,h1,SV.ux,Instr.extract,hv,NY.val,SV.aE]
   ·cases h
  ·cases h
 case indexAddr t x ix=>
  split at h
  ·rename_i n s l o' k i he hx hi;obtain⟨h1,-, -⟩:=hT.cN hx;obtain⟨h2,h2o,-⟩:=hT.cN hi;unfold Ls at he;split at he
   ·rename_i n' e sz rL ag zz hl;split at he
    ·rename_i s' hs;simp only[Ai,Prod.mk.injEq] at he;obtain⟨rfl,rfl⟩:=he;obtain⟨desc,hu,hk⟩:=TD.bj (ht _ _ hl) rfl;have:=TK.j7 hk;subst this;have MA:=Hq ht hs;have cW:∀j:Nat,i.den V.ρ=(j:Int)->j<n'->∀w,(execOp a.eval ⟨dst,.indexAddr t x ix,type,pos,after,guard⟩).run P w=
       .ok (.value (.pointer (some ⟨(V.ν l).1,(V.ν l).2+o'+j*s',none⟩))) w:=by
      intro j hj K1 w;simp only[execOp,h1,h2,SV.aE,TV.aq,LV.cQ,LV.cx,Instr.indexAt,asIntOf,IY,KT,Hm,hu,Instr.sureAddr,hj];rw[if_pos (by omega)];simp only[IY,MA,Hm,KT,SN,Cu]
     split at h
     ·rename_i j;cases hb:Nat.blt j n' with
      |false=>rw[hb] at h;simp at h
      |true=>
       rw[hb] at h;simp only[cond_true,Ai] at h;subst h;exact⟨λw=>by rw[cW j rfl (D7 hb) w];simp only[NY.val,IB,SV.aE,TV.aq,LV.cx,Ve],trivial,rfl⟩
     ·cases h
     ·simp only[Ai] at h;subst h;have hr:=ho _ (NB.2 rfl);simp only[JU.den] at hr;obtain⟨j,hj⟩:=YD hr.1;refine⟨λw=>?_,hr,rfl⟩;rw[cW j hj (by omega) w];simp only[IB,SV.aE,TV.aq,LV.lB,hj,SN]
    ·cases he
   ·split at he<;>simp at he
   ·cases he
  ·rename_i s l o' n c d k i he hx hi;obtain⟨h1,-, -⟩:=hT.cN hx;obtain⟨h2,h2o,-⟩:=hT.cN hi;unfold Ls at he;split at he
   ·split at he<;>simp at he
   ·rename_i e sz rL ag zz hl;split at he
    ·rename_i s' hs;simp only[Ai,Prod.mk.injEq,true_and] at he;subst he;obtain⟨desc,hu,hk⟩:=TD.bj (ht _ _ hl) rfl;have:=TK.eE hk;subst this;have MA:=Hq ht hs;have cW:∀j:Nat,i.den V.ρ=(j:Int)->j<n->∀w,(execOp a.eval ⟨dst,.indexAddr t x ix,type,pos,after,guard⟩).run P w=
       .ok (.value (.pointer (some ⟨(V.ν l).1,(V.ν l).2+o'+j*s',none⟩))) w:=by
      intro j hj K1 w;simp only[execOp,h1,h2,SV.aE,TV.aq,LV.cQ,LV.cI,Instr.indexAt,asIntOf,IY,KT,Hm,hu,hj];rw[if_pos (by omega)];simp only[IY,MA,Hm,KT,SN,Cu]
     split at h
     ·rename_i j;cases hb:Nat.blt j n with
      |false=>rw[hb] at h;simp at h
      |true=>
       rw[hb] at h;simp only[cond_true,Ai] at h;subst h;exact⟨λw=>by rw[cW j rfl (D7 hb) w];simp only[NY.val,IB,SV.aE,TV.aq,LV.cx,Ve],trivial,rfl⟩
     ·cases h
     ·simp only[Ai] at h;subst h;have hr:=ho _ (NB.2 rfl);simp only[JU.den] at hr;obtain⟨j,hj⟩:=YD hr.1;refine⟨λw=>?_,hr,rfl⟩;rw[cW j hj (by omega) w];simp only[IB,SV.aE,TV.aq,LV.lB,hj,SN]
    ·cases he
   ·cases he
  ·rename_i s l o' n iσ k i he hx hi;obtain⟨h1,T8,-⟩:=hT.cN hx;obtain⟨m,cc,hσ,hnm⟩:=T8;obtain⟨h2,h2o,-⟩:=hT.cN hi;unfold Ls at he;split at he
   ·split at he<;>simp at he
   ·rename_i e sz rL ag zz hl;split at he
    ·rename_i s' hs;simp only[Ai,Prod.mk.injEq,true_and] at he;subst he;obtain⟨desc,hu,hk⟩:=TD.bj (ht _ _ hl) rfl;have:=TK.eE hk;subst this;have MA:=Hq ht hs;have cW:∀j:Nat,i.den V.ρ=(j:Int)->j<n->∀w,(execOp a.eval ⟨dst,.indexAddr t x ix,type,pos,after,guard⟩).run P w=
       .ok (.value (.pointer (some ⟨(V.ν l).1,(V.ν l).2+o'+j*s',none⟩))) w:=by
      intro j hj K1 w;simp only[execOp,h1,h2,SV.aE,TV.aq,LV.den,hσ,Instr.indexAt,asIntOf,IY,KT,Hm,hu,hj];rw[if_pos (by omega)];simp only[IY,MA,Hm,KT,SN,Cu]
     split at h
     ·rename_i j;cases hb:Nat.blt j n with
      |false=>rw[hb] at h;simp at h
      |true=>
       rw[hb] at h;simp only[cond_true,Ai] at h;subst h;exact⟨λw=>by rw[cW j rfl (D7 hb) w];simp only[NY.val,IB,SV.aE,TV.aq,LV.cx,Ve],trivial,rfl⟩
     ·cases h
     ·simp only[Ai] at h;subst h;have hr:=ho _ (NB.2 rfl);simp only[JU.den] at hr;obtain⟨j,hj⟩:=YD hr.1;refine⟨λw=>?_,hr,rfl⟩;rw[cW j hj (by omega) w];simp only[IB,SV.aE,TV.aq,LV.lB,hj,SN]
    ·cases he
   ·cases he
  ·cases h
 case index t x ix=>
  split at h
  ·rename_i n e sz rL ag zz cs k i hl hx hi;obtain⟨h1,T8,-⟩:=hT.cN hx;obtain⟨h2,h2o,-⟩:=hT.cN hi;obtain⟨desc,hu,hk⟩:=TD.bj (ht _ _ hl) rfl;have:=TK.j7 hk;subst this;split at h
   ·rename_i j;cases hb:Nat.blt j n with
    |false=>rw[hb] at h;simp at h
    | true=>
     rw[hb] at h;simp only[cond_true] at h;split at h
     ·rename_i s hs;split at h
      ·rename_i v hp;simp only[Ai] at h;subst h;have eN:=λw=>kN (P:=P) ht hp T8 w
       have K1:=D7 hb;refine⟨λw=>?_,(eN default).2,rfl⟩;simp only[execOp,h1,h2,SV.aE,TV.aq,TV.r7,LV.cQ,X.be,Instr.index,asIntOf,IY,KT,Hm,hu];rw[if_pos (by constructor<;>simp;omega)]
       simp only[IY,Hq ht hs,Hm];have:=(eN w).1;simp only[SN,Int.ofNat_eq_natCast] at this ⊢;rw[this];rfl
      ·cases h
     ·cases h
   ·cases h
   ·split at h
    ·rename_i k' ac1 zz' ks xs hle A5;cases hb:(gH k' ks&&Nat.beq cs.length n) with
     |false=>rw[hb] at h;simp at h
     | true=>
      rw[hb] at h;simp only[cond_true,Ai] at h;subst h;simp only[Bl] at hb;have hlen:=CR hb.2;obtain⟨g1,g2,g3⟩:=Ku A5;have hr:=ho _ (NB.2 rfl);simp only[JU.den] at hr;obtain⟨j,hj⟩:=YD hr.1;have K1:j<cs.length:=by omega
      obtain⟨kk,xx,e1,e2,e3⟩:=g3 j _ (JC K1);have AM:=TN hb.1 kk (Le e1);subst AM;have h4:=hd _ (NB.2 rfl);simp only[GG.den,Na.den,NE,Uf,IZ.gS,Hr hT.ln] at h4;have h5:X.den V.ρ (.v nb 0)=xx.den V.ρ:=by
       show(V.ρ nb).getD 0 0=_;rw[h4];simp[d1,hj,List.getD,e2]
      have hx5:=T8 _ (Le (by rw[JC K1,e3]));refine⟨λw=>?_,?_,rfl⟩
      ·simp only[execOp,h1,h2,SV.aE,TV.aq,TV.r7,LV.cQ,Instr.index,asIntOf,IY,KT,Hm,hu,hj];rw[if_pos (by omega)];simp only[IY,TD.c9 (ht _ _ hle),Hm,part,TD.rj (ht _ _ hle),RD,if_false,SN,Nat.mul_one];have hg:((cs.map λx=>LV.den V x).toArray)[j]? = some (.int kk (xx.den V.ρ)):=by
        simp[JC K1,e3,LV.den]
       rw[hg];simp only[KT,Hm,IB,SV.aE,TV.aq,LV.cQ,h5]
      ·simp only[IB,SV.ok,TV.ok,LV.ok,h5];exact hx5
    ·cases h
  ·cases h
 case slice t x lo hi mx=>
  split at h
  ·rename_i ar sz rL ag zz l o' hl hx;obtain⟨h1,-, -⟩:=hT.cN hx;obtain⟨desc,hu,hk⟩:=TD.bj (ht _ _ hl) rfl;have:=TK.MT hk;subst this;split at h
   ·rename_i n s he;unfold Ls at he;split at he
    ·rename_i n' e sz' ac1 ag' zz' pT;split at he
     ·rename_i s' hs;simp only[Ai,Prod.mk.injEq] at he;obtain⟨rfl,rfl⟩:=he;obtain⟨acd,HU,gE⟩:=TD.bj (ht _ _ pT) rfl;have:=TK.j7 gE;subst this;split at h
      ·rename_i p q hp hq;cases hb:(Nat.ble p q&&Nat.ble q n') with
       |false=>rw[hb] at h;simp at h
       | true=>
        rw[hb] at h;simp only[cond_true,Ai] at h;subst h;simp only[Bl] at hb;have hpq:=MQ hb.1;have hqn:=MQ hb.2;refine⟨λw=>?_,?_,rfl⟩
        ·simp only[execOp,h1,SV.aE,TV.aq,LV.cx,Instr.sliceAt,Instr.slice,IY,hu,Hm,asAddr,KT,HU,Option.map_none,hT.bounds P false hp hq hpq hqn,Hq ht hs];simp only[NY.val,IB,SV.aE,TV.aq,LV.cI,CX.eW,X.be,Cu];by_cases iu:n'=p
         ·subst iu;simp
         ·have:Nat.beq n' p=false:=by
           cases xj:Nat.beq n' p with
           |false=>rfl
           |true=>exact absurd (CR xj) iu
          simp[iu,this,Ve]
        ·simp only[NY.val,IB,SV.ok,TV.ok,LV.ok,CX.eW,X.be];omega
      ·cases h
     ·cases he
    ·split at he<;>simp at he
    ·cases he
   ·cases h
  ·rename_i n e sz rL ag zz l o' hl hx;obtain⟨h1,-, -⟩:=hT.cN hx;obtain⟨desc,hu,hk⟩:=TD.bj (ht _ _ hl) rfl;have:=TK.j7 hk;subst this;split at h
   ·rename_i s hs;split at h
    ·rename_i p q hp hq;cases hb:(Nat.ble p q&&Nat.ble q n) with
     |false=>rw[hb] at h;simp at h
     | true=>
      rw[hb] at h;simp only[cond_true,Ai] at h;subst h;simp only[Bl] at hb;have hpq:=MQ hb.1;have hqn:=MQ hb.2;refine⟨λw=>?_,?_,rfl⟩
      ·simp only[execOp,h1,SV.aE,TV.aq,LV.cx,Instr.sliceAt,IY,hu,Hm,Instr.sureAddr,KT,Option.map_none,hT.bounds P false hp hq hpq hqn,Hq ht hs];simp only[NY.val,IB,SV.aE,TV.aq,LV.cI,CX.eW,X.be,Cu];by_cases iu:n=p
       ·subst iu;simp
       ·have:Nat.beq n p=false:=by
         cases xj:Nat.beq n p with
         |false=>rfl
         |true=>exact absurd (CR xj) iu
        simp[iu,this,Ve]
      ·simp only[NY.val,IB,SV.ok,TV.ok,LV.ok,CX.eW,X.be];omega
    ·cases h
   ·cases h
  ·rename_i e sz rL ag zz l o' n c d hl hx;obtain⟨h1,T8,-⟩:=hT.cN hx;obtain⟨desc,hu,hk⟩:=TD.bj (ht _ _ hl) rfl;have:=TK.eE hk;subst this;split at h
   ·rename_i q0 s he;unfold Ls at he;rw[hl] at he;simp only at he;split at he
    ·rename_i s' hs;simp only[Ai,Prod.mk.injEq] at he;obtain⟨rfl,rfl⟩:=he;split at h
     ·rename_i p q hp hq;cases hb:(Nat.ble p q&&Nat.ble q n) with
      |false=>rw[hb] at h;simp at h
      | true=>
       rw[hb,cond_true] at h;simp only[Bl] at hb;have hpq:=MQ hb.1;have hqn:=MQ hb.2;have adu:((n+d:Nat):Int)<=c.den V:=T8;cases fx:(Nat.blt p n||Nat.beq p 0) with
       |false=>
       rw[fx] at h;simp only[cond_false,Ai] at h;subst h;have iu:¬p<n:=λcf=>by
        rw[show Nat.blt p n=true from vM cf] at fx;simp at fx
       have hpe:p=n:=by omega
       have hqe:q=p:=by omega
       subst hqe;refine⟨λw=>?_,?_,rfl⟩
       ·simp only[execOp,h1,SV.aE,TV.aq,LV.cI,Instr.sliceAt,Instr.slice,IY,hu,Hm,KT,Option.map_none,hT.bounds P true hp hq hpq (by omega:q<=(c.den V).toNat-d),Hq ht hs];simp only[NY.val,IB,SV.aE,TV.aq,LV.den,UA,Cu,zcy];by_cases iu:(c.den V).toNat-d=q
        ·rw[if_pos iu,if_pos iu]
        ·rw[if_neg iu,if_neg iu,Ve]
       ·simp only[NY.val,IB,SV.ok,TV.ok,LV.ok];omega
       |true=>
       rw[fx] at h;simp only[cond_true,Ai] at h;subst h;simp only[Bool.or_eq_true] at fx;have hpn:p<n\/p=0:=fx.imp D7 CR;refine⟨λw=>?_,?_,rfl⟩
       ·simp only[execOp,h1,SV.aE,TV.aq,LV.cI,Instr.sliceAt,Instr.slice,IY,hu,Hm,KT,Option.map_none,hT.bounds P true hp hq hpq (by omega:q<=(c.den V).toNat-d),Hq ht hs];simp only[NY.val,IB,SV.aE,TV.aq,LV.cI,UA,Cu,Nat.sub_sub];by_cases iu:(c.den V).toNat-d=p
        ·have hp0:p=0:=by omega
         subst hp0;simp
        ·simp[iu,Ve]
       ·simp only[NY.val,IB,SV.ok,TV.ok,LV.ok];omega
     ·cases h
    ·cases he
   ·cases h
  ·rename_i z e sz rL ag zz l o' n c d hl hx;obtain⟨h1,T8,-⟩:=hT.cN hx;have adu:((n+d:Nat):Int)<=c.den V:=T8;obtain⟨desc,hu,hk⟩:=TD.bj (ht _ _ hl) rfl;have:=TK.eE hk;subst this;split at h
   ·rename_i q0 he;obtain⟨q1,s⟩:=q0;unfold Ls at he;rw[hl] at he;simp only at he;split at he
    ·rename_i s' hs;split at h
     ·rename_i y p m hp hm hq;cases hb:(Nat.ble p m&&Nat.ble m n) with
      |false=>rw[hb] at h;simp at h
      | true=>
       rw[hb] at h;simp only[cond_true,Ai] at h;subst h;simp only[Bl] at hb;have hpm:=MQ hb.1;have hmn:=MQ hb.2;refine⟨λw=>?_,?_,rfl⟩
       ·have tI:=hT.Ln P (n:=n) hp hq hm hpm (by omega:m<=(c.den V).toNat-d) w;simp only[execOp,h1,SV.aE,TV.aq,LV.cI,Instr.sliceAt,Instr.slice,IY,hu,Hm,KT,UA,Hq ht hs];rw[tI];simp only[Hm,NY.val,IB,SV.aE,TV.aq,LV.cI,CX.eW,X.be,Cu,Nat.sub_zero,Nat.zero_mul,P5,SN,ite_self]
       ·simp only[NY.val,IB,SV.ok,TV.ok,LV.ok,CX.eW,X.be];omega
     ·cases h
    ·cases he
   ·cases h
  ·cases h
 all_goals cases h
end
end
section
open Go
def Aj(ks:List IntKind)(xs:List Int):List Value:=List.zipWith Value.int ks xs
def La(ks:List IntKind)(xs:List Int):Prop:=xs.length=ks.length/\∀(i:Nat) (k:IntKind) (x:Int),ks[i]? = some k->xs[i]? = some x->IU k x
def AQ(f:Bool)(w:World)(b:Nat×Nat)(ks:List IntKind)(xs:List Int):Prop:=
 La ks xs/\∀(i:Nat) (k:IntKind) (x:Int),ks[i]? = some k->xs[i]? = some x->CY f w b.1 (b.2+i) (.int k x)
def PM(GB:Nat)(w:World)(p:GD)(v:Value)(xs:List Int)(b:Nat×Nat):Prop:=
 match p with
 | .int k=>∃x,xs= [x]/\v= .int k x/\IU k x
 | .bool=>∃x,xs= [x]/\v= .bool (x != 0)
 | .mem ks _ wr=>v= .pointer (some ⟨b.1,b.2,none⟩)/\AQ wr w b ks xs/\(wr=true->GB<=b.1)
 | .agg ks=>La ks xs/\v= .agg (Aj ks xs).toArray
 | .sl ks _ wr=>∃c,v= .slice (some ⟨b.1,b.2,none⟩) ks.length c/\ks.length<=c/\AQ wr w b ks xs/\(wr=true->GB<=b.1)
 | .fy ks _ wr=>∃m c,v= .slice (some ⟨b.1,b.2,none⟩) m c/\ks.length<=m/\AQ wr w b ks xs/\(wr=true->GB<=b.1)
def KH(GB:Nat)(w:World):List GD->List Value->List (List Int)->List (Nat×Nat)->Prop
 | [],[],[],[]=>True
 |p::ps,v::vs,x::xs,b::bs=>PM GB w p v x b/\KH GB w ps vs xs bs
 |_,_,_,_=>False
def GD.cE:GD->Option (Nat×Bool×Nat)
 | .mem ks g wr=>some (g,wr,ks.length)
 | .sl ks g wr=>some (g,wr,ks.length)
 | .fy ks g wr=>some (g,wr,ks.length)
 |_=>none
def Rz(p q:GD)(b c:Nat×Nat):Prop:=
 match p.cE,q.cE with
 |some (g,wr,n),some (g',wr',n')=>wr=true\/wr'=true->(g=g'/\g≠0/\b=c/\n=n')\/ZQ b c n n'
 |_,_=>True
def Fv:List GD->List (Nat×Nat)->Prop
 |p::ps,b::bs=>(∀x∈ps.zip bs,Rz p x.1 b x.2)/\Fv ps bs
 |_,_=>True
def Wj(s:BH)(bs:List (Nat×Nat))(b o:Nat):Prop:=
 ∃p∈s.outs,b=(bs.getD p.1 (0,0)).1/\(bs.getD p.1 (0,0)).2<=o/\o<(bs.getD p.1 (0,0)).2+p.2.1.length
def RV(r:Pw)(ins:List (List Int))(args:List Value)(fb:List (Nat×Nat))(v:Value):Prop:=
 match r with
 | .int k f=>v= .int k (f ins)/\IU k (f ins)
 | .bool f=>v= .bool (f ins != 0)
 | .cy i=>args[i]? = some v
 | .i7 j=>∃b,fb[j]? = some b/\v= .pointer (some ⟨b.1,b.2,none⟩)
 | .agg ks f=>La ks (f ins)/\v= .agg (Aj ks (f ins)).toArray
 | .nil=>v= .pointer none
 | .eg=>v= .nilIface
 | .ya j n c=>∃b,fb[j]? = some b/\v= .slice (some ⟨b.1,b.2,none⟩) n c
 | .slP i n c=>∃b:Nat×Nat,args[i]? = some (.pointer (some ⟨b.1,b.2,none⟩))/\v= .slice (some ⟨b.1,b.2,none⟩) n c
 | .On j n=>∃b c,fb[j]? = some b/\n<=c/\v= .slice (some ⟨b.1,b.2,none⟩) n c
 | .err=>∃t u,v= .iface t u
def pg(ins:List (List Int))(args:List Value)(fb:List (Nat×Nat)):List Pw->List Value->Prop
 | [],[]=>True
 |r::rs,v::vs=>RV r ins args fb v/\pg ins args fb rs vs
 |_,_=>False
structure Yv (GC:Nat->Nat->Option Value) (s:BH) (args:List Value) (ins:List (List Int)) (bs:List (Nat×Nat)) (w:World) (fb:List (Nat×Nat)) (vs:List Value) (w':World):Prop where
 len:fb.length=s.fresh.length
 fr:∀b∈fb,w.heap.size<=b.1
 fd:∀(i j:Nat) (p q:List IntKind×PF) (b c:Nat×Nat),s.fresh[i]? = some p->s.fresh[j]? = some q->fb[i]? = some b->fb[j]? = some c->i≠j->ZQ b c p.1.length q.1.length
 an:BM w w' (Wj s bs)
 outs:∀p∈s.outs,AQ true w' (bs.getD p.1 (0,0)) p.2.1 (p.2.2 ins)
 fresh:∀(j:Nat) (p:List IntKind×PF) (b:Nat×Nat),s.fresh[j]? = some p->fb[j]? = some b->AQ true w' b p.1 (p.2 ins)
 ret:pg ins args fb s.ret vs
 gw:GW GC w'
def PZ:List Value->Value
 | [v]=>v
 |vs=>.tuple vs.toArray
def Ck(P:Program)(GB:Nat)(GC:Nat->Nat->Option Value)(f:Nat)(fe:FE):Prop:=
 ∀(ca:Bool) (args:List Value) (ins:List (List Int)) (bs:List (Nat×Nat)) (w:World),GW GC w->GB<=w.heap.size->KH GB w (fe.ca ca).params args ins bs->Fv (fe.ca ca).params bs->
  ((fe.ca ca).hp=true->(fe.ca true).pre ins)->fe.oe ins=ca->
  Calls P f args.toArray w λe w'=>∃fb vs,e= .returned (PZ vs)/\Yv GC (fe.ca ca) args ins bs w fb vs w'
def PH(s:BH):Prop:=∀ins:List (List Int),ins.map List.length=s.params.map GD.len->
 (∀p∈s.outs,(p.2.2 ins).length=p.2.1.length)/\(∀p∈s.fresh,(p.2 ins).length=p.1.length)/\(∀ks f,Pw.agg ks f∈s.ret->(f ins).length=ks.length)
theorem Mi{V:Vl}{cs:List LV}{ks φ:List IntKind}{xs:List X}(h:Jz cs=some (φ,xs))(hk:KZ ks φ=true):
  cs.map (·.den V)=Aj ks (xs.map (·.den V.ρ))/\cs.length=ks.length/\(xs.map (·.den V.ρ)).length=ks.length:=by
 have:=Gy (λ_ _=>NK) hk;subst this;obtain⟨h1,h2,h3⟩:=Ku h;refine⟨?_,h1,by rw[Tg];omega⟩;apply List.ext_getElem?;intro i;unfold Aj;rw[List.getElem?_zipWith,Ng,Ng];cases hc:cs[i]? with
 |none=>
  have:cs.length<=i:=List.getElem?_eq_none_iff.1 hc;rw[List.getElem?_eq_none (by omega)];rfl
 |some c=>
  obtain⟨k,x,e1,e2,rfl⟩:=h3 i c hc;rw[e1,e2];rfl
theorem Np{V:Vl}{cs:List LV}{ks φ:List IntKind}{xs:List X}(h:Jz cs=some (φ,xs))(hk:KZ ks φ=true)(ho:∀c∈cs,c.ok V):
  La ks (xs.map (·.den V.ρ)):=by
 have:=Gy (λ_ _=>NK) hk;subst this;obtain⟨h1,h2,h3⟩:=Ku h;refine⟨by rw[Tg];omega,λi k x hk hx=>?_⟩;rw[Ng,Vu] at hx;obtain⟨y,hy,rfl⟩:=hx;have hi:i<cs.length:=by have:=(OQ.1 hk).1;omega
 obtain⟨k',x',e1,e2,e3⟩:=h3 i _ (JC hi);rw[hk] at e1;rw[hy] at e2;cases e1;cases e2;have:=ho _ (lY hi);rw[e3] at this;exact this
theorem Sk{V:Vl}{j:Nat}{ks:List IntKind}{xs:List Int}(hx:V.ρ j=xs)(hl:xs.length=ks.length):(I8 j ks).map (·.den V)=Aj ks xs:=by
 apply List.ext_getElem?;intro i;unfold Aj;rw[List.getElem?_zipWith,Ng];cases hc:(I8 j ks)[i]? with
 | none=>
  have:ks.length<=i:=by
   have:=List.getElem?_eq_none_iff.1 hc;simpa[I8] using this
  rw[List.getElem?_eq_none (by omega)];rfl
 |some c=>
  obtain⟨k,e1,rfl⟩:=PE hc;have hi:i<ks.length:=(OQ.1 e1).1;rw[e1,JC (by omega:i<xs.length)];simp only[UA,LV.den,X.den,hx];simp[List.getD,JC (by omega:i<xs.length)]
theorem Wi{V:Vl}{j:Nat}{ks:List IntKind}{xs:List Int}(hx:V.ρ j=xs)(hr:La ks xs):∀c∈I8 j ks,c.ok V:=by
 intro c hc;obtain⟨i,hi,rfl⟩:=dX hc;obtain⟨k,e1,e2⟩:=PE (JC hi);have B8:i<ks.length:=(OQ.1 e1).1;rw[e2];have sX:xs[i]? = some (xs[i]'(by have:=hr.1;omega)):=JC _;have:=hr.2 i k _ e1 sX;simp only[LV.ok,X.den,hx];simpa[List.getD,sX] using this
theorem Oy(j:Nat)(ks:List IntKind):(I8 j ks).length=ks.length:=by simp[I8]
def TF(V:Vl):Option MP->Nat×Nat
 |some m=>((V.ν m.l).1,(V.ν m.l).2+m.o)
 |none=>(0,0)
def YI:Option MP->Option (Nat×Bool×Nat)
 |some m=>some (m.g,m.wr,m.n)
 |none=>none
section
variable{E:En}{st:St}{V:Vl}{w:World}(hm:Oi E st.rg V w)(hl:∀p∈st.ln,(V.ρ p.1).length=p.2)
include hm hl
theorem AEe{p:GD}{v:SV}{a:IZ}{m:Option MP}(h:AKl st p v=some (a,m))(hv:v.ok V)
  (hw:∀x,m=some x->x.wr=true->∃r∈st.rg,r.id=x.l/\r.wr=true):
  PM E.GB w p (v.den V) (a.den V.ρ) (TF V m)/\p.cE=YI m/\(a.den V.ρ).length=p.len/\(∀x,m=some x->v= .t (.l x.lv)/\∃r∈st.rg,r.id=x.l/\x.o+x.n<=r.cs.length):=by
 have mem:∀ {ks φ:List IntKind} {xs:List X} {cs:List LV} {l o n:Nat} {wr:Bool},Kc st.rg l o n=some cs->n=ks.length->Jz cs=some (φ,xs)->KZ ks φ=true->
   (wr=true->∃r∈st.rg,r.id=l/\r.wr=true)->AQ wr w ((V.ν l).1,(V.ν l).2+o) ks (xs.map (·.den V.ρ))/\(wr=true->E.GB<=(V.ν l).1):=by
  intro ks φ xs cs l o n wr hr hn hc hk pe;obtain⟨g1,r,g2,g3,g4,g5⟩:=GN hr;have pN:=hm.read hr;refine⟨⟨Np hc hk (λc i6=>?_),λi k x hki sX=>?_⟩,λL5=>?_⟩
  ·obtain⟨i,hi,rfl⟩:=dX i6;exact(pN i _ (JC hi)).2
  ·have AM:=Gy (λ_ _=>NK) hk;subst AM;obtain⟨h1,h2,h3⟩:=Ku hc;have hi:i<cs.length:=by have:=(OQ.1 hki).1;omega
   obtain⟨k',x',e1,e2,e3⟩:=h3 i _ (JC hi);rw[hki] at e1;cases e1;rw[Ng,e2] at sX;simp only[UA,Ai] at sX;subst sX;have cY:=(pN i _ (JC hi)).1;rw[e3] at cY;refine⟨cY,λL5=>?_⟩;obtain⟨r',q1,q2,q3⟩:=pe L5;have:r'=r:=hm.one r' q1 r g2 (q2.trans g3.symm);subst this;obtain⟨u,hu,-⟩:=hm.pH r' g2 (o+i) _ (g5 i _ (JC hi));rw[g3, <- Ve] at hu;exact hu.2 q3
  ·obtain⟨r',q1,q2,q3⟩:=pe L5;have:=(hm.sY r' q1 q3).1;rwa [q2] at this
 unfold AKl at h;split at h
 ·rename_i k k' x;cases hk:pu k k' with
  |false=>rw[hk] at h;simp at h
  |true=>
   rw[hk] at h;simp only[cond_true,Ai,Prod.mk.injEq] at h;obtain⟨rfl,rfl⟩:=h;have:=NK hk;subst this;exact⟨⟨_,rfl,rfl,hv⟩,rfl,rfl,λx hx=>by cases hx⟩
 ·rename_i x;simp only[Ai,Prod.mk.injEq] at h;obtain⟨rfl,rfl⟩:=h;exact⟨⟨_,rfl,rfl⟩,rfl,rfl,λx hx=>by cases hx⟩
 ·rename_i ks g wr l o;split at h
  ·rename_i cs cS;split at h
   ·rename_i φ xs A5;cases hb:KZ ks φ with
    |false=>rw[hb] at h;simp at h
    | true=>
     rw[hb] at h;simp only[cond_true,Ai,Prod.mk.injEq] at h;obtain⟨rfl,rfl⟩:=h;obtain⟨q1,q2⟩:=mem (wr:=wr) cS rfl A5 hb (λL5=>hw _ rfl L5);obtain⟨g1,r,g2,g3,g4,g5⟩:=GN cS;refine⟨?_,rfl,?_,λx hx=>?_⟩
     ·rw[Hr hl];exact⟨rfl,q1,q2⟩
     ·rw[Hr hl];exact q1.1.1
     ·cases hx;exact⟨rfl,r,g2,g3,g4⟩
   ·cases h
  ·cases h
 ·rename_i ks cs;split at h
  ·rename_i φ xs A5;cases hb:KZ ks φ with
   |false=>rw[hb] at h;simp at h
   |true=>
    rw[hb] at h;simp only[cond_true,Ai,Prod.mk.injEq] at h;obtain⟨rfl,rfl⟩:=h;obtain⟨e1,e2,e3⟩:=Mi (V:=V) A5 hb;refine⟨?_,rfl,by rw[Hr hl];exact e3,λx hx=>by cases hx⟩;rw[Hr hl];exact⟨Np A5 hb hv,by simp only[SV.aE,TV.r7,e1]⟩
  ·cases h
 ·rename_i ks g wr l o n c d;cases hn:Nat.beq n ks.length with
  |false=>rw[hn] at h;simp at h
  | true=>
   rw[hn] at h;have SW:=CR hn;simp only[cond_true] at h;split at h
   ·rename_i cs cS;split at h
    ·rename_i φ xs A5;cases hb:KZ ks φ with
     |false=>rw[hb] at h;simp at h
     | true=>
      rw[hb] at h;simp only[cond_true,Ai,Prod.mk.injEq] at h;obtain⟨rfl,rfl⟩:=h;obtain⟨q1,q2⟩:=mem (wr:=wr) cS SW A5 hb (λL5=>hw _ rfl L5);obtain⟨g1,r,g2,g3,g4,g5⟩:=GN cS;have adu:((n+d:Nat):Int)<=c.den V:=hv;refine⟨?_,by simp[GD.cE,YI,SW],?_,λx hx=>?_⟩
      ·rw[Hr hl];exact⟨_,by rw[<- SW];rfl,by omega,q1,q2⟩
      ·rw[Hr hl];exact q1.1.1
      ·cases hx;exact⟨rfl,r,g2,g3,g4⟩
    ·cases h
   ·cases h
 ·rename_i ks g wr l o n iσ;cases hn:Nat.beq n ks.length with
  |false=>rw[hn] at h;simp at h
  | true=>
   rw[hn] at h;have SW:=CR hn;simp only[cond_true] at h;split at h
   ·rename_i cs cS;split at h
    ·rename_i φ xs A5;cases hb:KZ ks φ with
     |false=>rw[hb] at h;simp at h
     | true=>
      rw[hb] at h;simp only[cond_true,Ai,Prod.mk.injEq] at h;obtain⟨rfl,rfl⟩:=h;obtain⟨q1,q2⟩:=mem (wr:=wr) cS SW A5 hb (λL5=>hw _ rfl L5);obtain⟨g1,r,g2,g3,g4,g5⟩:=GN cS;obtain⟨m,cc,hσ,hnm⟩:=(hv:∃m c,V.σ iσ= .slice (some ⟨(V.ν l).1,(V.ν l).2+o,none⟩) m c/\n<=m);refine⟨?_,by simp[GD.cE,YI,SW],?_,λx hx=>?_⟩
      ·rw[Hr hl];exact⟨m,cc,hσ,by omega,q1,q2⟩
      ·rw[Hr hl];exact q1.1.1
      ·cases hx;exact⟨rfl,r,g2,g3,g4⟩
    ·cases h
   ·cases h
 ·cases h
theorem S9:∀ {ps:List GD} {vs:List SV} {as:List IZ} {ms:List (Option MP)},Oj st ps vs=some (as,ms)->(∀v∈vs,v.ok V)->Vz st.rg ms=true->
  KH E.GB w ps (vs.map (·.den V)) (as.map (·.den V.ρ)) (ms.map (TF V))/\ps.map GD.cE=ms.map YI/\(as.map (·.den V.ρ)).map List.length=ps.map GD.len/\vs.length=ms.length/\
   (∀(i:Nat) (x:MP),ms[i]? = some (some x)->vs[i]? = some (.t (.l x.lv))/\∃r∈st.rg,r.id=x.l/\x.o+x.n<=r.cs.length/\(x.wr=true->r.wr=true))
 | [],[],as,ms,h,_,_=>by
  simp only[Oj,Ai,Prod.mk.injEq] at h;obtain⟨rfl,rfl⟩:=h;exact⟨trivial,rfl,rfl,rfl,λi x h=>by simp at h⟩
 | [],_::_,as,ms,h,_,_=>by simp[Oj] at h
 |_::_,[],as,ms,h,_,_=>by simp[Oj] at h
 | p :: ps,v::vs,as,ms,h,hv,pe=>by
  unfold Oj at h;split at h
  ·rename_i a m Mb ms' h1 h2;simp only[Ai,Prod.mk.injEq] at h;obtain⟨rfl,rfl⟩:=h;have abb:Vz st.rg ms'=true/\∀x,m=some x->x.wr=true->∃r∈st.rg,r.id=x.l/\r.wr=true:=by
    cases m with
    |none=>exact⟨by simpa[Vz] using pe,λx hx=>by cases hx⟩
    | some a=>
     simp only[Vz,Bl,Bool.or_eq_true,Bool.not_eq_true'] at pe;refine⟨pe.2,λx hx hxw=>?_⟩;cases hx;rcases pe.1 with h|h
     ·rw[hxw] at h;cases h
     ·split at h
      ·rename_i g hg;exact⟨g,(KD hg).1,(KD hg).2,h⟩
      ·cases h
   obtain⟨q1,q2,q3,q4⟩:=AEe hm hl h1 (hv v Kh) abb.2;obtain⟨r1,r2,r3,r4,r5⟩:=S9 (ps:=ps) h2 (λv n8=>hv v (Lv _ n8)) abb.1;refine⟨⟨q1,r1⟩,by simp[q2,r2],by simp[q3];simpa using r3,by simp[r4],λi x hx=>?_⟩;cases i with
   |zero=>
    simp only[Ul,Ai] at hx;obtain⟨e1,r,e2,e3,e4⟩:=q4 x hx;refine⟨by simp[e1],r,e2,e3,e4,λhxw=>?_⟩;obtain⟨r',f1,f2,f3⟩:=abb.2 x hx hxw;have:=hm.one r' f1 r e2 (f2.trans e3.symm);subst this;exact f3
   |succ i=>simpa using r5 i x (by simpa using hx)
  ·cases h
end
theorem AJb{E:En}{rg:List Rg}{V:Vl}{w:World}(hm:Oi E rg V w){a b:MP}(h:AId rg a b=true)
  (ha:∃r∈rg,r.id=a.l/\a.o+a.n<=r.cs.length/\(a.wr=true->r.wr=true)) (hb:∃r∈rg,r.id=b.l/\b.o+b.n<=r.cs.length/\(b.wr=true->r.wr=true)) (hw:a.wr=true\/b.wr=true):
  (a.g=b.g/\a.g≠0/\TF V (some a)=TF V (some b)/\a.n=b.n)\/ZQ (TF V (some a)) (TF V (some b)) a.n b.n:=by
 obtain⟨r,hr,ID,DP,hrw⟩:=ha;obtain⟨r',cL,acJ,ag2,ahx⟩:=hb;have adG:AFu a.o a.n b.o b.n=true->a.o+a.n<=b.o\/b.o+b.n<=a.o:=by
  intro h;simp only[AFu,Bool.or_eq_true] at h;exact h.imp MQ MQ
 have nh:(Nat.beq a.g b.g && !(Nat.beq a.g 0)&&Nat.beq a.o b.o&&Nat.beq a.n b.n)=true->a.g=b.g/\a.g≠0/\a.o=b.o/\a.n=b.n:=by
  intro h;simp only[Bl,Bool.not_eq_true'] at h;refine⟨CR h.1.1.1,λe=>?_,CR h.1.2,CR h.2⟩;rw[e] at h;simp at h
 unfold AId at h;have hnw:(!(a.wr||b.wr))=false:=by rcases hw with h|h<;>simp[h]
 rw[hnw,Bool.false_or] at h;cases hl:Nat.beq a.l b.l with
 | true=>
  have hle:=CR hl;simp only[hl,cond_true,Bool.or_eq_true] at h;rcases h with h|h
  ·have:=adG h
   right
   simp only[ZQ,TF,hle];omega
  ·obtain⟨e1,e2,e3,e4⟩:=nh h;exact .inl ⟨e1,e2,by simp only[TF,hle,e3],e4⟩
 | false=>
  simp only[hl,cond_false] at h;split at h
  ·rename_i q q' hq xj;have hqr:q=r:=hm.one q (KD hq).1 r hr ((KD hq).2.trans ID.symm);have ajn:q'=r':=hm.one q' (KD xj).1 r' cL ((KD xj).2.trans acJ.symm);subst hqr;subst ajn;simp only[Bl,Bool.or_eq_true] at h;obtain⟨hww,h⟩:=h;have cq:q.id≠q'.id:=λe=>by
    rw[ID,acJ] at e;rw[e,Nat.beq_refl] at hl;cases hl
   have ki:(q.gi=q'.gi/\q.gi≠0/\V.ν a.l=V.ν b.l/\q.cs.length=q'.cs.length)\/ZQ (V.ν a.l) (V.ν b.l) q.cs.length q'.cs.length:=by
    rw[<- ID, <- acJ];rcases hww with h|h
    ·exact hm.sep q hr q' cL h cq
    ·rcases hm.sep q' cL q hr h (Ne.symm cq) with⟨e1,e2,e3,e4⟩|e
     ·exact .inl ⟨e1.symm,by rw[<- e1];exact e2,e3.symm,e4.symm⟩
     ·right
      unfold ZQ at *
      omega
   rcases ki with⟨e1,e2,e3,e4⟩|e
   ·have hg:(Nat.beq q.gi q'.gi && !(Nat.beq q.gi 0))=true:=by
     simp only[Bl,Bool.not_eq_true',e1,Nat.beq_refl,true_and];cases hz:Nat.beq q'.gi 0 with
     |false=>rfl
     |true=>exact absurd (e1.trans (CR hz)) e2
    rw[hg] at h;simp only[cond_true,Bool.or_eq_true] at h;rcases h with h|h
    ·have:=adG h
     right
     simp only[ZQ,TF,e3];omega
    ·obtain⟨f1,f2,f3,f4⟩:=nh h;exact .inl ⟨f1,f2,by simp only[TF,e3,f3],f4⟩
   ·right
    unfold ZQ at *
    simp only[TF];omega
  ·cases h
theorem tO{E:En}{rg:List Rg}{V:Vl}{w:World}(hm:Oi E rg V w):∀ {ps:List GD} {ms:List (Option MP)},ps.map GD.cE=ms.map YI->VT rg ms=true->
  (∀x,some x∈ms->∃r∈rg,r.id=x.l/\x.o+x.n<=r.cs.length/\(x.wr=true->r.wr=true))->Fv ps (ms.map (TF V))
 | [],ms,_,_,_=>trivial
 |p::ps,[],h,_,_=>by simp at h
 | p::ps,m::ms,h,hs,hx=>by
  simp only[NE,List.cons.injEq] at h;have Ks:VT rg ms=true:=by
   cases m with
   |none=>simpa[VT] using hs
   |some a=>simp only[VT,Bl] at hs;exact hs.2
  refine⟨λy hy=>?_,tO hm h.2 Ks (λx eV=>hx x (Lv _ eV))⟩;obtain⟨i,hi,he⟩:=dX hy;simp only[List.length_zip,Tg] at hi;have hi1:i<ps.length:=by omega
  have PA:i<ms.length:=by omega
  have ZS:y=(ps[i],TF V ms[i]):=by rw[<- he];simp
  subst ZS;have ah2:(ps[i]).cE=YI ms[i]:=by
   have:=EH (λl=>l[i]?) h.2;simpa[hi1,PA] using this
  unfold Rz;rw[h.1,ah2];cases m with
  |none=>trivial
  | some a=>
   cases UP:ms[i] with
   |none=>trivial
   |some b=>
    simp only[YI];intro hw;simp only[VT,Bl,Mx] at hs;have hsb:=hs.1 (some b) (by rw[<- UP];exact lY PA);exact AJb hm hsb (hx a Kh) (hx b (Lv _ (by rw[<- UP];exact lY PA))) hw
end
section
open Go
theorem CY.tW{f:Bool}{w:World}{b o b' o':Nat}{u v:Value}(h:CY f (w.setCell ⟨b',o',none⟩ v) b o u)(cq:¬(b=b'/\o=o')):CY f w b o u:=by
 obtain⟨c,e,lo,hi,h1,h2,h3⟩:=h.obj;rw[World.eJ] at h1;by_cases hb:b=b'
 ·subst hb;rw[if_pos rfl] at h1;have ho:o'≠o:=λe=>cq ⟨rfl,e.symm⟩
  cases hw:w.heap[b]? with
  |none=>rw[hw] at h1;simp at h1
  | some x=>
   rw[hw] at h1;cases x with
   |cells c0 e0 f0=>
    simp only[UA,Ai,Obj.cells.injEq] at h1;obtain⟨rfl,rfl,rfl⟩:=h1;rw[Array.getElem?_setIfInBounds_ne ho] at h2;exact CY.fh hw h2 h3
   |_=>simp at h1
 ·rw[if_neg hb] at h1;exact CY.fh h1 h2 h3
theorem CY.ju{f:Bool}{b o:Nat}{u:Value}(b':Nat):∀(vs:List Value) (w:World) (o':Nat),CY f (setCells w b' o' vs) b o u->(b≠b'\/o<o'\/o'+vs.length<=o)->CY f w b o u
 | [],_,_,h,_=>h
 |v::vs,w,o',h,hn=>by
  simp only[Uk] at hn;exact(CY.ju b' vs _ (o'+1) h (by omega)).tW (by rintro⟨rfl,rfl⟩;omega)
theorem BM.trans'{A B w:World}{S S':Nat->Nat->Prop}(h:BM A B S)(h':BM B w S')(hs:∀b o,b<A.heap.size->S' b o->S b o):BM A w S:=
 ⟨z8 h.1 h'.1,λb x hx=>by
  have hb:b<A.heap.size:=by
   rcases nE b A.heap.size with h2|h2
   ·exact h2
   ·simp[ut h2] at hx
  obtain⟨y,hy,h1⟩:=h.2.1 b x hx;obtain⟨z,hz,h2⟩:=h'.2.1 b y hy;exact⟨z,hz,h1.trans (h2.mono λo=>hs b o hb)⟩,h'.2.2.1.trans h.2.2.1,h'.2.2.2.1.trans h.2.2.2.1,h'.2.2.2.2.trans h.2.2.2.2⟩
def Vl.setν(V:Vl)(l:Nat)(b:Nat×Nat):Vl:= { V with ν:=λx=>if x=l then b else V.ν x }
theorem Vl.setν_same(V:Vl)(l:Nat)(b:Nat×Nat):(V.setν l b).ν l=b:=by simp[Vl.setν]
theorem Vl.setν_other(V:Vl){l x:Nat}(b:Nat×Nat)(h:x≠l):(V.setν l b).ν x=V.ν x:=by simp[Vl.setν,h]
theorem Jf{r x:Rg}:∀ {rg:List Rg},x∈og r rg↔x=r\/x∈rg
 | []=>by simp[og]
 | y::ys=>by
  unfold og;cases Nat.blt y.id r.id
  ·simp only[cond_false,IR,Jf (rg:=ys)];constructor
   ·rintro(h|h|h)
    ·exact .inr (.inl h)
    ·exact .inl h
    ·exact .inr (.inr h)
   ·rintro(h|h|h)
    ·exact .inr (.inl h)
    ·exact .inl h
    ·exact .inr (.inr h)
  ·simp
theorem mZ{bv:Nat}{rg fR:List Rg}{l:Nat}{cs:List LV}(h:aU bv rg l cs=some fR):
  ED l (Dh rg)=false/\(∀c∈cs,c.lt bv (Dh rg)=true)/\fR=og ⟨l,0,true,cs.map some⟩ rg:=by
 unfold aU at h;cases hb:(!(ED l (Dh rg))&&cs.all (·.lt bv (Dh rg))) with
 |false=>rw[hb] at h;simp at h
 |true=>
  rw[hb] at h;simp only[cond_true,Ai] at h;simp only[Bl,Bool.not_eq_true',Mx] at hb;exact⟨hb.1,hb.2,h.symm⟩
theorem Oi.add{E:En}{bv:Nat}{rg fR:List Rg}{V:Vl}{w:World}{l:Nat}{cs:List LV}{b:Nat×Nat}(hm:Oi E rg V w)(hs:Xl bv rg)(h:aU bv rg l cs=some fR)
  (acL:∀r∈rg,ZQ (V.ν r.id) b r.cs.length cs.length) (hB:E.B.heap.size<=b.1) (δ:E.GB<=b.1) (hc:∀(i:Nat) (c:LV),cs[i]? = some c->CY true w b.1 (b.2+i) (c.den V)) (fS:∀c∈cs,c.ok V):
  Oi E fR (V.setν l b) w/\Xl bv fR/\(∀x,ED x (Dh rg)=true->ED x (Dh fR)=true)/\ED l (Dh fR)=true/\ED l (Dh rg)=false/\(∀r∈fR,(r∈rg/\r.id≠l)\/r=⟨l,0,true,cs.map some⟩):=by
 obtain⟨hl,cf,rfl⟩:=mZ h;have cq:∀x,ED x (Dh rg)=true->x≠l:=λx hx e=>by rw[e,hl] at hx;cases hx
 have gk:Ag bv (Dh rg) V (V.setν l b):=⟨λ_ _=>rfl,λ_ _=>rfl,λx hx=>V.setν_other b (cq x hx)⟩;have jt:=hm.ag gk hs;have r6:∀x,ED x (Dh rg)=true->ED x (Dh (og ⟨l,0,true,cs.map some⟩ rg))=true:=λx hx=>by
  obtain⟨r,hr,rfl⟩:=OE.1 hx;exact GY (Jf.2 (.inr hr))
 have hnl:∀r∈rg,r.id≠l:=λr hr=>cq _ (GY hr)
 have ki:∀r∈rg,ZQ ((V.setν l b).ν r.id) b r.cs.length cs.length:=λr hr=>by
  rw[V.setν_other b (hnl r hr)];exact acL r hr
 refine⟨⟨?_,?_,?_,?_,hm.an,hm.gw⟩,?_,r6,OE.2 ⟨_,Jf.2 (.inl rfl),rfl⟩,hl,?_⟩
 ·intro r hr;rcases Jf.1 hr with rfl|hr
  ·intro i c hi;simp only[Ng,Vu] at hi;obtain⟨lv,h1,rfl⟩:=hi;have oA:=cf lv (Le h1);refine⟨lv.den V,?_,λlv' e=>?_⟩
   ·show CY true w ((V.setν l b).ν l).1 (((V.setν l b).ν l).2+i) _;rw[V.setν_same];exact hc i lv h1
   ·cases e;exact⟨(LV.cr gk oA).symm,LV.ff gk oA (fS lv (Le h1))⟩
  ·exact jt.pH r hr
 ·intro r hr r' cL he;rcases Jf.1 hr with rfl|hr
  ·rcases Jf.1 cL with rfl|cL
   ·rfl
   ·exact absurd he.symm (hnl r' cL)
  ·rcases Jf.1 cL with rfl|cL
   ·exact absurd he (hnl r hr)
   ·exact hm.one r hr r' cL he
 ·intro r hr r' cL hw adj;rcases Jf.1 hr with rfl|hr
  ·rcases Jf.1 cL with rfl|cL
   ·exact absurd rfl adj
   ·right
    have:=ki r' cL;show ZQ ((V.setν l b).ν l) _ _ _;rw[V.setν_same];unfold ZQ at *
    simp only[Tg];omega
  ·rcases Jf.1 cL with rfl|cL
   ·right
    have:=ki r hr;show ZQ _ ((V.setν l b).ν l) _ _;rw[V.setν_same];simpa[Tg] using this
   ·exact jt.sep r hr r' cL hw adj
 ·intro r hr hw;rcases Jf.1 hr with rfl|hr
  ·show E.GB<=((V.setν l b).ν l).1/\_;rw[V.setν_same];exact⟨δ,λi _=>.inl hB⟩
  ·exact jt.sY r hr hw
 ·intro r hr lv oA;rcases Jf.1 hr with rfl|hr
  ·simp only[UT,Ai,exists_eq_right] at oA;exact LV.bh (KA _) r6 (cf lv oA)
  ·exact LV.bh (KA _) r6 (hs r hr lv oA)
 ·intro r hr;rcases Jf.1 hr with rfl|hr
  ·exact .inr rfl
  ·exact .inl ⟨hr,hnl r hr⟩
def ARc(bs:List (Nat×Nat))(outs:List (Nat×List IntKind×PF))(b o:Nat):Prop:=
 ∃p∈outs,b=(bs.getD p.1 (0,0)).1/\(bs.getD p.1 (0,0)).2<=o/\o<(bs.getD p.1 (0,0)).2+p.2.1.length
theorem Wl{ks:List IntKind}{xs:List Int}{i:Nat}{v:Value}(h:(Aj ks xs)[i]? = some v):∃k x,ks[i]? = some k/\xs[i]? = some x/\v= .int k x:=by
 unfold Aj at h;rw[List.getElem?_zipWith] at h;cases hk:ks[i]? with
 |none=>rw[hk] at h;simp at h
 |some k=>
  cases hx:xs[i]? with
  |none=>rw[hk,hx] at h;simp at h
  |some x=>rw[hk,hx] at h;simp at h;exact⟨k,x,rfl,rfl,h.symm⟩
theorem uq {E:En} (Ly:∀b o v,E.GC b o=some v->b<E.GB) {V:Vl} {bv:Nat} {ms:List (Option MP)} {ins:List (List Int)} {w w':World}:
  ∀ {outs:List (Nat×List IntKind×PF)} {nb:Nat} {rg fR:List Rg} {wk:World} {D:Nat->Nat->Prop},XA bv ms nb outs rg=some fR->Oi E rg V wk->Xl bv rg->
  (∀(i:Nat) (p:Nat×List IntKind×PF),outs[i]? = some p->V.ρ (nb+i)=p.2.2 ins)->(∀p∈outs,AQ true w' ((ms.map (TF V)).getD p.1 (0,0)) p.2.1 (p.2.2 ins))->
  (∀f b o v,CY f wk b o v->CY true w' b o v\/(CY f w b o v/\¬D b o))->
  ∃wk',Oi E fR V wk'/\Xl bv fR/\Dh fR=Dh rg/\(∀f b o v,CY f wk' b o v->CY true w' b o v\/(CY f w b o v/\¬(D b o\/ARc (ms.map (TF V)) outs b o)))
 | [],nb,rg,fR,wk,D,h,hm,hs,_,_,hI=>by
  simp only[XA,Ai] at h;subst h;exact⟨wk,hm,hs,rfl,λf b o v hv=>(hI f b o v hv).imp id λh=>⟨h.1,λhh=>hh.elim h.2 (λ⟨p,hp,_⟩=>by cases hp)⟩⟩
 | (i,ks,f)::r,nb,rg,fR,wk,D,h,hm,hs,hd,ho,hI=>by
  unfold XA at h;split at h
  ·rename_i m UP;cases hb:(Nat.beq m.n ks.length&&m.wr) with
   |false=>rw[hb] at h;simp at h
   | true =>
    rw[hb] at h;simp only[cond_true] at h;simp only[Bl] at hb;have hn:=CR hb.1;split at h
    ·rename_i rg1 CC;have hρ:V.ρ nb=f ins:=by simpa using hd 0 _ rfl
     have dj:=ho _ Kh;have ij:(ms.map (TF V)).getD i (0,0)=TF V (some m):=by
      simp[List.getD,UP]
     simp only[ij] at dj;have hlen:(f ins).length=ks.length:=dj.1.1;have HK:(I8 nb ks).map (·.den V)=Aj ks (f ins):=Sk hρ hlen;have fS:∀c∈I8 nb ks,c.ok V:=Wi hρ dj.1;have ta:=hm.write Ly CC fS;obtain⟨hs1,aaS⟩:=hs.write CC;obtain⟨R,hR,TX,hRw,hRn,-, -⟩:=LG CC;rw[Oy] at hRn;obtain⟨wk',g1,g2,g3,g4⟩:=uq (V:=V) (ms:=ms) (ins:=ins) (w:=w) (w':=w') (D:=λb o=>D b o\/(b=(TF V (some m)).1/\(TF V (some m)).2<=o/\o<(TF V (some m)).2+ks.length)) Ly h ta hs1
      (λj p hp=>by have:=hd (j+1) p (by simpa using hp);rwa [show nb+(j+1)=nb+1+j by omega] at this) (λp hp=>ho p (Lv _ hp)) (by
       intro f' b o v hv;by_cases eC:b=(TF V (some m)).1/\(TF V (some m)).2<=o/\o<(TF V (some m)).2+ks.length
       ·left
        obtain⟨rfl,h1,h2⟩:=eC;simp only[TF] at h1 h2 hv dj ⊢;obtain⟨j,rfl⟩:∃j,o=(V.ν m.l).2+m.o+j:=⟨o-((V.ν m.l).2+m.o),by omega⟩;have hj:j<ks.length:=by omega
        have hvj:(Aj ks (f ins))[j]? = some ((Aj ks (f ins))[j]'(by simp[Aj];omega)):=JC _;obtain⟨k,x,e1,e2,e3⟩:=Wl hvj;have cY:∃u,CY f' wk (V.ν m.l).1 ((V.ν m.l).2+m.o+j) u:=by
         have cf:m.o+j<R.cs.length:=by omega
         obtain⟨u,hu,-⟩:=hm.pH R hR (m.o+j) _ (JC cf);rw[TX,hRw] at hu;exact⟨u,by rw[Ve];exact hu.gO⟩
        rw[HK] at hv;have HB:=CY.ep (f:=f') (b:=(V.ν m.l).1) (Aj ks (f ins)) wk ((V.ν m.l).2+m.o) j _ hvj cY;have:=hv.inj HB;rw[this,e3];exact dj.2 j k x e1 e2
       ·have hold:CY f' wk b o v:=by
         refine CY.ju _ _ _ _ hv ?_;simp only[TF] at eC;simp only[Tg,Oy];by_cases tI:b=(V.ν m.l).1
         ·right
          have:=λh1 h2=>eC ⟨tI,h1,h2⟩
          omega
         ·exact .inl tI
        rcases hI f' b o v hold with h|⟨h1,h2⟩
        ·exact .inl h
        ·exact .inr ⟨h1,λhh=>hh.elim h2 eC⟩)
     refine⟨wk',g1,g2,by rw[g3,aaS],λf' b o v hv=>?_⟩;rcases g4 f' b o v hv with h|⟨h1,h2⟩
     ·exact .inl h
     ·refine .inr ⟨h1,λhh=>h2 ?_⟩;rcases hh with hh|⟨p,hp,hq⟩
      ·exact .inl (.inl hh)
      ·rcases IR.1 hp with rfl|hp
       ·left;right
        simp only[ij] at hq;exact hq
       ·exact .inr ⟨p,hp,hq⟩
    ·cases h
  ·cases h
theorem aA{bv:Nat}{ms:List (Option MP)}:∀ {outs:List (Nat×List IntKind×PF)} {nb:Nat} {rg fR:List Rg},XA bv ms nb outs rg=some fR->
  (∀r'∈fR,∃r∈rg,r.id=r'.id/\r.cs.length=r'.cs.length)/\(∀p∈outs,∃m,ms[p.1]? = some (some m)/\m.n=p.2.1.length/\m.wr=true/\∃r∈rg,r.id=m.l/\r.wr=true/\m.o+m.n<=r.cs.length)
 | [],nb,rg,fR,h=>by
  simp only[XA,Ai] at h;subst h;exact⟨λr hr=>⟨r,hr,rfl,rfl⟩,λp hp=>by cases hp⟩
 | (i,ks,f)::r,nb,rg,fR,h=>by
  unfold XA at h;split at h
  ·rename_i m UP;cases hb:(Nat.beq m.n ks.length&&m.wr) with
   |false=>rw[hb] at h;simp at h
   | true=>
    rw[hb] at h;simp only[cond_true] at h;simp only[Bl] at hb;have hn:=CR hb.1;split at h
    ·rename_i rg1 CC;obtain⟨h1,h2⟩:=aA h;obtain⟨R,hR,TX,hRw,hRn,-,rfl⟩:=LG CC;rw[Oy] at hRn;refine⟨λr' cL=>?_,λp hp=>?_⟩
     ·obtain⟨q,hq,e1,e2⟩:=h1 r' cL;obtain⟨q0,hq0,rfl⟩:=UT.1 hq;exact⟨q0,hq0,by rw[<- e1,N9],by rw[<- e2,Pk]⟩
     ·rcases IR.1 hp with rfl|hp
      ·exact⟨m,UP,hn,hb.2,R,hR,TX,hRw,by omega⟩
      ·obtain⟨m',a1,a2,a3,q,hq,a4,a5,a6⟩:=h2 p hp;obtain⟨q0,hq0,rfl⟩:=UT.1 hq;exact⟨m',a1,a2,a3,q0,hq0,by rw[<- a4,N9],by rw[<- a5,Xe],by rw[Pk] at a6;exact a6⟩
    ·cases h
  ·cases h
theorem jW{E:En}{bv:Nat}{ins:List (List Int)}{w w':World}(hBw:E.B.heap.size<=w.heap.size)(δ:E.GB<=E.B.heap.size):
  ∀ {fr:List (List IntKind×PF)} {nb lb:Nat} {rg fR:List Rg} {V:Vl} {fb:List (Nat×Nat)},Yz bv nb lb fr rg=some fR->Oi E rg V w'->Xl bv rg->fb.length=fr.length->
  (∀(i:Nat) (p:List IntKind×PF),fr[i]? = some p->V.ρ (nb+i)=p.2 ins)->(∀b∈fb,w.heap.size<=b.1)->(∀(i j:Nat) (p q:List IntKind×PF) (b c:Nat×Nat),fr[i]? = some p->fr[j]? = some q->fb[i]? = some b->fb[j]? = some c->i≠j->ZQ b c p.1.length q.1.length)->
  (∀(j:Nat) (p:List IntKind×PF) (b:Nat×Nat),fr[j]? = some p->fb[j]? = some b->AQ true w' b p.1 (p.2 ins))->
  (∀r∈rg,∀(j:Nat) (p:List IntKind×PF) (b:Nat×Nat),fr[j]? = some p->fb[j]? = some b->ZQ (V.ν r.id) b r.cs.length p.1.length)->
  ∃V',Oi E fR V' w'/\Xl bv fR/\V'.ρ=V.ρ/\V'.σ=V.σ/\(∀x,ED x (Dh rg)=true->V'.ν x=V.ν x/\ED x (Dh fR)=true)/\(∀(j:Nat) (b:Nat×Nat),fb[j]? = some b->V'.ν (lb+j)=b/\ED (lb+j) (Dh fR)=true)
 | [],nb,lb,rg,fR,V,fb,h,hm,hs,hl,_,_,_,_,_=>by
  simp only[Yz,Ai] at h;subst h;exact⟨V,hm,hs,rfl,rfl,λx hx=>⟨rfl,hx⟩,λj b hb=>by
   have:=(OQ.1 hb).1;simp at hl;subst hl;simp at this⟩
 |(ks,f)::r,nb,lb,rg,fR,V,[],h,hm,hs,hl,_,_,_,_,_=>by simp at hl
 | (ks,f)::r,nb,lb,rg,fR,V,b0::fb,h,hm,hs,hl,hd,AH,Ek,dj,hnw=>by
  unfold Yz at h;split at h
  ·rename_i rg1 h1;have hρ:V.ρ nb=f ins:=by simpa using hd 0 _ rfl
   have tM:=dj 0 _ b0 rfl rfl;simp only at tM;have th:=AH b0 Kh;have HK:(I8 nb ks).map (·.den V)=Aj ks (f ins):=Sk hρ tM.1.1;obtain⟨k1,k2,k3,k4,k5,k6⟩:=hm.add hs h1 (b:=b0) (λq hq=>by
     have:=hnw q hq 0 _ b0 rfl rfl;simpa[I8] using this) (by omega) (by omega) (λi c hc=>by
     have hv:(Aj ks (f ins))[i]? = some (c.den V):=by rw[<- HK,Ng,hc];rfl
     obtain⟨k,x,e1,e2,e3⟩:=Wl hv;rw[e3];exact tM.2 i k x e1 e2) (Wi hρ tM.1)
   have ak7:∀q∈rg,q.id≠lb:=λq hq e=>by
    have:=GY hq;rw[e,k5] at this;cases this
   obtain⟨V',g1,g2,g3,g4,g5,g6⟩:=jW (E:=E) (w:=w) hBw δ h k1 k2 (by simpa using hl)
    (λi p hp=>by have:=hd (i+1) p (by simpa using hp);rwa [show nb+(i+1)=nb+1+i by omega] at this)
    (λb hb=>AH b (Lv _ hb)) (λi j p q b c hp hq hb hc vr=>Ek (i+1) (j+1) p q b c (by simpa using hp) (by simpa using hq) (by simpa using hb) (by simpa using hc) (by omega))
    (λj p b hp hb=>dj (j+1) p b (by simpa using hp) (by simpa using hb)) (λq hq j p b hp hb=>by
     rcases k6 q hq with⟨hq,hqe⟩|hq
     ·rw[V.setν_other b0 (ak7 q hq)];exact hnw q hq (j+1) p b (by simpa using hp) (by simpa using hb)
     ·subst hq;show ZQ ((V.setν lb b0).ν lb) b _ _;rw[V.setν_same];have:=Ek 0 (j+1) _ p b0 b rfl (by simpa using hp) rfl (by simpa using hb) (by omega);simpa[I8] using this)
   refine⟨V',g1,g2,g3,g4,λx hx=>?_,λj b hb=>?_⟩
   ·obtain⟨e1,e2⟩:=g5 x (k3 x hx);refine⟨?_,e2⟩;rw[e1,V.setν_other b0 (λe=>by rw[e,k5] at hx;cases hx)]
   ·cases j with
    |zero=>
     simp only[Ul,Ai] at hb;subst hb;obtain⟨e1,e2⟩:=g5 lb k4;exact⟨by rw[P5,e1,V.setν_same],by rw[P5];exact e2⟩
    |succ j=>
     have:=g6 j b (by simpa using hb);rwa [show lb+1+j=lb+(j+1) by omega] at this
  ·cases h
end
section
open Go
def ASi(E:En):Prop:=∀f fe,lk f E.C.T=some fe->(f<1000000->Ck E.P E.GB E.GC (f%10000) fe)/\∀b,PH (fe.ca b)
structure P7 (E:En):Prop where
 tt:AER E.P E.C.tt
 gc:∀b o v,E.GC b o=some v->b<E.GB
 gb:E.GB<=E.B.heap.size
 tb:ASi E
 mx:E.P.follows .mixedOrders=true
 Kp:∀(x y c:Int) (w:World),0<=x->0<=y->c=0\/c=1->(callFunc E.C.Kp #[.int .u64 x,.int .u64 y,.int .u64 c]).run E.P w=
  .ok (.value (.tuple #[.int .u64 ((x+y+c)%18446744073709551616),.int .u64 ((x+y+c)/18446744073709551616)])) w
 Kf:∀(x y c:Int) (w:World),0<=x->0<=y->c=0\/c=1->y<18446744073709551616->(callFunc E.C.Kf #[.int .u64 x,.int .u64 y,.int .u64 c]).run E.P w=
  .ok (.value (.tuple #[.int .u64 ((x+18446744073709551616-y-c)%18446744073709551616),.int .u64 (if x<y+c then 1 else 0)])) w
 en:∀f args w,(∃fe,lk f E.C.T=some fe)->f<1000000->f%10000≠E.C.Kp->f%10000≠E.C.Kf->(callFunc (f%10000) args).run E.P w= .ok (.enter (f%10000) args) w
 eq:∀t ks,lk t E.C.eqs=some ks->∀xs ys:List Int,La ks xs->La ks ys->∀(op:BinOp) (x y:Operand) (w:World),
  (eqGuard op t x y (.agg (Aj ks xs).toArray) (.agg (Aj ks ys).toArray)).run E.P w= .ok () w/\(Op.equal t (.agg (Aj ks xs).toArray) (.agg (Aj ks ys).toArray)).run E.P w= .ok (xs == ys) w
theorem Y6{f:Nat}{ca:Bool}{as:List IZ}{nb:Nat}:∀ {AK:List PR} {k i:Nat} {p:PR},AK[i]? = some p->p ≠ .no->(nb+(k+i),⟨.fn f ca (k+i),as⟩)∈Qd f ca as nb k AK
 | [],k,i,p,h,_=>by simp at h
 |q::r,k,0,p,h,hp=>by
  simp only[Ul,Ai] at h;subst h;cases q with
  |no=>exact absurd rfl hp
  |i f=>simp[Qd]
  |l f=>simp[Qd]
 |q::r,k,i+1,p,h,hp=>by
  have:=Y6 (f:=f) (ca:=ca) (as:=as) (nb:=nb) (k:=k+1) (i:=i) (p:=p) (AK:=r) (by simpa using h) hp;rw[show k+1+i=k+(i+1) by omega] at this;cases q with
  |no=>simpa[Qd] using this
  |i f=>simp only[Qd];exact Lv _ this
  |l f=>simp only[Qd];exact Lv _ this
theorem UV{T:Tb}{V:Vl}{f:Nat}{ca:Bool}{as:List IZ}{nb:Nat}{fe:FE}(hf:lk f T=some fe)(hd:Ix T V (Qd f ca as nb 0 (fe.ca ca).AK)){i:Nat}{p:PR}
  (hp:(fe.ca ca).AK[i]? = some p) (hn:p ≠ .no):V.ρ (nb+i)=p.den (as.map (·.den V.ρ)):=by
 have h1:=Y6 (f:=f) (ca:=ca) (as:=as) (nb:=nb) (k:=0) hp hn;rw[Km] at h1;have h2:=hd _ h1;simp only[GG.den,Na.den,hf,BH.pr] at h2;rw[h2,List.getD,hp];rfl
theorem jm {ms:List (Option MP)} {lb:Nat} {V:Vl} {ins:List (List Int)} {args:List Value} {fb:List (Nat×Nat)} (hms:∀(i:Nat) (m:MP),ms[i]? = some (some m)->args[i]? = some (m.lv.den V)/\m.lv.ok V)
  (hfb:∀(j:Nat) (b:Nat×Nat),fb[j]? = some b->V.ν (lb+j)=b):
  ∀ {rs:List Pw} {nb:Nat} {eK:List Value} {tv:List TV},ja ms nb lb rs=some tv->pg ins args fb rs eK->
  (∀(i:Nat) (r:Pw),rs[i]? = some r->r.pr ≠ .no->V.ρ (nb+i)=r.pr.den ins)->(SK rs=true->∀(i:Nat) (v:Value),eK[i]? = some v->V.σ (nb+i)=v)->
  tv.map (·.den V)=eK/\∀t∈tv,t.ok V
 | [],nb,[],tv,h,_,_,_=>by
  simp only[ja,Ai] at h;subst h;exact⟨rfl,λt h=>by cases h⟩
 | [],nb,v::vs,tv,h,hr,_,_=>by simp[pg] at hr
 |r::rs,nb,[],tv,h,hr,_,_=>by simp[pg] at hr
 | r :: rs,nb,v::vs,tv,h,hr,hρ,hσ=>by
  unfold ja at h;split at h
  ·rename_i t ts h1 h2;simp only[Ai] at h;subst h;obtain⟨tc,hr2⟩:=hr;obtain⟨g1,g2⟩:=jm hms hfb h2 hr2 (λi r' cL hn=>by
     have:=hρ (i+1) r' (by simpa using cL) hn;rwa [show nb+(i+1)=nb+1+i by omega] at this) (λhe i v' n8=>by
     have:=hσ (by cases r<;>first|exact he|(simp[SK];done)|simpa[SK] using he) (i+1) v' (by simpa using n8)
     rwa [show nb+(i+1)=nb+1+i by omega] at this)
   have h0:=hρ 0 r rfl;rw[P5] at h0;have hd:t.den V=v/\t.ok V:=by
    cases r with
    |int k f=>
     simp only[XU,Ai] at h1;subst h1;have h3:=h0 (by simp[Pw.pr]);simp only[Pw.pr,PR.den] at h3;obtain⟨e1,e2⟩:=tc;simp only[TV.den,LV.den,TV.ok,LV.ok,X.den,h3,Ru];exact⟨e1.symm,e2⟩
    |bool f=>
     simp only[XU,Ai] at h1;subst h1;have h3:=h0 (by simp[Pw.pr]);simp only[Pw.pr,PR.den] at h3;simp only[TV.den,LV.den,TV.ok,LV.ok,X.den,h3,Ru];exact⟨tc.symm,trivial⟩
    | cy i=>
     simp only[XU] at h1;split at h1
     ·rename_i m hm;simp only[Ai] at h1;subst h1;obtain⟨e1,e2⟩:=hms i m hm;refine⟨?_,e2⟩;have:args[i]? = some v:=tc;rw[e1] at this;simpa[TV.den] using this
     ·cases h1
    |i7 j=>
     simp only[XU,Ai] at h1;subst h1;obtain⟨b,e1,e2⟩:=tc;refine⟨?_,trivial⟩;simp only[TV.den,LV.den,hfb j b e1,e2,P5]
    |agg ks f=>
     simp only[XU,Ai] at h1;subst h1;have h3:=h0 (by simp[Pw.pr]);simp only[Pw.pr,PR.den] at h3;obtain⟨e1,e2⟩:=tc;refine⟨?_,Wi h3 e1⟩;simp only[TV.den,Sk h3 e1.1,e2]
    |nil=>
     simp only[XU,Ai] at h1;subst h1;exact⟨Eq.symm tc,trivial⟩
    |eg=>
     simp only[XU,Ai] at h1;subst h1;exact⟨Eq.symm tc,trivial⟩
    | ya j n c=>
     simp only[XU] at h1;cases hb:Nat.ble n c with
     |false=>rw[hb] at h1;simp at h1
     |true=>
      rw[hb] at h1;simp only[cond_true,Ai] at h1;subst h1;have F2:=MQ hb;obtain⟨b,e1,e2⟩:=tc;refine⟨?_,?_⟩
      ·simp only[TV.den,LV.den,hfb j b e1,e2,P5,CX.den,X.den,SN,Nat.sub_zero]
      ·simp only[TV.ok,LV.ok,CX.den,X.den];omega
    | slP i n c=>
     simp only[XU] at h1;split at h1
     ·rename_i m hm;split at h1
      ·rename_i l o oA;cases hb:Nat.ble n c with
       |false=>rw[hb] at h1;cases h1
       |true=>
        rw[hb] at h1;simp only[cond_true,Ai] at h1;subst h1;have F2:=MQ hb;obtain⟨b,e1,e2⟩:=tc;obtain⟨e3,-⟩:=hms i m hm;rw[e1,oA,LV.cx] at e3;simp only[Ai,Value.pointer.injEq,Addr.mk.injEq,and_true] at e3;refine⟨?_,?_⟩
        ·simp only[TV.den,LV.den,e2,CX.den,X.den,SN,Nat.sub_zero,e3.1,e3.2]
        ·simp only[TV.ok,LV.ok,CX.den,X.den];omega
      ·cases h1
     ·cases h1
    |On j n=>
     simp only[XU,Ai] at h1;subst h1;have h4:=hσ rfl 0 v rfl;rw[P5] at h4;obtain⟨b,c,e1,e2,e3⟩:=tc;refine⟨?_,?_⟩
     ·simp only[TV.den,LV.den,hfb j b e1,CX.den,h4,e3,AHM,P5,SN,Nat.sub_zero]
     ·simp only[TV.ok,LV.ok,CX.den,h4,e3,AHM];omega
    |err=>
     simp only[XU,Ai] at h1;subst h1;have h4:=hσ rfl 0 v rfl;rw[P5] at h4;obtain⟨t',u,e⟩:=tc;exact⟨by simp only[TV.den,LV.den,h4],t',u,by rw[h4,e]⟩
   refine⟨by rw[NE,hd.1,g1],λt' ht'=>?_⟩;rcases IR.1 ht' with rfl|ht'
   ·exact hd.2
   ·exact g2 t' ht'
  ·cases h
theorem wI{s:BH}{i:Nat}{p:Nat×List IntKind×PF}(h:s.outs[i]? = some p):s.AK[i]? = some (.l p.2.2):=by
 have hi:=(OQ.1 h).1;unfold BH.AK;rw[bU,Zm (by simpa using hi),Ng,h];rfl
theorem aJ{s:BH}{i:Nat}{p:List IntKind×PF}(h:s.fresh[i]? = some p):s.AK[s.outs.length+i]? = some (.l p.2):=by
 have hi:=(OQ.1 h).1;unfold BH.AK;rw[bU,dh (by simp),Zm (by simp;omega)];simp[h]
theorem vv{s:BH}{i:Nat}{r:Pw}(h:s.ret[i]? = some r):s.AK[s.outs.length+s.fresh.length+i]? = some r.pr:=by
 unfold BH.AK;rw[dh (by simp)];simp[h]
theorem SX{GB:Nat}{w:World}:∀ {ps:List GD} {vs:List Value} {xs:List (List Int)} {bs:List (Nat×Nat)},KH GB w ps vs xs bs->vs.length=ps.length/\xs.length=ps.length/\bs.length=ps.length
 | [],[],[],[],_=>⟨rfl,rfl,rfl⟩
 |p::ps,v::vs,x::xs,b::bs,h=>by
  obtain⟨h1,h2,h3⟩:=SX h.2;simp[h1,h2,h3]
 | [],_::_,_,_,h=>by simp[KH] at h
 | [],[],_::_,_,h=>by simp[KH] at h
 | [],[],[],_::_,h=>by simp[KH] at h
 |_::_,[],_,_,h=>by simp[KH] at h
 |_::_,_::_,[],_,h=>by simp[KH] at h
 |_::_,_::_,_::_,[],h=>by simp[KH] at h
structure Vb (E:En) (st:St) (V:Vl) (nb bv:Nat) (rg:List Rg) (er:Bool) (V':Vl) (w':World):Prop where
 ρ:V'.ρ=V.ρ
 σ:∀i,(i<nb\/er=false)->V'.σ i=V.σ i
 ν:∀l,ED l (Dh st.rg)=true->V'.ν l=V.ν l/\ED l (Dh rg)=true
 mok:Oi E rg V' w'
 nF:Xl bv rg
section
variable{E:En}(hE:P7 E){st:St}{V:Vl}{w:World}{bv:Nat}(hm:Oi E st.rg V w)(hs:Xl bv st.rg)(hl:∀p∈st.ln,(V.ρ p.1).length=p.2)
include hE hm hs hl
theorem jR{f:Nat}{ca:Bool}{vs:List SV}{nb lb:Nat}{r:APw}(h:qx E.C f ca vs nb lb bv st=some r)(hv:∀v∈vs,v.ok V/\v.lt bv (Dh st.rg)=true)
  (pB:r.er=false\/(Xl nb st.rg/\∀v∈vs,v.lt nb (Dh st.rg)=true))
  (hd:Ix E.C.T V r.ds) (ho:ObH E.C.T V r.ob):
  ∃fe as bs,lk f E.C.T=some fe/\Oj st (fe.ca ca).params vs=some as/\KH E.GB w (fe.ca ca).params (vs.map (·.den V)) (as.1.map (·.den V.ρ)) bs/\Fv (fe.ca ca).params bs/\
   ((fe.ca ca).hp=true->(fe.ca true).pre (as.1.map (·.den V.ρ)))/\
   ∀fb eK w',Yv E.GC (fe.ca ca) (vs.map (·.den V)) (as.1.map (·.den V.ρ)) bs w fb eK w'->
    ∃V',Vb E st V nb bv r.rg r.er V' w'/\r.vs.map (·.den V')=eK/\∀t∈r.vs,t.ok V':=by
 unfold qx at h;split at h
 ·cases h
 rename_i fe DH;simp only at h;split at h
 ·cases h
 rename_i as ms has;cases hb:(VT st.rg ms&&Vz st.rg ms) with
 |false=>rw[hb] at h;simp at h
 |true=>
 rw[hb] at h;simp only[cond_true] at h;simp only[Bl] at hb;split at h
 ·cases h
 rename_i rg1 ξ;split at h
 ·cases h
 rename_i rg2 AH;split at h
 ·cases h
 rename_i tv htv;simp only[Ai] at h;subst h;simp only at hd ho;obtain⟨p1,p2,p3,p4,p5⟩:=S9 hm hl has (λv n8=>(hv v n8).1) hb.2;have ki:=tO hm p2 hb.1 (λx hx=>by
  obtain⟨i,hi,he⟩:=dX hx;have hg:ms[i]? = some (some x):=by rw[JC hi,he]
  exact(p5 i x hg).2)
 refine⟨fe,(as,ms),ms.map (TF V),DH,has,p1,ki,λhhp=>?_,λfb eK w' hP=>?_⟩
 ·rw[hhp] at ho;have:=ho (.pre f as) (by simp);simpa[JU.den,DH] using this
 have hdo:∀(i:Nat) (p:Nat×List IntKind×PF),(fe.ca ca).outs[i]? = some p->V.ρ (nb+i)=p.2.2 (as.map (·.den V.ρ)):=λi p hp=>by
  have:=UV DH hd (wI hp) (by simp);simpa[PR.den] using this
 have qq:∀(i:Nat) (p:List IntKind×PF),(fe.ca ca).fresh[i]? = some p->V.ρ (nb+(fe.ca ca).outs.length+i)=p.2 (as.map (·.den V.ρ)):=λi p hp=>by
  have:=UV DH hd (aJ hp) (by simp);rw[Ve];simpa[PR.den] using this
 have hdr:∀(i:Nat) (r:Pw),(fe.ca ca).ret[i]? = some r->r.pr ≠ .no->V.ρ (nb+(fe.ca ca).outs.length+(fe.ca ca).fresh.length+i)=r.pr.den (as.map (·.den V.ρ)):=λi r hr hn=>by
  have:=UV DH hd (vv hr) hn;rw[show nb+(fe.ca ca).outs.length+(fe.ca ca).fresh.length+i=nb+((fe.ca ca).outs.length+(fe.ca ca).fresh.length+i) by omega];exact this
 let nr:=nb+(fe.ca ca).outs.length+(fe.ca ca).fresh.length
 let V0:Vl:= { V with σ:=λi=>if SK (fe.ca ca).ret=true/\nr<=i/\i<nr+eK.length then eK.getD (i-nr) undef else V.σ i }
 have hσ0:SK (fe.ca ca).ret=false->∀i,V0.σ i=V.σ i:=λhe i=>if_neg (λh=>by rw[he] at h;exact absurd h.1 (by simp))
 have hσ1:∀i,i<nb->V0.σ i=V.σ i:=λi hi=>if_neg (λh=>by have:=h.2.1;omega)
 obtain⟨n,OS,So,hn3⟩:∃n,Xl n st.rg/\(∀v∈vs,v.lt n (Dh st.rg)=true)/\∀i,i<n->V0.σ i=V.σ i:=by
  rcases pB with he|⟨h1,h2⟩
  ·exact⟨bv,hs,λv n8=>(hv v n8).2,λi _=>hσ0 he i⟩
  ·exact⟨nb,h1,h2,hσ1⟩
 have zj:Ag n (Dh st.rg) V V0:=⟨λ_ _=>rfl,hn3,λ_ _=>rfl⟩;have tM:Oi E st.rg V0 w:=hm.ag zj OS;have hmp:TF V0=TF V:=by funext m;cases m<;>rfl
 obtain⟨wk,k1,k2,k3,k4⟩:=uq (V:=V0) (ins:=as.map (·.den V.ρ)) (w:=w) (w':=w') (D:=λ_ _=>False) hE.gc ξ tM hs hdo (by rw[hmp];exact hP.outs) (λf b o v hv=>.inr ⟨hv,λh=>h⟩);rw[hmp] at k4;obtain⟨j1,j2⟩:=aA ξ;have cY:∀f b o v,CY f wk b o v->CY f w' b o v:=λf b o v hv=>by
  rcases k4 f b o v hv with h|⟨h1,h2⟩
  ·exact h.gO
  ·exact hP.an.fp h1 (λhh=>h2 (.inr hh))
 have ala:BM E.B w' E.S:=hm.an.trans' hP.an (λb o th hS=>by
  obtain⟨p,hp,e1,e2,e3⟩:=hS;obtain⟨m,a1,a2,a3,R,hR,a4,a5,a6⟩:=j2 p hp;have ij:(ms.map (TF V)).getD p.1 (0,0)=TF V (some m):=by simp[List.getD,a1]
  rw[ij] at e1 e2 e3;simp only[TF] at e1 e2 e3;have:=(hm.sY R hR a5).2 (o-(V.ν m.l).2) (by omega);rw[a4] at this;rw[show(V.ν m.l).2+(o-(V.ν m.l).2)=o by omega, <- e1] at this;rcases this with h|h
  ·omega
  ·exact h)
 have ta:Oi E rg1 V0 w':=⟨λr hr i c hc=>by
   obtain⟨v,h1,h2⟩:=k1.pH r hr i c hc;exact⟨v,cY _ _ _ _ h1,h2⟩,k1.one,k1.sep,k1.sY,ala,hP.gw⟩
 have ajW:∀r∈st.rg,r.cs ≠ []->(V.ν r.id).1<w.heap.size:=λr hr cq=>by
  cases cS:r.cs with
  |nil=>exact absurd cS cq
  |cons c vl=>
   obtain⟨v,h1,-⟩:=hm.pH r hr 0 c (by rw[cS];rfl);exact h1.lt
 obtain⟨V1,q1,q2,q3,q4,q5,q6⟩:=jW (E:=E) (w:=w) hm.an.1 hE.gb AH ta k2 hP.len qq hP.fr hP.fd hP.fresh (λr hr j p b hp hb=>by
  obtain⟨r0,td,e1,e2⟩:=j1 r hr;have xp:=hP.fr b (Le hb);unfold ZQ;cases cS:r.cs with
  |nil=>right;right;right;left;rfl
  |cons c vl=>
   left
   show(V.ν r.id).1≠b.1;have:=ajW r0 td (λe=>by rw[e,cS] at e2;cases e2);rw[e1] at this;omega)
 have PJ:∀x,ED x (Dh st.rg)=true->V1.ν x=V.ν x/\ED x (Dh rg2)=true:=λx hx=>q5 x (by rw[k3];exact hx)
 have gk:Ag n (Dh st.rg) V V1:=⟨λi _=>by rw[q3],λi hi=>by rw[q4];exact hn3 i hi,λl pT=>(PJ l pT).1⟩;refine⟨V1,⟨by rw[q3],λi hi=>?_,PJ,q1,q2⟩,?_⟩
 ·rw[q4];exact hi.elim (hσ1 i) (λhe=>hσ0 he i)
 ·refine jm (V:=V1) (ms:=ms) (lb:=lb) (fb:=fb) (args:=vs.map (·.den V)) (ins:=as.map (·.den V.ρ)) (λi m UP=>?_) (λj b hb=>(q6 j b hb).1) htv hP.ret (λi r hr hn=>?_) (λhe i v hvi=>?_)
  ·obtain⟨e1,e2⟩:=p5 i m UP;have cf:=So _ (Le e1);have fS:=(hv _ (Le e1)).1;refine⟨?_,SV.ff gk cf fS⟩;rw[Ng,e1];simp only[UA,Ai];exact(SV.cr gk cf).symm
  ·rw[q3];exact hdr i r hr hn
  ·have hi:=(OQ.1 hvi).1;rw[q4];show(if SK (fe.ca ca).ret=true/\nr<=nr+i/\nr+i<nr+eK.length then eK.getD (nr+i-nr) undef else V.σ (nr+i))=v;rw[if_pos ⟨he,by omega,by omega⟩,Nat.add_sub_cancel_left,List.getD,hvi];rfl
end
end
section
open Go
theorem Vb.same{E:En}{st:St}{V:Vl}{w:World}{nb bv:Nat}{er:Bool}(hm:Oi E st.rg V w)(hs:Xl bv st.rg):Vb E st V nb bv st.rg er V w:=
 ⟨rfl,λ_ _=>rfl,λ_ h=>⟨rfl,h⟩,hm,hs⟩
section
variable{E:En}(hE:P7 E){st:St}{V:Vl}{w:World}(hm:Oi E st.rg V w)(hl:∀p∈st.ln,(V.ρ p.1).length=p.2)
include hE hm hl
theorem Yb {t:Nat} {v:LV} {nb:Nat} {r:NY} (h:j4 E.C t v nb st=some r) (hv:v.ok V) (hd:Ix E.C.T V r.ds):
  (Instr.loadAt t (v.den V)).run E.P w= .ok (r.v.den V) w/\r.v.ok V:=by
 unfold j4 at h;split at h
 ·rename_i d l o n9;have ha:=TD.rj (hE.tt t d n9) w;have eA:=TD.c9 (hE.tt t d n9) w;cases gk:d.agg with
  | true=>
   rw[gk] at h ha;simp only[cond_true] at h;split at h
   ·rename_i cs cS;simp only[Ai] at h;subst h;have pN:=hm.read cS;obtain⟨hlen,-⟩:=GN cS;refine⟨?_,λc hc=>?_⟩
    ·simp only[LV.cx,Instr.loadAt,Instr.sureAddr,loadVar,IY,KT,Hm,ha,if_true,eA];have:=run_loadCells_list (P:=E.P) w ⟨(V.ν l).1,(V.ν l).2+o,none⟩ (cs.map (·.den V)) (λj u hu=>by
      rw[Ng,Vu] at hu;obtain⟨c,hc,rfl⟩:=hu;rw[Cu];exact(pN j c hc).1)
     rw[Tg,hlen] at this;rw[this];rfl
    ·obtain⟨i,hi,rfl⟩:=dX hc;exact(pN i _ (JC hi)).2
   ·cases h
  | false=>
   rw[gk] at h ha;simp only[cond_false] at h;split at h
   ·rename_i c cS;simp only[Ai] at h;subst h;obtain⟨h1,h2⟩:=hm.read cS 0 c rfl;rw[P5] at h1;refine⟨?_,h2⟩;simp only[LV.cx,Instr.loadAt,Instr.sureAddr,loadVar,IY,KT,Hm,ha,RD,if_false,run_load,h1];rfl
   ·cases h
 ·rename_i d l o n s x n9;have ha:=TD.rj (hE.tt t d n9) w;have eA:=TD.c9 (hE.tt t d n9) w;obtain⟨kB,hxn⟩:=hv;obtain⟨j,hj⟩:=YD kB;have K1:j<n:=by omega
  split at h
  ·rename_i cs cS;split at h
   ·rename_i k ks xs A5;cases hk:gH k ks with
    |false=>rw[hk] at h;simp at h
    | true=>
     rw[hk] at h;simp only[cond_true] at h;have pN:=hm.read cS;obtain⟨hlen,-⟩:=GN cS;obtain⟨g1,g2,g3⟩:=Ku A5;have AM:∀(i:Nat) (k':IntKind),(k::ks)[i]? = some k'->k'=k:=λi k' h'=>by
      rcases IR.1 (Le h') with h|h
      ·exact h
      ·exact TN hk k' h
     cases gk:d.agg with
     | true=>
      rw[gk] at h ha;simp only[cond_true] at h;cases hb:Nat.beq d.size s with
      |false=>rw[hb] at h;simp at h
      | true=>
       rw[hb] at h;have sL:=CR hb;simp only[cond_true,Ai] at h;subst h;have h4:=hd _ (NB.2 rfl);simp only[GG.den,Na.den,NE,Uf,IZ.gS,Hr hl,Ru,X7,d1,hj,SN] at h4;have hns:j*s+s<=n*s:=by
        have:=Nat.mul_le_mul_right s (show j+1<=n from K1);rw[Nat.add_mul,Nat.one_mul] at this;exact this
       have hl4:(V.ρ nb).length=(List.replicate s k).length:=by
        rw[h4];simp;omega
       have cY:∀i,i<s->∃y,cs[j*s+i]? = some (.int k y)/\(V.ρ nb)[i]? = some (y.den V.ρ):=λi hi=>by
        have B8:j*s+i<cs.length:=by omega
        obtain⟨k',y,e1,e2,e3⟩:=g3 _ _ (JC B8);have:=AM _ _ e1;subst this;refine⟨y,by rw[JC B8,e3],?_⟩;rw[h4,List.getElem?_take,if_pos hi,List.getElem?_drop,Ng,e2];rfl
       refine⟨?_,Wi rfl ⟨hl4,λi k' y gE hy=>?_⟩⟩
       ·simp only[LV.lB,hj,SN,Instr.loadAt,Instr.sureAddr,loadVar,IY,KT,Hm,ha,if_true,eA];have:=run_loadCells_list (P:=E.P) w ⟨(V.ν l).1,(V.ν l).2+o+j*s,none⟩ ((I8 nb (List.replicate s k)).map (·.den V)) (λi u hu=>by
         rw[Ng,Vu] at hu;obtain⟨c,hc,rfl⟩:=hu;obtain⟨k',e1,e2⟩:=PE hc;have hi:i<s:=by have:=(OQ.1 e1).1;simpa using this
         have gE:k'=k:=(Hj.1 (Le e1)).2;subst gE;obtain⟨y,f1,f2⟩:=cY i hi;have f3:=(pN _ _ f1).1;rw[Cu,show(V.ν l).2+o+j*s+i=(V.ν l).2+o+(j*s+i) by omega,f3,e2];simp[LV.den,X.den,List.getD,f2])
        rw[Tg,Oy,Qs] at this;rw[sL,this];rfl
       ·have hi:i<s:=by have:=(OQ.1 gE).1;simpa using this
        have oX:k'=k:=(Hj.1 (Le gE)).2;subst oX;obtain⟨z,f1,f2⟩:=cY i hi;rw[hy] at f2;simp only[Ai] at f2;subst f2;exact(pN _ _ f1).2
     | false=>
      rw[gk] at h ha;simp only[cond_false] at h;cases hb:Nat.beq s 1 with
      |false=>rw[hb] at h;simp at h
      | true=>
       rw[hb] at h;have sL:=CR hb;subst sL;simp only[cond_true,Ai] at h;subst h;have h4:=hd _ (NB.2 rfl);simp only[GG.den,Na.den,NE,Uf,IZ.gS,Hr hl,Ru,X7,d1,hj,SN] at h4;have B8:j<cs.length:=by omega
       obtain⟨k',y,e1,e2,e3⟩:=g3 _ _ (JC B8);have:=AM _ _ e1;subst this;have h5:X.den V.ρ (.v nb 0)=y.den V.ρ:=by
        show(V.ρ nb).getD 0 0=_;rw[h4];simp[List.getD,e2]
       obtain⟨f1,f2⟩:=pN j _ (by rw[JC B8,e3]);refine⟨?_,by simp only[IB,SV.ok,TV.ok,LV.ok,h5];exact f2⟩;simp only[LV.lB,hj,SN,Nat.mul_one,Instr.loadAt,Instr.sureAddr,loadVar,IY,KT,Hm,ha,RD,if_false,run_load,f1];simp only[IB,SV.aE,TV.aq,LV.cQ,h5]
   ·cases h
  ·cases h
 ·cases h
end
section
variable{E:En}(hE:P7 E){st:St}{V:Vl}{w:World}{bv:Nat}(hm:Oi E st.rg V w)(hs:Xl bv st.rg)(hl:∀p∈st.ln,(V.ρ p.1).length=p.2)
include hE hm hs hl
theorem Um{l o:Nat}{vs:List LV}{rg:List Rg}{nb:Nat}(h:Nw bv st.rg l o vs=some rg)(fS:∀v∈vs,v.ok V):
  (storeCells ⟨(V.ν l).1,(V.ν l).2+o,none⟩ (vs.map (·.den V))).run E.P w= .ok () (setCells w (V.ν l).1 ((V.ν l).2+o) (vs.map (·.den V)))/\
   Vb E st V nb bv rg false V (setCells w (V.ν l).1 ((V.ν l).2+o) (vs.map (·.den V))):=by
 have _:=hl;obtain⟨Ks,hid⟩:=hs.write h;refine⟨?_,rfl,λ_ _=>rfl,λx hx=>⟨rfl,by rw[hid];exact hx⟩,hm.write hE.gc h fS,Ks⟩;obtain⟨R,hR,rfl,pe,hle,-, -⟩:=LG h;have:=KE (P:=E.P) (V.ν R.id).1 ((V.ν R.id).2+o) (vs.map (·.den V)) 0 w (λv hv=>by
  obtain⟨c,hc,rfl⟩:=UT.1 hv;exact LV.one (fS c hc)) (λj hj=>by
  rw[Tg] at hj;obtain⟨u,hu,-⟩:=hm.pH R hR (o+j) _ (JC (by omega));rw[pe] at hu;exact⟨u,by rw[P5,Ve];exact hu⟩)
 rw[P5] at this;exact this
theorem wm {t:Nat} {a:LV} {v:TV} {nb:Nat} {m:ZV} (h:oQ E.C t a v nb bv st=some m) (ha:a.ok V) (hv:v.ok V) (hd:Ix E.C.T V m.o.ds):
  ∃w',(Instr.storeAt t (a.den V) (v.den V)).run E.P w= .ok () w'/\Vb E st V nb bv m.rg m.er V w'/\m.o.v= .pn []:=by
 unfold oQ at h;split at h
 ·rename_i d l o n9;have eA:=TD.c9 (hE.tt t d n9) w;cases hb:Nat.beq v.cells.length d.size with
  |false=>rw[hb] at h;simp at h
  | true=>
   rw[hb] at h;have sL:=CR hb;simp only[cond_true] at h;split at h
   ·rename_i rg pS;simp only[Ai] at h;subst h;obtain⟨h1,h2⟩:=Um hE hm hs hl (nb:=nb) pS (TV.rK hv);refine⟨_,?_,h2,rfl⟩;have FA:=TV.oT hv;have cS:(v.den V).cells.size=d.size:=by rw[<- Array.length_toList,FA,Tg];exact sL
    simp only[LV.cx,Instr.storeAt,Instr.sureAddr,storeVar,IY,KT,Hm,eA,cS,ne_eq,not_true,if_false,FA];exact h1
   ·cases h
 ·rename_i d l o n s x n9;have eA:=TD.c9 (hE.tt t d n9) w;obtain⟨kB,hxn⟩:=ha;obtain⟨j,hj⟩:=YD kB;have K1:j<n:=by omega
  split at h
  ·rename_i k y;cases hb:(Nat.beq d.size 1&&Nat.beq s 1) with
   |false=>rw[hb] at h;simp at h
   | true =>
    rw[hb] at h;simp only[Bl] at hb;have sL:=CR hb.1;have hs1:=CR hb.2;subst hs1;simp only[cond_true] at h;split at h
    ·rename_i cs cS;split at h
     ·rename_i ks xs A5;cases hk:gH k ks with
      |false=>rw[hk] at h;simp at h
      | true =>
       rw[hk] at h;simp only[cond_true] at h;split at h
       ·rename_i rg pS;simp only[Ai] at h;subst h;have pN:=hm.read cS;obtain⟨hlen,R,hR,TX,hRn,hRc⟩:=GN cS;obtain⟨g1,g2,g3⟩:=Ku A5;have h4:=hd _ (NB.2 rfl);simp only[GG.den,Na.den,NE,Uf,IZ.gS,Hr hl,Ru,X7,d1,hj,SN] at h4;have hl4:(V.ρ nb).length=ks.length:=by rw[h4];simp;omega
        have hky:IU k (y.den V.ρ):=hv;have hold:∀(i:Nat) (k':IntKind) (z:Int),ks[i]? = some k'->(V.ρ nb)[i]? = some z->k'=k/\IU k z/\(i≠j->∃c,cs[i]? = some c/\c.den V= .int k z)/\(i=j->z=y.den V.ρ):=λi k' z gE hz=>by
         have AM:=TN hk k' (Le gE);subst AM;have hi:i<cs.length:=by have:=(OQ.1 gE).1;omega
         obtain⟨k2,x2,e1,e2,e3⟩:=g3 i _ (JC hi);rw[gE] at e1;cases e1;have hc:cs[i]? = some (.int k' x2):=by rw[JC hi,e3]
         rw[h4,List.getElem?_set] at hz;by_cases vr:j=i
         ·subst vr;rw[if_pos rfl] at hz;split at hz
          ·simp only[Ai] at hz;subst hz;exact⟨rfl,hky,λh=>absurd rfl h,λ_=>rfl⟩
          ·cases hz
         ·rw[if_neg vr,Ng,e2] at hz;simp only[UA,Ai] at hz;subst hz;exact⟨rfl,(pN i _ hc).2,λ_=>⟨_,hc,rfl⟩,λh=>absurd h.symm vr⟩
        have aiJ:La ks (V.ρ nb):=⟨hl4,λi k' z gE hz=>by
         obtain⟨e1,e2,-⟩:=hold i k' z gE hz;rw[e1];exact e2⟩
        obtain⟨h1,h2⟩:=Um hE hm hs hl (nb:=nb) pS (Wi rfl aiJ);have hwR:R.wr=true:=by
         obtain⟨R',hR',pT,hw',-, -, -⟩:=LG pS;rw[<- hm.one R' hR' R hR (pT.trans TX.symm)];exact hw'
        obtain⟨u,hu,-⟩:=hm.pH R hR (o+j) _ (JC (by omega));rw[hwR,TX, <- Ve] at hu;have wj:=KE (P:=E.P) (V.ν l).1 ((V.ν l).2+o+j) [.int k (y.den V.ρ)] 0 w (λv hv=>by
         simp only[NB] at hv;subst hv;rfl) (λi hi=>by
         simp only[List.length_singleton] at hi;have:i=0:=by omega
         subst this;exact⟨u,by simpa using hu⟩)
        rw[P5] at wj;refine⟨setCells w (V.ν l).1 ((V.ν l).2+o+j) [.int k (y.den V.ρ)],?_,?_,rfl⟩
        ·simp only[LV.lB,hj,SN,Nat.mul_one,Instr.storeAt,Instr.sureAddr,storeVar,IY,KT,Hm,eA,sL];simp only[TV.aq,LV.cQ,Value.cells];exact wj
        ·
         have ye:∀f b' o' v',CY f (setCells w (V.ν l).1 ((V.ν l).2+o) ((I8 nb ks).map (·.den V))) b' o' v'->CY f (setCells w (V.ν l).1 ((V.ν l).2+o+j) [.int k (y.den V.ρ)]) b' o' v':=by
          intro f b' o' v' i6;have hvl:(I8 nb ks).map (·.den V)=Aj ks (V.ρ nb):=Sk rfl hl4;rw[hvl] at i6;have hil:(Aj ks (V.ρ nb)).length=ks.length:=by simp[Aj,hl4]
          by_cases eC:b'=(V.ν l).1/\(V.ν l).2+o<=o'/\o'<(V.ν l).2+o+ks.length
          ·obtain⟨rfl,q1,q2⟩:=eC;obtain⟨i,rfl⟩:∃i,o'=(V.ν l).2+o+i:=⟨o'-((V.ν l).2+o),by omega⟩;have hi:i<ks.length:=by omega
           have hvi:(Aj ks (V.ρ nb))[i]? = some ((Aj ks (V.ρ nb))[i]'(by omega)):=JC _;obtain⟨k2,z,e1,e2,e3⟩:=Wl hvi;obtain⟨f1,-,f3,f4⟩:=hold i k2 z e1 e2;subst f1;obtain⟨u2,vj,-⟩:=hm.pH R hR (o+i) _ (JC (by omega));rw[hwR,TX, <- Ve] at vj;have afz:=CY.ep (f:=f) (b:=(V.ν l).1) (Aj ks (V.ρ nb)) w ((V.ν l).2+o) i _ hvi ⟨u2,vj.gO⟩;rw[i6.inj afz,e3];by_cases vr:i=j
           ·subst vr;rw[f4 rfl];have:=CY.ep (f:=f) (b:=(V.ν l).1) [.int k2 (y.den V.ρ)] w ((V.ν l).2+o+i) 0 _ rfl ⟨u2,by simpa using vj.gO⟩;simpa using this
           ·obtain⟨c,hc,FA⟩:=f3 vr;refine CY.ct _ _ _ _ ?_ (by simp only[List.length_singleton];omega);have hrc:=(pN i c hc).1;have:u2= .int k2 z:=by
             have:=vj.1.symm.trans hrc;rw[FA] at this;simpa using this
            rw[<- this];exact vj.gO
          ·have ado:=CY.ju _ _ _ _ i6 (by
            rw[hil];by_cases tI:b'=(V.ν l).1
            ·right
             have:=λh1 h2=>eC ⟨tI,h1,h2⟩
             omega
            ·exact .inl tI)
           refine CY.ct _ _ _ _ ado ?_;simp only[List.length_singleton];by_cases tI:b'=(V.ν l).1
           ·right
            have:=λh1 h2=>eC ⟨tI,h1,h2⟩
            omega
           ·exact .inl tI
         have ω:=hm.sY R hR hwR;rw[TX] at ω;refine⟨rfl,λ_ _=>rfl,h2.ν,⟨λr hr i c hc=>?_,h2.mok.one,h2.mok.sep,h2.mok.sY,?_,?_⟩,h2.nF⟩
         ·obtain⟨v',p1,p2⟩:=h2.mok.pH r hr i c hc;exact⟨v',ye _ _ _ _ p1,p2⟩
         ·refine BM.setCells _ _ _ hm.an λi hi=>?_
          simp only[List.length_singleton] at hi;have:i=0:=by omega
          subst this;rw[P5,Ve];exact ω.2 (o+j) (by omega)
         ·intro b' o' v' n8;have xp:=hE.gc b' o' v' n8;have h0:CY false w b' o' v':=⟨hm.gw b' o' v' n8,λh=>by cases h⟩;exact(CY.ct _ _ _ _ h0 (.inl (by have:=ω.1;omega))).1
       ·cases h
     ·cases h
    ·cases h
  ·cases h
 ·cases h
theorem AJT{l:Nat}{cs:List LV}{rg:List Rg}{nb:Nat}(h:aU bv st.rg l cs=some rg)(fS:∀c∈cs,c.ok V)(elem:Nat):
  ∃w',(newRow elem (cs.map (·.den V)).toArray).run E.P w= .ok ⟨w.heap.size,0,none⟩ w'/\Vb E st V nb bv rg false (V.setν l (w.heap.size,0)) w'/\(V.setν l (w.heap.size,0)).ν l=(w.heap.size,0)/\ED l (Dh rg)=true:=by
 have _:=hl
 let w':World:= { w with heap:=w.heap.push (.cells (cs.map (·.den V)).toArray elem) }
 have hp:w'.heap=w.heap.push (.cells (cs.map (·.den V)).toArray elem (0,0)):=rfl;have jt:Oi E st.rg V w':=⟨λr hr i c hc=>by
   obtain⟨v,h1,h2⟩:=hm.pH r hr i c hc;exact⟨v,h1.push hp,h2⟩,hm.one,hm.sep,hm.sY,hm.an.push hp rfl rfl rfl,λb o v hv=>by
   have h0:CY false w b o v:=⟨hm.gw b o v hv,λh=>by cases h⟩;exact(h0.push hp).1⟩
 have hB:=hm.an.1;have hG:=hE.gb;obtain⟨k1,k2,k3,k4,k5,k6⟩:=jt.add hs h (b:=(w.heap.size,0)) (λr hr=>by
   unfold ZQ;cases cS:r.cs with
   |nil=>right;right;right;left;rfl
   |cons c vl=>
    obtain⟨v,h1,-⟩:=hm.pH r hr 0 c (by rw[cS];rfl);have:=h1.lt
    left
    show _≠w.heap.size;omega) hB (by show E.GB<=w.heap.size;omega) (λi c hc=>by
   refine CY.fh (c:=(cs.map (·.den V)).toArray) (e:=elem) (lo:=0) (hi:=0) ?_ ?_ (λ_=>by omega)
   ·rw[hp];simp
   ·simp[hc]) fS
 refine⟨w',rfl,⟨rfl,λ_ _=>rfl,λx hx=>⟨V.setν_other _ (λe=>by rw[e,k5] at hx;cases hx),k3 x hx⟩,k1,k2⟩,V.setν_same _ _,k4⟩
end
end
end Go.Proofs.YtloibefkijfdlaaGreatDoor
