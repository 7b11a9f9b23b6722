/- The symbolic executor, part 1: what it computes (symbolic values, states, one operation). No theorem here. -/
import Derived.Orders
import Derived.KernelRfl
import Derived.Laws.Cells
import Derived.Laws.Externs
namespace Go.Proofs.YtkbfdaoohhmgoaaGreatDoor
section
open Go
theorem Fb:type_of% @Result.andThen_ok:=@Result.andThen_ok
theorem CV:type_of% @congrArg:=@congrArg
theorem EX:type_of% @Nat.le_trans:=@Nat.le_trans
theorem Oa:type_of% @List.getElem?_eq_some_iff:=@List.getElem?_eq_some_iff
theorem G9:type_of% @List.mem_cons:=@List.mem_cons
theorem Gi:type_of% @Sem.run_bind:=@Sem.run_bind
theorem Kh:type_of% @List.all_eq_true:=@List.all_eq_true
theorem NC:type_of% @List.length_append:=@List.length_append
theorem NU:type_of% @List.mem_singleton:=@List.mem_singleton
theorem I4:type_of% @Sem.run_pure:=@Sem.run_pure
theorem Ie:type_of% @Nat.le_refl:=@Nat.le_refl
theorem Ng:type_of% @List.getElem?_map:=@List.getElem?_map
theorem NY:type_of% @List.length_cons:=@List.length_cons
theorem KN:type_of% @Nat.zero_add:=@Nat.zero_add
theorem Rp:type_of% @List.length_replicate:=@List.length_replicate
theorem Qx:type_of% @List.getD_cons_zero:=@List.getD_cons_zero
theorem Qo:type_of% @Bool.false_eq_true:=@Bool.false_eq_true
theorem UV:type_of% @List.getElem?_cons_zero:=@List.getElem?_cons_zero
theorem NM:type_of% @List.map_cons:=@List.map_cons
theorem YJ:type_of% @Array.getD_eq_getD_getElem?:=@Array.getD_eq_getD_getElem?
theorem Qw:type_of% @List.length_take:=@List.length_take
theorem Rh:type_of% @Int.toNat_natCast:=@Int.toNat_natCast
theorem RD:type_of% @List.append_nil:=@List.append_nil
theorem Yg:type_of% @Option.map_eq_some_iff:=@Option.map_eq_some_iff
theorem QO:type_of% @Nat.add_zero:=@Nat.add_zero
theorem fQ:type_of% @List.getElem?_append_right:=@List.getElem?_append_right
theorem UC:type_of% @List.length_map:=@List.length_map
theorem gZ:type_of% @List.getElem?_append_left:=@List.getElem?_append_left
theorem VK:type_of% @List.length_drop:=@List.length_drop
theorem UT:type_of% @Option.map_some:=@Option.map_some
theorem Sd:type_of% @Int.le_trans:=@Int.le_trans
theorem kC:type_of% @Int.eq_ofNat_of_zero_le:=@Int.eq_ofNat_of_zero_le
theorem aa:type_of% @List.getD_cons_succ:=@List.getD_cons_succ
theorem iF:type_of% @List.getElem?_replicate:=@List.getElem?_replicate
theorem WT:type_of% @Option.some.inj:=@Option.some.inj
theorem Yt:type_of% @List.append_assoc:=@List.append_assoc
theorem Us:type_of% @List.mem_map:=@List.mem_map
theorem fT:type_of% @List.map_congr_left:=@List.map_congr_left
theorem kv:type_of% @List.mem_append_right:=@List.mem_append_right
theorem WZ:type_of% @Nat.add_assoc:=@Nat.add_assoc
theorem kY:type_of% @List.getElem_of_mem:=@List.getElem_of_mem
theorem VW:type_of% @List.map_nil:=@List.map_nil
theorem uM:type_of% @Array.getElem?_eq_none:=@Array.getElem?_eq_none
theorem YL:type_of% @Int.mul_assoc:=@Int.mul_assoc
theorem nI:type_of% @Int.natCast_nonneg:=@Int.natCast_nonneg
theorem Cp:type_of% @List.getElem?_cons_succ:=@List.getElem?_cons_succ
theorem yu:type_of% @Nat.ble_eq_true_of_le:=@Nat.ble_eq_true_of_le
theorem HW:type_of% @List.eq_nil_of_length_eq_zero:=@List.eq_nil_of_length_eq_zero
theorem qm:type_of% @Nat.lt_of_lt_of_le:=@Nat.lt_of_lt_of_le
theorem ku:type_of% @List.getElem_mem:=@List.getElem_mem
theorem fV:type_of% @List.mem_range:=@List.mem_range
theorem bf:type_of% @Int.mul_comm:=@Int.mul_comm
theorem qM:type_of% @List.mem_append:=@List.mem_append
theorem uu:type_of% @Int.emod_eq_of_lt:=@Int.emod_eq_of_lt
theorem A6:type_of% @List.mem_replicate:=@List.mem_replicate
theorem gq:type_of% @Int.le_refl:=@Int.le_refl
theorem kw:type_of% @Nat.pow_succ:=@Nat.pow_succ
theorem kz:type_of% @Nat.lt_or_ge:=@Nat.lt_or_ge
theorem qI:type_of% @Nat.mul_comm:=@Nat.mul_comm
theorem HK:type_of% @List.mem_of_mem_drop:=@List.mem_of_mem_drop
theorem NO:type_of% @List.take_of_length_le:=@List.take_of_length_le
theorem wK:type_of% @Int.mul_add:=@Int.mul_add
theorem HM:type_of% @List.length_nil:=@List.length_nil
theorem C5:type_of% @Int.ofNat_lt:=@Int.ofNat_lt
theorem LS:type_of% @List.cons_append:=@List.cons_append
theorem Bx:type_of% @Int.add_mul:=@Int.add_mul
theorem T0:type_of% @Nat.pow_le_pow_right:=@Nat.pow_le_pow_right
theorem MA:type_of% @List.nil_append:=@List.nil_append
theorem Hi:type_of% @Int.pow_succ:=@Int.pow_succ
theorem HF:type_of% @Nat.sub_self:=@Nat.sub_self
theorem Mb:type_of% @Int.add_zero:=@Int.add_zero
theorem zcv:type_of% @List.take_zero:=@List.take_zero
theorem W7:type_of% @List.drop_zero:=@List.drop_zero
theorem RW:type_of% @Int.zero_mul:=@Int.zero_mul
theorem L4:type_of% @Nat.mod_lt:=@Nat.mod_lt
theorem P1:type_of% @Nat.pow_pos:=@Nat.pow_pos
theorem zda:type_of% @Int.one_mul:=@Int.one_mul
theorem zdb:type_of% @Nat.lt_of_le_of_lt:=@Nat.lt_of_le_of_lt
theorem zdc:type_of% @Int.mul_one:=@Int.mul_one
theorem zdd:type_of% @Int.emod_emod_of_dvd:=@Int.emod_emod_of_dvd
theorem zde:type_of% @Int.zero_add:=@Int.zero_add
universe u
theorem Ai {α : Type u} (a b : α) : (some a = some b) = (a = b) := Option.some.injEq a b
theorem Ca {n m : Nat} (h : Nat.beq n m = true) : n = m := Nat.eq_of_beq_eq_true h
theorem Bj (a b : Bool) : ((a && b) = true) = (a = true /\ b = true) := Bool.and_eq_true a b
theorem Kv {n m : Nat} (h : Nat.ble n m = true) : n <= m := Nat.le_of_ble_eq_true h
theorem Io {α : Type u} {l : List α} {i : Nat} (h : i < l.length) : l[i]? = some l[i] := List.getElem?_eq_getElem h
theorem Jv {α : Type u} {a : α} {l : List α} : a ∈ a :: l := List.mem_cons_self
theorem MN {α : Type u} (y : α) {a : α} {l : List α} (h : a ∈ l) : a ∈ y :: l := List.mem_cons_of_mem y h
theorem MB {α : Type u} {a : α} {l : List α} {i : Nat} (h : l[i]? = some a) : a ∈ l := List.mem_of_getElem? h
def lk{α:Type}(t:Nat):List (Nat×α)->Option α
 | []=>none
 |(k,v)::r=>bif Nat.beq k t then some v else lk t r
def UN{α:Type}:List α->Nat->List α->List α
 | [],_,_=>[]
 |c::cs,0,[]=>c::cs
 |_::cs,0,v::vs=>v::UN cs 0 vs
 |c::cs,o+1,vs=>c::UN cs o vs
def H5(a b:Int):Bool:=match a,b with
 | .ofNat m,.ofNat n=>Nat.beq m n
 | .negSucc m,.negSucc n=>Nat.beq m n
 |_,_=>false
def OT{α:Type}(f:α->α->Bool):List α->List α->Bool
 | [],[]=>true
 |a::as,b::bs=>f a b&&OT f as bs
 |_,_=>false
inductive X where
 |lit (n:Int)
 |v (i k:Nat)
abbrev Bu:=Nat->List Int
def X.den(ρ:Bu):X->Int
 | .lit n=>n
 | .v i k=>(ρ i).getD k 0
def X.lt(nv:Nat):X->Bool
 | .lit _=>true
 | .v i _=>Nat.blt i nv
def X.beq:X->X->Bool
 | .lit a,.lit b=>H5 a b
 | .v i k,.v j m=>Nat.beq i j&&Nat.beq k m
 |_,_=>false
structure Vl where
 ρ:Bu
 ν:Nat->Nat×Nat
 σ:Nat->Value
inductive CX where
 |n (x:X)
 |s (i:Nat)
def AGU:Value->Nat
 | .slice _ _ c=>c
 |_=>0
def CX.den(V:Vl):CX->Int
 | .n x=>x.den V.ρ
 | .s i=>((AGU (V.σ i):Nat):Int)
def CX.lt(nv:Nat):CX->Bool
 | .n x=>x.lt nv
 | .s i=>Nat.blt i nv
def CX.beq:CX->CX->Bool
 | .n a,.n b=>a.beq b
 | .s a,.s b=>Nat.beq a b
 |_,_=>false
def zT(ρ:Bu)(x:X):UInt8:=UInt8.ofNat (x.den ρ).toNat
inductive LV where
 |int (k:IntKind) (x:X)
 |bool (x:X)
 |ptr (l o:Nat)
 |nil
 |sl (l o n:Nat) (c:CX) (d:Nat)
 |se (l o s:Nat) (c:CX) (d a:Nat)
 |str (xs:List X)
 |CM
 |ej
 |val (v:Value)
 |Ek (i:Nat)
 |err (i:Nat)
 |pd (l o n s:Nat) (x:X)
 |fL (l o n i:Nat)
def LV.den(V:Vl):LV->Value
 | .int k x=>.int k (x.den V.ρ)
 | .bool x=>.bool (x.den V.ρ != 0)
 | .ptr l o=>.pointer (some ⟨(V.ν l).1,(V.ν l).2+o,none⟩)
 | .nil=>.pointer none
 | .sl l o n c d=>.slice (some ⟨(V.ν l).1,(V.ν l).2+o,none⟩) n ((c.den V).toNat-d)
 | .se l o s c d a=>.slice (some ⟨(V.ν l).1,(V.ν l).2+(if(c.den V).toNat-d=a then o else o+a*s),none⟩) 0 ((c.den V).toNat-d-a)
 | .str xs=>.string ⟨(xs.map (zT V.ρ)).toArray⟩
 | .CM=>.slice none 0 0
 | .ej=>.nilIface
 | .val v=>v
 | .Ek i=>V.σ i
 | .err i=>V.σ i
 | .pd l o _ s x=>.pointer (some ⟨(V.ν l).1,(V.ν l).2+o+(x.den V.ρ).toNat*s,none⟩)
 | .fL _ _ _ i=>V.σ i
def IJ(k:IntKind)(n:Int):Prop:=k.min<=n/\n<=k.max
def bL(k:IntKind)(n:Int):Bool:=decide (k.min<=n)&&decide (n<=k.max)
def LV.ok(V:Vl):LV->Prop
 | .int k x=>IJ k (x.den V.ρ)
 | .sl _ _ n c d=>((n+d:Nat):Int)<=c.den V
 | .se _ _ _ c d a=>((a+d:Nat):Int)<=c.den V
 | .str xs=>∀x∈xs,IJ .u8 (x.den V.ρ)
 | .err i=>∃t v,V.σ i= .iface t v
 | .val v=>v.oneCell'=true
 | .Ek i=>(V.σ i).oneCell'=true
 | .pd _ _ n _ x=>0<=x.den V.ρ/\x.den V.ρ<n
 | .fL l o n i=>∃m c,V.σ i= .slice (some ⟨(V.ν l).1,(V.ν l).2+o,none⟩) m c/\n<=m
 |_=>True
def Dz(l:Nat):List Nat->Bool
 | []=>false
 |i::r=>Nat.beq i l||Dz l r
def LV.lt(nv:Nat)(ids:List Nat):LV->Bool
 | .int _ x=>x.lt nv
 | .bool x=>x.lt nv
 | .ptr l _=>Dz l ids
 | .sl l _ _ c _=>Dz l ids&&c.lt nv
 | .se l _ _ c _ _=>Dz l ids&&c.lt nv
 | .str xs=>xs.all (·.lt nv)
 | .pd l _ _ _ x=>Dz l ids&&x.lt nv
 | .fL l _ _ i=>Dz l ids&&Nat.blt i nv
 | .Ek i=>Nat.blt i nv
 | .err i=>Nat.blt i nv
 |_=>true
def ikN:IntKind->Nat
 | .i8=>0 | .i16=>1 | .i32=>2 | .i64=>3 | .u8=>4 | .u16=>5 | .u32=>6 | .u64=>7
def sK(a b:IntKind):Bool:=Nat.beq (ikN a) (ikN b)
def LV.beq:LV->LV->Bool
 | .int k x,.int k' x'=>sK k k'&&x.beq x'
 | .bool x,.bool x'=>x.beq x'
 | .ptr l o,.ptr l' o'=>Nat.beq l l'&&Nat.beq o o'
 | .nil,.nil=>true
 | .sl l o n c d,.sl l' o' n' c' d'=>Nat.beq l l'&&Nat.beq o o'&&Nat.beq n n'&&c.beq c'&&Nat.beq d d'
 | .se l o s c d a,.se l' o' s' c' d' a'=>Nat.beq l l'&&Nat.beq o o'&&Nat.beq s s'&&c.beq c'&&Nat.beq d d'&&Nat.beq a a'
 | .str xs,.str ys=>OT X.beq xs ys
 | .CM,.CM=>true
 | .ej,.ej=>true
 | .Ek i,.Ek j=>Nat.beq i j
 | .err i,.err j=>Nat.beq i j
 | .pd l o n s x,.pd l' o' n' s' x'=>Nat.beq l l'&&Nat.beq o o'&&Nat.beq n n'&&Nat.beq s s'&&x.beq x'
 | .fL l o n i,.fL l' o' n' i'=>Nat.beq l l'&&Nat.beq o o'&&Nat.beq n n'&&Nat.beq i i'
 |_,_=>false
inductive TV where
 |l (v:LV)
 |a (vs:List LV)
def TV.den(V:Vl):TV->Value
 | .l v=>v.den V
 | .a vs=>.agg (vs.map (·.den V)).toArray
def TV.ok(V:Vl):TV->Prop
 | .l v=>v.ok V
 | .a vs=>∀v∈vs,v.ok V
def TV.lt(nv:Nat)(ids:List Nat):TV->Bool
 | .l v=>v.lt nv ids
 | .a vs=>vs.all (·.lt nv ids)
def TV.beq:TV->TV->Bool
 | .l v,.l v'=>v.beq v'
 | .a vs,.a vs'=>OT LV.beq vs vs'
 |_,_=>false
def TV.cells:TV->List LV
 | .l v=>[v]
 | .a vs=>vs
inductive SV where
 |t (v:TV)
 |nj (vs:List TV)
 |any (i:Nat)
def SV.den(V:Vl):SV->Value
 | .t v=>v.den V
 | .nj vs=>.tuple (vs.map (·.den V)).toArray
 | .any i=>V.σ i
def SV.ok(V:Vl):SV->Prop
 | .t v=>v.ok V
 | .nj vs=>∀v∈vs,v.ok V
 | .any _=>True
def SV.lt(nv:Nat)(ids:List Nat):SV->Bool
 | .t v=>v.lt nv ids
 | .nj vs=>vs.all (·.lt nv ids)
 | .any i=>Nat.blt i nv
def SV.beq:SV->SV->Bool
 | .t v,.t v'=>v.beq v'
 | .nj vs,.nj vs'=>OT TV.beq vs vs'
 | .any i,.any j=>Nat.beq i j
 |_,_=>false
def LV.N2:Value->Option LV
 | .int k n=>bif bL k n then some (.int k (.lit n)) else none
 | .bool b=>some (.bool (.lit (cond b 1 0)))
 | .pointer none=>some .nil
 | .slice none 0 0=>some .CM
 | .nilIface=>some .ej
 | .string s=>some (.val (.string s))
 |_=>none
def qC:List Value->Option (List LV)
 | []=>some []
 | v::vs=>match LV.N2 v with
  |none=>none
  |some x=>match qC vs with
   |none=>none
   |some xs=>some (x::xs)
def SV.N2:Value->Option SV
 | .agg cs=>match qC cs.toList with
  |some vs=>some (.t (.a vs))
  |none=>none
 |v=>match LV.N2 v with
  |some x=>some (.t (.l x))
  |none=>none
structure Rg where
 id:Nat
 fR:Nat
 wr:Bool
 cs:List (Option LV)
structure St where
 lc:List (Nat×SV)
 tm:List (Nat×SV)
 rg:List Rg
 gl:List (Nat×Nat)
 ln:List (Nat×Nat)
 nt:Nat
 nv:Nat
 nl:Nat
def jB(l:Nat):List Rg->Option Rg
 | []=>none
 |r::rs=>bif Nat.beq r.id l then some r else jB l rs
def RY{α:Type}:List (Option α)->Option (List α)
 | []=>some []
 |none::_=>none
 |some x::xs=>match RY xs with
  |some ys=>some (x::ys)
  |none=>none
def Jk(rg:List Rg)(l o n:Nat):Option (List LV):=
 match jB l rg with
 |none=>none
 |some r=>bif Nat.ble (o+n) r.cs.length then RY ((r.cs.drop o).take n) else none
def WO(l o g n:Nat)(vs:List (Option LV))(r:Rg):Rg:=
 bif Nat.beq r.id l then { r with cs:=UN r.cs o vs }
 else bif !(Nat.beq g 0)&&Nat.beq r.fR g then { r with cs:=UN r.cs o (List.replicate n none) } else r
def DL(rg:List Rg):List Nat:=rg.map (·.id)
def Nh(bv:Nat)(rg:List Rg)(l o:Nat)(vs:List LV):Option (List Rg):=
 match jB l rg with
 |none=>none
 |some r=>bif r.wr&&Nat.ble (o+vs.length) r.cs.length&&vs.all (·.lt bv (DL rg)) then some (rg.map (WO l o r.fR vs.length (vs.map some))) else none
def uK(r:Rg):List Rg->List Rg
 | []=>[r]
 |r'::rs=>bif Nat.blt r'.id r.id then r::r'::rs else r'::uK r rs
def dV(bv:Nat)(rg:List Rg)(l:Nat)(cs:List LV):Option (List Rg):=
 bif !(Dz l (DL rg))&&cs.all (·.lt bv (DL rg)) then some (uK ⟨l,0,true,cs.map some⟩ rg) else none
inductive TK where
 |int (k:IntKind)
 |ptr (e:Nat)
 |sl (e:Nat)
 |arr (n e:Nat)
 |str (fs:List (Nat×Nat))
 |iface
 |stg
 |other
structure TD where
 k:TK
 size:Nat
 bytes:Nat
 agg:Bool
 zero:List LV
def TK.c8:TypeDesc->TK
 | .int k=>.int k
 | .pointer e=>.ptr e
 | .slice e=>.sl e
 | .array n e=>.arr n e
 | .struct fs=>.str (fs.toList.map λf=>(f.offset,f.type))
 | .interface _=>.iface
 | .string=>.stg
 |_=>.other
def wR:TypeDesc->Bool
 | .struct _ | .array _ _=>true
 |_=>false
def TD.of (P:Program) (t:Nat):Option TD:=
 match P.underlying t with
 |none=>none
 | some d=>match P.info? t with
  |none=>none
  | some i=>match i.zero with
   |none=>none
   |some z=>match qC z.cells.toList with
    |none=>none
    |some zs=>some { k:=TK.c8 d,size:=i.size,bytes:=i.bytes,agg:=wR d,zero:=zs }
inductive Hy where
 |vec (j:Nat)
 |xs (l:List X)
def Hy.den(ρ:Bu):Hy->List Int
 | .vec j=>ρ j
 | .xs l=>l.map (·.den ρ)
def Hy.lt(nv:Nat):Hy->Bool
 | .vec j=>Nat.blt j nv
 | .xs l=>l.all (·.lt nv)
def Hy.beq:Hy->Hy->Bool
 | .vec i,.vec j=>Nat.beq i j
 | .xs a,.xs b=>OT X.beq a b
 |_,_=>false
inductive NR where
 |bin (op:BinOp) (k:IntKind)
 |conv (k:IntKind)
 |not
 |pick
 |vl
 |setAt
 |At (s:Nat)
 |eqv
 |qq
 |pZ
 |fn (f:Nat) (b:Bool) (o:Nat)
structure FT where
 op:NR
 args:List Hy
def opN:BinOp->Nat
 | .add=>0 | .sub=>1 | .mul=>2 | .quo=>3 | .rem=>4 | .and=>5 | .or=>6 | .xor=>7 | .shl=>8 | .shr=>9 | .andNot=>10
 | .eql=>11 | .neq=>12 | .lss=>13 | .leq=>14 | .gtr=>15 | .geq=>16
def NR.beq:NR->NR->Bool
 | .bin a k,.bin b j=>Nat.beq (opN a) (opN b)&&sK k j
 | .conv k,.conv j=>sK k j
 | .not,.not=>true
 | .pick,.pick=>true
 | .vl,.vl=>true
 | .setAt,.setAt=>true
 | .At a,.At b=>Nat.beq a b
 | .eqv,.eqv=>true
 | .qq,.qq=>true
 | .pZ,.pZ=>true
 | .fn a b e,.fn c d f=>Nat.beq a c&&(b == d)&&Nat.beq e f
 |_,_=>false
def FT.beq(a b:FT):Bool:=a.op.beq b.op&&OT Hy.beq a.args b.args
def FT.lt(nv:Nat)(d:FT):Bool:=d.args.all (·.lt nv)
def KQ(b:Bool):Int:=cond b 1 0
def Es(op:BinOp)(k:IntKind)(x y:Int):Int:=
 let a:=BitVec.ofInt k.bits x
 let b:=BitVec.ofInt k.bits y
 k.wrap (match op with
  | .and=>a &&& b
  | .or=>a ||| b
  | .xor=>a ^^^ b
  |_=>a &&& ~~~b).toNat
def Ak(op:BinOp)(k:IntKind)(x y:Int):Int:=
 match op with
 | .add=>k.wrap (x+y)
 | .sub=>k.wrap (x-y)
 | .mul=>k.wrap (x*y)
 | .quo=>k.wrap (x.tdiv y)
 | .rem=>x.tmod y
 | .and=>Es .and k x y
 | .or=>Es .or k x y
 | .xor=>Es .xor k x y
 | .andNot=>Es .andNot k x y
 | .shl=>k.wrap (x*2^(min y.toNat k.bits))
 | .shr=>x.fdiv (2^(min y.toNat k.bits))
 | .eql=>KQ (x == y)
 | .neq=>KQ (x != y)
 | .lss=>KQ (decide (x<y))
 | .leq=>KQ (decide (x<=y))
 | .gtr=>KQ (decide (x>y))
 | .geq=>KQ (decide (x >= y))
inductive Et where
 |int (k:IntKind)
 |bool
 |mem (ks:List IntKind) (fR:Nat) (wr:Bool)
 |agg (ks:List IntKind)
 |sl (ks:List IntKind) (fR:Nat) (wr:Bool)
 |fL (ks:List IntKind) (fR:Nat) (wr:Bool)
abbrev PF:=List (List Int)->List Int
abbrev PI:=List (List Int)->Int
inductive Pq where
 |int (k:IntKind) (f:PI)
 |bool (f:PI)
 |cF (i:Nat)
 |kA (j:Nat)
 |agg (ks:List IntKind) (f:PF)
 |nil
 |ej
 |Hp (j n c:Nat)
 |slP (i n c:Nat)
 |LL (j n:Nat)
 |err
structure Az where
 params:List Et
 hp:Bool
 pre:List (List Int)->Prop
 outs:List (Nat×List IntKind×PF)
 fresh:List (List IntKind×PF)
 ret:List Pq
inductive FE where
 |one (s:Az)
 |two (c:List (List Int)->Bool) (s1 s2:Az)
def FE.cf:FE->Bool->Az
 | .one s,_=>s
 | .two _ s1 s2,b=>cond b s1 s2
def FE.j7:FE->List (List Int)->Bool
 | .one _,_=>true
 | .two c _ _,as=>c as
abbrev Tb:=List (Nat×FE)
structure LD where
 tg:Nat
 ps:List Nat
 ss:List Nat
 cl:List Nat
 nt:Nat
structure IF where
 c:Code
 nt:Nat
 cA:List ResultVar
structure Cx where
 tt:List (Nat×TD)
 T:Tb
 HU:Nat
 HG:Nat
 loops:List (Nat×LD)
 inl:List (Nat×IF):=[]
 eqs:List (Nat×List IntKind):=[]
inductive PR where
 |i (f:PI)
 |l (f:PF)
 |no
def Pq.pr:Pq->PR
 | .int _ f=>.i f
 | .bool f=>.i f
 | .agg _ f=>.l f
 |_=>.no
def Az.z6(s:Az):List PR:=s.outs.map (λp=>.l p.2.2)++s.fresh.map (λp=>.l p.2)++s.ret.map Pq.pr
def Az.pr(s:Az)(o:Nat):PR:=(s.z6).getD o .no
def PR.den(as:List (List Int)):PR->List Int
 | .i f=>[f as]
 | .l f=>f as
 | .no=>[]
def d1:List Int->Int
 | [x]=>x
 |_=>0
def NR.den(T:Tb)(op:NR)(as:List (List Int)):List Int:=
 match op with
 | .bin op k=>[Ak op k (d1 (as.getD 0 [])) (d1 (as.getD 1 []))]
 | .conv k=>[k.wrap (d1 (as.getD 0 []))]
 | .not=>[KQ (d1 (as.getD 0 []) == 0)]
 | .pick=>[if d1 (as.getD 0 []) != 0 then d1 (as.getD 1 []) else d1 (as.getD 2 [])]
 | .vl=>[(as.getD 0 []).getD (d1 (as.getD 1 [])).toNat 0]
 | .setAt=>(as.getD 0 []).set (d1 (as.getD 1 [])).toNat (d1 (as.getD 2 []))
 | .At s=>((as.getD 0 []).drop ((d1 (as.getD 1 [])).toNat*s)).take s
 | .eqv=>[KQ (as.getD 0 [] == as.getD 1 [])]
 | .qq=>[(d1 (as.getD 0 [])+d1 (as.getD 1 [])+d1 (as.getD 2 []))%18446744073709551616,if d1 (as.getD 0 [])+d1 (as.getD 1 [])+d1 (as.getD 2 [])<18446744073709551616 then 0 else 1]
 | .pZ=>[(d1 (as.getD 0 [])+18446744073709551616-d1 (as.getD 1 [])-d1 (as.getD 2 []))%18446744073709551616,if d1 (as.getD 0 [])<d1 (as.getD 1 [])+d1 (as.getD 2 []) then 1 else 0]
 | .fn f b o=>match lk f T with
  |some s=>((s.cf b).pr o).den as
  |none=>[]
def FT.den(T:Tb)(ρ:Bu)(d:FT):List Int:=d.op.den T (d.args.map (·.den ρ))
inductive I1 where
 |fy (x:X) (n:Nat)
 |u9 (x:X)
 |ux (x:X)
 |nz (x:X)
 |zr (x:X)
 |pre (f:Nat) (as:List Hy)
def I1.den(T:Tb)(ρ:Bu):I1->Prop
 | .fy x n=>0<=x.den ρ/\x.den ρ<n
 | .u9 x=>0<=x.den ρ
 | .ux x=>x.den ρ=0\/x.den ρ=1
 | .nz x=>x.den ρ≠0
 | .zr x=>x.den ρ=0
 | .pre f as=>match lk f T with
  |some s=>(s.cf true).pre (as.map (·.den ρ))
  |none=>False
def I1.beq:I1->I1->Bool
 | .fy x n,.fy y m=>x.beq y&&Nat.beq n m
 | .u9 x,.u9 y=>x.beq y
 | .ux x,.ux y=>x.beq y
 | .nz x,.nz y=>x.beq y
 | .zr x,.zr y=>x.beq y
 | .pre f a,.pre g b=>Nat.beq f g&&OT Hy.beq a b
 |_,_=>false
end
section
open Go
def St.look(st:St)(t:Nat):Option SV:=match lk t st.lc with
 |some v=>some v
 |none=>lk t st.tm
def St.cL(st:St):Operand->Option SV
 | .tmp t=>st.look t
 | .const v=>SV.N2 v
 | .global g=>match lk g st.gl with
  |some l=>some (.t (.l (.ptr l 0)))
  |none=>none
 | .func _=>none
structure ND where
 v:SV
 ds:List (Nat×FT)
 ob:List I1
 ln:List (Nat×Nat)
def ND.val(v:SV):ND:=⟨v,[],[],[]⟩
def Gq(v:LV):SV:=.t (.l v)
def SE(op:BinOp)(k:IntKind)(x y:X)(nb:Nat):X×List (Nat×FT):=
 match x,y with
 | .lit a,.lit b=>(.lit (Ak op k a b),[])
 |x,y=>(.v nb 0,[(nb,⟨.bin op k,[.xs [x],.xs [y]]⟩)])
def SX:BinOp->Bool
 | .eql | .neq | .lss | .leq | .gtr | .geq=>true
 |_=>false
def uP:BinOp->Bool
 | .shl | .shr=>true
 |_=>false
def u9:X->Bool
 | .lit (.ofNat _)=>true
 |_=>false
def Pm:IntKind->Bool
 | .u8 | .u16 | .u32 | .u64=>true
 |_=>false
def nz:X->Bool
 | .lit n=> !(H5 n 0)
 |_=>false
def gD(k:IntKind):X->Bool
 | .lit n=>bL k n
 |_=>true
def XD (op:BinOp) (k k':IntKind) (x y:X) (nb:Nat):Option ND:=
 bif uP op then
  let r:=SE op k x y nb
  bif !(gD k r.1) then none else
  some ⟨Gq (.int k r.1),r.2,bif u9 y||Pm k' then[] else[.u9 y],[]⟩
 else bif !(sK k k') then none
 else bif SX op then
  let r:=SE op k x y nb
  some ⟨Gq (.bool r.1),r.2,[],[]⟩
 else match op with
  | .quo | .rem=>bif nz y then
    let r:=SE op k x y nb
    bif !(gD k r.1) then none else some ⟨Gq (.int k r.1),r.2,[],[]⟩
   else none
  |_=>
   let r:=SE op k x y nb
   bif !(gD k r.1) then none else some ⟨Gq (.int k r.1),r.2,[],[]⟩
def JH:List LV->Option (List IntKind×List X)
 | []=>some ([],[])
 | .int k x::r=>match JH r with
  |some (ks,xs)=>some (k::ks,x::xs)
  |none=>none
 |_::_=>none
def PX(j:Nat):Nat->List X->Bool
 |_,[]=>true
 |i,.v j' i'::r=>Nat.beq j j'&&Nat.beq i i'&&PX j (i+1) r
 |_,_=>false
def SK(ln:List (Nat×Nat))(xs:List X):Hy:=
 match xs with
 | .v j 0::r=>bif PX j 1 r&&(match lk j ln with|some n=>Nat.beq n xs.length|none=>false) then .vec j else .xs xs
 |xs=>.xs xs
def kV(k:IntKind):List IntKind->Bool
 | []=>true
 |j::r=>sK k j&&kV k r
def IC(j:Nat)(ks:List IntKind):List LV:=ks.zipIdx.map λ(k,i)=>.int k (.v j i)
def I7(C:Cx)(t:Nat):Option Nat:=match lk t C.tt with
 |some d=>some d.size
 |none=>none
def wO(C:Cx)(t:Nat)(cs:List LV)(off:Nat):Option SV:=match lk t C.tt with
 |none=>none
 | some d=>bif d.agg then
   (bif Nat.ble (off+d.size) cs.length then some (.t (.a ((cs.drop off).take d.size))) else none)
  else match cs[off]? with
   |some v=>some (Gq v)
   |none=>none
def aH (C:Cx) (k:TK) (cells:List LV):List (Nat×TV)->Option (List LV)
 | []=>some cells
 | (i,v)::r=>
  match (match k with
   | .str fs=>match fs[i]? with
    |some (off,t)=>match I7 C t with
     |some s=>some (off,s)
     |none=>none
    |none=>none
   | .arr _ e=>match I7 C e with
    |some s=>some (i*s,s)
    |none=>none
   |_=>none) with
  |none=>none
  |some (off,s)=>bif Nat.beq v.cells.length s&&Nat.ble (off+s) cells.length then aH C k (UN cells off v.cells) r else none
def Tu(C:Cx):TK->Bool
 | .str fs=>fs.all λp=>(I7 C p.2).isSome
 | .arr _ e=>(I7 C e).isSome
 |_=>false
def St.parts(st:St):List (Nat×Operand)->Option (List (Nat×TV))
 | []=>some []
 |(i,x)::r=>match st.cL x,st.parts r with
  |some (.t v),some vs=>some ((i,v)::vs)
  |_,_=>none
def lj(st:St)(aeG:Nat):Option Operand->Option Nat
 |none=>some aeG
 |some x=>match st.cL x with
  |some (.t (.l (.int _ (.lit (.ofNat n)))))=>some n
  |_=>none
def K4(C:Cx)(t:Nat):Option (Option Nat×Nat):=match lk t C.tt with
 |some ⟨.arr n e,_,_,_,_⟩=>match I7 C e with
  |some s=>some (some n,s)
  |none=>none
 |some ⟨.sl e,_,_,_,_⟩=>match I7 C e with
  |some s=>some (none,s)
  |none=>none
 |_=>none
def QH (C:Cx) (o:Oper) (nb:Nat) (st:St):Option ND:=
 match o.op with
 | .move x=>match st.cL x with
  |some v=>some (.val v)
  |none=>none
 | .assign x=>match st.cL x with
  |some v=>some (.val v)
  |none=>none
 | .pick c a b=>match st.cL c,st.cL a,st.cL b with
  |some (.t (.l (.bool (.lit n)))),some va,some vb=>some (.val (bif H5 n 0 then vb else va))
  |some (.t (.l (.bool (.lit n)))),some va,none=>bif H5 n 0 then none else some (.val va)
  |some (.t (.l (.bool (.lit n)))),none,some vb=>bif H5 n 0 then some (.val vb) else none
  |some (.t (.l (.bool x))),some (.t (.l (.bool y))),some (.t (.l (.bool z)))=>some ⟨Gq (.bool (.v nb 0)),[(nb,⟨.pick,[.xs [x],.xs [y],.xs [z]]⟩)],[],[]⟩
  |_,_,_=>none
 | .build t ps=>match lk t C.tt,st.parts ps.toList with
  |some d,some vs=>bif Tu C d.k then(match aH C d.k d.zero vs with
   |some cs=>some (.val (.t (.a cs)))
   |none=>none) else none
  |_,_=>none
 | .nilCheck x=>match st.cL x with
  |some (.t (.l (.ptr l o)))=>some (.val (Gq (.ptr l o)))
  |some (.t (.l (.pd l o n s x)))=>some (.val (Gq (.pd l o n s x)))
  |_=>none
 | .binOp op xt x y _=>match st.cL x,st.cL y with
  |some (.t (.l (.int k a))),some (.t (.l (.int k' b)))=>XD op k k' a b nb
  | some (.t (.l .ej)),some (.t (.l .ej))=>
   (match lk xt C.tt,(match x,y with | .const _,_=>true|_,.const _=>true|_,_=>false) with
    |some ⟨.iface,_,_,_,_⟩,true=>(match op with
     | .eql=>some (.val (Gq (.bool (.lit 1))))
     | .neq=>some (.val (Gq (.bool (.lit 0))))
     |_=>none)
    |_,_=>none)
  | some (.t (.l (.err _))),some (.t (.l .ej))=>
   (match lk xt C.tt with
    |some ⟨.iface,_,_,_,_⟩=>(match op with
     | .eql=>some (.val (Gq (.bool (.lit 0))))
     | .neq=>some (.val (Gq (.bool (.lit 1))))
     |_=>none)
    |_=>none)
  | some (.t (.l (.sl _ _ _ _ _))),some (.t (.l .CM))=>
   (match lk xt C.tt with
    |some ⟨.sl _,_,_,_,_⟩=>(match op with
     | .eql=>some (.val (Gq (.bool (.lit 0))))
     | .neq=>some (.val (Gq (.bool (.lit 1))))
     |_=>none)
    |_=>none)
  |_,_=>none
 | .unOp op _ x=>match st.cL x with
  |some (.t (.l (.int k a)))=>(match op with
   | .neg=>XD .sub k k (.lit 0) a nb
   | .xor=>bif Pm k then XD .xor k k (.lit k.max) a nb else XD .xor k k (.lit (-1)) a nb
   |_=>none)
  |some (.t (.l (.bool (.lit n))))=>(match op with
   | .not=>some (.val (Gq (.bool (.lit (KQ (H5 n 0))))))
   |_=>none)
  |some (.t (.l (.bool a)))=>(match op with
   | .not=>some ⟨Gq (.bool (.v nb 0)),[(nb,⟨.not,[.xs [a]]⟩)],[],[]⟩
   |_=>none)
  |_=>none
 | .convert s d x=>match lk s C.tt,lk d C.tt,st.cL x with
  |some _,some ⟨.int k,_,_,_,_⟩,some (.t (.l (.int k' a)))=>
   (bif sK k k' then some (.val (Gq (.int k a))) else
   match a with
   | .lit n=>some (.val (Gq (.int k (.lit (k.wrap n)))))
   |a=>some ⟨Gq (.int k (.v nb 0)),[(nb,⟨.conv k,[.xs [a]]⟩)],[],[]⟩)
  |_,_,_=>none
 | .fieldAddr s x f=>match lk s C.tt,st.cL x with
  | some ⟨.str fs,_,_,_,_⟩,some (.t (.l (.ptr l o)))=>(match fs[f]? with
   |some (off,t)=>(match I7 C t with
    |some n=>bif Nat.beq n 0 then none else some (.val (Gq (.ptr l (o+off))))
    |none=>none)
   |none=>none)
  |_,_=>none
 | .field t x f=>match lk t C.tt,st.cL x with
  | some ⟨.str fs,_,_,_,_⟩,some (.t (.a cs))=>(match fs[f]? with
   |some (off,t')=>(match wO C t' cs off with
    |some v=>some (.val v)
    |none=>none)
   |none=>none)
  |_,_=>none
 | .indexAddr t x ix=>match K4 C t,st.cL x,st.cL ix with
  |some (some n,s),some (.t (.l (.ptr l o))),some (.t (.l (.int _ i)))=>(match i with
   | .lit (.ofNat i)=>bif Nat.blt i n then some (.val (Gq (.ptr l (o+i*s)))) else none
   | .lit _=>none
   |i=>some ⟨Gq (.pd l o n s i),[],[.fy i n],[]⟩)
  |some (none,s),some (.t (.l (.sl l o n _ _))),some (.t (.l (.int _ i)))=>(match i with
   | .lit (.ofNat i)=>bif Nat.blt i n then some (.val (Gq (.ptr l (o+i*s)))) else none
   | .lit _=>none
   |i=>some ⟨Gq (.pd l o n s i),[],[.fy i n],[]⟩)
  |some (none,s),some (.t (.l (.fL l o n _))),some (.t (.l (.int _ i)))=>(match i with
   | .lit (.ofNat i)=>bif Nat.blt i n then some (.val (Gq (.ptr l (o+i*s)))) else none
   | .lit _=>none
   |i=>some ⟨Gq (.pd l o n s i),[],[.fy i n],[]⟩)
  |_,_,_=>none
 | .index t x ix=>match lk t C.tt,st.cL x,st.cL ix with
  | some ⟨.arr n e,_,_,_,_⟩,some (.t (.a cs)),some (.t (.l (.int _ i)))=>(match i with
   | .lit (.ofNat i)=>bif Nat.blt i n then(match I7 C e with
     |some s=>(match wO C e cs (i*s) with
      |some v=>some (.val v)
      |none=>none)
     |none=>none) else none
   | .lit _=>none
   |i=>(match lk e C.tt,JH cs with
    | some ⟨.int k,1,_,false,_⟩,some (ks,xs)=>bif kV k ks&&Nat.beq cs.length n then
      some ⟨Gq (.int k (.v nb 0)),[(nb,⟨.vl,[SK st.ln xs,.xs [i]]⟩)],[.fy i n],[]⟩ else none
    |_,_=>none))
  |_,_,_=>none
 | .extract x i=>match st.cL x with
  |some (.nj vs)=>(match vs[i]? with
   |some v=>some (.val (.t v))
   |none=>none)
  |_=>none
 | .slice t x lo hi mx=>match mx,lk t C.tt,st.cL x with
  | none,some ⟨.ptr ar,_,_,_,_⟩,some (.t (.l (.ptr l o)))=>(match K4 C ar with
   |some (some n,s)=>(match lj st 0 lo,lj st n hi with
    | some a,some b=>bif Nat.ble a b&&Nat.ble b n then
      some (.val (Gq (.sl l (bif Nat.beq n a then o else o+a*s) (b-a) (.n (.lit n)) a))) else none
    |_,_=>none)
   |_=>none)
  | none,some ⟨.arr n e,_,_,_,_⟩,some (.t (.l (.ptr l o)))=>(match I7 C e with
   |some s=>(match lj st 0 lo,lj st n hi with
    | some a,some b=>bif Nat.ble a b&&Nat.ble b n then
      some (.val (Gq (.sl l (bif Nat.beq n a then o else o+a*s) (b-a) (.n (.lit n)) a))) else none
    |_,_=>none)
   |none=>none)
  | none,some ⟨.sl _,_,_,_,_⟩,some (.t (.l (.sl l o n c d)))=>(match K4 C t with
   |some (_,s)=>(match lj st 0 lo,lj st n hi with
    | some a,some b=>bif Nat.ble a b&&Nat.ble b n then
      (bif Nat.blt a n||Nat.beq a 0 then some (.val (Gq (.sl l (o+a*s) (b-a) c (d+a)))) else some (.val (Gq (.se l o s c d a)))) else none
    |_,_=>none)
   |_=>none)
  | some m,some ⟨.sl _,_,_,_,_⟩,some (.t (.l (.sl l o n _ _)))=>(match K4 C t with
   |some _=>(match lj st 0 lo,hi,lj st 0 hi,lj st 0 (some m) with
    |some 0,some _,some b,some m=>bif Nat.ble b m&&Nat.ble m n then some (.val (Gq (.sl l o b (.n (.lit m)) 0))) else none
    |_,_,_,_=>none)
   |_=>none)
  |_,_,_=>none
 | .call ⟨.builtin .len,args,gR⟩=>match gR[0]?,args[0]? with
  |some t,some x=>(match lk t C.tt,st.cL x with
   |some ⟨.sl _,_,_,_,_⟩,some (.t (.l (.sl _ _ n _ _)))=>bif Nat.ble n 65536 then some (.val (Gq (.int .i64 (.lit n)))) else none
   |some ⟨.sl _,_,_,_,_⟩,some (.t (.l .CM))=>some (.val (Gq (.int .i64 (.lit 0))))
   |some ⟨.sl _,_,_,_,_⟩,some (.t (.l (.se _ _ _ _ _ _)))=>some (.val (Gq (.int .i64 (.lit 0))))
   |some ⟨.arr n _,_,_,_,_⟩,some _=>bif Nat.ble n 65536 then some (.val (Gq (.int .i64 (.lit n)))) else none
   |_,_=>none)
  |_,_=>none
 |_=>none
structure ZW where
 o:ND
 rg:List Rg
 er:Bool:=false
def mW (C:Cx) (t:Nat) (a:LV) (nb:Nat) (st:St):Option ND:=
 match lk t C.tt,a with
 | some d,.ptr l o=>bif d.agg then(match Jk st.rg l o d.size with
   |some cs=>some (.val (.t (.a cs)))
   |none=>none)
  else(match Jk st.rg l o 1 with
   |some [v]=>some (.val (Gq v))
   |_=>none)
 | some d,.pd l o n s x=>(match Jk st.rg l o (n*s) with
   | some cs=>(match JH cs with
    | some (k::ks,xs)=>bif kV k ks then
      bif d.agg then(bif Nat.beq d.size s then
       some ⟨.t (.a (IC nb (List.replicate s k))),[(nb,⟨.At s,[SK st.ln xs,.xs [x]]⟩)],[],[(nb,s)]⟩ else none)
      else(bif Nat.beq s 1 then some ⟨Gq (.int k (.v nb 0)),[(nb,⟨.vl,[SK st.ln xs,.xs [x]]⟩)],[],[]⟩ else none)
     else none
    |_=>none)
   |none=>none)
 |_,_=>none
def uh (C:Cx) (t:Nat) (a:LV) (v:TV) (nb bv:Nat) (st:St):Option ZW:=
 match lk t C.tt,a with
 | some d,.ptr l o=>bif Nat.beq v.cells.length d.size then(match Nh bv st.rg l o v.cells with
   |some rg=>some ⟨.val (.nj []),rg,false⟩
   |none=>none) else none
 | some d,.pd l o n s x=>(match v with
   | .l (.int k y)=>bif Nat.beq d.size 1&&Nat.beq s 1 then(match Jk st.rg l o n with
    |some cs=>(match JH cs with
     | some (ks,xs)=>bif kV k ks then(match Nh bv st.rg l o (IC nb ks) with
       |some rg=>some ⟨⟨.nj [],[(nb,⟨.setAt,[SK st.ln xs,.xs [x],.xs [y]]⟩)],[],[(nb,n)]⟩,rg,false⟩
       |none=>none) else none
     |none=>none)
    |none=>none) else none
   |_=>none)
 |_,_=>none
structure MP where
 l:Nat
 o:Nat
 n:Nat
 g:Nat
 wr:Bool
 lv:LV
def Jp:List IntKind->List IntKind->Bool:=OT sK
def ALG(st:St)(p:Et)(v:SV):Option (Hy×Option MP):=
 match p,v with
 | .int k,.t (.l (.int k' x))=>bif sK k k' then some (.xs [x],none) else none
 | .bool,.t (.l (.bool x))=>some (.xs [x],none)
 | .mem ks g wr,.t (.l (.ptr l o))=>(match Jk st.rg l o ks.length with
  |some cs=>(match JH cs with
   |some (ξ,xs)=>bif Jp ks ξ then some (SK st.ln xs,some ⟨l,o,ks.length,g,wr,.ptr l o⟩) else none
   |none=>none)
  |none=>none)
 | .agg ks,.t (.a cs)=>(match JH cs with
  |some (ξ,xs)=>bif Jp ks ξ then some (SK st.ln xs,none) else none
  |none=>none)
 | .sl ks g wr,.t (.l (.sl l o n c d))=>bif Nat.beq n ks.length then(match Jk st.rg l o n with
  |some cs=>(match JH cs with
   |some (ξ,xs)=>bif Jp ks ξ then some (SK st.ln xs,some ⟨l,o,n,g,wr,.sl l o n c d⟩) else none
   |none=>none)
  |none=>none) else none
 | .fL ks g wr,.t (.l (.fL l o n i))=>bif Nat.beq n ks.length then(match Jk st.rg l o n with
  |some cs=>(match JH cs with
   |some (ξ,xs)=>bif Jp ks ξ then some (SK st.ln xs,some ⟨l,o,n,g,wr,.fL l o n i⟩) else none
   |none=>none)
  |none=>none) else none
 |_,_=>none
def Oh(st:St):List Et->List SV->Option (List Hy×List (Option MP))
 | [],[]=>some ([],[])
 |p::ps,v::vs=>match ALG st p v,Oh st ps vs with
  |some (a,m),some (as,ms)=>some (a::as,m::ms)
  |_,_=>none
 |_,_=>none
def oc(st:St):List Operand->Option (List SV)
 | []=>some []
 |x::xs=>match st.cL x,oc st xs with
  |some v,some vs=>some (v::vs)
  |_,_=>none
def AIz(o1 n1 o2 n2:Nat):Bool:=Nat.ble (o1+n1) o2||Nat.ble (o2+n2) o1
def ALv(rg:List Rg)(a b:MP):Bool:=
 !(a.wr||b.wr) ||
 (let same:=Nat.beq a.g b.g && !(Nat.beq a.g 0)&&Nat.beq a.o b.o&&Nat.beq a.n b.n
   bif Nat.beq a.l b.l then AIz a.o a.n b.o b.n||same
   else match jB a.l rg,jB b.l rg with
  |some r,some r'=>(r.wr||r'.wr)&&(bif Nat.beq r.fR r'.fR && !(Nat.beq r.fR 0) then AIz a.o a.n b.o b.n||same else true)
  |_,_=>false)
def Wp(rg:List Rg):List (Option MP)->Bool
 | []=>true
 |none::r=>Wp rg r
 |some a::r=>(r.all fun|some b=>ALv rg a b|none=>true)&&Wp rg r
def WB(rg:List Rg):List (Option MP)->Bool
 | []=>true
 |none::r=>WB rg r
 |some a::r=>(!a.wr||(match jB a.l rg with|some g=>g.wr|none=>false))&&WB rg r
def Xy (bv:Nat) (ms:List (Option MP)) (nb:Nat):List (Nat×List IntKind×PF)->List Rg->Option (List Rg)
 | [],rg=>some rg
 | (i,ks,_)::r,rg=>match ms[i]? with
  | some (some m)=>bif Nat.beq m.n ks.length&&m.wr then(match Nh bv rg m.l m.o (IC nb ks) with
    |some υ=>Xy bv ms (nb+1) r υ
    |none=>none) else none
  |_=>none
def Y9(bv nb lb:Nat):List (List IntKind×PF)->List Rg->Option (List Rg)
 | [],rg=>some rg
 |(ks,_)::r,rg=>match dV bv rg lb (IC nb ks) with
  |some υ=>Y9 bv (nb+1) (lb+1) r υ
  |none=>none
def YH(ms:List (Option MP))(nb lb:Nat):Pq->Option TV
 | .int k _=>some (.l (.int k (.v nb 0)))
 | .bool _=>some (.l (.bool (.v nb 0)))
 | .cF i=>match ms[i]? with
  |some (some m)=>some (.l m.lv)
  |_=>none
 | .kA j=>some (.l (.ptr (lb+j) 0))
 | .agg ks _=>some (.a (IC nb ks))
 | .nil=>some (.l .nil)
 | .ej=>some (.l .ej)
 | .Hp j n c=>bif Nat.ble n c then some (.l (.sl (lb+j) 0 n (.n (.lit c)) 0)) else none
 | .slP i n c=>(match ms[i]? with
  |some (some m)=>(match m.lv with
   | .ptr l o=>bif Nat.ble n c then some (.l (.sl l o n (.n (.lit c)) 0)) else none
   |_=>none)
  |_=>none)
 | .LL j n=>some (.l (.sl (lb+j) 0 n (.s nb) 0))
 | .err=>some (.l (.err nb))
def qQ(ms:List (Option MP))(nb lb:Nat):List Pq->Option (List TV)
 | []=>some []
 |r::rs=>match YH ms nb lb r,qQ ms (nb+1) lb rs with
  |some v,some vs=>some (v::vs)
  |_,_=>none
def AB5(nb:Nat):List Pq->List (Nat×Nat)
 | []=>[]
 | .agg ks _::rs=>(nb,ks.length)::AB5 (nb+1) rs
 |_::rs=>AB5 (nb+1) rs
def Qr(f:Nat)(cf:Bool)(as:List Hy)(nb:Nat):Nat->List PR->List (Nat×FT)
 |_,[]=>[]
 |i,.no::r=>Qr f cf as nb (i+1) r
 |i,_::r=>(nb+i,⟨.fn f cf i,as⟩)::Qr f cf as nb (i+1) r
def Qg:List TV->SV
 | [v]=>.t v
 |vs=>.nj vs
structure ASO where
 vs:List TV
 ds:List (Nat×FT)
 ob:List I1
 ln:List (Nat×Nat)
 rg:List Rg
 er:Bool
def Tq:List Pq->Bool
 | []=>false
 | .err::_=>true
 | .LL _ _::_=>true
 |_::r=>Tq r
def ym (C:Cx) (f:Nat) (cf:Bool) (vs:List SV) (nb lb bv:Nat) (st:St):Option ASO:=
 match lk f C.T with
 |none=>none
 | some fe=>
  let s:=fe.cf cf
  match Oh st s.params vs with
  |none=>none
  | some (as,ms)=>
   bif Wp st.rg ms&&WB st.rg ms then(match Xy bv ms nb s.outs st.rg with
    |none=>none
    | some rg=>
     let no:=s.outs.length
     let nf:=s.fresh.length
     (match Y9 bv (nb+no) lb s.fresh rg with
     |none=>none
     |some υ=>(match qQ ms (nb+no+nf) lb s.ret with
      |none=>none
      | some tv=>some ⟨tv,Qr f cf as nb 0 s.z6,bif s.hp then[.pre f as] else[],
        (s.outs.zipIdx.map λ(p,i)=>(nb+i,p.2.1.length))++(s.fresh.zipIdx.map λ(p,i)=>(nb+no+i,p.1.length))++AB5 (nb+no+nf) s.ret,υ,Tq s.ret⟩)))
   else none
def vQ(C:Cx)(st:St)(vs:List SV):Nat->Nat->Nat
 |0,k=>k
 | n+1,k=>match lk k C.T with
  |some (.one s)=>(match Oh st s.params vs with
   |some _=>k
   |none=>vQ C st vs n (k+10000))
  |_=>k
def AJ1:Option FE->Bool
 |some (.one _)=>true
 |_=>false
def AKR (C:Cx) (f:Nat) (cf:Bool) (args:List Operand) (nb lb bv:Nat) (st:St):Option ZW:=
 match oc st args with
 |none=>none
 | some vs=>
  bif Nat.beq f C.HU then(match vs with
   | [.t (.l (.int .u64 x)),.t (.l (.int .u64 y)),.t (.l (.int .u64 z))]=>
    some ⟨⟨.nj [.l (.int .u64 (.v nb 0)),.l (.int .u64 (.v nb 1))],[(nb,⟨.qq,[.xs [x],.xs [y],.xs [z]]⟩)],[.ux z],[(nb,2)]⟩,st.rg,false⟩
   |_=>none)
  else bif Nat.beq f C.HG then(match vs with
   | [.t (.l (.int .u64 x)),.t (.l (.int .u64 y)),.t (.l (.int .u64 z))]=>
    some ⟨⟨.nj [.l (.int .u64 (.v nb 0)),.l (.int .u64 (.v nb 1))],[(nb,⟨.pZ,[.xs [x],.xs [y],.xs [z]]⟩)],[.ux z],[(nb,2)]⟩,st.rg,false⟩
   |_=>none)
  else bif !(Nat.blt f 10000) then none else
   let k:=vQ C st vs 20 f
   bif Nat.beq k f||(cf&&AJ1 (lk k C.T)) then(match ym C k cf vs nb lb bv st with
   |none=>none
   |some r=>some ⟨⟨Qg r.vs,r.ds,r.ob,r.ln⟩,r.rg,r.er⟩) else none
def XQ{α:Type}:Nat->List α->List α
 |0,_=>[]
 |n+1,l=>l++XQ n l
def rJ(bv:Nat)(rg:List Rg)(l:Nat)(cs:List LV)(v:LV):Option ZW:=
 match dV bv rg l cs with
 |some υ=>some ⟨.val (Gq v),υ,false⟩
 |none=>none
def AEZ(op:BinOp)(a b:Hy)(nb:Nat):Option ND:=match op with
 | .eql=>some ⟨Gq (.bool (.v nb 0)),[(nb,⟨.eqv,[a,b]⟩)],[],[]⟩
 | .neq=>some ⟨Gq (.bool (.v (nb+1) 0)),[(nb,⟨.eqv,[a,b]⟩),(nb+1,⟨.not,[.xs [.v nb 0]]⟩)],[],[]⟩
 |_=>none
def ADl(rg:List Rg):Option ND->Option ZW
 |some r=>some ⟨r,rg,false⟩
 |none=>none
def eqM(C:Cx)(op:BinOp)(xt:Nat)(cs uc:List LV)(nb:Nat)(st:St):Option ZW:=
 match lk xt C.eqs,JH cs,JH uc with
 |some ks,some (k1,x1),some (k2,x2)=>bif Jp ks k1&&Jp ks k2 then ADl st.rg (AEZ op (SK st.ln x1) (SK st.ln x2) nb) else none
 |_,_,_=>none
def Lc (C:Cx) (o:Oper) (cf:Bool) (nb lb bv:Nat) (st:St):Option ZW:=
 match o.op with
 | .load t a=>match st.cL a with
  |some (.t (.l v))=>(match mW C t v nb st with
   |some r=>some ⟨r,st.rg,false⟩
   |none=>none)
  |_=>none
 | .store t a x=>match st.cL a,st.cL x with
  |some (.t (.l v)),some (.t y)=>uh C t v y nb bv st
  |_,_=>none
 | .alloc t=>match lk t C.tt with
  |some d=>rJ bv st.rg lb d.zero (.ptr lb 0)
  |none=>none
 | .box _ x=>match st.cL x with
  |some (.t v)=>rJ bv st.rg lb v.cells (.ptr lb 0)
  |_=>none
 | .buildSlice t n ps=>match lk t C.tt,st.parts ps.toList with
  | some ⟨.sl e,_,_,_,_⟩,some vs=>(match lk e C.tt with
   |some d=>bif Nat.ble (n*d.size) 16777216&&Nat.blt 0 (n*d.size)&&Nat.beq d.zero.length d.size then(match aH C (.arr n e) (XQ n d.zero) vs with
    |some cs=>rJ bv st.rg lb cs (.sl lb 0 n (.n (.lit n)) 0)
    |none=>none) else(bif Nat.beq n 0 then(match vs with
    | []=>rJ bv st.rg lb [] (.sl lb 0 0 (.n (.lit 0)) 0)
    |_=>none) else none)
   |none=>none)
  |_,_=>none
 | .makeSlice t n c=>match lk t C.tt,lj st 0 (some n),lj st 0 (some c) with
  |some ⟨.sl e,_,_,_,_⟩,some n,some c=>(match lk e C.tt with
   | some d=>bif Nat.ble n c&&Nat.ble c 65536&&Nat.ble (d.bytes*c) 281474976710656&&Nat.blt 0 (c*d.size)&&Nat.beq d.zero.length d.size then
     rJ bv st.rg lb (XQ c d.zero) (.sl lb 0 n (.n (.lit c)) 0) else none
   |none=>none)
  |_,_,_=>none
 | .call ⟨.value (.func f),args,_⟩=>AKR C f cf args.toList nb lb bv st
 | .call ⟨.builtin .copy,args,gR⟩=>match gR[0]?,args[0]?,args[1]? with
  | some t,some x,some y=>(match lk t C.tt,st.cL x,st.cL y with
   | some ⟨.sl e,_,_,_,_⟩,some (.t (.l (.sl l o n _ _))),some (.t (.l (.sl l' o' n' _ _)))=>
    (match I7 C e with
    | some 1=>bif Nat.ble n 65536 then(match Jk st.rg l' o' (min n' n) with
     |some cs=>(match Nh bv st.rg l o cs with
      |some rg=>some ⟨.val (Gq (.int .i64 (.lit (min n' n:Nat)))),rg,false⟩
      |none=>none)
     |none=>none) else none
    |_=>none)
   |_,_,_=>none)
  |_,_,_=>none
 | .call ⟨.builtin .append,args,gR⟩=>match gR[0]?,gR[1]?,args[0]?,args[1]? with
  | some t,some t',some x,some y=>(match lk t C.tt,lk t' C.tt,st.cL x,st.cL y with
   | some ⟨.sl e,_,_,_,_⟩,some ⟨.sl _,_,_,_,_⟩,some (.t (.l (.sl l o n (.n (.lit (.ofNat c))) d))),some (.t (.l (.sl l' o' n' _ _)))=>
    (match I7 C e with
    | some 1=>bif Nat.ble (n+n') (c-d) then(bif Nat.blt 0 n' then(match Jk st.rg l' o' n' with
     |some cs=>(match Nh bv st.rg l (o+n) cs with
      |some rg=>some ⟨.val (Gq (.sl l o (n+n') (.n (.lit c)) d)),rg,false⟩
      |none=>none)
     |none=>none) else none)
     else none
    |_=>none)
   |_,_,_,_=>none)
  |_,_,_,_=>none
 | .binOp op xt x y _=>match st.cL x,st.cL y with
  |some (.t (.a cs)),some (.t (.a uc))=>eqM C op xt cs uc nb st
  |_,_=>match QH C o nb st with
   |some r=>some ⟨r,st.rg,false⟩
   |none=>none
 |_=>match QH C o nb st with
  |some r=>some ⟨r,st.rg,false⟩
  |none=>none
end
section
open Go
inductive Ex where
 |normal
 |exit (id:Nat)
 |ret
inductive Be where
 |leaf (e:Ex) (st:St)
 |ep (ds:List (Nat×FT)) (ob:List I1) (t:Be)
 |br (x:X) (t f:Be)
 |gr (f:Nat) (as:List Hy) (t e:Be)
 |cN (t k:Be)
 |bad (why:Nat)
def AAH(x:X):Be->Be->Be
 | .bad _,f=>.ep [] [.zr x] f
 |t,.bad _=>.ep [] [.nz x] t
 |t,f=>.br x t f
inductive K where
 |code (c:Code)
 |blk (id:Nat)
def FL:Nat->Nat->List (Nat×FT)->Bool
 |_,_,[]=>true
 |lo,hi,(n,d)::r=>Nat.ble lo n&&Nat.blt n hi&&d.lt n&&FL (n+1) hi r
def Hy.len(ln:List (Nat×Nat)):Hy->Option Nat
 | .vec j=>lk j ln
 | .xs l=>some l.length
def Pq.len:Pq->Option Nat
 | .agg ks _=>some ks.length
 |_=>none
def Et.len:Et->Nat
 | .int _=>1
 | .bool=>1
 | .mem ks _ _=>ks.length
 | .agg ks=>ks.length
 | .sl ks _ _=>ks.length
 | .fL ks _ _=>ks.length
def Az.lens(s:Az):List (Option Nat):=s.outs.map (λp=>some p.2.1.length)++s.fresh.map (λp=>some p.1.length)++s.ret.map Pq.len
def VH(ln:List (Nat×Nat)):List Hy->List Et->Bool
 | [],[]=>true
 |a::as,p::ps=>(match a.len ln with
  |some n=>Nat.beq n p.len
  |none=>false)&&VH ln as ps
 |_,_=>false
def ADI(T:Tb)(ln:List (Nat×Nat))(d:FT):Option Nat:=
 match d.op with
 | .qq=>some 2
 | .pZ=>some 2
 | .setAt=>(match d.args with
  |a::_=>a.len ln
  | []=>none)
 | .fn f b o=>(match lk f T with
  |some fe=>bif VH ln d.args (fe.cf b).params then(match (fe.cf b).lens[o]? with
   |some r=>r
   |none=>none) else none
  |none=>none)
 |_=>none
def JG(T:Tb):List (Nat×Nat)->List (Nat×FT)->List (Nat×Nat)
 |ln,[]=>ln
 |ln,(n,d)::r=>match ADI T ln d with
  |some k=>JG T ((n,k)::ln) r
  |none=>JG T ln r
def I6(bv:Nat):List I1->Bool
 | []=>true
 | .fy x _::r=>x.lt bv&&I6 bv r
 | .u9 x::r=>x.lt bv&&I6 bv r
 | .ux x::r=>x.lt bv&&I6 bv r
 | .nz x::r=>x.lt bv&&I6 bv r
 | .zr x::r=>x.lt bv&&I6 bv r
 | .pre _ as::r=>as.all (·.lt bv)&&I6 bv r
def St.put(st:St)(d:Option Nat)(v:SV):Option St:=match d with
 |none=>some st
 |some t=>bif Nat.blt t st.nt&&v.lt st.nv (DL st.rg) then some { st with lc:=(t,v)::st.lc } else none
def rmv{α:Type}(t:Nat):List (Nat×α)->List (Nat×α)
 | []=>[]
 |(k,v)::r=>bif Nat.beq k t then r else(k,v)::rmv t r
def flush:List (Nat×SV)->List (Nat×SV)->List (Nat×SV)
 | [],tm=>tm
 |(t,v)::r,tm=>(t,v)::rmv t (flush r tm)
def St.flush(st:St):St:= { st with lc:=[],tm:=YtkbfdaoohhmgoaaGreatDoor.flush st.lc st.tm }
def St.rS(st:St)(t:Nat)(n:Int):St:= { st with lc:=(t,.t (.l (.bool (.lit n))))::st.lc }
def Zf(C:Cx)(o:Oper):Option Nat:=match o.op with
 | .call ⟨.value (.func f),_,_⟩=>(match lk f C.T with
  |some (.two _ _ _)=>some f
  |_=>none)
 |_=>none
def zD(C:Cx)(o:Oper)(f:Nat)(st:St):Option (List Hy):=match o.op with
 | .call ⟨_,args,_⟩=>(match oc st args.toList,lk f C.T with
  |some vs,some fe=>(match Oh st (fe.cf true).params vs,Oh st (fe.cf false).params vs with
   |some (as,_),some (bs,_)=>bif OT Hy.beq as bs then some as else none
   |_,_=>none)
  |_,_=>none)
 |_=>none
def pq(C:Cx)(o:Oper)(cf:Bool)(st:St)(κ:St->Be):Be:=
 match Lc C o cf st.nv st.nl (st.nv+16) st with
 |none=>.bad 1
 | some m=>
  match St.put { st with rg:=m.rg,ln:=JG C.T st.ln m.o.ds,nv:=st.nv+16,nl:=st.nl+16 } o.dst m.o.v with
  |none=>.bad 2
  |some cD=>(match m.o.ds,m.o.ob with
   | [],[]=>κ cD
   |ds,ob=>bif FL st.nv (st.nv+16) ds&&I6 (st.nv+16) ob then .ep ds ob (κ cD) else .bad 3)
def yL(C:Cx)(st:St):ResultVar->Option TV
 | .tmp t=>(match lk t st.tm with
  |some (.t v)=>some v
  |_=>none)
 | .cell a t=>(match lk a st.tm with
  |some (.t (.l (.ptr l o)))=>(match mW C t (.ptr l o) 0 st with
   |some ⟨.t v,[],[],_⟩=>some v
   |_=>none)
  |_=>none)
def TS(C:Cx)(st:St):List ResultVar->Option (List TV)
 | []=>some []
 |r::rs=>match yL C st r,TS C st rs with
  |some v,some vs=>some (v::vs)
  |_,_=>none
def Be.bind(k:Ex->St->Be):Be->Be
 | .leaf e st=>k e st
 | .ep ds ob t=>.ep ds ob (t.bind k)
 | .br x t f=>.br x (t.bind k) (f.bind k)
 | .gr f as t e=>.gr f as (t.bind k) (e.bind k)
 | .cN t e=>.cN t (e.bind k)
 | .bad n=>.bad n
def Be.qv(p:Ex->St->Bool):Be->Bool
 | .leaf e st=>p e st
 | .ep _ _ t=>t.qv p
 | .br _ t f=>t.qv p&&f.qv p
 | .gr _ _ t e=>t.qv p&&e.qv p
 | .cN _ k=>k.qv p
 | .bad _=>true
def TP:Nat->List SV->List (Nat×SV)
 |_,[]=>[]
 |i,v::vs=>(i,v)::TP (i+1) vs
def ABw(C:Cx)(o:Oper):Option (Nat×IF×List Operand):=match o.op with
 | .call ⟨.value (.func f),args,_⟩=>(match lk f C.inl with
  |some i=>some (f,i,args.toList)
  |none=>none)
 |_=>none
def Zh:Option LV->Option LV->Bool
 |none,none=>true
 |some a,some b=>a.beq b
 |_,_=>false
def Rg.beq(a b:Rg):Bool:=Nat.beq a.id b.id&&Nat.beq a.fR b.fR&&(a.wr == b.wr)&&OT Zh a.cs b.cs
def yE(rg:List Rg)(e:Ex)(st:St):Bool:=match e with
 | .exit _=>false
 |_=>OT Rg.beq st.rg rg
def AJ8:List ResultVar->Bool
 | []=>true
 |_=>false
def ADo (C:Cx) (run:Code->St->Be) (i:IF) (args:List Operand) (dst:Option Nat) (st:St) (κ:St->Be):Be:=
 match oc st args with
 |none=>.bad 40
 | some vs=>bif Nat.ble vs.length i.nt then
   let t:=run i.c { st with lc:=[],tm:=TP 0 vs,nt:=i.nt }
   bif AJ8 i.cA&&t.qv (yE st.rg) then(match St.put st dst (.nj []) with
    |none=>.bad 45
    |some wA=>.cN t (κ wA))
   else t.bind λex cD=>match ex with
    | .exit _=>.bad 41
    | _=>(match TS C cD i.cA with
     |none=>.bad 42
     |some SP=>(match St.put { cD with lc:=st.lc,tm:=st.tm,nt:=st.nt } dst (Qg SP) with
      |none=>.bad 43
      |some wA=>κ wA))
  else .bad 44
def AD3(C:Cx)(o:Oper)(st:St)(κ:St->Be):Be:=match Zf C o with
 |none=>pq C o true st κ
 |some f=>(match zD C o f st with
  |some as=>bif as.all (·.lt st.nv) then .gr f as (pq C o true st κ) (pq C o false st κ) else .bad 9
  |none=>.bad 4)
def AFh(C:Cx)(run:Code->St->Be)(o:Oper)(st:St)(κ:St->Be):Be:=match ABw C o with
 |some (_,i,args)=>ADo C run i args o.dst st κ
 |none=>AD3 C o st κ
def TE (C:Cx) (run:Code->St->Be) (ops:Array Oper) (κ:St->Be):List Oper->St->Be
 | [],st=>κ st.flush
 | o :: r,st=>
  let go (st:St):Be:=AFh C run o st (TE C run ops κ r)
  let skip (st:St):Be:=match st.put o.dst (.nj []) with
   |some cD=>TE C run ops κ r cD
   |none=>.bad 5
  match o.guard with
  |none=>go st
  | some (j,want)=>(match ops[j]? with
   | some g=>(match g.dst with
    |some t=>(match st.look t with
     |some (.t (.l (.bool (.lit n))))=>bif (H5 n 0 != want) then go st else skip st
     |some (.t (.l (.bool x)))=>bif want then AAH x (go (st.rS t 1)) (skip (st.rS t 0)) else AAH x (skip (st.rS t 1)) (go (st.rS t 0))
     |_=>.bad 6)
    |none=>.bad 7)
   |none=>.bad 8)
structure DS where
 ls:Array Bool
 lc:List (Nat×SV)
 rg:List Rg
def Vh(new:List (Nat×SV)):List (Nat×SV)->Bool
 | []=>true
 |(t,v)::r=>(match lk t new with
  |some u=>u.beq v
  |none=>false)&&Vh new r
def V7:List (Nat×FT)->List (Nat×FT)->Bool:=OT λa b=>Nat.beq a.1 b.1&&a.2.beq b.2
structure Rf where
 ds:List (Nat×FT)
 ob:List I1
 rg:List Rg
def AGT (C:Cx) (nv nl bv:Nat):List Oper->St->Option (List Rf)
 | [],_=>some []
 | o::r,st=>match o.guard,Lc C o true nv nl bv st with
  | none,some m=>(match St.put { st with rg:=m.rg,ln:=JG C.T st.ln m.o.ds } o.dst m.o.v with
   |some cD=>(match AGT C (nv+16) (nl+16) bv r cD with
    |some rs=>some (⟨m.o.ds,m.o.ob,m.rg⟩::rs)
    |none=>none)
   |none=>none)
  |_,_=>none
def AKG(C:Cx)(o:Oper)(nb:Nat)(kp:List Rg)(st:St):Option ND:=
 match o.op with
 | .load t a=>(match st.cL a with
  |some (.t (.l v))=>mW C t v nb { st with rg:=kp }
  |_=>none)
 |_=>QH C o nb st
def AEB(rg:List Rg):List Rg->Bool
 | []=>true
 |r::rs=>(match jB r.id rg with
  |some r'=>r.beq r'
  |none=>false)&&AEB rg rs
def Sm(C:Cx)(o:Oper)(rf:Rf)(i nv nl bv:Nat)(kp:List Rg)(st:St)(w:Bool)(s:DS):Option DS:=
 let χ:= { st with lc:=s.lc,rg:=s.rg }
 match Zf C o with
 |some _=>none
 |none=>
 match (bif w then(match AKG C o (nv+16*i) kp χ with
   |some r=>some ⟨r,s.rg,false⟩
   |none=>none) else(match Lc C o true (nv+16*i) (nl+16*i) bv χ with
   |some m=>bif AEB m.rg kp && !m.er then some m else none
   |none=>none)) with
 |none=>none
 | some m=>bif V7 m.o.ds rf.ds&&OT I1.beq m.o.ob rf.ob then
   (match St.put { χ with rg:=m.rg } o.dst m.o.v with
   |some pH=>some ⟨s.ls.setIfInBounds i true,pH.lc,pH.rg⟩
   |none=>none) else none
def gN(C:Cx)(ops:Array Oper)(fj:List Rf)(nv nl bv:Nat)(kp:List Rg)(st:St)(s:DS):List Nat->Option DS
 | []=>none
 | i::r=>match ops[i]?,fj[i]? with
  |some o,some rf=>(match Sm C o rf i nv nl bv kp st true s with
   |some s'=>bif Region.free .any ops s.ls i then some s' else gN C ops fj nv nl bv kp st s r
   |none=>gN C ops fj nv nl bv kp st s r)
  |_,_=>none
def AGK(C:Cx)(ops:Array Oper)(fj:List Rf)(nv nl bv:Nat)(kp:List Rg)(st:St)(s:DS):List Nat->Option (List DS)
 | []=>some []
 | i::r=>match ops[i]?,fj[i]? with
  |some o,some rf=>(match Sm C o rf i nv nl bv kp st false s,AGK C ops fj nv nl bv kp st s r with
   |some s',some ss=>some (s'::ss)
   |_,_=>none)
  |_,_=>none
def AE2(C:Cx)(ops:Array Oper)(fj:List Rf)(nv nl bv:Nat)(kp:List Rg)(st:St)(s:DS):Option (List DS):=
 let R:=Region.ready .any ops s.ls
 match R with
 | []=>none
 |R=>(match gN C ops fj nv nl bv kp st s R with
  |some s'=>some [s']
  |none=>AGK C ops fj nv nl bv kp st s R)
def jI(a b:Bool):Bool:=cond a b (!b)
def ABU(s:DS):List DS->Option (List DS)
 | []=>some [s]
 | e::r=>bif OT jI e.ls.toList s.ls.toList then
   (bif Vh s.lc e.lc&&Vh e.lc s.lc&&OT Rg.beq s.rg e.rg then some (e::r) else none)
  else(match ABU s r with
   |some r'=>some (e::r')
   |none=>none)
def V3:List DS->List DS->Option (List DS)
 | [],L=>some L
 |s::r,L=>match ABU s L with
  |some L'=>V3 r L'
  |none=>none
def aL(C:Cx)(ops:Array Oper)(fj:List Rf)(nv nl bv:Nat)(kp:List Rg)(st:St):List DS->List DS->Option (List DS)
 | [],acc=>some acc
 | s::r,acc=>match AE2 C ops fj nv nl bv kp st s with
  |some ss=>(match V3 ss acc with
   |some acN=>aL C ops fj nv nl bv kp st r acN
   |none=>none)
  |none=>none
def AA9(C:Cx)(ops:Array Oper)(fj:List Rf)(nv nl bv:Nat)(kp:List Rg)(st:St):Nat->List DS->Option DS
 |0,[s]=>bif (Region.ready .any ops s.ls).isEmpty then some s else none
 |0,_=>none
 |n+1,L=>match aL C ops fj nv nl bv kp st L [] with
  |some L'=>AA9 C ops fj nv nl bv kp st n L'
  |none=>none
def ANg(rg:List Rg)(fj:List Rf):List Rg:=match fj.getLast? with
 |none=>[]
 | some f=>rg.filter λr=>Nat.ble r.cs.length 256&&(match jB r.id f.rg with
   |some r'=>r.beq r'
   |none=>false)
def iM(C:Cx)(ops:Array Oper)(st:St)(κ:St->Be):Be:=
 let bv:=st.nv+16*ops.size
 let bl:=st.nl+16*ops.size
 let ZQ:= { st with nv:=bv,nl:=bl }
 bif !(Region.noSelect ops) then .bad 10 else
 match AGT C st.nv st.nl bv ops.toList ZQ with
 |none=>.bad 11
 | some fj=>
  let ds:=fj.flatMap (·.ds)
  let ob:=fj.flatMap (·.ob)
  let χ:= { ZQ with ln:=JG C.T st.ln ds }
  let kp:=ANg st.rg fj
  match AA9 C ops fj st.nv st.nl bv kp χ ops.size [⟨Array.replicate ops.size false,[],st.rg⟩] with
  |none=>.bad 12
  |some s=>
   let pH:=St.flush { χ with lc:=s.lc,rg:=s.rg }
   match ds,ob with
   | [],[]=>κ pH
   |ds,ob=>bif FL st.nv bv ds&&I6 bv ob then .ep ds ob (κ pH) else .bad 13
def looks(st:St):List Nat->Option (List SV)
 | []=>some []
 |t::r=>match st.look t,looks st r with
  |some v,some vs=>some (v::vs)
  |_,_=>none
def AGw(ts:List Nat)(tm:List (Nat×SV)):List (Nat×SV):=tm.filter λp=> !(Dz p.1 ts)
def um(st:St):List Nat->List TV->Option St
 | [],[]=>some st
 |t::ts,v::vs=>match st.put (some t) (.t v) with
  |some cD=>um cD ts vs
  |none=>none
 |_,_=>none
def kE (C:Cx) (d:LD) (st:St) (κ:St->Be):Be:=
 bif !(Nat.beq st.nt d.nt) then .bad 24 else
 match looks st d.ps with
 |none=>.bad 20
 | some vs=>match ym C d.tg true vs st.nv st.nl (st.nv+16) st with
  |none=>.bad 21
  | some r=>
   match um { st with lc:=[],tm:=AGw d.cl st.tm,rg:=r.rg,ln:=JG C.T st.ln r.ds,nv:=st.nv+16,nl:=st.nl+16 } d.ss r.vs with
   |none=>.bad 22
   |some cD=>(match r.ds,r.ob with
    | [],[]=>κ cD.flush
    |ds,ob=>bif FL st.nv (st.nv+16) ds&&I6 (st.nv+16) ob then .ep ds ob (κ cD.flush) else .bad 23)
def AOo:List K->Option (Code×List K)
 | []=>none
 | .code c::k=>some (c,k)
 | .blk _::k=>AOo k
def mF(id:Nat):List K->Option (List K)
 | []=>none
 | .blk j::k=>bif Nat.beq j id then some k else mF id k
 | .code _::k=>mF id k
def OC(C:Cx):Nat->List K->Code->St->Be
 |0,_,_,_=>.bad 30
 | n+1,k,c,st=>
  let fin (k:List K) (st:St):Be:=match AOo k with
   |none=>.leaf .normal st
   |some (c,k')=>OC C n k' c st
  match c with
  | .skip=>fin k st
  | .region _ ops draw=>cond draw (iM C ops st (fin k)) (TE C (OC C n []) ops (fin k) ops.toList st)
  | .seq a b=>OC C n (.code b::k) a st
  | .cond x t e=>(match st.cL x with
   |some (.t (.l (.bool (.lit m))))=>bif H5 m 0 then OC C n k e st else OC C n k t st
   |some (.t (.l (.bool y)))=>AAH y (OC C n k t st) (OC C n k e st)
   |_=>.bad 31)
  | .block id body=>(match lk id C.loops with
   |some d=>kE C d st (fin k)
   |none=>OC C n (.blk id::k) body st)
  | .loop body=>OC C n (.code (.loop body)::k) body st
  | .exit id=>(match mF id k with
   |none=>.leaf (.exit id) st
   |some k'=>fin k' st)
  | .ret=>.leaf .ret st
  |_=>.bad 32
end
section
open Go
theorem OU{α:Type}{t:Nat}{v:α}:∀ {l:List (Nat×α)},lk t l=some v->(t,v)∈l
 | [],h=>by simp[lk] at h
 | (k,u)::r,h=>by
  unfold lk at h;cases hb:Nat.beq k t with
  |true=>
   rw[hb] at h;simp only[cond_true,Ai] at h;have:=Ca hb;subst this;subst h;exact Jv
  |false=>
   rw[hb] at h;exact MN _ (OU h)
theorem Ls{a b:Int}(h:H5 a b=true):a=b:=by
 cases a<;>cases b<;>simp only[H5,Qo] at h
 ·rw[Ca h]
 ·rw[Ca h]
theorem PO{a b:Int}(h:H5 a b=false):a≠b:=by
 intro e;subst e;cases a<;>simp[H5] at h
theorem GG{α:Type}{f:α->α->Bool}(hf:∀a b,f a b=true->a=b):∀ {l m:List α},OT f l m=true->l=m
 | [],[],_=>rfl
 | [],_::_,h=>by simp[OT] at h
 |_::_,[],h=>by simp[OT] at h
 |a::as,b::bs,h=>by
  simp only[OT,Bj] at h;rw[hf _ _ h.1,GG hf h.2]
theorem X.beq_eq{a b:X}(h:a.beq b=true):a=b:=by
 cases a<;>cases b<;>simp only[X.beq,Bj,Qo] at h
 ·rw[Ls h]
 ·rw[Ca h.1,Ca h.2]
theorem Mx{a b:IntKind}(h:sK a b=true):a=b:=by
 cases a<;>cases b<;>first|rfl|(exact absurd h (by decide))
theorem CX.beq_eq{a b:CX}(h:a.beq b=true):a=b:=by
 cases a<;>cases b<;>simp only[CX.beq,Qo] at h
 ·rw[X.beq_eq h]
 ·rw[Ca h]
theorem LV.beq_eq{a b:LV}(h:a.beq b=true):a=b:=by
 cases a<;>cases b<;>simp only[LV.beq,Bj,Qo] at h
 all_goals first
  |rfl
  |rw[GG (λ_ _=>X.beq_eq) h]
  |rw[Mx h.1,X.beq_eq h.2]
  |rw[X.beq_eq h]
  |rw[Ca h]
  |rw[Ca h.1,Ca h.2]
  |rw[Ca h.1.1.1,Ca h.1.1.2,Ca h.1.2,Ca h.2]
  | (obtain⟨⟨⟨⟨h1,h2⟩,h3⟩,h4⟩,h5⟩:=h
     first
    |rw[Ca h1,Ca h2,Ca h3,CX.beq_eq h4,Ca h5]
    |rw[Ca h1,Ca h2,Ca h3,Ca h4,X.beq_eq h5])
  | (obtain⟨⟨⟨⟨⟨h1,h2⟩,h3⟩,h4⟩,h5⟩,h6⟩:=h
     rw[Ca h1,Ca h2,Ca h3,CX.beq_eq h4,Ca h5,Ca h6])
theorem TV.beq_eq{a b:TV}(h:a.beq b=true):a=b:=by
 cases a<;>cases b<;>simp only[TV.beq,Qo] at h
 ·rw[LV.beq_eq h]
 ·rw[GG (λ_ _=>LV.beq_eq) h]
theorem SV.beq_eq{a b:SV}(h:a.beq b=true):a=b:=by
 cases a<;>cases b<;>simp only[SV.beq,Qo] at h
 ·rw[TV.beq_eq h]
 ·rw[GG (λ_ _=>TV.beq_eq) h]
 ·rw[Ca h]
theorem oO{a b:Option LV}(h:Zh a b=true):a=b:=by
 cases a<;>cases b<;>simp only[Zh,Qo] at h
 ·rfl
 ·rw[LV.beq_eq h]
theorem Rg.beq_eq{a b:Rg}(h:a.beq b=true):a=b:=by
 simp only[Rg.beq,Bj,beq_iff_eq] at h;obtain⟨⟨⟨h1,h2⟩,h3⟩,h4⟩:=h;cases a;cases b;simp only at h1 h2 h3 h4;rw[Ca h1,Ca h2,h3,GG (λ_ _=>oO) h4]
theorem Hy.beq_eq{a b:Hy}(h:a.beq b=true):a=b:=by
 cases a<;>cases b<;>simp only[Hy.beq,Qo] at h
 ·rw[Ca h]
 ·rw[GG (λ_ _=>X.beq_eq) h]
theorem ALO{a b:BinOp}(h:Nat.beq (opN a) (opN b)=true):a=b:=by
 cases a<;>cases b<;>first|rfl|(exact absurd h (by decide))
theorem NR.beq_eq{a b:NR}(h:a.beq b=true):a=b:=by
 cases a<;>cases b<;>simp only[NR.beq,Bj,beq_iff_eq,Qo] at h
 all_goals first
  |rfl
  |rw[ALO h.1,Mx h.2]
  |rw[Mx h]
  |rw[Ca h]
  |rw[Ca h.1.1,h.1.2,Ca h.2]
theorem FT.beq_eq{a b:FT}(h:a.beq b=true):a=b:=by
 simp only[FT.beq,Bj] at h;cases a;cases b;simp only at h;rw[NR.beq_eq h.1,GG (λ_ _=>Hy.beq_eq) h.2]
theorem Za{a b:List (Nat×FT)}(h:V7 a b=true):a=b:=
 GG (λa b h=>by
  simp only[Bj] at h;cases a;cases b;simp only at h;rw[Ca h.1,FT.beq_eq h.2]) h
theorem I1.beq_eq{a b:I1}(h:a.beq b=true):a=b:=by
 cases a<;>cases b<;>simp only[I1.beq,Bj,Qo] at h
 all_goals first
  |rw[X.beq_eq h]
  |rw[X.beq_eq h.1,Ca h.2]
  |rw[Ca h.1,GG (λ_ _=>Hy.beq_eq) h.2]
theorem Nb{α:Type}:∀(cs:List α) (o:Nat) (vs:List α),(UN cs o vs).length=cs.length
 | [],_,_=>by simp[UN]
 |_::_,0,[]=>by simp[UN]
 |c::cs,0,v::vs=>by simp[UN,Nb cs 0 vs]
 |c::cs,o+1,vs=>by simp[UN,Nb cs o vs]
theorem QR{α:Type}:∀(cs:List α) (o:Nat) (vs:List α) (i:Nat),i<cs.length->
  (UN cs o vs)[i]? = if o<=i/\i<o+vs.length then vs[i-o]? else cs[i]?
 | [],_,_,i,h=>by simp at h
 |c::cs,0,[],i,_=>by simp[UN]
 |c::cs,0,v::vs,0,_=>by simp[UN]
 |c::cs,0,v::vs,i+1,h=>by
  simp only[UN,Cp,NY];rw[QR cs 0 vs i (by simpa using h)];simp only[Nat.zero_le,true_and,KN,Nat.sub_zero];by_cases h1:i<vs.length
  ·rw[if_pos h1,if_pos (by omega)];simp
  ·rw[if_neg h1,if_neg (by omega)]
 |c::cs,o+1,vs,0,_=>by simp[UN]
 |c::cs,o+1,vs,i+1,h=>by
  simp only[UN,Cp];rw[QR cs o vs i (by simpa using h)];by_cases h1:o<=i/\i<o+vs.length
  ·rw[if_pos h1,if_pos (by omega),Nat.add_sub_add_right]
  ·rw[if_neg h1,if_neg (by omega)]
theorem Xr{α:Type}:∀ {l:List (Option α)} {r:List α},RY l=some r->l=r.map some
 | [],r,h=>by simp[RY] at h;subst h;rfl
 |none::_,r,h=>by simp[RY] at h
 | some x::xs,r,h=>by
  unfold RY at h;cases hx:RY xs with
  |none=>rw[hx] at h;simp at h
  |some ys=>
   rw[hx] at h;simp only[Ai] at h;subst h;rw[Xr hx];rfl
def CP(f:Bool)(w:World)(b o:Nat)(v:Value):Prop:=w.cell? ⟨b,o,none⟩=some v/\(f=true->w.frozen? ⟨b,o,none⟩=false)
theorem CP.lt{f:Bool}{w:World}{b o:Nat}{v:Value}(h:CP f w b o v):b<w.heap.size:=by
 have h1:=h.1;unfold World.cell? at h1;rcases kz b w.heap.size with h2|h2
 ·exact h2
 ·simp[uM h2] at h1
theorem CP.xT{f:Bool}{w:World}{b o:Nat}{v:Value}(h:CP true w b o v):CP f w b o v:=⟨h.1,λ_=>h.2 rfl⟩
theorem CP.obj{f:Bool}{w:World}{b o:Nat}{v:Value}(h:CP f w b o v):
  ∃c e lo hi,w.heap[b]? = some (.cells c e (lo,hi))/\c[o]? = some v/\(f=true->¬(lo<=o/\o<hi)):=by
 obtain⟨h1,h2⟩:=h;unfold World.cell? at h1;unfold World.frozen? at h2;simp only at h1 h2;split at h1
 ·rename_i c e fr heq;rw[heq] at h2;obtain⟨lo,hi⟩:=fr;simp only[Option.isSome_none,Qo,if_false] at h1;exact⟨c,e,lo,hi,heq,h1,λhf=>by simpa using h2 hf⟩
 ·exact absurd h1 (by simp)
theorem CP.fh{f:Bool}{w:World}{b o:Nat}{v:Value}{c:Array Value}{e lo hi:Nat}(h:w.heap[b]? = some (.cells c e (lo,hi)))(hc:c[o]? = some v)
  (hf:f=true->¬(lo<=o/\o<hi)):CP f w b o v:=by
 constructor
 ·unfold World.cell?;simp only[h];simpa using hc
 ·intro hft;unfold World.frozen?;simp only[h];simpa using hf hft
theorem World.dr(w:World)(b o:Nat)(v:Value)(j:Nat):
  (w.setCell ⟨b,o,none⟩ v).heap[j]? = if j=b then(w.heap[b]?).map (λ| .cells c e f=>.cells (c.setIfInBounds o v) e f|x=>x) else w.heap[j]? := by
 unfold World.setCell;simp only[Array.getElem?_modify];by_cases h:b=j
 ·subst h;simp;generalize w.heap[b]? = q;cases q with
  |none=>rfl
  |some x=>cases x<;>rfl
 ·rw[if_neg h,if_neg (λe=>h e.symm)]
theorem Ri(w:World)(a:Addr)(v:Value):(w.setCell a v).heap.size=w.heap.size:=by
 unfold World.setCell;simp
theorem CP.lR{f:Bool}{w:World}{b o:Nat}{u v:Value}(h:CP f w b o u):CP f (w.setCell ⟨b,o,none⟩ v) b o v:=by
 obtain⟨c,e,lo,hi,h1,h2,h3⟩:=h.obj;refine CP.fh (c:=c.setIfInBounds o v) (e:=e) (lo:=lo) (hi:=hi) ?_ ?_ h3
 ·rw[World.dr,if_pos rfl,h1];rfl
 ·have:o<c.size:=by
   rcases kz o c.size with h|h
   ·exact h
   ·simp[uM h] at h2
  simp[this]
theorem CP.cU{f:Bool}{w:World}{b o b' o':Nat}{u v:Value}(h:CP f w b o u)(cj:¬(b=b'/\o=o')):CP f (w.setCell ⟨b',o',none⟩ v) b o u:=by
 obtain⟨c,e,lo,hi,h1,h2,h3⟩:=h.obj;by_cases hb:b=b'
 ·subst hb;have ho:o'≠o:=λe=>cj ⟨rfl,e.symm⟩
  refine CP.fh (c:=c.setIfInBounds o' v) (e:=e) (lo:=lo) (hi:=hi) ?_ ?_ h3
  ·rw[World.dr,if_pos rfl,h1];rfl
  ·rw[Array.getElem?_setIfInBounds_ne ho];exact h2
 ·refine CP.fh (c:=c) (e:=e) (lo:=lo) (hi:=hi) ?_ h2 h3;rw[World.dr,if_neg hb];exact h1
def BR(S:Nat->Prop)(x y:Obj):Prop:=
 x=y\/∃c c' e f,x= .cells c e f/\y= .cells c' e f/\c'.size=c.size/\∀o,¬S o->c'[o]? = c[o]?
theorem BR.refl(S:Nat->Prop)(x:Obj):BR S x x:=.inl rfl
theorem BR.trans{S:Nat->Prop}{x y z:Obj}(h:BR S x y)(h':BR S y z):BR S x z:=by
 rcases h with rfl|⟨c,c',e,f,rfl,rfl,h1,h2⟩
 ·exact h'
 ·rcases h' with rfl|⟨d,d',e',f',h3,rfl,h4,h5⟩
  ·exact .inr ⟨c,c',e,f,rfl,rfl,h1,h2⟩
  ·cases h3;exact .inr ⟨c,d',e,f,rfl,rfl,by rw[h4,h1],λo ho=>by rw[h5 o ho,h2 o ho]⟩
theorem BR.mono{S S':Nat->Prop}{x y:Obj}(h:BR S x y)(hs:∀o,S o->S' o):BR S' x y:=by
 rcases h with rfl|⟨c,c',e,f,rfl,rfl,h1,h2⟩
 ·exact .inl rfl
 ·exact .inr ⟨c,c',e,f,rfl,rfl,h1,λo ho=>h2 o λh=>ho (hs o h)⟩
def BD(B w:World)(S:Nat->Nat->Prop):Prop:=
 B.heap.size<=w.heap.size/\(∀b x,B.heap[b]? = some x->∃y,w.heap[b]? = some y/\BR (S b) x y)/\w.os=B.os/\w.output=B.output/\w.tape=B.tape
theorem BD.refl(w:World)(S:Nat->Nat->Prop):BD w w S:=⟨Ie _,λ_ x h=>⟨x,h,.refl _ x⟩,rfl,rfl,rfl⟩
theorem BD.trans{A B w:World}{S:Nat->Nat->Prop}(h:BD A B S)(h':BD B w S):BD A w S:=
 ⟨EX h.1 h'.1,λb x hx=>by
  obtain⟨y,hy,h1⟩:=h.2.1 b x hx;obtain⟨z,hz,h2⟩:=h'.2.1 b y hy;exact⟨z,hz,h1.trans h2⟩,h'.2.2.1.trans h.2.2.1,h'.2.2.2.1.trans h.2.2.2.1,h'.2.2.2.2.trans h.2.2.2.2⟩
theorem BD.mono{B w:World}{S S':Nat->Nat->Prop}(h:BD B w S)(hs:∀b o,b<B.heap.size->S b o->S' b o):BD B w S':=
 ⟨h.1,λb x hx=>by
  obtain⟨y,hy,h1⟩:=h.2.1 b x hx;have hb:b<B.heap.size:=by
   rcases kz b B.heap.size with h2|h2
   ·exact h2
   ·simp[uM h2] at hx
  exact⟨y,hy,h1.mono λo=>hs b o hb⟩,h.2.2⟩
theorem BD.of_heap{B w w':World}{S:Nat->Nat->Prop}(h:BD B w S)(e:w'.heap=w.heap)(e1:w'.os=w.os)(e2:w'.output=w.output)(e3:w'.tape=w.tape):BD B w' S:=by
 unfold BD;rw[e,e1,e2,e3];exact h
theorem BD.setCell{B w:World}{S:Nat->Nat->Prop}(h:BD B w S){b o:Nat}{v:Value}(hs:B.heap.size<=b\/S b o):BD B (w.setCell ⟨b,o,none⟩ v) S:=by
 refine⟨by rw[Ri];exact h.1,λj x hx=>?_,h.2.2⟩;obtain⟨y,hy,h1⟩:=h.2.1 j x hx;have hj:j<B.heap.size:=by
  rcases kz j B.heap.size with h2|h2
  ·exact h2
  ·simp[uM h2] at hx
 rw[World.dr];by_cases hjb:j=b
 ·subst hjb;rw[if_pos rfl,hy];have hS:S j o:=hs.resolve_left (by omega);refine⟨_,rfl,h1.trans ?_⟩;cases y with
  | cells c e f=>exact .inr ⟨c,_,e,f,rfl,rfl,by simp,λo' i7=>by
    have:o≠o':=λe=>i7 (e ▸ hS)
    exact Array.getElem?_setIfInBounds_ne this⟩
  |_=>exact .refl _ _
 ·rw[if_neg hjb];exact⟨y,hy,h1⟩
theorem BD.push{B w w':World}{S:Nat->Nat->Prop}(h:BD B w S){o:Obj}(e:w'.heap=w.heap.push o)(e1:w'.os=w.os)(e2:w'.output=w.output)(e3:w'.tape=w.tape):BD B w' S:=by
 refine⟨by rw[e,Array.size_push];have:=h.1;omega,λj x hx=>?_,by rw[e1,e2,e3];exact h.2.2⟩;obtain⟨y,hy,h1⟩:=h.2.1 j x hx;refine⟨y,?_,h1⟩;have hj:j<w.heap.size:=by
  rcases kz j w.heap.size with h2|h2
  ·exact h2
  ·simp[uM h2] at hy
 rw[e,Array.getElem?_push_lt hj];simpa[Array.getElem?_eq_getElem hj] using hy
theorem BD.fk{f:Bool}{B w:World}{S:Nat->Nat->Prop}(h:BD B w S){b o:Nat}{v:Value}(hc:CP f B b o v)(hs:¬S b o):CP f w b o v:=by
 obtain⟨c,e,lo,hi,h1,h2,h3⟩:=hc.obj;obtain⟨y,hy,hb⟩:=h.2.1 b _ h1;rcases hb with rfl|⟨c0,c',e0,fr,h4,rfl,h5,h6⟩
 ·exact CP.fh hy h2 h3
 ·cases h4;exact CP.fh hy (by rw[h6 o hs];exact h2) h3
theorem CP.push{f:Bool}{w w':World}{b o:Nat}{v:Value}{x:Obj}(h:CP f w b o v)(e:w'.heap=w.heap.push x):CP f w' b o v:=by
 have hb:=h.lt;obtain⟨c,el,lo,hi,h1,h2,h3⟩:=h.obj;refine CP.fh (c:=c) (e:=el) (lo:=lo) (hi:=hi) ?_ h2 h3;rw[e,Array.getElem?_push_lt hb];simpa[Array.getElem?_eq_getElem hb] using h1
theorem CP.of_heap{f:Bool}{w w':World}{b o:Nat}{v:Value}(h:CP f w b o v)(e:w'.heap=w.heap):CP f w' b o v:=by
 unfold CP World.cell? World.frozen?;rw[e];exact h
theorem CP.inj{f g:Bool}{w:World}{b o:Nat}{v u:Value}(h:CP f w b o v)(h':CP g w b o u):v=u:=by
 have:=h.1.symm.trans h'.1;simpa using this
end
section
open Go
structure En where
 P:Program
 C:Cx
 B:World
 S:Nat->Nat->Prop
 GB:Nat
 GC:Nat->Nat->Option Value
 I:List (Nat×(Nat×Nat)):=[]
 sn:Nat:=0
 σ0:Nat->Value:=λ_=>undef
def GW(GC:Nat->Nat->Option Value)(w:World):Prop:=∀b o v,GC b o=some v->w.cell? ⟨b,o,none⟩=some v
def RgH(V:Vl)(w:World)(r:Rg):Prop:=
 ∀(i:Nat) (c:Option LV),r.cs[i]? = some c->∃v,CP r.wr w (V.ν r.id).1 ((V.ν r.id).2+i) v/\∀lv,c=some lv->v=lv.den V/\lv.ok V
def ZH(a b:Nat×Nat)(n m:Nat):Prop:=a.1≠b.1\/a.2+n<=b.2\/b.2+m<=a.2\/n=0\/m=0
def uZ(V:Vl)(r r':Rg):Prop:=
 (r.fR=r'.fR/\r.fR≠0/\V.ν r.id=V.ν r'.id/\r.cs.length=r'.cs.length)\/ZH (V.ν r.id) (V.ν r'.id) r.cs.length r'.cs.length
structure Oc (E:En) (rg:List Rg) (V:Vl) (w:World):Prop where
 ov:∀r∈rg,RgH V w r
 one:∀r∈rg,∀r'∈rg,r.id=r'.id->r=r'
 sep:∀r∈rg,∀r'∈rg,r.wr=true->r.id≠r'.id->uZ V r r'
 so:∀r∈rg,r.wr=true->E.GB<=(V.ν r.id).1/\∀i,i<r.cs.length->E.B.heap.size<=(V.ν r.id).1\/E.S (V.ν r.id).1 ((V.ν r.id).2+i)
 an:BD E.B w E.S
 gw:GW E.GC w
def Ym(nv:Nat)(rg:List Rg):Prop:=∀r∈rg,∀lv,some lv∈r.cs->lv.lt nv (DL rg)=true
structure TN (st:St) (V:Vl) (a:Act):Prop where
 tm:∀t v,st.look t=some v->a.tmps.getD t undef=v.den V/\v.ok V/\v.lt st.nv (DL st.rg)=true
 gl:∀g l,lk g st.gl=some l->V.ν l=(g,0)/\Dz l (DL st.rg)=true
 ln:∀p∈st.ln,(V.ρ p.1).length=p.2
structure Sat (E:En) (st:St) (V:Vl) (a:Act) (w:World):Prop where
 m:Oc E st.rg V w
 mc:Ym st.nv st.rg
 t:TN st V a
 nt:a.tmps.size=st.nt
 df:a.defers= []
def Ag(nv:Nat)(ids:List Nat)(V V':Vl):Prop:=
 (∀i,i<nv->V'.ρ i=V.ρ i)/\(∀i,i<nv->V'.σ i=V.σ i)/\(∀l,Dz l ids=true->V'.ν l=V.ν l)
theorem Ag.refl(nv:Nat)(ids:List Nat)(V:Vl):Ag nv ids V V:=⟨λ_ _=>rfl,λ_ _=>rfl,λ_ _=>rfl⟩
theorem Dh{a b:Nat}(h:Nat.blt a b=true):a<b:=by
 have:=Kv h;omega
theorem X.ck{nv:Nat}{ids:List Nat}{V V':Vl}(h:Ag nv ids V V'){x:X}(hx:x.lt nv=true):x.den V'.ρ=x.den V.ρ:=by
 cases x with
 |lit n=>rfl
 |v i k=>simp only[X.den,h.1 i (Dh hx)]
theorem CX.ck{nv:Nat}{ids:List Nat}{V V':Vl}(h:Ag nv ids V V'){x:CX}(hx:x.lt nv=true):x.den V'=x.den V:=by
 cases x with
 |n x=>exact X.ck h hx
 |s i=>simp only[CX.den,h.2.1 i (Dh hx)]
theorem LV.ck{nv:Nat}{ids:List Nat}{V V':Vl}(h:Ag nv ids V V'){v:LV}(hv:v.lt nv ids=true):v.den V'=v.den V:=by
 cases v with
 |int k x=>simp only[LV.den,X.ck h hv]
 |bool x=>simp only[LV.den,X.ck h hv]
 |ptr l o=>simp only[LV.den,h.2.2 l hv]
 |sl l o n c d=>
  simp only[LV.lt,Bj] at hv;simp only[LV.den,h.2.2 l hv.1,CX.ck h hv.2]
 |se l o s c d a=>
  simp only[LV.lt,Bj] at hv;simp only[LV.den,h.2.2 l hv.1,CX.ck h hv.2]
 |str xs=>
  simp only[LV.lt,Kh] at hv;simp only[LV.den];rw[fT λx hx=>show zT V'.ρ x=zT V.ρ x by unfold zT;rw[X.ck h (hv x hx)]]
 |pd l o n s x=>
  simp only[LV.lt,Bj] at hv;simp only[LV.den,h.2.2 l hv.1,X.ck h hv.2]
 |fL l o n i=>
  simp only[LV.lt,Bj] at hv;simp only[LV.den,h.2.1 i (Dh hv.2)]
 |Ek i=>simp only[LV.den,h.2.1 i (Dh hv)]
 |err i=>simp only[LV.den,h.2.1 i (Dh hv)]
 |_=>rfl
theorem LV.eW{nv:Nat}{ids:List Nat}{V V':Vl}(h:Ag nv ids V V'){v:LV}(hv:v.lt nv ids=true)(ho:v.ok V):v.ok V':=by
 cases v with
 |int k x=>simpa only[LV.ok,X.ck h hv] using ho
 |sl l o n c d=>
  simp only[LV.lt,Bj] at hv;simpa only[LV.ok,CX.ck h hv.2] using ho
 |se l o s c d a=>
  simp only[LV.lt,Bj] at hv;simpa only[LV.ok,CX.ck h hv.2] using ho
 |str xs=>
  simp only[LV.lt,Kh] at hv;exact λx hx=>by rw[X.ck h (hv x hx)];exact ho x hx
 |pd l o n s x=>
  simp only[LV.lt,Bj] at hv;simpa only[LV.ok,X.ck h hv.2] using ho
 |fL l o n i=>
  simp only[LV.lt,Bj] at hv;simpa only[LV.ok,h.2.1 i (Dh hv.2),h.2.2 l hv.1] using ho
 |Ek i=>simpa only[LV.ok,h.2.1 i (Dh hv)] using ho
 |err i=>simpa only[LV.ok,h.2.1 i (Dh hv)] using ho
 |val v=>exact ho
 |_=>trivial
theorem TV.ck{nv:Nat}{ids:List Nat}{V V':Vl}(h:Ag nv ids V V'){v:TV}(hv:v.lt nv ids=true):v.den V'=v.den V:=by
 cases v with
 |l v=>exact LV.ck h hv
 |a vs=>
  simp only[TV.lt,Kh] at hv;simp only[TV.den];rw[fT λx hx=>LV.ck h (hv x hx)]
theorem TV.eW{nv:Nat}{ids:List Nat}{V V':Vl}(h:Ag nv ids V V'){v:TV}(hv:v.lt nv ids=true)(ho:v.ok V):v.ok V':=by
 cases v with
 |l v=>exact LV.eW h hv ho
 |a vs=>
  simp only[TV.lt,Kh] at hv;exact λx hx=>LV.eW h (hv x hx) (ho x hx)
theorem SV.ck{nv:Nat}{ids:List Nat}{V V':Vl}(h:Ag nv ids V V'){v:SV}(hv:v.lt nv ids=true):v.den V'=v.den V:=by
 cases v with
 |t v=>exact TV.ck h hv
 |nj vs=>
  simp only[SV.lt,Kh] at hv;simp only[SV.den];rw[fT λx hx=>TV.ck h (hv x hx)]
 |any i=>exact h.2.1 i (Dh hv)
theorem SV.eW{nv:Nat}{ids:List Nat}{V V':Vl}(h:Ag nv ids V V'){v:SV}(hv:v.lt nv ids=true)(ho:v.ok V):v.ok V':=by
 cases v with
 |t v=>exact TV.eW h hv ho
 |nj vs=>
  simp only[SV.lt,Kh] at hv;exact λx hx=>TV.eW h (hv x hx) (ho x hx)
 |any i=>trivial
theorem Nq{rg:List Rg}{l:Nat}:Dz l (DL rg)=true↔∃r∈rg,r.id=l:=by
 induction rg with
 |nil=>simp[DL,Dz]
 | cons r rs ih=>
  simp only[DL,NM,Dz,Bool.or_eq_true] at ih ⊢;rw[show Dz l (List.map (λx=>x.id) rs)=true↔∃r∈rs,r.id=l from ih];constructor
  ·rintro(h|⟨r',h1,h2⟩)
   ·exact⟨r,Jv,Ca h⟩
   ·exact⟨r',MN _ h1,h2⟩
  ·rintro⟨r',h1,h2⟩;rcases G9.1 h1 with rfl|h1
   ·exact .inl (by rw[h2];exact Nat.beq_refl l)
   ·exact .inr ⟨r',h1,h2⟩
theorem FQ{rg:List Rg}{r:Rg}(h:r∈rg):Dz r.id (DL rg)=true:=Nq.2 ⟨r,h,rfl⟩
theorem X.be{a b:Nat}(h:a<=b){x:X}(hx:x.lt a=true):x.lt b=true:=by
 cases x with
 |lit n=>rfl
 |v i k=>exact yu (by have:=Dh hx;omega)
theorem CX.be{a b:Nat}(h:a<=b){x:CX}(hx:x.lt a=true):x.lt b=true:=by
 cases x with
 |n x=>exact X.be h hx
 |s i=>exact yu (by have:=Dh hx;omega)
theorem LV.be{a b:Nat}{is js:List Nat}(h:a<=b)(hi:∀l,Dz l is=true->Dz l js=true){v:LV}(hv:v.lt a is=true):v.lt b js=true:=by
 cases v with
 |int k x=>exact X.be h hv
 |bool x=>exact X.be h hv
 |ptr l o=>exact hi l hv
 |sl l o n c d=>
  simp only[LV.lt,Bj] at hv ⊢;exact⟨hi l hv.1,CX.be h hv.2⟩
 |se l o s c d a=>
  simp only[LV.lt,Bj] at hv ⊢;exact⟨hi l hv.1,CX.be h hv.2⟩
 |str xs=>
  simp only[LV.lt,Kh] at hv ⊢;exact λx hx=>X.be h (hv x hx)
 |pd l o n s x=>
  simp only[LV.lt,Bj] at hv ⊢;exact⟨hi l hv.1,X.be h hv.2⟩
 |fL l o n i=>
  simp only[LV.lt,Bj] at hv ⊢;exact⟨hi l hv.1,yu (by have:=Dh hv.2;omega)⟩
 |Ek i=>exact yu (by have:=Dh hv;omega)
 |err i=>exact yu (by have:=Dh hv;omega)
 |_=>rfl
theorem TV.be{a b:Nat}{is js:List Nat}(h:a<=b)(hi:∀l,Dz l is=true->Dz l js=true){v:TV}(hv:v.lt a is=true):v.lt b js=true:=by
 cases v with
 |l v=>exact LV.be h hi hv
 |a vs=>
  simp only[TV.lt,Kh] at hv ⊢;exact λx hx=>LV.be h hi (hv x hx)
theorem SV.be{a b:Nat}{is js:List Nat}(h:a<=b)(hi:∀l,Dz l is=true->Dz l js=true){v:SV}(hv:v.lt a is=true):v.lt b js=true:=by
 cases v with
 |t v=>exact TV.be h hi hv
 |nj vs=>
  simp only[SV.lt,Kh] at hv ⊢;exact λx hx=>TV.be h hi (hv x hx)
 |any i=>exact yu (by have:=Dh hv;omega)
theorem RgH.ag{nv:Nat}{rg:List Rg}{V V':Vl}(h:Ag nv (DL rg) V V')(hs:Ym nv rg){w:World}{r:Rg}(hr:r∈rg)(hh:RgH V w r):RgH V' w r:=by
 intro i c hc;obtain⟨v,h1,h2⟩:=hh i c hc;rw[h.2.2 r.id (FQ hr)];refine⟨v,h1,λlv e=>?_⟩;subst e;obtain⟨h3,h4⟩:=h2 lv rfl;have hl:=hs r hr lv (MB hc);exact⟨by rw[LV.ck h hl];exact h3,LV.eW h hl h4⟩
theorem Oc.ag{E:En}{nv:Nat}{rg:List Rg}{V V':Vl}{w:World}(h:Ag nv (DL rg) V V')(hs:Ym nv rg)(hm:Oc E rg V w):Oc E rg V' w where
 ov r hr:=(hm.ov r hr).ag h hs hr
 one:=hm.one
 sep r hr r' cG hw cj:=by
  have:=hm.sep r hr r' cG hw cj;unfold uZ at *
  rw[h.2.2 r.id (FQ hr),h.2.2 r'.id (FQ cG)];exact this
 so r hr hw:=by
  have:=hm.so r hr hw;rw[h.2.2 r.id (FQ hr)];exact this
 an:=hm.an
 gw:=hm.gw
theorem JW{l:Nat}{rg:List Rg}{r:Rg}(h:jB l rg=some r):r∈rg/\r.id=l:=by
 induction rg with
 |nil=>simp[jB] at h
 | cons x xs ih=>
  unfold jB at h;cases hb:Nat.beq x.id l with
  |true=>
   rw[hb] at h;simp only[cond_true,Ai] at h;subst h;exact⟨Jv,Ca hb⟩
  |false=>
   rw[hb] at h;exact⟨MN _ (ih h).1,(ih h).2⟩
theorem Ez{rg:List Rg}{l o n:Nat}{cs:List LV}(h:Jk rg l o n=some cs):
  cs.length=n/\∃r∈rg,r.id=l/\o+n<=r.cs.length/\∀i v,cs[i]? = some v->r.cs[o+i]? = some (some v):=by
 unfold Jk at h;cases hf:jB l rg with
 |none=>rw[hf] at h;simp at h
 | some r=>
  rw[hf] at h;simp only at h;cases hb:Nat.ble (o+n) r.cs.length with
  |false=>rw[hb] at h;simp at h
  | true=>
   rw[hb] at h;simp only[cond_true] at h;have hle:=Kv hb;have he:=Xr h;have hlen:cs.length=n:=by
    have:=CV List.length he;simp at this;omega
   refine⟨hlen,r,(JW hf).1,(JW hf).2,hle,λi v hv=>?_⟩;have h1:=CV (λl=>l[i]?) he;simp only[Ng,hv,UT,List.getElem?_take,List.getElem?_drop] at h1;have hi:i<n:=by
    have:=(Oa.1 hv).1;omega
   rw[if_pos hi] at h1;exact h1
theorem Oc.read{E:En}{rg:List Rg}{V:Vl}{w:World}(hm:Oc E rg V w){l o n:Nat}{cs:List LV}(h:Jk rg l o n=some cs):
  ∀i v,cs[i]? = some v->w.cell? ⟨(V.ν l).1,(V.ν l).2+o+i,none⟩=some (v.den V)/\v.ok V:=by
 obtain⟨hlen,r,hr,rfl,hle,hg⟩:=Ez h;intro i v hv;obtain⟨u,h1,h2⟩:=hm.ov r hr _ _ (hg i v hv);obtain⟨h3,h4⟩:=h2 v rfl;refine⟨?_,h4⟩;rw[WZ, <- h3];exact h1.1
def setCells(w:World)(b o:Nat):List Value->World
 | []=>w
 |v::vs=>setCells (w.setCell ⟨b,o,none⟩ v) b (o+1) vs
theorem Uj(b:Nat):∀(vs:List Value) (w:World) (o:Nat),(setCells w b o vs).heap.size=w.heap.size
 | [],_,_=>rfl
 |v::vs,w,o=>by rw[setCells,Uj b vs,Ri]
theorem CP.ct{f:Bool}{b o:Nat}{u:Value}(b':Nat):∀(vs:List Value) (w:World) (o':Nat),CP f w b o u->(b≠b'\/o<o'\/o'+vs.length<=o)->CP f (setCells w b' o' vs) b o u
 | [],_,_,h,_=>h
 |v::vs,w,o',h,hn=>by
  simp only[NY] at hn;exact CP.ct b' vs _ (o'+1) (h.cU (by rintro⟨rfl,rfl⟩;omega)) (by omega)
theorem CP.c9{f:Bool}{b:Nat}:∀(vs:List Value) (w:World) (o i:Nat) (v:Value),vs[i]? = some v->(∃u,CP f w b (o+i) u)->CP f (setCells w b o vs) b (o+i) v
 | [],_,_,i,_,h,_=>by simp at h
 |x::vs,w,o,0,v,h,⟨u,hu⟩=>by
  simp only[UV,Ai] at h;subst h;exact CP.ct b vs _ (o+1) (by simpa using hu.lR) (by omega)
 | x::vs,w,o,i+1,v,h,⟨u,hu⟩=>by
  simp only[Cp] at h;have:=CP.c9 (f:=f) (b:=b) vs (w.setCell ⟨b,o,none⟩ x) (o+1) i v h ⟨u,(by
   rw[show o+1+i=o+(i+1) by omega];exact hu.cU (by omega))⟩
  rwa [show o+1+i=o+(i+1) by omega] at this
theorem BD.setCells{B:World}{S:Nat->Nat->Prop}{b:Nat}:∀(vs:List Value) (w:World) (o:Nat),BD B w S->(∀i,i<vs.length->B.heap.size<=b\/S b (o+i))->BD B (setCells w b o vs) S
 | [],_,_,h,_=>h
 | v::vs,w,o,h,hs=>BD.setCells vs _ (o+1) (h.setCell (hs 0 (by simp))) (λi hi=>by
   rw[show o+1+i=o+(i+1) by omega];exact hs (i+1) (by simp;omega))
theorem JS{P:Program}(b o:Nat):∀(vs:List Value) (i:Nat) (w:World),(∀v∈vs,v.oneCell'=true)->(∀j,j<vs.length->∃u,CP true w b (o+i+j) u)->
  (storeCells ⟨b,o,none⟩ vs i).run P w= .ok () (setCells w b (o+i) vs)
 | [],i,w,_,_=>rfl
 | v::vs,i,w,h1,h2=>by
  obtain⟨u,hu⟩:=h2 0 (by simp);have ha:(⟨b,o,none⟩:Addr).add i=⟨b,o+i,none⟩:=by
   unfold Addr.add;split
   ·rename_i h;subst h;rfl
   ·rfl
  simp only[storeCells,Gi,run_store P w _ v _ (h1 v Jv),ha];rw[QO] at hu;simp only[hu.1,hu.2 rfl,Qo,if_false,Fb];rw[JS b o vs (i+1) _ (λv hv=>h1 v (MN _ hv)) (λj hj=>by
   obtain⟨u',HL⟩:=h2 (j+1) (by simp;omega);by_cases he:o+i=o+(i+1)+j
   ·omega
   ·exact⟨u',by rw[show o+(i+1)+j=o+i+(j+1) by omega];exact HL.cU (by omega)⟩)]
  simp only[setCells,WZ]
theorem KT{bv:Nat}{rg υ:List Rg}{l o:Nat}{vs:List LV}(h:Nh bv rg l o vs=some υ):
  ∃r∈rg,r.id=l/\r.wr=true/\o+vs.length<=r.cs.length/\(∀v∈vs,v.lt bv (DL rg)=true)/\υ=rg.map (WO l o r.fR vs.length (vs.map some)):=by
 unfold Nh at h;cases hf:jB l rg with
 |none=>rw[hf] at h;simp at h
 | some r=>
  rw[hf] at h;simp only at h;cases hb:(r.wr&&Nat.ble (o+vs.length) r.cs.length&&vs.all (·.lt bv (DL rg))) with
  |false=>rw[hb] at h;simp at h
  |true=>
   rw[hb] at h;simp only[Bj,Kh] at hb;simp only[cond_true,Ai] at h;exact⟨r,(JW hf).1,(JW hf).2,hb.1.1,Kv hb.1.2,hb.2,h.symm⟩
theorem Nf(l o g n:Nat)(vs:List (Option LV))(r:Rg):(WO l o g n vs r).id=r.id:=by
 unfold WO;cases Nat.beq r.id l<;>simp only[cond_true,cond_false]
 cases (!(Nat.beq g 0)&&Nat.beq r.fR g)<;>rfl
theorem AC1(l o g n:Nat)(vs:List (Option LV))(r:Rg):(WO l o g n vs r).fR=r.fR:=by
 unfold WO;cases Nat.beq r.id l<;>simp only[cond_true,cond_false]
 cases (!(Nat.beq g 0)&&Nat.beq r.fR g)<;>rfl
theorem Yj(l o g n:Nat)(vs:List (Option LV))(r:Rg):(WO l o g n vs r).wr=r.wr:=by
 unfold WO;cases Nat.beq r.id l<;>simp only[cond_true,cond_false]
 cases (!(Nat.beq g 0)&&Nat.beq r.fR g)<;>rfl
theorem Pg(l o g n:Nat)(vs:List (Option LV))(r:Rg):(WO l o g n vs r).cs.length=r.cs.length:=by
 unfold WO;cases Nat.beq r.id l<;>simp only[cond_true,cond_false,Nb]
 cases (!(Nat.beq g 0)&&Nat.beq r.fR g)<;>simp only[cond_true,cond_false,Nb]
theorem zY(rg:List Rg)(l o g n:Nat)(vs:List (Option LV)):DL (rg.map (WO l o g n vs))=DL rg:=by
 simp only[DL,List.map_map];exact fT λr _=>Nf l o g n vs r
theorem Oc.write{E:En}{bv:Nat}{rg υ:List Rg}{V:Vl}{w:World}(hm:Oc E rg V w)(L5:∀b o v,E.GC b o=some v->b<E.GB){l o:Nat}{vs:List LV}(h:Nh bv rg l o vs=some υ)
  (eM:∀v∈vs,v.ok V):Oc E υ V (setCells w (V.ν l).1 ((V.ν l).2+o) (vs.map (·.den V))):=by
 obtain⟨R,hR,rfl,lB,hle,bj,rfl⟩:=KT h;have μ:=hm.so R hR lB;refine⟨?_,?_,?_,?_,?_,?_⟩
 ·intro r' cG;obtain⟨r,hr,rfl⟩:=Us.1 cG;intro i c hc;rw[Nf,Yj];have tn:i<r.cs.length:=by
   have:=(Oa.1 hc).1;rwa [Pg] at this
  unfold WO at hc;cases hb:Nat.beq r.id R.id with
  | true=>
   rw[hb] at hc;simp only[cond_true] at hc;have hrR:r=R:=hm.one r hr R hR (Ca hb);subst hrR;rw[QR _ _ _ _ tn,UC] at hc;obtain⟨u,hu,rI⟩:=hm.ov r hr i _ (Io tn);by_cases eE:o<=i/\i<o+vs.length
   ·rw[if_pos eE] at hc;simp only[Ng,Yg] at hc;obtain⟨v,hv,rfl⟩:=hc;refine⟨v.den V,?_,λlv e=>?_⟩
    ·have h1:=CP.c9 (f:=r.wr) (b:=(V.ν r.id).1) (vs.map (·.den V)) w ((V.ν r.id).2+o) (i-o) (v.den V) (by simp[hv]) ⟨u,by
      rw[show(V.ν r.id).2+o+(i-o)=(V.ν r.id).2+i by omega];exact hu⟩
     rwa [show(V.ν r.id).2+o+(i-o)=(V.ν r.id).2+i by omega] at h1
    ·cases e;exact⟨rfl,eM v (MB hv)⟩
   ·rw[if_neg eE,Io tn] at hc;simp only[Ai] at hc;subst hc;exact⟨u,CP.ct _ _ _ _ hu (by simp only[UC];omega),rI⟩
  | false=>
   rw[hb] at hc;simp only[cond_false] at hc;have cj:R.id≠r.id:=λe=>by rw[e,Nat.beq_refl] at hb;exact absurd hb (by simp)
   have ju:=hm.sep R hR r hr lB cj;obtain⟨u,hu,rI⟩:=hm.ov r hr i _ (Io tn);rcases ju with⟨hg,hg0,hν,hlen⟩|hd
   ·have ia:(!(Nat.beq R.fR 0)&&Nat.beq r.fR R.fR)=true:=by
     simp only[Bj,Bool.not_eq_true'];refine⟨?_,by rw[hg];exact Nat.beq_refl _⟩;cases hz:Nat.beq R.fR 0 with
     |false=>rfl
     |true=>exact absurd (Ca hz) hg0
    rw[ia] at hc;simp only[cond_true] at hc;rw[QR _ _ _ _ tn,Rp] at hc;rw[<- hν] at hu ⊢;by_cases eE:o<=i/\i<o+vs.length
    ·rw[if_pos eE] at hc;have hcn:c=none:=by
      have:=MB hc;exact(A6.1 this).2
     subst hcn;obtain⟨v,hv⟩:∃v,vs[i-o]? = some v:=⟨_,Io (by omega)⟩;refine⟨v.den V,?_,λlv e=>by cases e⟩;have h1:=CP.c9 (f:=r.wr) (b:=(V.ν R.id).1) (vs.map (·.den V)) w ((V.ν R.id).2+o) (i-o) (v.den V) (by simp[hv]) ⟨u,by
      rw[show(V.ν R.id).2+o+(i-o)=(V.ν R.id).2+i by omega];exact hu⟩
     rwa [show(V.ν R.id).2+o+(i-o)=(V.ν R.id).2+i by omega] at h1
    ·rw[if_neg eE,Io tn] at hc;simp only[Ai] at hc;subst hc;exact⟨u,CP.ct _ _ _ _ hu (by simp only[UC];omega),rI⟩
   ·have aaI:CP r.wr (setCells w (V.ν R.id).1 ((V.ν R.id).2+o) (vs.map (·.den V))) (V.ν r.id).1 ((V.ν r.id).2+i) u:=by
     refine CP.ct _ _ _ _ hu ?_;simp only[UC];rcases hd with h|h|h|h|h
     ·exact .inl λe=>h e.symm
     ·omega
     ·omega
     ·omega
     ·omega
    cases ia:(!(Nat.beq R.fR 0)&&Nat.beq r.fR R.fR) with
    |false=>
     rw[ia] at hc;simp only[cond_false,Io tn,Ai] at hc;subst hc;exact⟨u,aaI,rI⟩
    | true=>
     rw[ia] at hc;simp only[cond_true] at hc;rw[QR _ _ _ _ tn,Rp] at hc;refine⟨u,aaI,λlv e=>?_⟩;subst e;by_cases eE:o<=i/\i<o+vs.length
     ·rw[if_pos eE] at hc;have:=MB hc;exact absurd (A6.1 this).2 (by simp)
     ·rw[if_neg eE,Io tn] at hc;simp only[Ai] at hc;exact rI lv hc
 ·intro r1 h1 r2 h2 he;obtain⟨r,hr,rfl⟩:=Us.1 h1;obtain⟨r',cG,rfl⟩:=Us.1 h2;rw[Nf,Nf] at he;rw[hm.one r hr r' cG he]
 ·intro r1 h1 r2 h2 hw cj;obtain⟨r,hr,rfl⟩:=Us.1 h1;obtain⟨r',cG,rfl⟩:=Us.1 h2;rw[Yj] at hw;rw[Nf,Nf] at cj;have:=hm.sep r hr r' cG hw cj;unfold uZ at *
  simp only[Nf,AC1,Pg];exact this
 ·intro r1 h1 hw;obtain⟨r,hr,rfl⟩:=Us.1 h1;rw[Yj] at hw;rw[Nf,Pg];exact hm.so r hr hw
 ·refine BD.setCells _ _ _ hm.an λi hi=>?_
  rw[UC] at hi;rw[WZ];exact μ.2 (o+i) (by omega)
 ·intro b o' v hv;have hb:=L5 b o' v hv;have h0:CP false w b o' v:=⟨hm.gw b o' v hv,λh=>by cases h⟩;exact(CP.ct _ _ _ _ h0 (.inl (by have:=μ.1;omega))).1
theorem Ym.write{nv:Nat}{rg υ:List Rg}(hs:Ym nv rg){l o:Nat}{vs:List LV}(h:Nh nv rg l o vs=some υ):Ym nv υ/\DL υ=DL rg:=by
 obtain⟨R,hR,rfl,lB,hle,bj,rfl⟩:=KT h;refine⟨?_,zY _ _ _ _ _ _⟩;intro r1 h1 lv nq;rw[zY];obtain⟨r,hr,rfl⟩:=Us.1 h1;obtain⟨i,hi,he⟩:=kY nq;rw[Pg] at hi;have hg:(WO R.id o R.fR vs.length (vs.map some) r).cs[i]? = some (some lv):=by
  rw[Io (by rw[Pg];exact hi),he]
 have hold:r.cs[i]? = some (some lv)->lv.lt nv (DL rg)=true:=λh=>hs r hr lv (MB h)
 unfold WO at hg;cases hb:Nat.beq r.id R.id<;>rw[hb] at hg<;>simp only[cond_true,cond_false] at hg
 ·cases ia:(!(Nat.beq R.fR 0)&&Nat.beq r.fR R.fR)<;>rw[ia] at hg<;>simp only[cond_true,cond_false] at hg
  ·exact hold hg
  ·rw[QR _ _ _ _ hi,Rp] at hg;split at hg
   ·exact absurd (A6.1 (MB hg)).2 (by simp)
   ·exact hold hg
 ·rw[QR _ _ _ _ hi,UC] at hg;split at hg
  ·obtain⟨v,hv,hve⟩:=Us.1 (MB hg);cases hve;exact bj _ hv
  ·exact hold hg
end
section
open Go
theorem X.bc(ρ:Bu)(n:Int):(X.lit n).den ρ=n:=rfl
theorem Hy.gi(ρ:Bu)(l:List X):(Hy.xs l).den ρ=l.map (·.den ρ):=rfl
section
variable(V:Vl)
theorem SV.aE(v:TV):(SV.t v).den V=v.den V:=rfl
theorem SV.td(vs:List TV):(SV.nj vs).den V= .tuple (vs.map (·.den V)).toArray:=rfl
theorem TV.aq(v:LV):(TV.l v).den V=v.den V:=rfl
theorem TV.qt(vs:List LV):(TV.a vs).den V= .agg (vs.map (·.den V)).toArray:=rfl
theorem LV.cP(k:IntKind)(x:X):(LV.int k x).den V= .int k (x.den V.ρ):=rfl
theorem LV.ca(x:X):(LV.bool x).den V= .bool (x.den V.ρ != 0):=rfl
theorem LV.cx(l o:Nat):(LV.ptr l o).den V= .pointer (some ⟨(V.ν l).1,(V.ν l).2+o,none⟩):=rfl
theorem LV.cE(l o n:Nat)(c:CX)(d:Nat):(LV.sl l o n c d).den V= .slice (some ⟨(V.ν l).1,(V.ν l).2+o,none⟩) n ((c.den V).toNat-d):=rfl
theorem CX.ff(x:X):(CX.n x).den V=x.den V.ρ:=rfl
theorem LV.tc:(LV.CM).den V= .slice none 0 0:=rfl
theorem LV.lO:(LV.ej).den V= .nilIface:=rfl
theorem LV.AG(i:Nat):(LV.err i).den V=V.σ i:=rfl
theorem LV.ki(l o n s:Nat)(x:X):(LV.pd l o n s x).den V= .pointer (some ⟨(V.ν l).1,(V.ν l).2+o+(x.den V.ρ).toNat*s,none⟩):=rfl
end
theorem TY(k:IntKind)(n:Int):IJ k (k.wrap n):=by
 cases k<;>simp only[IJ,IntKind.wrap,IntKind.min,IntKind.max,IntKind.bits,IntKind.signed]<;>simp<;>omega
theorem bH{k:IntKind}{n:Int}:bL k n=true↔IJ k n:=by simp[bL,IJ]
theorem aA(b:Bool):(KQ b != 0)=b:=by cases b<;>rfl
theorem LV.tM{v:Value}{x:LV}(h:LV.N2 v=some x)(V:Vl)(nv:Nat)(ids:List Nat):x.den V=v/\x.ok V/\x.lt nv ids=true:=by
 unfold LV.N2 at h;split at h
 ·rename_i k n;cases hb:bL k n with
  |false=>rw[hb] at h;simp at h
  |true=>
   rw[hb] at h;simp only[cond_true,Ai] at h;subst h;exact⟨rfl,bH.1 hb,rfl⟩
 ·rename_i b;simp only[Ai] at h;subst h;refine⟨?_,trivial,rfl⟩;cases b<;>rfl
 all_goals first
  |(simp only[Ai] at h;subst h;exact⟨rfl,trivial,rfl⟩)
  |(simp only[Ai] at h;subst h;exact⟨rfl,rfl,rfl⟩)
  |cases h
theorem Tz:∀ {vs:List Value} {xs:List LV},qC vs=some xs->∀(V:Vl) (nv:Nat) (ids:List Nat),xs.map (·.den V)=vs/\∀x∈xs,x.ok V/\x.lt nv ids=true
 | [],xs,h,V,nv,ids=>by simp[qC] at h;subst h;exact⟨rfl,λ_ h=>by cases h⟩
 | v::vs,xs,h,V,nv,ids=>by
  unfold qC at h;split at h
  ·cases h
  ·rename_i x hx;split at h
   ·cases h
   ·rename_i ys hy;simp only[Ai] at h;subst h;obtain⟨h1,h2,h3⟩:=LV.tM hx V nv ids;obtain⟨h4,h5⟩:=Tz hy V nv ids;refine⟨by rw[NM,h1,h4],λy hy=>?_⟩;rcases G9.1 hy with rfl|hy
    ·exact⟨h2,h3⟩
    ·exact h5 y hy
theorem SV.tM{v:Value}{x:SV}(h:SV.N2 v=some x)(V:Vl)(nv:Nat)(ids:List Nat):x.den V=v/\x.ok V/\x.lt nv ids=true:=by
 unfold SV.N2 at h;split at h
 ·rename_i cs;split at h
  ·rename_i vs n8;simp only[Ai] at h;subst h;obtain⟨h1,h2⟩:=Tz n8 V nv ids;refine⟨?_,λx hx=>(h2 x hx).1,?_⟩
   ·simp only[SV.den,TV.den,h1,Array.toArray_toList]
   ·simp only[SV.lt,TV.lt,Kh];exact λx hx=>(h2 x hx).2
  ·cases h
 ·split at h
  ·rename_i y hy;simp only[Ai] at h;subst h;exact LV.tM hy V nv ids
  ·cases h
section
variable{st:St}{V:Vl}{a:Act}
theorem TN.cL(h:TN st V a){x:Operand}{v:SV}(hx:st.cL x=some v):a.eval x=v.den V/\v.ok V/\v.lt st.nv (DL st.rg)=true:=by
 unfold St.cL at hx;split at hx
 ·exact h.tm _ _ hx
 ·obtain⟨h1,h2,h3⟩:=SV.tM hx V st.nv (DL st.rg);exact⟨h1.symm,h2,h3⟩
 ·rename_i g;split at hx
  ·rename_i l hl;simp only[Ai] at hx;subst hx;obtain⟨h1,h2⟩:=h.gl g l hl;refine⟨?_,trivial,h2⟩;simp only[Act.eval,SV.den,TV.den,LV.den,h1,QO]
  ·cases hx
 ·cases hx
theorem TN.den(h:TN st V a){x:Operand}{v:SV}(hx:st.cL x=some v):a.eval x=v.den V:=(h.cL hx).1
end
def AHA(P:Program)(tt:List (Nat×TD)):Prop:=∀t d,lk t tt=some d->TD.of P t=some d
theorem TD.jt{P:Program}{t:Nat}{d:TD}(h:TD.of P t=some d):∃desc i z,P.underlying t=some desc/\P.info? t=some i/\i.size=d.size/\d.k=TK.c8 desc/\
  d.agg=wR desc/\i.zero=some z/\qC z.cells.toList=some d.zero/\i.bytes=d.bytes:=by
 unfold TD.of at h;split at h
 ·cases h
 rename_i desc hd;split at h
 ·cases h
 rename_i i hi;split at h
 ·cases h
 rename_i z hz;split at h
 ·cases h
 rename_i zs hzs;simp only[Ai] at h;subst h;exact⟨desc,i,z,hd,hi,rfl,rfl,rfl,hz,hzs,rfl⟩
section
variable{P:Program}{t:Nat}{d:TD}(h:TD.of P t=some d)(w:World)
include h
theorem TD.cW:(sizeOf t).run P w= .ok d.size w:=by
 obtain⟨desc,i,z,h1,h2,h3,-⟩:=TD.jt h;simp[sizeOf,typeInfo,h2,h3]
theorem TD.pN:(isAgg t).run P w= .ok d.agg w:=by
 obtain⟨desc,i,z,h1,h2,h3,h4,h5,h6,h7⟩:=TD.jt h;simp only[isAgg,underlying,Gi,run_program,Fb,h1,I4,h5];cases desc<;>rfl
theorem TD.iv:∃z,(zeroValue t).run P w= .ok z w/\qC z.cells.toList=some d.zero:=by
 obtain⟨desc,i,z,h1,h2,h3,h4,h5,h6,h7,-⟩:=TD.jt h;exact⟨z,by simp[zeroValue,typeInfo,h2,h6],h7⟩
end
theorem TK.Kx{desc:TypeDesc}{k:IntKind}(h:TK.int k=TK.c8 desc):desc= .int k:=by
 cases desc<;>simp[TK.c8] at h;subst h;rfl
theorem TK.Lw{desc:TypeDesc}{e:Nat}(h:TK.ptr e=TK.c8 desc):desc= .pointer e:=by
 cases desc<;>simp[TK.c8] at h;subst h;rfl
theorem TK.dj{desc:TypeDesc}{e:Nat}(h:TK.sl e=TK.c8 desc):desc= .slice e:=by
 cases desc<;>simp[TK.c8] at h;subst h;rfl
theorem TK.jj{desc:TypeDesc}{n e:Nat}(h:TK.arr n e=TK.c8 desc):desc= .array n e:=by
 cases desc<;>simp[TK.c8] at h;obtain⟨rfl,rfl⟩:=h;rfl
theorem TK.tG{desc:TypeDesc}{fs:List (Nat×Nat)}(h:TK.str fs=TK.c8 desc):∃fields,desc= .struct fields/\fs=fields.toList.map λf=>(f.offset,f.type):=by
 cases desc<;>simp[TK.c8] at h;exact⟨_,rfl,h⟩
theorem TK.sR{desc:TypeDesc}(h:TK.iface=TK.c8 desc):∃ms,desc= .interface ms:=by
 cases desc<;>simp[TK.c8] at h;exact⟨_,rfl⟩
theorem TD.bh{P:Program}{t:Nat}{d:TD}(h:TD.of P t=some d){k:TK}(hk:d.k=k):∃desc,(∀w,(underlying t).run P w= .ok desc w)/\k=TK.c8 desc:=by
 obtain⟨desc,i,z,h1,h2,h3,h4,h5,h6,h7⟩:=TD.jt h;exact⟨desc,λw=>by simp[underlying,h1],by rw[<- hk];exact h4⟩
theorem Ce(b o n:Nat):(⟨b,o,none⟩:Addr).add n=⟨b,o+n,none⟩:=by
 unfold Addr.add;split
 ·rename_i h;subst h;rfl
 ·rfl
theorem pO(P:Program)(op:BinOp)(t:Nat)(x y:Operand)(k k':IntKind)(a b:Int)(w:World):(eqGuard op t x y (.int k a) (.int k' b)).run P w= .ok () w:=by
 unfold eqGuard;split<;>rfl
theorem QQ(P:Program)(op:BinOp)(t:Nat)(k:IntKind)(a b:Int)(w:World)(hs:uP op=false)(hc:SX op=false)(hz:op= .quo\/op= .rem->b≠0):
  (binOp op t (.int k a) (.int k b)).run P w= .ok (.int k (Ak op k a b)) w:=by
 cases op<;>simp only[uP,SX,Bool.true_eq_false] at hs hc
 case quo=>have hb:b≠0:=hz (.inl rfl);simp[binOp,Op.intDiv,hb,Ak]
 case rem=>have hb:b≠0:=hz (.inr rfl);simp[binOp,Op.intDiv,hb,Ak]
 all_goals (simp[binOp,Op.intArith,Op.intBits,Ak,Es])
theorem ABD(P:Program)(op:BinOp)(t:Nat)(k:IntKind)(a b:Int)(w:World)(hc:SX op=true):
  (binOp op t (.int k a) (.int k b)).run P w= .ok (.bool (Ak op k a b != 0)) w:=by
 cases op<;>simp only[SX,Qo] at hc
 all_goals (simp[binOp,Op.intCmp,Ak,aA])
theorem qK(P:Program)(op:BinOp)(t:Nat)(k k':IntKind)(a b:Int)(w:World)(hs:uP op=true)(hb:0<=b):
  (binOp op t (.int k a) (.int k' b)).run P w= .ok (.int k (Ak op k a b)) w:=by
 have vn:¬b<0:=by omega
 cases op<;>simp only[uP,Qo] at hs
 all_goals (simp[binOp,Op.shift,Ak,vn])
theorem AD8{k:IntKind}{a b:Int}(ha:IJ k a):IJ k (a.tmod b):=by
 have h1:a.tmod b=Int.tmod a b:=rfl;have h2:(a.tmod b).natAbs<=a.natAbs:=by
  rw[Int.natAbs_tmod];exact Nat.mod_le _ _
 have h3:0<=a->0<=a.tmod b:=λh=>Int.tmod_nonneg b h
 have h4:a<=0->a.tmod b<=0:=λh=>by
  have h5:=Int.tmod_nonneg b (a:= -a) (by omega);rw[Int.neg_tmod] at h5;omega
 cases k<;>simp only[IJ,IntKind.min,IntKind.max,IntKind.bits,IntKind.signed] at ha ⊢ <;> simp at ha ⊢ <;> omega
theorem ACk{k:IntKind}{a:Int}(ha:IJ k a)(n:Nat):IJ k (a.fdiv (2^n)):=by
 have hp:(0:Int)<2^n:=Int.pow_pos (by omega);rw[Int.fdiv_eq_ediv_of_nonneg _ (by omega)];have zE:(1:Int)<=2^n:=by omega
 have h1:0<=a->0<=a/2^n/\a/2^n<=a:=λh=>⟨Int.ediv_nonneg h (by omega),Int.ediv_le_self _ h⟩
 have h2:a<0->a<=a/2^n/\a/2^n<0:=λh=>by
  refine⟨?_,Int.ediv_neg_of_neg_of_pos h hp⟩;rw[Int.le_ediv_iff_mul_le hp];have:a*2^n<=a*1:=Int.mul_le_mul_of_nonpos_left (by omega) zE;omega
 cases k<;>simp only[IJ,IntKind.min,IntKind.max,IntKind.bits,IntKind.signed] at ha ⊢ <;> simp at ha ⊢ <;> omega
theorem l5{op:BinOp}{k:IntKind}{a b:Int}(ha:IJ k a)(hc:SX op=false):IJ k (Ak op k a b):=by
 cases op<;>simp only[SX,Bool.true_eq_false] at hc
 all_goals first
  |exact TY _ _
  |exact AD8 ha
  |exact ACk ha _
def HX(T:Tb)(V:Vl)(ds:List (Nat×FT)):Prop:=∀p∈ds,V.ρ p.1=p.2.den T V.ρ
def ObH(T:Tb)(V:Vl)(ob:List I1):Prop:=∀q∈ob,q.den T V.ρ
theorem XF{op:BinOp}{k:IntKind}{x y:X}{nb:Nat}{T:Tb}{V:Vl}(h:HX T V (SE op k x y nb).2):
  (SE op k x y nb).1.den V.ρ=Ak op k (x.den V.ρ) (y.den V.ρ):=by
 unfold SE at h ⊢;split
 ·rfl
 ·rename_i x' y' cj;have h1:=h _ (by
   split
   ·rename_i a b;exact(cj a b rfl rfl).elim
   ·exact NU.2 rfl)
  simp only[X.den,h1];rfl
section
variable{P:Program}{V:Vl}{T:Tb}
theorem UA {op:BinOp} {k k':IntKind} {x y:X} {nb:Nat} {r:ND} (h:XD op k k' x y nb=some r) (hx:IJ k (x.den V.ρ)) (hy:IJ k' (y.den V.ρ))
  (hd:HX T V r.ds) (ho:ObH T V r.ob) (t:Nat) (w:World):
  (binOp op t (.int k (x.den V.ρ)) (.int k' (y.den V.ρ))).run P w= .ok (r.v.den V) w/\r.v.ok V/\r.ln= []:=by
 unfold XD at h;cases hs:uP op with
 | true=>
  have I0:SX op=false:=by cases op<;>simp[uP] at hs<;>rfl
  rw[hs] at h;simp only[cond_true] at h;cases hl:gD k (SE op k x y nb).1 with
  |false=>rw[hl] at h;simp at h
  | true=>
   rw[hl] at h;simp only[Bool.not_true,cond_false,Ai] at h;subst h;have hb:0<=y.den V.ρ:=by
    cases hg:(u9 y||Pm k') with
    | true=>
     simp only[Bool.or_eq_true] at hg;rcases hg with hg|hg
     ·cases y with
      |lit n=>cases n with
       |ofNat n=>exact nI n
       |negSucc n=>simp[u9] at hg
      |v i j=>simp[u9] at hg
     ·cases k'<;>simp[Pm] at hg<;>exact hy.1
    |false=>
     simp only[hg,cond_false] at ho;exact ho (.u9 y) (NU.2 rfl)
   rw[qK P op t k k' _ _ w hs hb];have he:=XF hd;exact⟨by simp only[Gq,SV.den,TV.den,LV.den,he],by simp only[Gq,SV.ok,TV.ok,LV.ok,he];exact l5 hx I0,rfl⟩
 | false =>
  rw[hs] at h;simp only[cond_false] at h;cases hk:sK k k' with
  |false=>rw[hk] at h;simp at h
  | true =>
   have gj:=Mx hk;subst gj;rw[hk] at h;simp only[Bool.not_true,cond_false] at h;cases I0:SX op with
   |true=>
    rw[I0] at h;simp only[cond_true,Ai] at h;subst h;rw[ABD P op t k _ _ w I0];have he:=XF hd;exact⟨by simp only[Gq,SV.den,TV.den,LV.den,he],trivial,rfl⟩
   | false=>
    rw[I0] at h;simp only[cond_false] at h;have key:(op= .quo\/op= .rem->y.den V.ρ≠0)->(bif !(gD k (SE op k x y nb).1) then none else some (⟨Gq (.int k (SE op k x y nb).1),(SE op k x y nb).2,[],[]⟩:ND))=some r->
      (binOp op t (.int k (x.den V.ρ)) (.int k (y.den V.ρ))).run P w= .ok (r.v.den V) w/\r.v.ok V/\r.ln= []:=by
     intro hz h;cases hl:gD k (SE op k x y nb).1 with
     |false=>rw[hl] at h;simp at h
     |true=>
      rw[hl] at h;simp only[Bool.not_true,cond_false,Ai] at h;subst h;rw[QQ P op t k _ _ w hs I0 hz];have he:=XF hd;exact⟨by simp only[Gq,SV.den,TV.den,LV.den,he],by simp only[Gq,SV.ok,TV.ok,LV.ok,he];exact l5 hx I0,rfl⟩
    have hnz:nz y=true->y.den V.ρ≠0:=by
     intro hn;cases y with
     |lit n=>
      simp only[nz,Bool.not_eq_true'] at hn;exact PO hn
     |v i j=>simp[nz] at hn
    cases op<;>simp only[] at h
    all_goals first
     |exact key (by simp) h
     | (cases hn:nz y with
        |false=>rw[hn] at h;simp at h
        |true=>
         rw[hn] at h;simp only[cond_true] at h;exact key (λ_=>hnz hn) h)
end
end
section
open Go
theorem Zc{j:Nat}{ρ:Bu}:∀ {l:List X} {i:Nat},PX j i l=true->∀k x,l[k]? = some x->x.den ρ=(ρ j).getD (i+k) 0
 | [],_,_,k,x,h=>by simp at h
 | .lit n::r,i,h,k,x,hk=>by simp[PX] at h
 | .v j' i'::r,i,h,0,x,hk=>by
  simp only[PX,Bj] at h;simp only[UV,Ai] at hk;subst hk;rw[<- Ca h.1.1, <- Ca h.1.2];rfl
 | .v j' i'::r,i,h,k+1,x,hk=>by
  simp only[PX,Bj] at h;have:=Zc (ρ:=ρ) h.2 k x (by simpa using hk);rw[this,show i+1+k=i+(k+1) by omega]
theorem GR{ln:List (Nat×Nat)}{ρ:Bu}(hl:∀p∈ln,(ρ p.1).length=p.2)(xs:List X):(SK ln xs).den ρ=xs.map (·.den ρ):=by
 unfold SK;split
 ·rename_i j r;cases hb:(PX j 1 r&&(match lk j ln with|some n=>Nat.beq n (X.v j 0::r).length|none=>false)) with
  |false=>rfl
  | true=>
   simp only[Bj] at hb;obtain⟨h1,h2⟩:=hb;simp only[cond_true,Hy.den];split at h2
   ·rename_i n hn;have hlen:=hl _ (OU hn);have Pa:=Ca h2;simp only at hlen;apply List.ext_getElem?;intro k;by_cases hk:k<n
    ·rw[Ng,Io (by omega)];cases k with
     |zero=>simp[X.den,List.getD,Io (show 0<(ρ j).length by omega)]
     |succ k=>
      simp only[NY] at Pa;have gj:k<r.length:=by omega
      simp only[Cp,Io gj,UT];rw[Zc (ρ:=ρ) h1 k _ (Io gj)];simp[List.getD,Nat.add_comm 1 k,Io (show k+1<(ρ j).length by omega)]
    ·rw[List.getElem?_eq_none (by omega),List.getElem?_eq_none (by simp only[UC];omega)]
   ·cases h2
 ·rfl
theorem J4:∀ {cs:List LV} {ks:List IntKind} {xs:List X},JH cs=some (ks,xs)->cs.length=ks.length/\cs.length=xs.length/\
  ∀(i:Nat) (c:LV),cs[i]? = some c->∃k x,ks[i]? = some k/\xs[i]? = some x/\c=LV.int k x
 | [],ks,xs,h=>by
  simp only[JH,Ai,Prod.mk.injEq] at h;obtain⟨rfl,rfl⟩:=h;exact⟨rfl,rfl,λi c h=>by simp at h⟩
 | c::r,ks,xs,h=>by
  cases c with
  | int k x=>
   unfold JH at h;split at h
   ·rename_i ξ xs' hr;simp only[Ai,Prod.mk.injEq] at h;obtain⟨rfl,rfl⟩:=h;obtain⟨h1,h2,h3⟩:=J4 hr;refine⟨by simp[h1],by simp[h2],λi c hc=>?_⟩;cases i with
    |zero=>simp at hc;subst hc;exact⟨k,x,rfl,rfl,rfl⟩
    |succ i=>simp at hc;obtain⟨k',x',e1,e2,e3⟩:=h3 i c hc;exact⟨k',x',by simpa using e1,by simpa using e2,e3⟩
   ·cases h
  |_=>simp[JH] at h
theorem UQ{k:IntKind}:∀ {ks:List IntKind},kV k ks=true->∀k'∈ks,k'=k
 | [],_,_,h=>by cases h
 |j::r,h,k',hk=>by
  simp only[kV,Bj] at h;rcases G9.1 hk with rfl|hk
  ·exact(Mx h.1).symm
  ·exact UQ h.2 k' hk
theorem LV.one{V:Vl}{v:LV}(h:v.ok V):(v.den V).oneCell'=true:=by
 cases v with
 |err i=>obtain⟨t,u,h⟩:=h;simp only[LV.den,h,Value.oneCell']
 |fL l o n i=>obtain⟨m,c,h,_⟩:=h;simp only[LV.den,h,Value.oneCell']
 |val v=>exact h
 |Ek i=>exact h
 |_=>rfl
theorem Value.AH{v:Value}(h:v.oneCell'=true):v.cells= #[v]:=by
 cases v<;>first|rfl|(simp[Value.oneCell'] at h)
theorem TV.nn{V:Vl}{v:TV}(h:v.ok V):(v.den V).cells.toList=v.cells.map (·.den V):=by
 cases v with
 |l v=>simp only[TV.den,TV.cells,Value.AH (LV.one h),NM,VW]
 |a vs=>simp[TV.den,TV.cells,Value.cells]
theorem TV.pS{V:Vl}{v:TV}(h:v.ok V):∀c∈v.cells,c.ok V:=by
 cases v with
 |l v=>intro c hc;simp only[TV.cells,NU] at hc;subst hc;exact h
 |a vs=>exact h
theorem sH{C:Cx}{t n:Nat}(h:I7 C t=some n):∃d,lk t C.tt=some d/\d.size=n:=by
 unfold I7 at h;split at h
 ·rename_i d hd;exact⟨d,hd,by simpa using h⟩
 ·cases h
section
variable{P:Program}{C:Cx}(ht:AHA P C.tt){V:Vl}
include ht
theorem GU{t n:Nat}(h:I7 C t=some n)(w:World):(sizeOf t).run P w= .ok n w:=by
 obtain⟨d,hd,rfl⟩:=sH h;exact TD.cW (ht t d hd) w
theorem og{t:Nat}{cs:List LV}{off:Nat}{v:SV}(h:wO C t cs off=some v)(hc:∀c∈cs,c.ok V)(w:World):
  (part t (cs.map (·.den V)).toArray off).run P w= .ok (v.den V) w/\v.ok V:=by
 unfold wO at h;split at h
 ·cases h
 rename_i d hd;have ha:=TD.pN (ht t d hd) w;have hs:=TD.cW (ht t d hd) w;cases gf:d.agg with
 | true=>
  rw[gf] at h ha;simp only[cond_true] at h;cases hb:Nat.ble (off+d.size) cs.length with
  |false=>rw[hb] at h;simp at h
  |true=>
   rw[hb] at h;simp only[cond_true,Ai] at h;subst h;refine⟨?_,λc j8=>hc c (HK (List.mem_of_mem_take j8))⟩;simp only[part,Gi,ha,Fb,if_true,hs,I4,SV.den,TV.den]
   congr 2
   apply Array.ext';simp[List.map_take,List.map_drop]
 | false=>
  rw[gf] at h ha;simp only[cond_false] at h;split at h
  ·rename_i c cS;simp only[Ai] at h;subst h;refine⟨?_,hc c (MB cS)⟩;simp only[part,Gi,ha,Fb,Qo,if_false];simp[cS,Gq,SV.den,TV.den]
  ·cases h
end
theorem yP{α:Type}:∀(l:List α) (o:Nat) (v:α) (vs:List α),UN (l.set o v) (o+1) vs=UN l o (v::vs)
 | [],o,v,vs=>by simp[UN]
 |c::cs,0,v,vs=>by simp[UN]
 |c::cs,o+1,v,vs=>by simp[UN,yP cs o v vs]
theorem y8{α:Type}:∀(l:List α) (o:Nat),UN l o []=l
 | [],_=>by simp[UN]
 |c::cs,0=>by simp[UN]
 |c::cs,o+1=>by simp[UN,y8 cs o]
theorem gU(off:Nat):∀(vs:List Value) (k:Nat) (cells:Array Value),
  (List.foldl (λ(cs:Array Value) (p:Value×Nat)=>cs.setIfInBounds (off+p.2) p.1) cells (vs.zipIdx k)).toList=UN cells.toList (off+k) vs
 | [],k,cells=>by simp[y8]
 |v::vs,k,cells=>by
  rw[List.zipIdx_cons,List.foldl_cons,gU off vs (k+1)];simp only[Array.toList_setIfInBounds];rw[show off+(k+1)=off+k+1 by omega,yP]
theorem AAD(cells:Array Value)(off:Nat)(v:Value):
  (v.cells.zipIdx.foldl (λcs (c,j)=>cs.setIfInBounds (off+j) c) cells).toList=UN cells.toList off v.cells.toList:=by
 rw[<- Array.foldl_toList,Array.toList_zipIdx];exact gU off v.cells.toList 0 cells
theorem kG{α β:Type}(f:α->β):∀(l:List α) (o:Nat) (vs:List α),(UN l o vs).map f=UN (l.map f) o (vs.map f)
 | [],_,_=>by simp[UN]
 |c::cs,0,[]=>by simp[UN]
 |c::cs,0,v::vs=>by simp[UN,kG f cs 0 vs]
 |c::cs,o+1,vs=>by simp[UN,kG f cs o vs]
def Zn(C:Cx)(k:TK)(i:Nat):Option (Nat×Nat):=match k with
 | .str fs=>match fs[i]? with
  |some (off,t)=>match I7 C t with
   |some s=>some (off,s)
   |none=>none
  |none=>none
 | .arr _ e=>match I7 C e with
  |some s=>some (i*s,s)
  |none=>none
 |_=>none
theorem WU{C:Cx}{k:TK}{V:Vl}{place:Nat->Option (Nat×Nat)}(hp:∀i p,Zn C k i=some p->place i=some p):
  ∀ {ps:List (Nat×TV)} {cells cs:List LV},aH C k cells ps=some cs->(∀c∈cells,c.ok V)->(∀p∈ps,p.2.ok V)->
  Instr.fill place (cells.map (·.den V)).toArray (ps.map λp=>(p.1,p.2.den V))=some (cs.map (·.den V)).toArray/\∀c∈cs,c.ok V
 | [],cells,cs,h,hc,_=>by
  simp only[aH,Ai] at h;subst h;exact⟨rfl,hc⟩
 | (i,v)::r,cells,cs,h,hc,hv=>by
  unfold aH at h;split at h
  ·cases h
  rename_i off s CH;have ak9:Zn C k i=some (off,s):=CH;cases hb:(Nat.beq v.cells.length s&&Nat.ble (off+s) cells.length) with
  |false=>rw[hb] at h;simp at h
  | true=>
   rw[hb] at h;simp only[cond_true] at h;simp only[Bj] at hb;have h1:=Ca hb.1;have h2:=Kv hb.2;have hvo:=hv _ Jv;have GO:=TV.nn hvo;have cX:(v.den V).cells.size=s:=by
    rw[<- Array.length_toList,GO,UC];exact h1
   have alc:∀c∈UN cells off v.cells,c.ok V:=by
    intro c j8;obtain⟨j,hj,rfl⟩:=kY j8;rw[Nb] at hj;have hg:=QR cells off v.cells j hj;rw[Io (by rw[Nb];exact hj)] at hg;split at hg
    ·exact TV.pS hvo _ (MB hg.symm)
    ·exact hc _ (MB hg.symm)
   obtain⟨h3,h4⟩:=WU hp h alc (λp hp=>hv p (MN _ hp));refine⟨?_,h4⟩;rw[NM];unfold Instr.fill;simp only[hp i _ ak9,cX];rw[if_neg (by simp;omega)];rw[<- h3]
   congr 1
   apply Array.ext';rw[AAD,GO,kG]
section
variable{st:St}{V:Vl}{a:Act}
theorem TN.parts(h:TN st V a):∀ {ps:List (Nat×Operand)} {vs:List (Nat×TV)},st.parts ps=some vs->
  (ps.map λp=>(p.1,a.eval p.2))=(vs.map λp=>(p.1,p.2.den V))/\∀p∈vs,p.2.ok V/\p.2.lt st.nv (DL st.rg)=true
 | [],vs,hp=>by
  simp only[St.parts,Ai] at hp;subst hp;exact⟨rfl,λp h=>by cases h⟩
 | (i,x)::r,vs,hp=>by
  unfold St.parts at hp;split at hp
  ·rename_i v ws hx hr;simp only[Ai] at hp;subst hp;obtain⟨h1,h2,h3⟩:=h.cL hx;obtain⟨h4,h5⟩:=h.parts hr;refine⟨by simp only[NM,h4,h1,SV.den],λp hp=>?_⟩;rcases G9.1 hp with rfl|hp
   ·exact⟨h2,h3⟩
   ·exact h5 p hp
  ·cases hp
theorem TN.lj(h:TN st V a){x:Operand}{n d:Nat}(hb:lj st d (some x)=some n):∃k,a.eval x= .int k n:=by
 unfold Go.Proofs.YtkbfdaoohhmgoaaGreatDoor.lj at hb;simp only at hb;split at hb
 ·rename_i k m hx;simp only[Ai] at hb;subst hb;exact⟨k,by rw[h.den hx];rfl⟩
 ·cases hb
theorem Bn(P:Program)(w:World){k:IntKind}{n y:Nat}(h:n<=y)(code:BoundsCode):(Instr.sliceBound (.int k n) y code).run P w= .ok n w:=by
 simp only[Instr.sliceBound,asIntOf,Gi,I4,Fb];rw[if_pos (by omega)];rfl
theorem TN.bounds(h:TN st V a)(P:Program){lo hi:Option Operand}{n c l r:Nat}(isS:Bool)(PJ:Go.Proofs.YtkbfdaoohhmgoaaGreatDoor.lj st 0 lo=some l)(Iv:Go.Proofs.YtkbfdaoohhmgoaaGreatDoor.lj st n hi=some r)(hlr:l<=r)(hrc:r<=c)(w:World):
  (Instr.sliceBounds isS n c (lo.map a.eval) (hi.map a.eval) none).run P w= .ok (l,r,c) w:=by
 cases lo with
 | none=>
  simp only[Go.Proofs.YtkbfdaoohhmgoaaGreatDoor.lj,Ai] at PJ;subst PJ;cases hi with
  |none=>
   simp only[Go.Proofs.YtkbfdaoohhmgoaaGreatDoor.lj,Ai] at Iv;subst Iv;simp[Instr.sliceBounds]
  |some x=>
   obtain⟨k,hx⟩:=h.lj Iv;simp[Instr.sliceBounds,hx,Bn P w hrc]
 | some y=>
  obtain⟨k',hy⟩:=h.lj PJ;cases hi with
  |none=>
   simp only[Go.Proofs.YtkbfdaoohhmgoaaGreatDoor.lj,Ai] at Iv;subst Iv;simp[Instr.sliceBounds,hy,Bn P w hlr]
  |some x=>
   obtain⟨k,hx⟩:=h.lj Iv;simp[Instr.sliceBounds,hx,hy,Bn P w hrc,Bn P w hlr]
theorem TN.KK(h:TN st V a)(P:Program){lo:Option Operand}{x z:Operand}{n c r m:Nat}(PJ:Go.Proofs.YtkbfdaoohhmgoaaGreatDoor.lj st 0 lo=some 0)(Iv:Go.Proofs.YtkbfdaoohhmgoaaGreatDoor.lj st 0 (some x)=some r)(hmx:Go.Proofs.YtkbfdaoohhmgoaaGreatDoor.lj st 0 (some z)=some m)(hrm:r<=m)(hmc:m<=c)(w:World):
  (Instr.sliceBounds true n c (lo.map a.eval) (some (a.eval x)) (some (a.eval z))).run P w= .ok (0,r,m) w:=by
 obtain⟨k,hx⟩:=h.lj Iv;obtain⟨k2,hz⟩:=h.lj hmx;cases lo with
 |none=>simp[Instr.sliceBounds,hx,hz,Bn P w hrm,Bn P w hmc]
 |some y=>
  obtain⟨k',hy⟩:=h.lj PJ;have h00:=Bn P w (k:=k') (Nat.zero_le r) .slice3C;simp only[Int.ofNat_zero] at h00;simp[Instr.sliceBounds,hx,hy,hz,Bn P w hrm,Bn P w hmc,h00]
end
theorem PQ{j:Nat}{ks:List IntKind}{i:Nat}{c:LV}(h:(IC j ks)[i]? = some c):∃k,ks[i]? = some k/\c=LV.int k (.v j i):=by
 unfold IC at h;simp only[Ng,Yg] at h;obtain⟨⟨k,i'⟩,h1,h2⟩:=h;rw[List.getElem?_zipIdx] at h1;simp only[Yg,Prod.mk.injEq] at h1;obtain⟨k',h3,rfl,rfl⟩:=h1;exact⟨k',h3,by rw[<- h2,KN]⟩
theorem Ue{P:Program}{t:Nat}{ms:Array (String×TypeId)}(hu:∀w,(underlying t).run P w= .ok (.interface ms) w)(w:World):
  (Op.equal t .nilIface .nilIface).run P w= .ok true w:=by
 have h:∀d,(Op.equalIn (d+1) t .nilIface .nilIface).run P w= .ok true w:=λd=>by
  unfold Op.equalIn;simp only[Gi,hu,Fb,I4]
 exact h 9999
theorem SG{P:Program}{t:Nat}{ms:Array (String×TypeId)}(hu:∀w,(underlying t).run P w= .ok (.interface ms) w)(t':Nat)(u:Value)(w:World):
  (Op.equal t (.iface t' u) .nilIface).run P w= .ok false w:=by
 have h:∀d,(Op.equalIn (d+1) t (.iface t' u) .nilIface).run P w= .ok false w:=λd=>by
  unfold Op.equalIn;simp only[Gi,hu,Fb,I4]
 exact h 9999
theorem Wh{P:Program}{t:Nat}{e:TypeId}(hu:∀w,(underlying t).run P w= .ok (.slice e) w)(p:Addr)(n c:Nat)(w:World):
  (Op.equal t (.slice (some p) n c) (.slice none 0 0)).run P w= .ok false w:=by
 have h:∀d,(Op.equalIn (d+1) t (.slice (some p) n c) (.slice none 0 0)).run P w= .ok false w:=λd=>by
  unfold Op.equalIn;simp only[Gi,hu,Fb,I4]
 exact h 9999
section
variable{P:Program}{C:Cx}(ht:AHA P C.tt){st:St}{V:Vl}{a:Act}(hT:TN st V a)
include ht hT
set_option maxHeartbeats 1600000 in
theorem ng {o:Oper} {nb:Nat} {r:ND} (h:QH C o nb st=some r) (hd:HX C.T V r.ds) (ho:ObH C.T V r.ob):
  (∀w,(execOp a.eval o).run P w= .ok (.value (r.v.den V)) w)/\r.v.ok V/\r.ln= []:=by
 obtain⟨dst,op,type,pos,after,guard⟩:=o;cases op
 case call c=>
  obtain⟨callee,args,gR⟩:=c;cases callee with
  |value f=>simp only[QH] at h;cases h
  |invoke r m=>simp only[QH] at h;cases h
  | builtin b=>
   cases b<;>simp only[QH] at h<;>first|(cases h;done)|skip
   split at h
   ·rename_i t x S7 ua;have eS:args[0]? = some x:=ua;have hlen:∀(v:Value),a.eval x=v->∀(w:World),(execOp a.eval ⟨dst,.call ⟨.builtin .len,args,gR⟩,type,pos,after,guard⟩).run P w=
      ((Builtin.len_ gR type (args.map a.eval)).run P w).andThen λr w'=>.ok (.value r) w':=by
     intro v hv w;simp only[execOp,resolve,Gi,I4,Fb,invoke,builtin]
    clear eS;have nF:(args.map a.eval)[0]? = some (a.eval x):=by
     rw[Array.getElem?_map,ua];rfl
    split at h
    ·rename_i e sz pB ag zz l o' n c d hl hx;cases hb:Nat.ble n 65536 with
     |false=>rw[hb] at h;simp at h
     |true=>
     rw[hb] at h;have hn:=Kv hb;simp only[cond_true,Ai] at h;subst h;have h1:=hT.den hx;obtain⟨desc,hu,hk⟩:=TD.bh (ht _ _ hl) rfl;have:=TK.dj hk;subst this;refine⟨λw=>?_,?_,rfl⟩
     ·rw[hlen _ rfl w];simp only[Builtin.len_,S7,nF,h1,SV.aE,TV.aq,LV.cE,Gi,hu,Fb,I4,goInt];rfl
     ·simp[ND.val,Gq,SV.ok,TV.ok,LV.ok,X.bc,IJ,IntKind.min,IntKind.max,IntKind.bits,IntKind.signed];omega
    ·rename_i e sz pB ag zz hl hx;simp only[Ai] at h;subst h;have h1:=hT.den hx;obtain⟨desc,hu,hk⟩:=TD.bh (ht _ _ hl) rfl;have:=TK.dj hk;subst this;refine⟨λw=>?_,?_,rfl⟩
     ·rw[hlen _ rfl w];simp only[Builtin.len_,S7,nF,h1,SV.aE,TV.aq,LV.tc,Gi,hu,Fb,I4,goInt];rfl
     ·simp[ND.val,Gq,SV.ok,TV.ok,LV.ok,X.bc,IJ,IntKind.min,IntKind.max,IntKind.bits,IntKind.signed]
    ·rename_i e sz pB ag zz l1 o1 s1 c1 d1 a1 hl hx;simp only[Ai] at h;subst h;have h1:=hT.den hx;obtain⟨desc,hu,hk⟩:=TD.bh (ht _ _ hl) rfl;have:=TK.dj hk;subst this;refine⟨λw=>?_,?_,rfl⟩
     ·rw[hlen _ rfl w];simp only[Builtin.len_,S7,nF,h1,SV.aE,TV.aq,LV.den,Gi,hu,Fb,I4,goInt];rfl
     ·simp[ND.val,Gq,SV.ok,TV.ok,LV.ok,X.bc,IJ,IntKind.min,IntKind.max,IntKind.bits,IntKind.signed]
    ·rename_i n e sz pB ag zz v hl hx;cases hb:Nat.ble n 65536 with
     |false=>rw[hb] at h;simp at h
     |true=>
     rw[hb] at h;have hn:=Kv hb;simp only[cond_true,Ai] at h;subst h;have h1:=hT.den hx;obtain⟨desc,hu,hk⟩:=TD.bh (ht _ _ hl) rfl;have:=TK.jj hk;subst this;refine⟨λw=>?_,?_,rfl⟩
     ·rw[hlen _ rfl w];simp only[Builtin.len_,S7,nF,Gi,hu,Fb,I4,goInt];rfl
     ·simp[ND.val,Gq,SV.ok,TV.ok,LV.ok,X.bc,IJ,IntKind.min,IntKind.max,IntKind.bits,IntKind.signed];omega
    ·cases h
   ·cases h
 all_goals simp only[QH] at h
 case move x=>
  split at h
  ·rename_i v hv;simp only[Ai] at h;subst h;obtain⟨h1,h2,h3⟩:=hT.cL hv;exact⟨λw=>by simp[execOp,h1,ND.val],h2,rfl⟩
  ·cases h
 case assign x=>
  split at h
  ·rename_i v hv;simp only[Ai] at h;subst h;obtain⟨h1,h2,h3⟩:=hT.cL hv;exact⟨λw=>by simp[execOp,h1,ND.val],h2,rfl⟩
  ·cases h
 case pick c x y=>
  split at h
  ·rename_i n va vb hc hx hy;simp only[Ai] at h;subst h;obtain⟨h1,h2,-⟩:=hT.cL hx;obtain⟨h3,h4,-⟩:=hT.cL hy;have h5:=hT.den hc;cases hn:H5 n 0 with
   |true=>
    have:=Ls hn;subst this;exact⟨λw=>by simp[execOp,h5,h3,ND.val,SV.aE,TV.aq,LV.ca,X.bc,asBool],h4,rfl⟩
   |false=>
    have:=PO hn;exact⟨λw=>by simp[execOp,h5,h1,ND.val,SV.aE,TV.aq,LV.ca,X.bc,asBool,this],h2,rfl⟩
  ·rename_i n va hc hx hy;obtain⟨h1,h2,-⟩:=hT.cL hx;have h5:=hT.den hc;cases hn:H5 n 0 with
   |true=>rw[hn] at h;simp at h
   |false=>
    rw[hn] at h;simp only[cond_false,Ai] at h;subst h;have:=PO hn;exact⟨λw=>by simp[execOp,h5,h1,ND.val,SV.aE,TV.aq,LV.ca,X.bc,asBool,this],h2,rfl⟩
  ·rename_i n vb hc hx hy;obtain⟨h3,h4,-⟩:=hT.cL hy;have h5:=hT.den hc;cases hn:H5 n 0 with
   |false=>rw[hn] at h;simp at h
   |true=>
    rw[hn] at h;simp only[cond_true,Ai] at h;subst h;have:=Ls hn;subst this;exact⟨λw=>by simp[execOp,h5,h3,ND.val,SV.aE,TV.aq,LV.ca,X.bc,asBool],h4,rfl⟩
  ·rename_i xc xa xb cj hc hx hy;simp only[Ai] at h;subst h;have h1:=hT.den hc;have h2:=hT.den hx;have h3:=hT.den hy;have h4:=hd _ (NU.2 rfl);simp only[FT.den,NR.den,NM,VW,Hy.gi] at h4;refine⟨λw=>?_,trivial,rfl⟩;simp only[Qx,aa,d1] at h4;simp only[execOp,h1,h2,h3,Gq,SV.aE,TV.aq,LV.ca,asBool,Gi,I4,Fb];have h5:X.den V.ρ (.v nb 0)=if(X.den V.ρ xc != 0)=true then X.den V.ρ xa else X.den V.ρ xb:=by
    show(V.ρ nb).getD 0 0=_;rw[h4];rfl
   rw[h5];cases (X.den V.ρ xc != 0)<;>rfl
  ·cases h
 case build t ps=>
  split at h
  ·rename_i d vs pL n8;cases hf:Tu C d.k with
   |false=>rw[hf] at h;simp at h
   | true =>
    rw[hf] at h;simp only[cond_true] at h;split at h
    ·rename_i cs cS;simp only[Ai] at h;subst h;obtain⟨z,hz,hzl⟩:=TD.iv (ht t d pL) default;have hz':∀w,(zeroValue t).run P w= .ok z w:=λw=>by
      obtain⟨z',h1,-⟩:=TD.iv (ht t d pL) w;obtain⟨desc,i,zz,g1,g2,g3,g4,g5,g6,g7,-⟩:=TD.jt (ht t d pL);have e1:∀w,(zeroValue t).run P w= .ok zz w:=λw=>by simp[zeroValue,typeInfo,g2,g6]
      have:=(e1 default).symm.trans hz;simp only[Result.ok.injEq,and_true] at this;rw[e1 w,this]
     obtain⟨rL,rm⟩:=Tz hzl V st.nv (DL st.rg);obtain⟨zE,oY⟩:=hT.parts n8;have AK:(ps.map λ(p:Nat×Operand)=>(p.1,a.eval p.2)).toList=vs.map λp=>(p.1,p.2.den V):=by
      rw[Array.toList_map];exact zE
     obtain⟨desc,hu,hk⟩:=TD.bh (ht t d pL) rfl;have hzc:z.cells=(d.zero.map (·.den V)).toArray:=by
      apply Array.ext';rw[rL]
     cases hdk:d.k with
     | arr n e=>
      rw[hdk] at hk cS;have:=TK.jj hk;subst this;have cX:∃s,I7 C e=some s\/vs= []:=by
       cases hs:I7 C e with
       |some s=>exact⟨s,.inl rfl⟩
       |none=>
        cases vs with
        |nil=>exact⟨0,.inr rfl⟩
        |cons p r=>simp only[aH,hs] at cS;cases cS
      cases hs:I7 C e with
      |none=>
       exfalso;rw[hdk] at hf;simp[Tu,hs] at hf
      | some s=>
       have W5:=GU ht hs;obtain⟨h3,h4⟩:=WU (C:=C) (k:=.arr n e) (V:=V) (place:=λi=>some (i*s,s)) (λi p hp=>by
        simp only[Zn,hs] at hp;exact hp) cS (λc hc=>(rm c hc).1) (λp hp=>(oY p hp).1)
       refine⟨λw=>?_,h4,rfl⟩;simp only[execOp,Instr.build,Gi,hz',Fb,hu,W5,hzc];rw[show(ps.map λx=>match x with|(i,x)=>(i,a.eval x)).toList=vs.map λp=>(p.1,p.2.den V) from AK];simp only[h3,I4,Fb];rfl
     | str fs=>
      rw[hdk] at hk cS hf;obtain⟨fields,rfl,rfl⟩:=TK.tG hk;simp only[Tu,Kh,Us,forall_exists_index,and_imp] at hf;have hm:∀(l:List Field),(∀f∈l,(I7 C f.type).isSome=true)->∀w,(l.mapM λf=>(do pure (f.offset, <- sizeOf f.type):Sem (Nat×Nat))).run P w=
        .ok (l.map λf=>(f.offset,(I7 C f.type).getD 0)) w:=by
       intro l
       induction l with
       |nil=>intro _ w;rfl
       |cons f r ih=>
        intro hl w;obtain⟨s,hs⟩:=Option.isSome_iff_exists.1 (hl f Jv);rw[List.mapM_cons];simp only[Gi,GU ht hs,Fb,I4,ih (λg hg=>hl g (MN _ hg)),NM,hs,Option.getD_some]
      have WD:∀f∈fields.toList,(I7 C f.type).isSome=true:=λf hf'=>hf _ f hf' rfl
      obtain⟨h3,h4⟩:=WU (C:=C) (k:=.str (fields.toList.map λf=>(f.offset,f.type))) (V:=V)
       (place:=λi=>((fields.toList.map λf=>(f.offset,(I7 C f.type).getD 0)).toArray)[i]?) (λi p hp=>by
        simp only[Zn,Ng] at hp;cases hfi:fields.toList[i]? with
        |none=>simp[hfi] at hp
        | some f=>
         simp only[hfi,UT] at hp;split at hp
         ·rename_i s hs;simp only[Ai] at hp;subst hp;rw[List.getElem?_toArray,Ng,hfi];simp[hs]
         ·cases hp) cS (λc hc=>(rm c hc).1) (λp hp=>(oY p hp).1)
      refine⟨λw=>?_,h4,rfl⟩;have hmA:(fields.mapM λf=>(do pure (f.offset, <- sizeOf f.type):Sem (Nat×Nat))).run P w= .ok ((fields.toList.map λf=>(f.offset,(I7 C f.type).getD 0)).toArray) w:=by
       rw[Array.mapM_eq_mapM_toList];simp only[Sem.run_map,hm fields.toList WD w,Fb]
      simp only[execOp,Instr.build,Gi,hz',Fb,hu,hmA,hzc];rw[show(ps.map λx=>match x with|(i,x)=>(i,a.eval x)).toList=vs.map λp=>(p.1,p.2.den V) from AK];simp only[h3,I4,Fb];rfl
     |_=>
      rw[hdk] at hf;simp[Tu] at hf
    ·cases h
  ·cases h
 case nilCheck x=>
  split at h
  ·rename_i l o' hx;simp only[Ai] at h;subst h;obtain⟨h1,h2,-⟩:=hT.cL hx;exact⟨λw=>by simp[execOp,h1,SV.aE,TV.aq,LV.cx,ND.val,Gq],h2,rfl⟩
  ·rename_i l o' n s y hx;simp only[Ai] at h;subst h;obtain⟨h1,h2,-⟩:=hT.cL hx;exact⟨λw=>by simp[execOp,h1,SV.aE,TV.aq,LV.ki,ND.val,Gq],h2,rfl⟩
  ·cases h
 case binOp op xt x y yt=>
  split at h
  ·rename_i k x' k' y' hx hy;obtain⟨h1,h2,-⟩:=hT.cL hx;obtain⟨h3,h4,-⟩:=hT.cL hy;have key:=λw=>UA (P:=P) h h2 h4 hd ho xt w
   refine⟨λw=>?_,(key default).2.1,(key default).2.2⟩;simp only[execOp,h1,h3,SV.aE,TV.aq,LV.cP,Gi,pO,Fb,(key w).1,I4]
  ·rename_i hx hy;split at h
   ·rename_i sz pB ag zz mS ad8;have h1:=hT.den hx;have h3:=hT.den hy;obtain⟨desc,hu,hk⟩:=TD.bh (ht _ _ mS) rfl;obtain⟨ms,rfl⟩:=TK.sR hk;have hg:∀op w,(eqGuard op xt x y .nilIface .nilIface).run P w= .ok () w:=by
     intro op w;unfold eqGuard;split<;>first|rfl|(cases x<;>cases y<;>first|rfl|(simp at ad8))
    split at h
    ·simp only[Ai] at h;subst h;refine⟨λw=>?_,trivial,rfl⟩;simp[execOp,h1,h3,SV.aE,TV.aq,LV.ca,LV.lO,hg,binOp,Ue hu,ND.val,Gq,X.bc]
    ·simp only[Ai] at h;subst h;refine⟨λw=>?_,trivial,rfl⟩;simp[execOp,h1,h3,SV.aE,TV.aq,LV.ca,LV.lO,hg,binOp,Ue hu,ND.val,Gq,X.bc]
    ·cases h
   ·cases h
  ·rename_i i hx hy;split at h
   ·rename_i sz pB ag zz mS;obtain⟨h1,h2,-⟩:=hT.cL hx;have h3:=hT.den hy;obtain⟨t',u,hσ⟩:=h2;obtain⟨desc,hu,hk⟩:=TD.bh (ht _ _ mS) rfl;obtain⟨ms,rfl⟩:=TK.sR hk;have hg:∀op w,(eqGuard op xt x y (.iface t' u) .nilIface).run P w= .ok () w:=by
     intro op w;unfold eqGuard;split<;>rfl
    split at h
    ·simp only[Ai] at h;subst h;refine⟨λw=>?_,trivial,rfl⟩;simp[execOp,h1,h3,SV.aE,TV.aq,LV.ca,LV.lO,LV.AG,hσ,hg,binOp,SG hu,ND.val,Gq,X.bc]
    ·simp only[Ai] at h;subst h;refine⟨λw=>?_,trivial,rfl⟩;simp[execOp,h1,h3,SV.aE,TV.aq,LV.ca,LV.lO,LV.AG,hσ,hg,binOp,SG hu,ND.val,Gq,X.bc]
    ·cases h
   ·cases h
  ·rename_i l o n c d hx hy;split at h
   ·rename_i e sz pB ag zz mS;obtain⟨h1,h2,-⟩:=hT.cL hx;have h3:=hT.den hy;obtain⟨desc,hu,hk⟩:=TD.bh (ht _ _ mS) rfl;have:=TK.dj hk;subst this;have hg:∀op (p:Addr) (m k:Nat) w,(eqGuard op xt x y (.slice (some p) m k) (.slice none 0 0)).run P w= .ok () w:=by
     intro op p m k w;unfold eqGuard;split<;>rfl
    split at h
    ·simp only[Ai] at h;subst h;refine⟨λw=>?_,trivial,rfl⟩;simp[execOp,h1,h3,SV.aE,TV.aq,LV.ca,LV.cE,LV.tc,hg,binOp,Wh hu,ND.val,Gq,X.bc]
    ·simp only[Ai] at h;subst h;refine⟨λw=>?_,trivial,rfl⟩;simp[execOp,h1,h3,SV.aE,TV.aq,LV.ca,LV.cE,LV.tc,hg,binOp,Wh hu,ND.val,Gq,X.bc]
    ·cases h
   ·cases h
  ·cases h
 case unOp op t x=>
  split at h
  ·rename_i k x' hx;obtain⟨h1,h2,-⟩:=hT.cL hx;split at h
   ·have ud:IJ k (X.den V.ρ (.lit 0)):=by
     cases k<;>simp[X.bc,IJ,IntKind.min,IntKind.max,IntKind.bits,IntKind.signed]
    have key:=λw=>UA (P:=P) h ud h2 hd ho t w
    refine⟨λw=>?_,(key default).2.1,(key default).2.2⟩;have h4:=(key w).1.symm.trans (QQ P .sub t k 0 (x'.den V.ρ) w rfl rfl (by simp));injection h4 with h5
    have kO:a.eval x= .int k (x'.den V.ρ):=h1;rw[h5];simp only[execOp,kO,Op.unary,Op.intArith,Gi,I4,Fb];rfl
   ·cases hu:Pm k with
    | true=>
     rw[hu] at h;simp only[cond_true] at h;have ud:IJ k (X.den V.ρ (.lit k.max)):=by
      cases k<;>simp[X.bc,IJ,IntKind.min,IntKind.max,IntKind.bits,IntKind.signed]
     have key:=λw=>UA (P:=P) h ud h2 hd ho t w
     refine⟨λw=>?_,(key default).2.1,(key default).2.2⟩;have h4:=(key w).1.symm.trans (QQ P .xor t k k.max (x'.den V.ρ) w rfl rfl (by simp));have hsg:k.signed=false:=by cases k<;>first|rfl|(simp[Pm] at hu)
     injection h4 with h5
     have kO:a.eval x= .int k (x'.den V.ρ):=h1;rw[h5];simp only[execOp,kO,Op.unary,hsg,Qo,if_false];rfl
    | false=>
     rw[hu] at h;simp only[cond_false] at h;have hsg:k.signed=true:=by cases k<;>first|rfl|(simp[Pm] at hu)
     have ud:IJ k (X.den V.ρ (.lit (-1))):=by
      cases k<;>simp[IntKind.signed] at hsg<;>simp[X.bc,IJ,IntKind.min,IntKind.max,IntKind.bits,IntKind.signed]
     have key:=λw=>UA (P:=P) h ud h2 hd ho t w
     refine⟨λw=>?_,(key default).2.1,(key default).2.2⟩;have h4:=(key w).1.symm.trans (QQ P .xor t k (-1) (x'.den V.ρ) w rfl rfl (by simp));injection h4 with h5
     have kO:a.eval x= .int k (x'.den V.ρ):=h1;rw[h5];simp only[execOp,kO,Op.unary,hsg,if_true];rfl
   ·cases h
  ·rename_i n hx;have h1:=hT.den hx;split at h
   ·simp only[Ai] at h;subst h;refine⟨λw=>?_,trivial,rfl⟩;cases hn:H5 n 0 with
    |true=>have:=Ls hn;subst this;simp[execOp,h1,SV.aE,TV.aq,LV.ca,Op.unary,ND.val,Gq,X.bc,KQ]
    |false=>have:=PO hn;simp[execOp,h1,SV.aE,TV.aq,LV.ca,Op.unary,ND.val,Gq,X.bc,KQ,this]
   ·cases h
  ·rename_i x' cj hx;have h1:=hT.den hx;split at h
   ·simp only[Ai] at h;subst h;have h4:=hd _ (NU.2 rfl);simp only[FT.den,NR.den,NM,VW,Hy.gi,Qx,d1] at h4;refine⟨λw=>?_,trivial,rfl⟩;simp only[execOp,h1,Gq,SV.aE,TV.aq,LV.ca,Op.unary,Gi,I4,Fb];have h5:X.den V.ρ (.v nb 0)=KQ (X.den V.ρ x' == 0):=by
     show(V.ρ nb).getD 0 0=_;rw[h4];rfl
    rw[h5,aA];simp[bne]
   ·cases h
  ·cases h
 case convert sr dt x=>
  split at h
  ·rename_i d1' k sz pB ag zz k' x' hl1 DM hx;obtain⟨h1,h2,-⟩:=hT.cL hx;obtain⟨ds1,hu1,-⟩:=TD.bh (ht _ _ hl1) rfl;obtain⟨ds2,rI,nB⟩:=TD.bh (ht _ _ DM) rfl;have:=TK.Kx nB;subst this;have cT:∀w,(execOp a.eval ⟨dst,.convert sr dt x,type,pos,after,guard⟩).run P w= .ok (.value (.int k (k.wrap (x'.den V.ρ)))) w:=λw=>by
    simp[execOp,h1,SV.aE,TV.aq,LV.cP,convert,hu1,rI,Conv.intToInt]
   cases Ax:sK k k' with
   | true=>
    rw[Ax] at h;simp only[cond_true,Ai] at h;subst h;have:=Mx Ax;subst this;have hw:k.wrap (x'.den V.ρ)=x'.den V.ρ:=by
     have h3:IJ k (x'.den V.ρ):=h2;revert h3;cases k<;>simp only[IJ,IntKind.wrap,IntKind.min,IntKind.max,IntKind.bits,IntKind.signed]<;>simp<;>omega
    exact⟨λw=>by rw[cT w,hw];rfl,h2,rfl⟩
   | false=>
    rw[Ax] at h;simp only[cond_false] at h;split at h
    ·simp only[Ai] at h;subst h;exact⟨λw=>by rw[cT w];rfl,TY _ _,rfl⟩
    ·simp only[Ai] at h;subst h;have h4:=hd _ (NU.2 rfl);simp only[FT.den,NR.den,NM,VW,Hy.gi,Qx,d1] at h4;have h5:X.den V.ρ (.v nb 0)=k.wrap (x'.den V.ρ):=by
      show(V.ρ nb).getD 0 0=_;rw[h4];rfl
     refine⟨λw=>by rw[cT w];simp only[Gq,SV.aE,TV.aq,LV.cP,h5],?_,rfl⟩;simp only[Gq,SV.ok,TV.ok,LV.ok,h5];exact TY _ _
  ·cases h
 case fieldAddr s x f=>
  split at h
  ·rename_i fs sz pB ag zz l o' hl hx;obtain⟨h1,-, -⟩:=hT.cL hx;obtain⟨desc,hu,hk⟩:=TD.bh (ht _ _ hl) rfl;obtain⟨fields,rfl,rfl⟩:=TK.tG hk;split at h
   ·rename_i off t hf;split at h
    ·rename_i n hs;cases hn:Nat.beq n 0 with
     |true=>rw[hn] at h;simp at h
     |false=>
      rw[hn] at h;simp only[cond_false,Ai] at h;subst h;rw[Ng,Yg] at hf;obtain⟨fd,vq,he⟩:=hf;simp only[Prod.mk.injEq] at he;obtain⟨rfl,rfl⟩:=he;have W8:fields[f]? = some fd:=by simpa using vq
      have MT:n≠0:=λe=>by subst e;simp at hn
      refine⟨λw=>?_,trivial,rfl⟩;simp only[execOp,h1,SV.aE,TV.aq,LV.cx,Instr.fieldAt,Gi,hu,Fb,W8,Instr.sureAddr,I4,fieldPlace,GU ht hs,MT,if_false,Ce];simp only[ND.val,Gq,SV.aE,TV.aq,LV.cx,WZ]
    ·cases h
   ·cases h
  ·cases h
 case field t x f=>
  split at h
  ·rename_i fs sz pB ag zz cs hl hx;obtain⟨h1,h2,-⟩:=hT.cL hx;obtain⟨desc,hu,hk⟩:=TD.bh (ht _ _ hl) rfl;obtain⟨fields,rfl,rfl⟩:=TK.tG hk;split at h
   ·rename_i off t' hf;split at h
    ·rename_i v hp;simp only[Ai] at h;subst h;rw[Ng,Yg] at hf;obtain⟨fd,vq,he⟩:=hf;simp only[Prod.mk.injEq] at he;obtain⟨rfl,rfl⟩:=he;have W8:fields[f]? = some fd:=by simpa using vq
     have eA:=λw=>og (P:=P) ht hp h2 w
     refine⟨λw=>?_,(eA default).2,rfl⟩;simp only[execOp,h1,SV.aE,TV.qt,Instr.field,Gi,hu,Fb,W8,asAgg,I4,(eA w).1];rfl
    ·cases h
   ·cases h
  ·cases h
 case extract x i=>
  split at h
  ·rename_i vs hx;obtain⟨h1,h2,-⟩:=hT.cL hx;split at h
   ·rename_i v hv;simp only[Ai] at h;subst h;refine⟨λw=>?_,h2 v (MB hv),rfl⟩;simp[execOp,h1,SV.td,Instr.extract,hv,ND.val,SV.aE]
   ·cases h
  ·cases h
 case indexAddr t x ix=>
  split at h
  ·rename_i n s l o' k i he hx hi;obtain⟨h1,-, -⟩:=hT.cL hx;obtain⟨h2,h2o,-⟩:=hT.cL hi;unfold K4 at he;split at he
   ·rename_i n' e sz pB ag zz hl;split at he
    ·rename_i s' hs;simp only[Ai,Prod.mk.injEq] at he;obtain⟨rfl,rfl⟩:=he;obtain⟨desc,hu,hk⟩:=TD.bh (ht _ _ hl) rfl;have:=TK.jj hk;subst this;have W5:=GU ht hs;have cT:∀j:Nat,i.den V.ρ=(j:Int)->j<n'->∀w,(execOp a.eval ⟨dst,.indexAddr t x ix,type,pos,after,guard⟩).run P w=
       .ok (.value (.pointer (some ⟨(V.ν l).1,(V.ν l).2+o'+j*s',none⟩))) w:=by
      intro j hj HT w;simp only[execOp,h1,h2,SV.aE,TV.aq,LV.cP,LV.cx,Instr.indexAt,asIntOf,Gi,I4,Fb,hu,Instr.sureAddr,hj];rw[if_pos (by omega)];simp only[Gi,W5,Fb,I4,Rh,Ce]
     split at h
     ·rename_i j;cases hb:Nat.blt j n' with
      |false=>rw[hb] at h;simp at h
      |true=>
       rw[hb] at h;simp only[cond_true,Ai] at h;subst h;exact⟨λw=>by rw[cT j rfl (Dh hb) w];simp only[ND.val,Gq,SV.aE,TV.aq,LV.cx,WZ],trivial,rfl⟩
     ·cases h
     ·simp only[Ai] at h;subst h;have hr:=ho _ (NU.2 rfl);simp only[I1.den] at hr;obtain⟨j,hj⟩:=kC hr.1;refine⟨λw=>?_,hr,rfl⟩;rw[cT j hj (by omega) w];simp only[Gq,SV.aE,TV.aq,LV.ki,hj,Rh]
    ·cases he
   ·split at he<;>simp at he
   ·cases he
  ·rename_i s l o' n c d k i he hx hi;obtain⟨h1,-, -⟩:=hT.cL hx;obtain⟨h2,h2o,-⟩:=hT.cL hi;unfold K4 at he;split at he
   ·split at he<;>simp at he
   ·rename_i e sz pB ag zz hl;split at he
    ·rename_i s' hs;simp only[Ai,Prod.mk.injEq,true_and] at he;subst he;obtain⟨desc,hu,hk⟩:=TD.bh (ht _ _ hl) rfl;have:=TK.dj hk;subst this;have W5:=GU ht hs;have cT:∀j:Nat,i.den V.ρ=(j:Int)->j<n->∀w,(execOp a.eval ⟨dst,.indexAddr t x ix,type,pos,after,guard⟩).run P w=
       .ok (.value (.pointer (some ⟨(V.ν l).1,(V.ν l).2+o'+j*s',none⟩))) w:=by
      intro j hj HT w;simp only[execOp,h1,h2,SV.aE,TV.aq,LV.cP,LV.cE,Instr.indexAt,asIntOf,Gi,I4,Fb,hu,hj];rw[if_pos (by omega)];simp only[Gi,W5,Fb,I4,Rh,Ce]
     split at h
     ·rename_i j;cases hb:Nat.blt j n with
      |false=>rw[hb] at h;simp at h
      |true=>
       rw[hb] at h;simp only[cond_true,Ai] at h;subst h;exact⟨λw=>by rw[cT j rfl (Dh hb) w];simp only[ND.val,Gq,SV.aE,TV.aq,LV.cx,WZ],trivial,rfl⟩
     ·cases h
     ·simp only[Ai] at h;subst h;have hr:=ho _ (NU.2 rfl);simp only[I1.den] at hr;obtain⟨j,hj⟩:=kC hr.1;refine⟨λw=>?_,hr,rfl⟩;rw[cT j hj (by omega) w];simp only[Gq,SV.aE,TV.aq,LV.ki,hj,Rh]
    ·cases he
   ·cases he
  ·rename_i s l o' n iσ k i he hx hi;obtain⟨h1,So,-⟩:=hT.cL hx;obtain⟨m,cc,hσ,hnm⟩:=So;obtain⟨h2,h2o,-⟩:=hT.cL hi;unfold K4 at he;split at he
   ·split at he<;>simp at he
   ·rename_i e sz pB ag zz hl;split at he
    ·rename_i s' hs;simp only[Ai,Prod.mk.injEq,true_and] at he;subst he;obtain⟨desc,hu,hk⟩:=TD.bh (ht _ _ hl) rfl;have:=TK.dj hk;subst this;have W5:=GU ht hs;have cT:∀j:Nat,i.den V.ρ=(j:Int)->j<n->∀w,(execOp a.eval ⟨dst,.indexAddr t x ix,type,pos,after,guard⟩).run P w=
       .ok (.value (.pointer (some ⟨(V.ν l).1,(V.ν l).2+o'+j*s',none⟩))) w:=by
      intro j hj HT w;simp only[execOp,h1,h2,SV.aE,TV.aq,LV.den,hσ,Instr.indexAt,asIntOf,Gi,I4,Fb,hu,hj];rw[if_pos (by omega)];simp only[Gi,W5,Fb,I4,Rh,Ce]
     split at h
     ·rename_i j;cases hb:Nat.blt j n with
      |false=>rw[hb] at h;simp at h
      |true=>
       rw[hb] at h;simp only[cond_true,Ai] at h;subst h;exact⟨λw=>by rw[cT j rfl (Dh hb) w];simp only[ND.val,Gq,SV.aE,TV.aq,LV.cx,WZ],trivial,rfl⟩
     ·cases h
     ·simp only[Ai] at h;subst h;have hr:=ho _ (NU.2 rfl);simp only[I1.den] at hr;obtain⟨j,hj⟩:=kC hr.1;refine⟨λw=>?_,hr,rfl⟩;rw[cT j hj (by omega) w];simp only[Gq,SV.aE,TV.aq,LV.ki,hj,Rh]
    ·cases he
   ·cases he
  ·cases h
 case index t x ix=>
  split at h
  ·rename_i n e sz pB ag zz cs k i hl hx hi;obtain⟨h1,So,-⟩:=hT.cL hx;obtain⟨h2,h2o,-⟩:=hT.cL hi;obtain⟨desc,hu,hk⟩:=TD.bh (ht _ _ hl) rfl;have:=TK.jj hk;subst this;split at h
   ·rename_i j;cases hb:Nat.blt j n with
    |false=>rw[hb] at h;simp at h
    | true=>
     rw[hb] at h;simp only[cond_true] at h;split at h
     ·rename_i s hs;split at h
      ·rename_i v hp;simp only[Ai] at h;subst h;have eA:=λw=>og (P:=P) ht hp So w
       have HT:=Dh hb;refine⟨λw=>?_,(eA default).2,rfl⟩;simp only[execOp,h1,h2,SV.aE,TV.aq,TV.qt,LV.cP,X.bc,Instr.index,asIntOf,Gi,I4,Fb,hu];rw[if_pos (by constructor<;>simp;omega)]
       simp only[Gi,GU ht hs,Fb];have:=(eA w).1;simp only[Rh,Int.ofNat_eq_natCast] at this ⊢;rw[this];rfl
      ·cases h
     ·cases h
   ·cases h
   ·split at h
    ·rename_i k' acT zz' ks xs hle zv;cases hb:(kV k' ks&&Nat.beq cs.length n) with
     |false=>rw[hb] at h;simp at h
     | true=>
      rw[hb] at h;simp only[cond_true,Ai] at h;subst h;simp only[Bj] at hb;have hlen:=Ca hb.2;obtain⟨g1,g2,g3⟩:=J4 zv;have hr:=ho _ (NU.2 rfl);simp only[I1.den] at hr;obtain⟨j,hj⟩:=kC hr.1;have HT:j<cs.length:=by omega
      obtain⟨kk,xx,e1,e2,e3⟩:=g3 j _ (Io HT);have Ax:=UQ hb.1 kk (MB e1);subst Ax;have h4:=hd _ (NU.2 rfl);simp only[FT.den,NR.den,NM,VW,Hy.gi,GR hT.ln] at h4;have h5:X.den V.ρ (.v nb 0)=xx.den V.ρ:=by
       show(V.ρ nb).getD 0 0=_;rw[h4];simp[d1,hj,List.getD,e2]
      have hx5:=So _ (MB (by rw[Io HT,e3]));refine⟨λw=>?_,?_,rfl⟩
      ·simp only[execOp,h1,h2,SV.aE,TV.aq,TV.qt,LV.cP,Instr.index,asIntOf,Gi,I4,Fb,hu,hj];rw[if_pos (by omega)];simp only[Gi,TD.cW (ht _ _ hle),Fb,part,TD.pN (ht _ _ hle),Qo,if_false,Rh,Nat.mul_one];have hg:((cs.map λx=>LV.den V x).toArray)[j]? = some (.int kk (xx.den V.ρ)):=by
        simp[Io HT,e3,LV.den]
       rw[hg];simp only[I4,Fb,Gq,SV.aE,TV.aq,LV.cP,h5]
      ·simp only[Gq,SV.ok,TV.ok,LV.ok,h5];exact hx5
    ·cases h
  ·cases h
 case slice t x lo hi mx=>
  split at h
  ·rename_i ar sz pB ag zz l o' hl hx;obtain⟨h1,-, -⟩:=hT.cL hx;obtain⟨desc,hu,hk⟩:=TD.bh (ht _ _ hl) rfl;have:=TK.Lw hk;subst this;split at h
   ·rename_i n s he;unfold K4 at he;split at he
    ·rename_i n' e sz' acT ag' zz' ta;split at he
     ·rename_i s' hs;simp only[Ai,Prod.mk.injEq] at he;obtain⟨rfl,rfl⟩:=he;obtain⟨abK,HL,gj⟩:=TD.bh (ht _ _ ta) rfl;have:=TK.jj gj;subst this;split at h
      ·rename_i p q hp hq;cases hb:(Nat.ble p q&&Nat.ble q n') with
       |false=>rw[hb] at h;simp at h
       | true=>
        rw[hb] at h;simp only[cond_true,Ai] at h;subst h;simp only[Bj] at hb;have hpq:=Kv hb.1;have hqn:=Kv hb.2;refine⟨λw=>?_,?_,rfl⟩
        ·simp only[execOp,h1,SV.aE,TV.aq,LV.cx,Instr.sliceAt,Instr.slice,Gi,hu,Fb,asAddr,I4,HL,Option.map_none,hT.bounds P false hp hq hpq hqn,GU ht hs];simp only[ND.val,Gq,SV.aE,TV.aq,LV.cE,CX.ff,X.bc,Ce];by_cases gE:n'=p
         ·subst gE;simp
         ·have:Nat.beq n' p=false:=by
           cases BT:Nat.beq n' p with
           |false=>rfl
           |true=>exact absurd (Ca BT) gE
          simp[gE,this,WZ]
        ·simp only[ND.val,Gq,SV.ok,TV.ok,LV.ok,CX.ff,X.bc];omega
      ·cases h
     ·cases he
    ·split at he<;>simp at he
    ·cases he
   ·cases h
  ·rename_i n e sz pB ag zz l o' hl hx;obtain⟨h1,-, -⟩:=hT.cL hx;obtain⟨desc,hu,hk⟩:=TD.bh (ht _ _ hl) rfl;have:=TK.jj hk;subst this;split at h
   ·rename_i s hs;split at h
    ·rename_i p q hp hq;cases hb:(Nat.ble p q&&Nat.ble q n) with
     |false=>rw[hb] at h;simp at h
     | true=>
      rw[hb] at h;simp only[cond_true,Ai] at h;subst h;simp only[Bj] at hb;have hpq:=Kv hb.1;have hqn:=Kv hb.2;refine⟨λw=>?_,?_,rfl⟩
      ·simp only[execOp,h1,SV.aE,TV.aq,LV.cx,Instr.sliceAt,Gi,hu,Fb,Instr.sureAddr,I4,Option.map_none,hT.bounds P false hp hq hpq hqn,GU ht hs];simp only[ND.val,Gq,SV.aE,TV.aq,LV.cE,CX.ff,X.bc,Ce];by_cases gE:n=p
       ·subst gE;simp
       ·have:Nat.beq n p=false:=by
         cases BT:Nat.beq n p with
         |false=>rfl
         |true=>exact absurd (Ca BT) gE
        simp[gE,this,WZ]
      ·simp only[ND.val,Gq,SV.ok,TV.ok,LV.ok,CX.ff,X.bc];omega
    ·cases h
   ·cases h
  ·rename_i e sz pB ag zz l o' n c d hl hx;obtain⟨h1,So,-⟩:=hT.cL hx;obtain⟨desc,hu,hk⟩:=TD.bh (ht _ _ hl) rfl;have:=TK.dj hk;subst this;split at h
   ·rename_i q0 s he;unfold K4 at he;rw[hl] at he;simp only at he;split at he
    ·rename_i s' hs;simp only[Ai,Prod.mk.injEq] at he;obtain⟨rfl,rfl⟩:=he;split at h
     ·rename_i p q hp hq;cases hb:(Nat.ble p q&&Nat.ble q n) with
      |false=>rw[hb] at h;simp at h
      | true=>
       rw[hb,cond_true] at h;simp only[Bj] at hb;have hpq:=Kv hb.1;have hqn:=Kv hb.2;have ae7:((n+d:Nat):Int)<=c.den V:=So;cases cV:(Nat.blt p n||Nat.beq p 0) with
       |false=>
       rw[cV] at h;simp only[cond_false,Ai] at h;subst h;have gE:¬p<n:=λbj=>by
        rw[show Nat.blt p n=true from yu bj] at cV;simp at cV
       have hpe:p=n:=by omega
       have hqe:q=p:=by omega
       subst hqe;refine⟨λw=>?_,?_,rfl⟩
       ·simp only[execOp,h1,SV.aE,TV.aq,LV.cE,Instr.sliceAt,Instr.slice,Gi,hu,Fb,I4,Option.map_none,hT.bounds P true hp hq hpq (by omega:q<=(c.den V).toNat-d),GU ht hs];simp only[ND.val,Gq,SV.aE,TV.aq,LV.den,UT,Ce,HF];by_cases gE:(c.den V).toNat-d=q
        ·rw[if_pos gE,if_pos gE]
        ·rw[if_neg gE,if_neg gE,WZ]
       ·simp only[ND.val,Gq,SV.ok,TV.ok,LV.ok];omega
       |true=>
       rw[cV] at h;simp only[cond_true,Ai] at h;subst h;simp only[Bool.or_eq_true] at cV;have hpn:p<n\/p=0:=cV.imp Dh Ca;refine⟨λw=>?_,?_,rfl⟩
       ·simp only[execOp,h1,SV.aE,TV.aq,LV.cE,Instr.sliceAt,Instr.slice,Gi,hu,Fb,I4,Option.map_none,hT.bounds P true hp hq hpq (by omega:q<=(c.den V).toNat-d),GU ht hs];simp only[ND.val,Gq,SV.aE,TV.aq,LV.cE,UT,Ce,Nat.sub_sub];by_cases gE:(c.den V).toNat-d=p
        ·have hp0:p=0:=by omega
         subst hp0;simp
        ·simp[gE,WZ]
       ·simp only[ND.val,Gq,SV.ok,TV.ok,LV.ok];omega
     ·cases h
    ·cases he
   ·cases h
  ·rename_i z e sz pB ag zz l o' n c d hl hx;obtain⟨h1,So,-⟩:=hT.cL hx;have ae7:((n+d:Nat):Int)<=c.den V:=So;obtain⟨desc,hu,hk⟩:=TD.bh (ht _ _ hl) rfl;have:=TK.dj hk;subst this;split at h
   ·rename_i q0 he;obtain⟨q1,s⟩:=q0;unfold K4 at he;rw[hl] at he;simp only at he;split at he
    ·rename_i s' hs;split at h
     ·rename_i y p m hp hm hq;cases hb:(Nat.ble p m&&Nat.ble m n) with
      |false=>rw[hb] at h;simp at h
      | true=>
       rw[hb] at h;simp only[cond_true,Ai] at h;subst h;simp only[Bj] at hb;have hpm:=Kv hb.1;have hmn:=Kv hb.2;refine⟨λw=>?_,?_,rfl⟩
       ·have we:=hT.KK P (n:=n) hp hq hm hpm (by omega:m<=(c.den V).toNat-d) w;simp only[execOp,h1,SV.aE,TV.aq,LV.cE,Instr.sliceAt,Instr.slice,Gi,hu,Fb,I4,UT,GU ht hs];rw[we];simp only[Fb,ND.val,Gq,SV.aE,TV.aq,LV.cE,CX.ff,X.bc,Ce,Nat.sub_zero,Nat.zero_mul,QO,Rh,ite_self]
       ·simp only[ND.val,Gq,SV.ok,TV.ok,LV.ok,CX.ff,X.bc];omega
     ·cases h
    ·cases he
   ·cases h
  ·cases h
 all_goals cases h
end
end
section
open Go
def AL(ks:List IntKind)(xs:List Int):List Value:=List.zipWith Value.int ks xs
def EP(ks:List IntKind)(xs:List Int):Prop:=xs.length=ks.length/\∀(i:Nat) (k:IntKind) (x:Int),ks[i]? = some k->xs[i]? = some x->IJ k x
def AO(f:Bool)(w:World)(b:Nat×Nat)(ks:List IntKind)(xs:List Int):Prop:=
 EP ks xs/\∀(i:Nat) (k:IntKind) (x:Int),ks[i]? = some k->xs[i]? = some x->CP f w b.1 (b.2+i) (.int k x)
def PM(GB:Nat)(w:World)(p:Et)(v:Value)(xs:List Int)(b:Nat×Nat):Prop:=
 match p with
 | .int k=>∃x,xs= [x]/\v= .int k x/\IJ k x
 | .bool=>∃x,xs= [x]/\v= .bool (x != 0)
 | .mem ks _ wr=>v= .pointer (some ⟨b.1,b.2,none⟩)/\AO wr w b ks xs/\(wr=true->GB<=b.1)
 | .agg ks=>EP ks xs/\v= .agg (AL ks xs).toArray
 | .sl ks _ wr=>∃c,v= .slice (some ⟨b.1,b.2,none⟩) ks.length c/\ks.length<=c/\AO wr w b ks xs/\(wr=true->GB<=b.1)
 | .fL ks _ wr=>∃m c,v= .slice (some ⟨b.1,b.2,none⟩) m c/\ks.length<=m/\AO wr w b ks xs/\(wr=true->GB<=b.1)
def Jg(GB:Nat)(w:World):List Et->List Value->List (List Int)->List (Nat×Nat)->Prop
 | [],[],[],[]=>True
 |p::ps,v::vs,x::xs,b::bs=>PM GB w p v x b/\Jg GB w ps vs xs bs
 |_,_,_,_=>False
def Et.cp:Et->Option (Nat×Bool×Nat)
 | .mem ks g wr=>some (g,wr,ks.length)
 | .sl ks g wr=>some (g,wr,ks.length)
 | .fL ks g wr=>some (g,wr,ks.length)
 |_=>none
def U9(p q:Et)(b c:Nat×Nat):Prop:=
 match p.cp,q.cp with
 |some (g,wr,n),some (g',wr',n')=>wr=true\/wr'=true->(g=g'/\g≠0/\b=c/\n=n')\/ZH b c n n'
 |_,_=>True
def Ep:List Et->List (Nat×Nat)->Prop
 |p::ps,b::bs=>(∀x∈ps.zip bs,U9 p x.1 b x.2)/\Ep ps bs
 |_,_=>True
def Xf(s:Az)(bs:List (Nat×Nat))(b o:Nat):Prop:=
 ∃p∈s.outs,b=(bs.getD p.1 (0,0)).1/\(bs.getD p.1 (0,0)).2<=o/\o<(bs.getD p.1 (0,0)).2+p.2.1.length
def RV(r:Pq)(ins:List (List Int))(args:List Value)(fb:List (Nat×Nat))(v:Value):Prop:=
 match r with
 | .int k f=>v= .int k (f ins)/\IJ k (f ins)
 | .bool f=>v= .bool (f ins != 0)
 | .cF i=>args[i]? = some v
 | .kA j=>∃b,fb[j]? = some b/\v= .pointer (some ⟨b.1,b.2,none⟩)
 | .agg ks f=>EP ks (f ins)/\v= .agg (AL ks (f ins)).toArray
 | .nil=>v= .pointer none
 | .ej=>v= .nilIface
 | .Hp j n c=>∃b,fb[j]? = some b/\v= .slice (some ⟨b.1,b.2,none⟩) n c
 | .slP i n c=>∃b:Nat×Nat,args[i]? = some (.pointer (some ⟨b.1,b.2,none⟩))/\v= .slice (some ⟨b.1,b.2,none⟩) n c
 | .LL j n=>∃b c,fb[j]? = some b/\n<=c/\v= .slice (some ⟨b.1,b.2,none⟩) n c
 | .err=>∃t u,v= .iface t u
def yJ(ins:List (List Int))(args:List Value)(fb:List (Nat×Nat)):List Pq->List Value->Prop
 | [],[]=>True
 |r::rs,v::vs=>RV r ins args fb v/\yJ ins args fb rs vs
 |_,_=>False
structure Xw (GC:Nat->Nat->Option Value) (s:Az) (args:List Value) (ins:List (List Int)) (bs:List (Nat×Nat)) (w:World) (fb:List (Nat×Nat)) (vs:List Value) (w':World):Prop where
 len:fb.length=s.fresh.length
 fr:∀b∈fb,w.heap.size<=b.1
 fd:∀(i j:Nat) (p q:List IntKind×PF) (b c:Nat×Nat),s.fresh[i]? = some p->s.fresh[j]? = some q->fb[i]? = some b->fb[j]? = some c->i≠j->ZH b c p.1.length q.1.length
 an:BD w w' (Xf s bs)
 outs:∀p∈s.outs,AO true w' (bs.getD p.1 (0,0)) p.2.1 (p.2.2 ins)
 fresh:∀(j:Nat) (p:List IntKind×PF) (b:Nat×Nat),s.fresh[j]? = some p->fb[j]? = some b->AO true w' b p.1 (p.2 ins)
 ret:yJ ins args fb s.ret vs
 gw:GW GC w'
def Od:List Value->Value
 | [v]=>v
 |vs=>.tuple vs.toArray
def Bv(P:Program)(GB:Nat)(GC:Nat->Nat->Option Value)(f:Nat)(fe:FE):Prop:=
 ∀(cf:Bool) (args:List Value) (ins:List (List Int)) (bs:List (Nat×Nat)) (w:World),GW GC w->GB<=w.heap.size->Jg GB w (fe.cf cf).params args ins bs->Ep (fe.cf cf).params bs->
  ((fe.cf cf).hp=true->(fe.cf true).pre ins)->fe.j7 ins=cf->
  Calls P f args.toArray w λe w'=>∃fb vs,e= .returned (Od vs)/\Xw GC (fe.cf cf) args ins bs w fb vs w'
def OJ(s:Az):Prop:=∀ins:List (List Int),ins.map List.length=s.params.map Et.len->
 (∀p∈s.outs,(p.2.2 ins).length=p.2.1.length)/\(∀p∈s.fresh,(p.2 ins).length=p.1.length)/\(∀ks f,Pq.agg ks f∈s.ret->(f ins).length=ks.length)
theorem LJ{V:Vl}{cs:List LV}{ks ξ:List IntKind}{xs:List X}(h:JH cs=some (ξ,xs))(hk:Jp ks ξ=true):
  cs.map (·.den V)=AL ks (xs.map (·.den V.ρ))/\cs.length=ks.length/\(xs.map (·.den V.ρ)).length=ks.length:=by
 have:=GG (λ_ _=>Mx) hk;subst this;obtain⟨h1,h2,h3⟩:=J4 h;refine⟨?_,h1,by rw[UC];omega⟩;apply List.ext_getElem?;intro i;unfold AL;rw[List.getElem?_zipWith,Ng,Ng];cases hc:cs[i]? with
 |none=>
  have:cs.length<=i:=List.getElem?_eq_none_iff.1 hc;rw[List.getElem?_eq_none (by omega)];rfl
 |some c=>
  obtain⟨k,x,e1,e2,rfl⟩:=h3 i c hc;rw[e1,e2];rfl
theorem NQ{V:Vl}{cs:List LV}{ks ξ:List IntKind}{xs:List X}(h:JH cs=some (ξ,xs))(hk:Jp ks ξ=true)(ho:∀c∈cs,c.ok V):
  EP ks (xs.map (·.den V.ρ)):=by
 have:=GG (λ_ _=>Mx) hk;subst this;obtain⟨h1,h2,h3⟩:=J4 h;refine⟨by rw[UC];omega,λi k x hk hx=>?_⟩;rw[Ng,Yg] at hx;obtain⟨y,hy,rfl⟩:=hx;have hi:i<cs.length:=by have:=(Oa.1 hk).1;omega
 obtain⟨k',x',e1,e2,e3⟩:=h3 i _ (Io hi);rw[hk] at e1;rw[hy] at e2;cases e1;cases e2;have:=ho _ (ku hi);rw[e3] at this;exact this
theorem TA{V:Vl}{j:Nat}{ks:List IntKind}{xs:List Int}(hx:V.ρ j=xs)(hl:xs.length=ks.length):(IC j ks).map (·.den V)=AL ks xs:=by
 apply List.ext_getElem?;intro i;unfold AL;rw[List.getElem?_zipWith,Ng];cases hc:(IC j ks)[i]? with
 | none=>
  have:ks.length<=i:=by
   have:=List.getElem?_eq_none_iff.1 hc;simpa[IC] using this
  rw[List.getElem?_eq_none (by omega)];rfl
 |some c=>
  obtain⟨k,e1,rfl⟩:=PQ hc;have hi:i<ks.length:=(Oa.1 e1).1;rw[e1,Io (by omega:i<xs.length)];simp only[UT,LV.den,X.den,hx];simp[List.getD,Io (by omega:i<xs.length)]
theorem XB{V:Vl}{j:Nat}{ks:List IntKind}{xs:List Int}(hx:V.ρ j=xs)(hr:EP ks xs):∀c∈IC j ks,c.ok V:=by
 intro c hc;obtain⟨i,hi,rfl⟩:=kY hc;obtain⟨k,e1,e2⟩:=PQ (Io hi);have ID:i<ks.length:=(Oa.1 e1).1;rw[e2];have pn:xs[i]? = some (xs[i]'(by have:=hr.1;omega)):=Io _;have:=hr.2 i k _ e1 pn;simp only[LV.ok,X.den,hx];simpa[List.getD,pn] using this
theorem Oi(j:Nat)(ks:List IntKind):(IC j ks).length=ks.length:=by simp[IC]
def UI(V:Vl):Option MP->Nat×Nat
 |some m=>((V.ν m.l).1,(V.ν m.l).2+m.o)
 |none=>(0,0)
def aU:Option MP->Option (Nat×Bool×Nat)
 |some m=>some (m.g,m.wr,m.n)
 |none=>none
section
variable{E:En}{st:St}{V:Vl}{w:World}(hm:Oc E st.rg V w)(hl:∀p∈st.ln,(V.ρ p.1).length=p.2)
include hm hl
theorem AHw{p:Et}{v:SV}{a:Hy}{m:Option MP}(h:ALG st p v=some (a,m))(hv:v.ok V)
  (hw:∀x,m=some x->x.wr=true->∃r∈st.rg,r.id=x.l/\r.wr=true):
  PM E.GB w p (v.den V) (a.den V.ρ) (UI V m)/\p.cp=aU m/\(a.den V.ρ).length=p.len/\(∀x,m=some x->v= .t (.l x.lv)/\∃r∈st.rg,r.id=x.l/\x.o+x.n<=r.cs.length):=by
 have mem:∀ {ks ξ:List IntKind} {xs:List X} {cs:List LV} {l o n:Nat} {wr:Bool},Jk st.rg l o n=some cs->n=ks.length->JH cs=some (ξ,xs)->Jp ks ξ=true->
   (wr=true->∃r∈st.rg,r.id=l/\r.wr=true)->AO wr w ((V.ν l).1,(V.ν l).2+o) ks (xs.map (·.den V.ρ))/\(wr=true->E.GB<=(V.ν l).1):=by
  intro ks ξ xs cs l o n wr hr hn hc hk lB;obtain⟨g1,r,g2,g3,g4,g5⟩:=Ez hr;have ot:=hm.read hr;refine⟨⟨NQ hc hk (λc j8=>?_),λi k x hki pn=>?_⟩,λKd=>?_⟩
  ·obtain⟨i,hi,rfl⟩:=kY j8;exact(ot i _ (Io hi)).2
  ·have Ax:=GG (λ_ _=>Mx) hk;subst Ax;obtain⟨h1,h2,h3⟩:=J4 hc;have hi:i<cs.length:=by have:=(Oa.1 hki).1;omega
   obtain⟨k',x',e1,e2,e3⟩:=h3 i _ (Io hi);rw[hki] at e1;cases e1;rw[Ng,e2] at pn;simp only[UT,Ai] at pn;subst pn;have cR:=(ot i _ (Io hi)).1;rw[e3] at cR;refine⟨cR,λKd=>?_⟩;obtain⟨r',q1,q2,q3⟩:=lB Kd;have:r'=r:=hm.one r' q1 r g2 (q2.trans g3.symm);subst this;obtain⟨u,hu,-⟩:=hm.ov r' g2 (o+i) _ (g5 i _ (Io hi));rw[g3, <- WZ] at hu;exact hu.2 q3
  ·obtain⟨r',q1,q2,q3⟩:=lB Kd;have:=(hm.so r' q1 q3).1;rwa [q2] at this
 unfold ALG at h;split at h
 ·rename_i k k' x;cases hk:sK k k' with
  |false=>rw[hk] at h;simp at h
  |true=>
   rw[hk] at h;simp only[cond_true,Ai,Prod.mk.injEq] at h;obtain⟨rfl,rfl⟩:=h;have:=Mx hk;subst this;exact⟨⟨_,rfl,rfl,hv⟩,rfl,rfl,λx hx=>by cases hx⟩
 ·rename_i x;simp only[Ai,Prod.mk.injEq] at h;obtain⟨rfl,rfl⟩:=h;exact⟨⟨_,rfl,rfl⟩,rfl,rfl,λx hx=>by cases hx⟩
 ·rename_i ks g wr l o;split at h
  ·rename_i cs cS;split at h
   ·rename_i ξ xs zv;cases hb:Jp ks ξ with
    |false=>rw[hb] at h;simp at h
    | true=>
     rw[hb] at h;simp only[cond_true,Ai,Prod.mk.injEq] at h;obtain⟨rfl,rfl⟩:=h;obtain⟨q1,q2⟩:=mem (wr:=wr) cS rfl zv hb (λKd=>hw _ rfl Kd);obtain⟨g1,r,g2,g3,g4,g5⟩:=Ez cS;refine⟨?_,rfl,?_,λx hx=>?_⟩
     ·rw[GR hl];exact⟨rfl,q1,q2⟩
     ·rw[GR hl];exact q1.1.1
     ·cases hx;exact⟨rfl,r,g2,g3,g4⟩
   ·cases h
  ·cases h
 ·rename_i ks cs;split at h
  ·rename_i ξ xs zv;cases hb:Jp ks ξ with
   |false=>rw[hb] at h;simp at h
   |true=>
    rw[hb] at h;simp only[cond_true,Ai,Prod.mk.injEq] at h;obtain⟨rfl,rfl⟩:=h;obtain⟨e1,e2,e3⟩:=LJ (V:=V) zv hb;refine⟨?_,rfl,by rw[GR hl];exact e3,λx hx=>by cases hx⟩;rw[GR hl];exact⟨NQ zv hb hv,by simp only[SV.aE,TV.qt,e1]⟩
  ·cases h
 ·rename_i ks g wr l o n c d;cases hn:Nat.beq n ks.length with
  |false=>rw[hn] at h;simp at h
  | true=>
   rw[hn] at h;have Pa:=Ca hn;simp only[cond_true] at h;split at h
   ·rename_i cs cS;split at h
    ·rename_i ξ xs zv;cases hb:Jp ks ξ with
     |false=>rw[hb] at h;simp at h
     | true=>
      rw[hb] at h;simp only[cond_true,Ai,Prod.mk.injEq] at h;obtain⟨rfl,rfl⟩:=h;obtain⟨q1,q2⟩:=mem (wr:=wr) cS Pa zv hb (λKd=>hw _ rfl Kd);obtain⟨g1,r,g2,g3,g4,g5⟩:=Ez cS;have ae7:((n+d:Nat):Int)<=c.den V:=hv;refine⟨?_,by simp[Et.cp,aU,Pa],?_,λx hx=>?_⟩
      ·rw[GR hl];exact⟨_,by rw[<- Pa];rfl,by omega,q1,q2⟩
      ·rw[GR hl];exact q1.1.1
      ·cases hx;exact⟨rfl,r,g2,g3,g4⟩
    ·cases h
   ·cases h
 ·rename_i ks g wr l o n iσ;cases hn:Nat.beq n ks.length with
  |false=>rw[hn] at h;simp at h
  | true=>
   rw[hn] at h;have Pa:=Ca hn;simp only[cond_true] at h;split at h
   ·rename_i cs cS;split at h
    ·rename_i ξ xs zv;cases hb:Jp ks ξ with
     |false=>rw[hb] at h;simp at h
     | true=>
      rw[hb] at h;simp only[cond_true,Ai,Prod.mk.injEq] at h;obtain⟨rfl,rfl⟩:=h;obtain⟨q1,q2⟩:=mem (wr:=wr) cS Pa zv hb (λKd=>hw _ rfl Kd);obtain⟨g1,r,g2,g3,g4,g5⟩:=Ez cS;obtain⟨m,cc,hσ,hnm⟩:=(hv:∃m c,V.σ iσ= .slice (some ⟨(V.ν l).1,(V.ν l).2+o,none⟩) m c/\n<=m);refine⟨?_,by simp[Et.cp,aU,Pa],?_,λx hx=>?_⟩
      ·rw[GR hl];exact⟨m,cc,hσ,by omega,q1,q2⟩
      ·rw[GR hl];exact q1.1.1
      ·cases hx;exact⟨rfl,r,g2,g3,g4⟩
    ·cases h
   ·cases h
 ·cases h
theorem Tn:∀ {ps:List Et} {vs:List SV} {as:List Hy} {ms:List (Option MP)},Oh st ps vs=some (as,ms)->(∀v∈vs,v.ok V)->WB st.rg ms=true->
  Jg E.GB w ps (vs.map (·.den V)) (as.map (·.den V.ρ)) (ms.map (UI V))/\ps.map Et.cp=ms.map aU/\(as.map (·.den V.ρ)).map List.length=ps.map Et.len/\vs.length=ms.length/\
   (∀(i:Nat) (x:MP),ms[i]? = some (some x)->vs[i]? = some (.t (.l x.lv))/\∃r∈st.rg,r.id=x.l/\x.o+x.n<=r.cs.length/\(x.wr=true->r.wr=true))
 | [],[],as,ms,h,_,_=>by
  simp only[Oh,Ai,Prod.mk.injEq] at h;obtain⟨rfl,rfl⟩:=h;exact⟨trivial,rfl,rfl,rfl,λi x h=>by simp at h⟩
 | [],_::_,as,ms,h,_,_=>by simp[Oh] at h
 |_::_,[],as,ms,h,_,_=>by simp[Oh] at h
 | p :: ps,v::vs,as,ms,h,hv,lB=>by
  unfold Oh at h;split at h
  ·rename_i a m LI ms' h1 h2;simp only[Ai,Prod.mk.injEq] at h;obtain⟨rfl,rfl⟩:=h;have aaR:WB st.rg ms'=true/\∀x,m=some x->x.wr=true->∃r∈st.rg,r.id=x.l/\r.wr=true:=by
    cases m with
    |none=>exact⟨by simpa[WB] using lB,λx hx=>by cases hx⟩
    | some a=>
     simp only[WB,Bj,Bool.or_eq_true,Bool.not_eq_true'] at lB;refine⟨lB.2,λx hx hxw=>?_⟩;cases hx;rcases lB.1 with h|h
     ·rw[hxw] at h;cases h
     ·split at h
      ·rename_i g hg;exact⟨g,(JW hg).1,(JW hg).2,h⟩
      ·cases h
   obtain⟨q1,q2,q3,q4⟩:=AHw hm hl h1 (hv v Jv) aaR.2;obtain⟨r1,r2,r3,r4,r5⟩:=Tn (ps:=ps) h2 (λv mL=>hv v (MN _ mL)) aaR.1;refine⟨⟨q1,r1⟩,by simp[q2,r2],by simp[q3];simpa using r3,by simp[r4],λi x hx=>?_⟩;cases i with
   |zero=>
    simp only[UV,Ai] at hx;obtain⟨e1,r,e2,e3,e4⟩:=q4 x hx;refine⟨by simp[e1],r,e2,e3,e4,λhxw=>?_⟩;obtain⟨r',f1,f2,f3⟩:=aaR.2 x hx hxw;have:=hm.one r' f1 r e2 (f2.trans e3.symm);subst this;exact f3
   |succ i=>simpa using r5 i x (by simpa using hx)
  ·cases h
end
theorem ALf{E:En}{rg:List Rg}{V:Vl}{w:World}(hm:Oc E rg V w){a b:MP}(h:ALv rg a b=true)
  (ha:∃r∈rg,r.id=a.l/\a.o+a.n<=r.cs.length/\(a.wr=true->r.wr=true)) (hb:∃r∈rg,r.id=b.l/\b.o+b.n<=r.cs.length/\(b.wr=true->r.wr=true)) (hw:a.wr=true\/b.wr=true):
  (a.g=b.g/\a.g≠0/\UI V (some a)=UI V (some b)/\a.n=b.n)\/ZH (UI V (some a)) (UI V (some b)) a.n b.n:=by
 obtain⟨r,hr,hrl,C0,hrw⟩:=ha;obtain⟨r',cG,ab2,ah7,aix⟩:=hb;have adv:AIz a.o a.n b.o b.n=true->a.o+a.n<=b.o\/b.o+b.n<=a.o:=by
  intro h;simp only[AIz,Bool.or_eq_true] at h;exact h.imp Kv Kv
 have me:(Nat.beq a.g b.g && !(Nat.beq a.g 0)&&Nat.beq a.o b.o&&Nat.beq a.n b.n)=true->a.g=b.g/\a.g≠0/\a.o=b.o/\a.n=b.n:=by
  intro h;simp only[Bj,Bool.not_eq_true'] at h;refine⟨Ca h.1.1.1,λe=>?_,Ca h.1.2,Ca h.2⟩;rw[e] at h;simp at h
 unfold ALv at h;have hnw:(!(a.wr||b.wr))=false:=by rcases hw with h|h<;>simp[h]
 rw[hnw,Bool.false_or] at h;cases hl:Nat.beq a.l b.l with
 | true=>
  have hle:=Ca hl;simp only[hl,cond_true,Bool.or_eq_true] at h;rcases h with h|h
  ·have:=adv h
   right
   simp only[ZH,UI,hle];omega
  ·obtain⟨e1,e2,e3,e4⟩:=me h;exact .inl ⟨e1,e2,by simp only[UI,hle,e3],e4⟩
 | false=>
  simp only[hl,cond_false] at h;split at h
  ·rename_i q q' hq BT;have hqr:q=r:=hm.one q (JW hq).1 r hr ((JW hq).2.trans hrl.symm);have ajY:q'=r':=hm.one q' (JW BT).1 r' cG ((JW BT).2.trans ab2.symm);subst hqr;subst ajY;simp only[Bj,Bool.or_eq_true] at h;obtain⟨hww,h⟩:=h;have cj:q.id≠q'.id:=λe=>by
    rw[hrl,ab2] at e;rw[e,Nat.beq_refl] at hl;cases hl
   have ju:(q.fR=q'.fR/\q.fR≠0/\V.ν a.l=V.ν b.l/\q.cs.length=q'.cs.length)\/ZH (V.ν a.l) (V.ν b.l) q.cs.length q'.cs.length:=by
    rw[<- hrl, <- ab2];rcases hww with h|h
    ·exact hm.sep q hr q' cG h cj
    ·rcases hm.sep q' cG q hr h (Ne.symm cj) with⟨e1,e2,e3,e4⟩|e
     ·exact .inl ⟨e1.symm,by rw[<- e1];exact e2,e3.symm,e4.symm⟩
     ·right
      unfold ZH at *
      omega
   rcases ju with⟨e1,e2,e3,e4⟩|e
   ·have hg:(Nat.beq q.fR q'.fR && !(Nat.beq q.fR 0))=true:=by
     simp only[Bj,Bool.not_eq_true',e1,Nat.beq_refl,true_and];cases hz:Nat.beq q'.fR 0 with
     |false=>rfl
     |true=>exact absurd (e1.trans (Ca hz)) e2
    rw[hg] at h;simp only[cond_true,Bool.or_eq_true] at h;rcases h with h|h
    ·have:=adv h
     right
     simp only[ZH,UI,e3];omega
    ·obtain⟨f1,f2,f3,f4⟩:=me h;exact .inl ⟨f1,f2,by simp only[UI,e3,f3],f4⟩
   ·right
    unfold ZH at *
    simp only[UI];omega
  ·cases h
theorem xX{E:En}{rg:List Rg}{V:Vl}{w:World}(hm:Oc E rg V w):∀ {ps:List Et} {ms:List (Option MP)},ps.map Et.cp=ms.map aU->Wp rg ms=true->
  (∀x,some x∈ms->∃r∈rg,r.id=x.l/\x.o+x.n<=r.cs.length/\(x.wr=true->r.wr=true))->Ep ps (ms.map (UI V))
 | [],ms,_,_,_=>trivial
 |p::ps,[],h,_,_=>by simp at h
 | p::ps,m::ms,h,hs,hx=>by
  simp only[NM,List.cons.injEq] at h;have HE:Wp rg ms=true:=by
   cases m with
   |none=>simpa[Wp] using hs
   |some a=>simp only[Wp,Bj] at hs;exact hs.2
  refine⟨λy hy=>?_,xX hm h.2 HE (λx eg=>hx x (MN _ eg))⟩;obtain⟨i,hi,he⟩:=kY hy;simp only[List.length_zip,UC] at hi;have Wr:i<ps.length:=by omega
  have K1:i<ms.length:=by omega
  have hy1:y=(ps[i],UI V ms[i]):=by rw[<- he];simp
  subst hy1;have akT:(ps[i]).cp=aU ms[i]:=by
   have:=CV (λl=>l[i]?) h.2;simpa[Wr,K1] using this
  unfold U9;rw[h.1,akT];cases m with
  |none=>trivial
  | some a=>
   cases RK:ms[i] with
   |none=>trivial
   |some b=>
    simp only[aU];intro hw;simp only[Wp,Bj,Kh] at hs;have hsb:=hs.1 (some b) (by rw[<- RK];exact ku K1);exact ALf hm hsb (hx a Jv) (hx b (MN _ (by rw[<- RK];exact ku K1))) hw
end
section
open Go
theorem CP.th{f:Bool}{w:World}{b o b' o':Nat}{u v:Value}(h:CP f (w.setCell ⟨b',o',none⟩ v) b o u)(cj:¬(b=b'/\o=o')):CP f w b o u:=by
 obtain⟨c,e,lo,hi,h1,h2,h3⟩:=h.obj;rw[World.dr] at h1;by_cases hb:b=b'
 ·subst hb;rw[if_pos rfl] at h1;have ho:o'≠o:=λe=>cj ⟨rfl,e.symm⟩
  cases hw:w.heap[b]? with
  |none=>rw[hw] at h1;simp at h1
  | some x=>
   rw[hw] at h1;cases x with
   |cells c0 e0 f0=>
    simp only[UT,Ai,Obj.cells.injEq] at h1;obtain⟨rfl,rfl,rfl⟩:=h1;rw[Array.getElem?_setIfInBounds_ne ho] at h2;exact CP.fh hw h2 h3
   |_=>simp at h1
 ·rw[if_neg hb] at h1;exact CP.fh h1 h2 h3
theorem CP.ir{f:Bool}{b o:Nat}{u:Value}(b':Nat):∀(vs:List Value) (w:World) (o':Nat),CP f (setCells w b' o' vs) b o u->(b≠b'\/o<o'\/o'+vs.length<=o)->CP f w b o u
 | [],_,_,h,_=>h
 |v::vs,w,o',h,hn=>by
  simp only[NY] at hn;exact(CP.ir b' vs _ (o'+1) h (by omega)).th (by rintro⟨rfl,rfl⟩;omega)
theorem BD.trans'{A B w:World}{S S':Nat->Nat->Prop}(h:BD A B S)(h':BD B w S')(hs:∀b o,b<A.heap.size->S' b o->S b o):BD A w S:=
 ⟨EX h.1 h'.1,λb x hx=>by
  have hb:b<A.heap.size:=by
   rcases kz b A.heap.size with h2|h2
   ·exact h2
   ·simp[uM h2] at hx
  obtain⟨y,hy,h1⟩:=h.2.1 b x hx;obtain⟨z,hz,h2⟩:=h'.2.1 b y hy;exact⟨z,hz,h1.trans (h2.mono λo=>hs b o hb)⟩,h'.2.2.1.trans h.2.2.1,h'.2.2.2.1.trans h.2.2.2.1,h'.2.2.2.2.trans h.2.2.2.2⟩
def Vl.setν(V:Vl)(l:Nat)(b:Nat×Nat):Vl:= { V with ν:=λx=>if x=l then b else V.ν x }
theorem Vl.setν_same(V:Vl)(l:Nat)(b:Nat×Nat):(V.setν l b).ν l=b:=by simp[Vl.setν]
theorem Vl.setν_other(V:Vl){l x:Nat}(b:Nat×Nat)(h:x≠l):(V.setν l b).ν x=V.ν x:=by simp[Vl.setν,h]
theorem Iy{r x:Rg}:∀ {rg:List Rg},x∈uK r rg↔x=r\/x∈rg
 | []=>by simp[uK]
 | y::ys=>by
  unfold uK;cases Nat.blt y.id r.id
  ·simp only[cond_false,G9,Iy (rg:=ys)];constructor
   ·rintro(h|h|h)
    ·exact .inr (.inl h)
    ·exact .inl h
    ·exact .inr (.inr h)
   ·rintro(h|h|h)
    ·exact .inr (.inl h)
    ·exact .inl h
    ·exact .inr (.inr h)
  ·simp
theorem uJ{bv:Nat}{rg υ:List Rg}{l:Nat}{cs:List LV}(h:dV bv rg l cs=some υ):
  Dz l (DL rg)=false/\(∀c∈cs,c.lt bv (DL rg)=true)/\υ=uK ⟨l,0,true,cs.map some⟩ rg:=by
 unfold dV at h;cases hb:(!(Dz l (DL rg))&&cs.all (·.lt bv (DL rg))) with
 |false=>rw[hb] at h;simp at h
 |true=>
  rw[hb] at h;simp only[cond_true,Ai] at h;simp only[Bj,Bool.not_eq_true',Kh] at hb;exact⟨hb.1,hb.2,h.symm⟩
theorem Oc.add{E:En}{bv:Nat}{rg υ:List Rg}{V:Vl}{w:World}{l:Nat}{cs:List LV}{b:Nat×Nat}(hm:Oc E rg V w)(hs:Ym bv rg)(h:dV bv rg l cs=some υ)
  (aci:∀r∈rg,ZH (V.ν r.id) b r.cs.length cs.length) (hB:E.B.heap.size<=b.1) (δ:E.GB<=b.1) (hc:∀(i:Nat) (c:LV),cs[i]? = some c->CP true w b.1 (b.2+i) (c.den V)) (eM:∀c∈cs,c.ok V):
  Oc E υ (V.setν l b) w/\Ym bv υ/\(∀x,Dz x (DL rg)=true->Dz x (DL υ)=true)/\Dz l (DL υ)=true/\Dz l (DL rg)=false/\(∀r∈υ,(r∈rg/\r.id≠l)\/r=⟨l,0,true,cs.map some⟩):=by
 obtain⟨hl,bj,rfl⟩:=uJ h;have cj:∀x,Dz x (DL rg)=true->x≠l:=λx hx e=>by rw[e,hl] at hx;cases hx
 have gf:Ag bv (DL rg) V (V.setν l b):=⟨λ_ _=>rfl,λ_ _=>rfl,λx hx=>V.setν_other b (cj x hx)⟩;have gO:=hm.ag gf hs;have qS:∀x,Dz x (DL rg)=true->Dz x (DL (uK ⟨l,0,true,cs.map some⟩ rg))=true:=λx hx=>by
  obtain⟨r,hr,rfl⟩:=Nq.1 hx;exact FQ (Iy.2 (.inr hr))
 have SJ:∀r∈rg,r.id≠l:=λr hr=>cj _ (FQ hr)
 have ju:∀r∈rg,ZH ((V.setν l b).ν r.id) b r.cs.length cs.length:=λr hr=>by
  rw[V.setν_other b (SJ r hr)];exact aci r hr
 refine⟨⟨?_,?_,?_,?_,hm.an,hm.gw⟩,?_,qS,Nq.2 ⟨_,Iy.2 (.inl rfl),rfl⟩,hl,?_⟩
 ·intro r hr;rcases Iy.1 hr with rfl|hr
  ·intro i c hi;simp only[Ng,Yg] at hi;obtain⟨lv,h1,rfl⟩:=hi;have nq:=bj lv (MB h1);refine⟨lv.den V,?_,λlv' e=>?_⟩
   ·show CP true w ((V.setν l b).ν l).1 (((V.setν l b).ν l).2+i) _;rw[V.setν_same];exact hc i lv h1
   ·cases e;exact⟨(LV.ck gf nq).symm,LV.eW gf nq (eM lv (MB h1))⟩
  ·exact gO.ov r hr
 ·intro r hr r' cG he;rcases Iy.1 hr with rfl|hr
  ·rcases Iy.1 cG with rfl|cG
   ·rfl
   ·exact absurd he.symm (SJ r' cG)
  ·rcases Iy.1 cG with rfl|cG
   ·exact absurd he (SJ r hr)
   ·exact hm.one r hr r' cG he
 ·intro r hr r' cG hw ac1;rcases Iy.1 hr with rfl|hr
  ·rcases Iy.1 cG with rfl|cG
   ·exact absurd rfl ac1
   ·right
    have:=ju r' cG;show ZH ((V.setν l b).ν l) _ _ _;rw[V.setν_same];unfold ZH at *
    simp only[UC];omega
  ·rcases Iy.1 cG with rfl|cG
   ·right
    have:=ju r hr;show ZH _ ((V.setν l b).ν l) _ _;rw[V.setν_same];simpa[UC] using this
   ·exact gO.sep r hr r' cG hw ac1
 ·intro r hr hw;rcases Iy.1 hr with rfl|hr
  ·show E.GB<=((V.setν l b).ν l).1/\_;rw[V.setν_same];exact⟨δ,λi _=>.inl hB⟩
  ·exact gO.so r hr hw
 ·intro r hr lv nq;rcases Iy.1 hr with rfl|hr
  ·simp only[Us,Ai,exists_eq_right] at nq;exact LV.be (Ie _) qS (bj lv nq)
  ·exact LV.be (Ie _) qS (hs r hr lv nq)
 ·intro r hr;rcases Iy.1 hr with rfl|hr
  ·exact .inr rfl
  ·exact .inl ⟨hr,SJ r hr⟩
def AUX(bs:List (Nat×Nat))(outs:List (Nat×List IntKind×PF))(b o:Nat):Prop:=
 ∃p∈outs,b=(bs.getD p.1 (0,0)).1/\(bs.getD p.1 (0,0)).2<=o/\o<(bs.getD p.1 (0,0)).2+p.2.1.length
theorem XA{ks:List IntKind}{xs:List Int}{i:Nat}{v:Value}(h:(AL ks xs)[i]? = some v):∃k x,ks[i]? = some k/\xs[i]? = some x/\v= .int k x:=by
 unfold AL at h;rw[List.getElem?_zipWith] at h;cases hk:ks[i]? with
 |none=>rw[hk] at h;simp at h
 |some k=>
  cases hx:xs[i]? with
  |none=>rw[hk,hx] at h;simp at h
  |some x=>rw[hk,hx] at h;simp at h;exact⟨k,x,rfl,rfl,h.symm⟩
theorem wm {E:En} (L5:∀b o v,E.GC b o=some v->b<E.GB) {V:Vl} {bv:Nat} {ms:List (Option MP)} {ins:List (List Int)} {w w':World}:
  ∀ {outs:List (Nat×List IntKind×PF)} {nb:Nat} {rg υ:List Rg} {wk:World} {D:Nat->Nat->Prop},Xy bv ms nb outs rg=some υ->Oc E rg V wk->Ym bv rg->
  (∀(i:Nat) (p:Nat×List IntKind×PF),outs[i]? = some p->V.ρ (nb+i)=p.2.2 ins)->(∀p∈outs,AO true w' ((ms.map (UI V)).getD p.1 (0,0)) p.2.1 (p.2.2 ins))->
  (∀f b o v,CP f wk b o v->CP true w' b o v\/(CP f w b o v/\¬D b o))->
  ∃wk',Oc E υ V wk'/\Ym bv υ/\DL υ=DL rg/\(∀f b o v,CP f wk' b o v->CP true w' b o v\/(CP f w b o v/\¬(D b o\/AUX (ms.map (UI V)) outs b o)))
 | [],nb,rg,υ,wk,D,h,hm,hs,_,_,hI=>by
  simp only[Xy,Ai] at h;subst h;exact⟨wk,hm,hs,rfl,λf b o v hv=>(hI f b o v hv).imp id λh=>⟨h.1,λhh=>hh.elim h.2 (λ⟨p,hp,_⟩=>by cases hp)⟩⟩
 | (i,ks,f)::r,nb,rg,υ,wk,D,h,hm,hs,hd,ho,hI=>by
  unfold Xy at h;split at h
  ·rename_i m RK;cases hb:(Nat.beq m.n ks.length&&m.wr) with
   |false=>rw[hb] at h;simp at h
   | true =>
    rw[hb] at h;simp only[cond_true] at h;simp only[Bj] at hb;have hn:=Ca hb.1;split at h
    ·rename_i rg1 AD;have hρ:V.ρ nb=f ins:=by simpa using hd 0 _ rfl
     have de:=ho _ Jv;have ph:(ms.map (UI V)).getD i (0,0)=UI V (some m):=by
      simp[List.getD,RK]
     simp only[ph] at de;have hlen:(f ins).length=ks.length:=de.1.1;have Hh:(IC nb ks).map (·.den V)=AL ks (f ins):=TA hρ hlen;have eM:∀c∈IC nb ks,c.ok V:=XB hρ de.1;have ur:=hm.write L5 AD eM;obtain⟨hs1,aaB⟩:=hs.write AD;obtain⟨R,hR,OK,hRw,hRn,-, -⟩:=KT AD;rw[Oi] at hRn;obtain⟨wk',g1,g2,g3,g4⟩:=wm (V:=V) (ms:=ms) (ins:=ins) (w:=w) (w':=w') (D:=λb o=>D b o\/(b=(UI V (some m)).1/\(UI V (some m)).2<=o/\o<(UI V (some m)).2+ks.length)) L5 h ur hs1
      (λj p hp=>by have:=hd (j+1) p (by simpa using hp);rwa [show nb+(j+1)=nb+1+j by omega] at this) (λp hp=>ho p (MN _ hp)) (by
       intro f' b o v hv;by_cases eE:b=(UI V (some m)).1/\(UI V (some m)).2<=o/\o<(UI V (some m)).2+ks.length
       ·left
        obtain⟨rfl,h1,h2⟩:=eE;simp only[UI] at h1 h2 hv de ⊢;obtain⟨j,rfl⟩:∃j,o=(V.ν m.l).2+m.o+j:=⟨o-((V.ν m.l).2+m.o),by omega⟩;have hj:j<ks.length:=by omega
        have hvj:(AL ks (f ins))[j]? = some ((AL ks (f ins))[j]'(by simp[AL];omega)):=Io _;obtain⟨k,x,e1,e2,e3⟩:=XA hvj;have cR:∃u,CP f' wk (V.ν m.l).1 ((V.ν m.l).2+m.o+j) u:=by
         have bj:m.o+j<R.cs.length:=by omega
         obtain⟨u,hu,-⟩:=hm.ov R hR (m.o+j) _ (Io bj);rw[OK,hRw] at hu;exact⟨u,by rw[WZ];exact hu.xT⟩
        rw[Hh] at hv;have aan:=CP.c9 (f:=f') (b:=(V.ν m.l).1) (AL ks (f ins)) wk ((V.ν m.l).2+m.o) j _ hvj cR;have:=hv.inj aan;rw[this,e3];exact de.2 j k x e1 e2
       ·have hold:CP f' wk b o v:=by
         refine CP.ir _ _ _ _ hv ?_;simp only[UI] at eE;simp only[UC,Oi];by_cases we:b=(V.ν m.l).1
         ·right
          have:=λh1 h2=>eE ⟨we,h1,h2⟩
          omega
         ·exact .inl we
        rcases hI f' b o v hold with h|⟨h1,h2⟩
        ·exact .inl h
        ·exact .inr ⟨h1,λhh=>hh.elim h2 eE⟩)
     refine⟨wk',g1,g2,by rw[g3,aaB],λf' b o v hv=>?_⟩;rcases g4 f' b o v hv with h|⟨h1,h2⟩
     ·exact .inl h
     ·refine .inr ⟨h1,λhh=>h2 ?_⟩;rcases hh with hh|⟨p,hp,hq⟩
      ·exact .inl (.inl hh)
      ·rcases G9.1 hp with rfl|hp
       ·left;right
        simp only[ph] at hq;exact hq
       ·exact .inr ⟨p,hp,hq⟩
    ·cases h
  ·cases h
theorem gQ{bv:Nat}{ms:List (Option MP)}:∀ {outs:List (Nat×List IntKind×PF)} {nb:Nat} {rg υ:List Rg},Xy bv ms nb outs rg=some υ->
  (∀r'∈υ,∃r∈rg,r.id=r'.id/\r.cs.length=r'.cs.length)/\(∀p∈outs,∃m,ms[p.1]? = some (some m)/\m.n=p.2.1.length/\m.wr=true/\∃r∈rg,r.id=m.l/\r.wr=true/\m.o+m.n<=r.cs.length)
 | [],nb,rg,υ,h=>by
  simp only[Xy,Ai] at h;subst h;exact⟨λr hr=>⟨r,hr,rfl,rfl⟩,λp hp=>by cases hp⟩
 | (i,ks,f)::r,nb,rg,υ,h=>by
  unfold Xy at h;split at h
  ·rename_i m RK;cases hb:(Nat.beq m.n ks.length&&m.wr) with
   |false=>rw[hb] at h;simp at h
   | true=>
    rw[hb] at h;simp only[cond_true] at h;simp only[Bj] at hb;have hn:=Ca hb.1;split at h
    ·rename_i rg1 AD;obtain⟨h1,h2⟩:=gQ h;obtain⟨R,hR,OK,hRw,hRn,-,rfl⟩:=KT AD;rw[Oi] at hRn;refine⟨λr' cG=>?_,λp hp=>?_⟩
     ·obtain⟨q,hq,e1,e2⟩:=h1 r' cG;obtain⟨q0,hq0,rfl⟩:=Us.1 hq;exact⟨q0,hq0,by rw[<- e1,Nf],by rw[<- e2,Pg]⟩
     ·rcases G9.1 hp with rfl|hp
      ·exact⟨m,RK,hn,hb.2,R,hR,OK,hRw,by omega⟩
      ·obtain⟨m',a1,a2,a3,q,hq,a4,a5,a6⟩:=h2 p hp;obtain⟨q0,hq0,rfl⟩:=Us.1 hq;exact⟨m',a1,a2,a3,q0,hq0,by rw[<- a4,Nf],by rw[<- a5,Yj],by rw[Pg] at a6;exact a6⟩
    ·cases h
  ·cases h
theorem oN{E:En}{bv:Nat}{ins:List (List Int)}{w w':World}(hBw:E.B.heap.size<=w.heap.size)(δ:E.GB<=E.B.heap.size):
  ∀ {fr:List (List IntKind×PF)} {nb lb:Nat} {rg υ:List Rg} {V:Vl} {fb:List (Nat×Nat)},Y9 bv nb lb fr rg=some υ->Oc E rg V w'->Ym bv rg->fb.length=fr.length->
  (∀(i:Nat) (p:List IntKind×PF),fr[i]? = some p->V.ρ (nb+i)=p.2 ins)->(∀b∈fb,w.heap.size<=b.1)->(∀(i j:Nat) (p q:List IntKind×PF) (b c:Nat×Nat),fr[i]? = some p->fr[j]? = some q->fb[i]? = some b->fb[j]? = some c->i≠j->ZH b c p.1.length q.1.length)->
  (∀(j:Nat) (p:List IntKind×PF) (b:Nat×Nat),fr[j]? = some p->fb[j]? = some b->AO true w' b p.1 (p.2 ins))->
  (∀r∈rg,∀(j:Nat) (p:List IntKind×PF) (b:Nat×Nat),fr[j]? = some p->fb[j]? = some b->ZH (V.ν r.id) b r.cs.length p.1.length)->
  ∃V',Oc E υ V' w'/\Ym bv υ/\V'.ρ=V.ρ/\V'.σ=V.σ/\(∀x,Dz x (DL rg)=true->V'.ν x=V.ν x/\Dz x (DL υ)=true)/\(∀(j:Nat) (b:Nat×Nat),fb[j]? = some b->V'.ν (lb+j)=b/\Dz (lb+j) (DL υ)=true)
 | [],nb,lb,rg,υ,V,fb,h,hm,hs,hl,_,_,_,_,_=>by
  simp only[Y9,Ai] at h;subst h;exact⟨V,hm,hs,rfl,rfl,λx hx=>⟨rfl,hx⟩,λj b hb=>by
   have:=(Oa.1 hb).1;simp at hl;subst hl;simp at this⟩
 |(ks,f)::r,nb,lb,rg,υ,V,[],h,hm,hs,hl,_,_,_,_,_=>by simp at hl
 | (ks,f)::r,nb,lb,rg,υ,V,b0::fb,h,hm,hs,hl,hd,Dd,vq,de,hnw=>by
  unfold Y9 at h;split at h
  ·rename_i rg1 h1;have hρ:V.ρ nb=f ins:=by simpa using hd 0 _ rfl
   have sY:=de 0 _ b0 rfl rfl;simp only at sY;have sC:=Dd b0 Jv;have Hh:(IC nb ks).map (·.den V)=AL ks (f ins):=TA hρ sY.1.1;obtain⟨k1,k2,k3,k4,k5,k6⟩:=hm.add hs h1 (b:=b0) (λq hq=>by
     have:=hnw q hq 0 _ b0 rfl rfl;simpa[IC] using this) (by omega) (by omega) (λi c hc=>by
     have hv:(AL ks (f ins))[i]? = some (c.den V):=by rw[<- Hh,Ng,hc];rfl
     obtain⟨k,x,e1,e2,e3⟩:=XA hv;rw[e3];exact sY.2 i k x e1 e2) (XB hρ sY.1)
   have ajD:∀q∈rg,q.id≠lb:=λq hq e=>by
    have:=FQ hq;rw[e,k5] at this;cases this
   obtain⟨V',g1,g2,g3,g4,g5,g6⟩:=oN (E:=E) (w:=w) hBw δ h k1 k2 (by simpa using hl)
    (λi p hp=>by have:=hd (i+1) p (by simpa using hp);rwa [show nb+(i+1)=nb+1+i by omega] at this)
    (λb hb=>Dd b (MN _ hb)) (λi j p q b c hp hq hb hc ue=>vq (i+1) (j+1) p q b c (by simpa using hp) (by simpa using hq) (by simpa using hb) (by simpa using hc) (by omega))
    (λj p b hp hb=>de (j+1) p b (by simpa using hp) (by simpa using hb)) (λq hq j p b hp hb=>by
     rcases k6 q hq with⟨hq,hqe⟩|hq
     ·rw[V.setν_other b0 (ajD q hq)];exact hnw q hq (j+1) p b (by simpa using hp) (by simpa using hb)
     ·subst hq;show ZH ((V.setν lb b0).ν lb) b _ _;rw[V.setν_same];have:=vq 0 (j+1) _ p b0 b rfl (by simpa using hp) rfl (by simpa using hb) (by omega);simpa[IC] using this)
   refine⟨V',g1,g2,g3,g4,λx hx=>?_,λj b hb=>?_⟩
   ·obtain⟨e1,e2⟩:=g5 x (k3 x hx);refine⟨?_,e2⟩;rw[e1,V.setν_other b0 (λe=>by rw[e,k5] at hx;cases hx)]
   ·cases j with
    |zero=>
     simp only[UV,Ai] at hb;subst hb;obtain⟨e1,e2⟩:=g5 lb k4;exact⟨by rw[QO,e1,V.setν_same],by rw[QO];exact e2⟩
    |succ j=>
     have:=g6 j b (by simpa using hb);rwa [show lb+1+j=lb+(j+1) by omega] at this
  ·cases h
end
section
open Go
def AUJ(E:En):Prop:=∀f fe,lk f E.C.T=some fe->(f<1000000->Bv E.P E.GB E.GC (f%10000) fe)/\∀b,OJ (fe.cf b)
structure P5 (E:En):Prop where
 tt:AHA E.P E.C.tt
 gc:∀b o v,E.GC b o=some v->b<E.GB
 gb:E.GB<=E.B.heap.size
 tb:AUJ E
 mx:E.P.follows .mixedOrders=true
 HU:∀(x y c:Int) (w:World),0<=x->0<=y->c=0\/c=1->(callFunc E.C.HU #[.int .u64 x,.int .u64 y,.int .u64 c]).run E.P w=
  .ok (.value (.tuple #[.int .u64 ((x+y+c)%18446744073709551616),.int .u64 ((x+y+c)/18446744073709551616)])) w
 HG:∀(x y c:Int) (w:World),0<=x->0<=y->c=0\/c=1->y<18446744073709551616->(callFunc E.C.HG #[.int .u64 x,.int .u64 y,.int .u64 c]).run E.P w=
  .ok (.value (.tuple #[.int .u64 ((x+18446744073709551616-y-c)%18446744073709551616),.int .u64 (if x<y+c then 1 else 0)])) w
 en:∀f args w,(∃fe,lk f E.C.T=some fe)->f<1000000->f%10000≠E.C.HU->f%10000≠E.C.HG->(callFunc (f%10000) args).run E.P w= .ok (.enter (f%10000) args) w
 eq:∀t ks,lk t E.C.eqs=some ks->∀xs ys:List Int,EP ks xs->EP ks ys->∀(op:BinOp) (x y:Operand) (w:World),
  (eqGuard op t x y (.agg (AL ks xs).toArray) (.agg (AL ks ys).toArray)).run E.P w= .ok () w/\(Op.equal t (.agg (AL ks xs).toArray) (.agg (AL ks ys).toArray)).run E.P w= .ok (xs == ys) w
theorem bG{f:Nat}{cf:Bool}{as:List Hy}{nb:Nat}:∀ {z6:List PR} {k i:Nat} {p:PR},z6[i]? = some p->p ≠ .no->(nb+(k+i),⟨.fn f cf (k+i),as⟩)∈Qr f cf as nb k z6
 | [],k,i,p,h,_=>by simp at h
 |q::r,k,0,p,h,hp=>by
  simp only[UV,Ai] at h;subst h;cases q with
  |no=>exact absurd rfl hp
  |i f=>simp[Qr]
  |l f=>simp[Qr]
 |q::r,k,i+1,p,h,hp=>by
  have:=bG (f:=f) (cf:=cf) (as:=as) (nb:=nb) (k:=k+1) (i:=i) (p:=p) (z6:=r) (by simpa using h) hp;rw[show k+1+i=k+(i+1) by omega] at this;cases q with
  |no=>simpa[Qr] using this
  |i f=>simp only[Qr];exact MN _ this
  |l f=>simp only[Qr];exact MN _ this
theorem VL{T:Tb}{V:Vl}{f:Nat}{cf:Bool}{as:List Hy}{nb:Nat}{fe:FE}(hf:lk f T=some fe)(hd:HX T V (Qr f cf as nb 0 (fe.cf cf).z6)){i:Nat}{p:PR}
  (hp:(fe.cf cf).z6[i]? = some p) (hn:p ≠ .no):V.ρ (nb+i)=p.den (as.map (·.den V.ρ)):=by
 have h1:=bG (f:=f) (cf:=cf) (as:=as) (nb:=nb) (k:=0) hp hn;rw[KN] at h1;have h2:=hd _ h1;simp only[FT.den,NR.den,hf,Az.pr] at h2;rw[h2,List.getD,hp];rfl
theorem oH {ms:List (Option MP)} {lb:Nat} {V:Vl} {ins:List (List Int)} {args:List Value} {fb:List (Nat×Nat)} (hms:∀(i:Nat) (m:MP),ms[i]? = some (some m)->args[i]? = some (m.lv.den V)/\m.lv.ok V)
  (hfb:∀(j:Nat) (b:Nat×Nat),fb[j]? = some b->V.ν (lb+j)=b):
  ∀ {rs:List Pq} {nb:Nat} {cJ:List Value} {tv:List TV},qQ ms nb lb rs=some tv->yJ ins args fb rs cJ->
  (∀(i:Nat) (r:Pq),rs[i]? = some r->r.pr ≠ .no->V.ρ (nb+i)=r.pr.den ins)->(Tq rs=true->∀(i:Nat) (v:Value),cJ[i]? = some v->V.σ (nb+i)=v)->
  tv.map (·.den V)=cJ/\∀t∈tv,t.ok V
 | [],nb,[],tv,h,_,_,_=>by
  simp only[qQ,Ai] at h;subst h;exact⟨rfl,λt h=>by cases h⟩
 | [],nb,v::vs,tv,h,hr,_,_=>by simp[yJ] at hr
 |r::rs,nb,[],tv,h,hr,_,_=>by simp[yJ] at hr
 | r :: rs,nb,v::vs,tv,h,hr,hρ,hσ=>by
  unfold qQ at h;split at h
  ·rename_i t ts h1 h2;simp only[Ai] at h;subst h;obtain⟨sd,Tr⟩:=hr;obtain⟨g1,g2⟩:=oH hms hfb h2 Tr (λi r' cG hn=>by
     have:=hρ (i+1) r' (by simpa using cG) hn;rwa [show nb+(i+1)=nb+1+i by omega] at this) (λhe i v' mL=>by
     have:=hσ (by cases r<;>first|exact he|(simp[Tq];done)|simpa[Tq] using he) (i+1) v' (by simpa using mL)
     rwa [show nb+(i+1)=nb+1+i by omega] at this)
   have h0:=hρ 0 r rfl;rw[QO] at h0;have hd:t.den V=v/\t.ok V:=by
    cases r with
    |int k f=>
     simp only[YH,Ai] at h1;subst h1;have h3:=h0 (by simp[Pq.pr]);simp only[Pq.pr,PR.den] at h3;obtain⟨e1,e2⟩:=sd;simp only[TV.den,LV.den,TV.ok,LV.ok,X.den,h3,Qx];exact⟨e1.symm,e2⟩
    |bool f=>
     simp only[YH,Ai] at h1;subst h1;have h3:=h0 (by simp[Pq.pr]);simp only[Pq.pr,PR.den] at h3;simp only[TV.den,LV.den,TV.ok,LV.ok,X.den,h3,Qx];exact⟨sd.symm,trivial⟩
    | cF i=>
     simp only[YH] at h1;split at h1
     ·rename_i m hm;simp only[Ai] at h1;subst h1;obtain⟨e1,e2⟩:=hms i m hm;refine⟨?_,e2⟩;have:args[i]? = some v:=sd;rw[e1] at this;simpa[TV.den] using this
     ·cases h1
    |kA j=>
     simp only[YH,Ai] at h1;subst h1;obtain⟨b,e1,e2⟩:=sd;refine⟨?_,trivial⟩;simp only[TV.den,LV.den,hfb j b e1,e2,QO]
    |agg ks f=>
     simp only[YH,Ai] at h1;subst h1;have h3:=h0 (by simp[Pq.pr]);simp only[Pq.pr,PR.den] at h3;obtain⟨e1,e2⟩:=sd;refine⟨?_,XB h3 e1⟩;simp only[TV.den,TA h3 e1.1,e2]
    |nil=>
     simp only[YH,Ai] at h1;subst h1;exact⟨Eq.symm sd,trivial⟩
    |ej=>
     simp only[YH,Ai] at h1;subst h1;exact⟨Eq.symm sd,trivial⟩
    | Hp j n c=>
     simp only[YH] at h1;cases hb:Nat.ble n c with
     |false=>rw[hb] at h1;simp at h1
     |true=>
      rw[hb] at h1;simp only[cond_true,Ai] at h1;subst h1;have Kf:=Kv hb;obtain⟨b,e1,e2⟩:=sd;refine⟨?_,?_⟩
      ·simp only[TV.den,LV.den,hfb j b e1,e2,QO,CX.den,X.den,Rh,Nat.sub_zero]
      ·simp only[TV.ok,LV.ok,CX.den,X.den];omega
    | slP i n c=>
     simp only[YH] at h1;split at h1
     ·rename_i m hm;split at h1
      ·rename_i l o nq;cases hb:Nat.ble n c with
       |false=>rw[hb] at h1;cases h1
       |true=>
        rw[hb] at h1;simp only[cond_true,Ai] at h1;subst h1;have Kf:=Kv hb;obtain⟨b,e1,e2⟩:=sd;obtain⟨e3,-⟩:=hms i m hm;rw[e1,nq,LV.cx] at e3;simp only[Ai,Value.pointer.injEq,Addr.mk.injEq,and_true] at e3;refine⟨?_,?_⟩
        ·simp only[TV.den,LV.den,e2,CX.den,X.den,Rh,Nat.sub_zero,e3.1,e3.2]
        ·simp only[TV.ok,LV.ok,CX.den,X.den];omega
      ·cases h1
     ·cases h1
    |LL j n=>
     simp only[YH,Ai] at h1;subst h1;have h4:=hσ rfl 0 v rfl;rw[QO] at h4;obtain⟨b,c,e1,e2,e3⟩:=sd;refine⟨?_,?_⟩
     ·simp only[TV.den,LV.den,hfb j b e1,CX.den,h4,e3,AGU,QO,Rh,Nat.sub_zero]
     ·simp only[TV.ok,LV.ok,CX.den,h4,e3,AGU];omega
    |err=>
     simp only[YH,Ai] at h1;subst h1;have h4:=hσ rfl 0 v rfl;rw[QO] at h4;obtain⟨t',u,e⟩:=sd;exact⟨by simp only[TV.den,LV.den,h4],t',u,by rw[h4,e]⟩
   refine⟨by rw[NM,hd.1,g1],λt' ht'=>?_⟩;rcases G9.1 ht' with rfl|ht'
   ·exact hd.2
   ·exact g2 t' ht'
  ·cases h
theorem wB{s:Az}{i:Nat}{p:Nat×List IntKind×PF}(h:s.outs[i]? = some p):s.z6[i]? = some (.l p.2.2):=by
 have hi:=(Oa.1 h).1;unfold Az.z6;rw[Yt,gZ (by simpa using hi),Ng,h];rfl
theorem gW{s:Az}{i:Nat}{p:List IntKind×PF}(h:s.fresh[i]? = some p):s.z6[s.outs.length+i]? = some (.l p.2):=by
 have hi:=(Oa.1 h).1;unfold Az.z6;rw[Yt,fQ (by simp),gZ (by simp;omega)];simp[h]
theorem xO{s:Az}{i:Nat}{r:Pq}(h:s.ret[i]? = some r):s.z6[s.outs.length+s.fresh.length+i]? = some r.pr:=by
 unfold Az.z6;rw[fQ (by simp)];simp[h]
theorem TJ{GB:Nat}{w:World}:∀ {ps:List Et} {vs:List Value} {xs:List (List Int)} {bs:List (Nat×Nat)},Jg GB w ps vs xs bs->vs.length=ps.length/\xs.length=ps.length/\bs.length=ps.length
 | [],[],[],[],_=>⟨rfl,rfl,rfl⟩
 |p::ps,v::vs,x::xs,b::bs,h=>by
  obtain⟨h1,h2,h3⟩:=TJ h.2;simp[h1,h2,h3]
 | [],_::_,_,_,h=>by simp[Jg] at h
 | [],[],_::_,_,h=>by simp[Jg] at h
 | [],[],[],_::_,h=>by simp[Jg] at h
 |_::_,[],_,_,h=>by simp[Jg] at h
 |_::_,_::_,[],_,h=>by simp[Jg] at h
 |_::_,_::_,_::_,[],h=>by simp[Jg] at h
structure Vw (E:En) (st:St) (V:Vl) (nb bv:Nat) (rg:List Rg) (er:Bool) (V':Vl) (w':World):Prop where
 ρ:V'.ρ=V.ρ
 σ:∀i,(i<nb\/er=false)->V'.σ i=V.σ i
 ν:∀l,Dz l (DL st.rg)=true->V'.ν l=V.ν l/\Dz l (DL rg)=true
 mok:Oc E rg V' w'
 mc:Ym bv rg
section
variable{E:En}(hE:P5 E){st:St}{V:Vl}{w:World}{bv:Nat}(hm:Oc E st.rg V w)(hs:Ym bv st.rg)(hl:∀p∈st.ln,(V.ρ p.1).length=p.2)
include hE hm hs hl
theorem lQ{f:Nat}{cf:Bool}{vs:List SV}{nb lb:Nat}{r:ASO}(h:ym E.C f cf vs nb lb bv st=some r)(hv:∀v∈vs,v.ok V/\v.lt bv (DL st.rg)=true)
  (LO:r.er=false\/(Ym nb st.rg/\∀v∈vs,v.lt nb (DL st.rg)=true))
  (hd:HX E.C.T V r.ds) (ho:ObH E.C.T V r.ob):
  ∃fe as bs,lk f E.C.T=some fe/\Oh st (fe.cf cf).params vs=some as/\Jg E.GB w (fe.cf cf).params (vs.map (·.den V)) (as.1.map (·.den V.ρ)) bs/\Ep (fe.cf cf).params bs/\
   ((fe.cf cf).hp=true->(fe.cf true).pre (as.1.map (·.den V.ρ)))/\
   ∀fb cJ w',Xw E.GC (fe.cf cf) (vs.map (·.den V)) (as.1.map (·.den V.ρ)) bs w fb cJ w'->
    ∃V',Vw E st V nb bv r.rg r.er V' w'/\r.vs.map (·.den V')=cJ/\∀t∈r.vs,t.ok V':=by
 unfold ym at h;split at h
 ·cases h
 rename_i fe CT;simp only at h;split at h
 ·cases h
 rename_i as ms has;cases hb:(Wp st.rg ms&&WB st.rg ms) with
 |false=>rw[hb] at h;simp at h
 |true=>
 rw[hb] at h;simp only[cond_true] at h;simp only[Bj] at hb;split at h
 ·cases h
 rename_i rg1 cY;split at h
 ·cases h
 rename_i rg2 Dd;split at h
 ·cases h
 rename_i tv htv;simp only[Ai] at h;subst h;simp only at hd ho;obtain⟨p1,p2,p3,p4,p5⟩:=Tn hm hl has (λv mL=>(hv v mL).1) hb.2;have ju:=xX hm p2 hb.1 (λx hx=>by
  obtain⟨i,hi,he⟩:=kY hx;have hg:ms[i]? = some (some x):=by rw[Io hi,he]
  exact(p5 i x hg).2)
 refine⟨fe,(as,ms),ms.map (UI V),CT,has,p1,ju,λhhp=>?_,λfb cJ w' hP=>?_⟩
 ·rw[hhp] at ho;have:=ho (.pre f as) (by simp);simpa[I1.den,CT] using this
 have hdo:∀(i:Nat) (p:Nat×List IntKind×PF),(fe.cf cf).outs[i]? = some p->V.ρ (nb+i)=p.2.2 (as.map (·.den V.ρ)):=λi p hp=>by
  have:=VL CT hd (wB hp) (by simp);simpa[PR.den] using this
 have oX:∀(i:Nat) (p:List IntKind×PF),(fe.cf cf).fresh[i]? = some p->V.ρ (nb+(fe.cf cf).outs.length+i)=p.2 (as.map (·.den V.ρ)):=λi p hp=>by
  have:=VL CT hd (gW hp) (by simp);rw[WZ];simpa[PR.den] using this
 have hdr:∀(i:Nat) (r:Pq),(fe.cf cf).ret[i]? = some r->r.pr ≠ .no->V.ρ (nb+(fe.cf cf).outs.length+(fe.cf cf).fresh.length+i)=r.pr.den (as.map (·.den V.ρ)):=λi r hr hn=>by
  have:=VL CT hd (xO hr) hn;rw[show nb+(fe.cf cf).outs.length+(fe.cf cf).fresh.length+i=nb+((fe.cf cf).outs.length+(fe.cf cf).fresh.length+i) by omega];exact this
 let nr:=nb+(fe.cf cf).outs.length+(fe.cf cf).fresh.length
 let V0:Vl:= { V with σ:=λi=>if Tq (fe.cf cf).ret=true/\nr<=i/\i<nr+cJ.length then cJ.getD (i-nr) undef else V.σ i }
 have hσ0:Tq (fe.cf cf).ret=false->∀i,V0.σ i=V.σ i:=λhe i=>if_neg (λh=>by rw[he] at h;exact absurd h.1 (by simp))
 have hσ1:∀i,i<nb->V0.σ i=V.σ i:=λi hi=>if_neg (λh=>by have:=h.2.1;omega)
 obtain⟨n,hn1,US,hn3⟩:∃n,Ym n st.rg/\(∀v∈vs,v.lt n (DL st.rg)=true)/\∀i,i<n->V0.σ i=V.σ i:=by
  rcases LO with he|⟨h1,h2⟩
  ·exact⟨bv,hs,λv mL=>(hv v mL).2,λi _=>hσ0 he i⟩
  ·exact⟨nb,h1,h2,hσ1⟩
 have yW:Ag n (DL st.rg) V V0:=⟨λ_ _=>rfl,hn3,λ_ _=>rfl⟩;have sY:Oc E st.rg V0 w:=hm.ag yW hn1;have hmp:UI V0=UI V:=by funext m;cases m<;>rfl
 obtain⟨wk,k1,k2,k3,k4⟩:=wm (V:=V0) (ins:=as.map (·.den V.ρ)) (w:=w) (w':=w') (D:=λ_ _=>False) hE.gc cY sY hs hdo (by rw[hmp];exact hP.outs) (λf b o v hv=>.inr ⟨hv,λh=>h⟩);rw[hmp] at k4;obtain⟨j1,j2⟩:=gQ cY;have cR:∀f b o v,CP f wk b o v->CP f w' b o v:=λf b o v hv=>by
  rcases k4 f b o v hv with h|⟨h1,h2⟩
  ·exact h.xT
  ·exact hP.an.fk h1 (λhh=>h2 (.inr hh))
 have alh:BD E.B w' E.S:=hm.an.trans' hP.an (λb o sC hS=>by
  obtain⟨p,hp,e1,e2,e3⟩:=hS;obtain⟨m,a1,a2,a3,R,hR,a4,a5,a6⟩:=j2 p hp;have ph:(ms.map (UI V)).getD p.1 (0,0)=UI V (some m):=by simp[List.getD,a1]
  rw[ph] at e1 e2 e3;simp only[UI] at e1 e2 e3;have:=(hm.so R hR a5).2 (o-(V.ν m.l).2) (by omega);rw[a4] at this;rw[show(V.ν m.l).2+(o-(V.ν m.l).2)=o by omega, <- e1] at this;rcases this with h|h
  ·omega
  ·exact h)
 have ur:Oc E rg1 V0 w':=⟨λr hr i c hc=>by
   obtain⟨v,h1,h2⟩:=k1.ov r hr i c hc;exact⟨v,cR _ _ _ _ h1,h2⟩,k1.one,k1.sep,k1.so,alh,hP.gw⟩
 have akV:∀r∈st.rg,r.cs ≠ []->(V.ν r.id).1<w.heap.size:=λr hr cj=>by
  cases cS:r.cs with
  |nil=>exact absurd cS cj
  |cons c uc=>
   obtain⟨v,h1,-⟩:=hm.ov r hr 0 c (by rw[cS];rfl);exact h1.lt
 obtain⟨V1,q1,q2,q3,q4,q5,q6⟩:=oN (E:=E) (w:=w) hm.an.1 hE.gb Dd ur k2 hP.len oX hP.fr hP.fd hP.fresh (λr hr j p b hp hb=>by
  obtain⟨r0,ud,e1,e2⟩:=j1 r hr;have vn:=hP.fr b (MB hb);unfold ZH;cases cS:r.cs with
  |nil=>right;right;right;left;rfl
  |cons c uc=>
   left
   show(V.ν r.id).1≠b.1;have:=akV r0 ud (λe=>by rw[e,cS] at e2;cases e2);rw[e1] at this;omega)
 have Pc:∀x,Dz x (DL st.rg)=true->V1.ν x=V.ν x/\Dz x (DL rg2)=true:=λx hx=>q5 x (by rw[k3];exact hx)
 have gf:Ag n (DL st.rg) V V1:=⟨λi _=>by rw[q3],λi hi=>by rw[q4];exact hn3 i hi,λl ta=>(Pc l ta).1⟩;refine⟨V1,⟨by rw[q3],λi hi=>?_,Pc,q1,q2⟩,?_⟩
 ·rw[q4];exact hi.elim (hσ1 i) (λhe=>hσ0 he i)
 ·refine oH (V:=V1) (ms:=ms) (lb:=lb) (fb:=fb) (args:=vs.map (·.den V)) (ins:=as.map (·.den V.ρ)) (λi m RK=>?_) (λj b hb=>(q6 j b hb).1) htv hP.ret (λi r hr hn=>?_) (λhe i v hvi=>?_)
  ·obtain⟨e1,e2⟩:=p5 i m RK;have bj:=US _ (MB e1);have eM:=(hv _ (MB e1)).1;refine⟨?_,SV.eW gf bj eM⟩;rw[Ng,e1];simp only[UT,Ai];exact(SV.ck gf bj).symm
  ·rw[q3];exact hdr i r hr hn
  ·have hi:=(Oa.1 hvi).1;rw[q4];show(if Tq (fe.cf cf).ret=true/\nr<=nr+i/\nr+i<nr+cJ.length then cJ.getD (nr+i-nr) undef else V.σ (nr+i))=v;rw[if_pos ⟨he,by omega,by omega⟩,Nat.add_sub_cancel_left,List.getD,hvi];rfl
end
end
section
open Go
theorem Vw.same{E:En}{st:St}{V:Vl}{w:World}{nb bv:Nat}{er:Bool}(hm:Oc E st.rg V w)(hs:Ym bv st.rg):Vw E st V nb bv st.rg er V w:=
 ⟨rfl,λ_ _=>rfl,λ_ h=>⟨rfl,h⟩,hm,hs⟩
section
variable{E:En}(hE:P5 E){st:St}{V:Vl}{w:World}(hm:Oc E st.rg V w)(hl:∀p∈st.ln,(V.ρ p.1).length=p.2)
include hE hm hl
theorem Y4 {t:Nat} {v:LV} {nb:Nat} {r:ND} (h:mW E.C t v nb st=some r) (hv:v.ok V) (hd:HX E.C.T V r.ds):
  (Instr.loadAt t (v.den V)).run E.P w= .ok (r.v.den V) w/\r.v.ok V:=by
 unfold mW at h;split at h
 ·rename_i d l o mS;have ha:=TD.pN (hE.tt t d mS) w;have cX:=TD.cW (hE.tt t d mS) w;cases gf:d.agg with
  | true=>
   rw[gf] at h ha;simp only[cond_true] at h;split at h
   ·rename_i cs cS;simp only[Ai] at h;subst h;have ot:=hm.read cS;obtain⟨hlen,-⟩:=Ez cS;refine⟨?_,λc hc=>?_⟩
    ·simp only[LV.cx,Instr.loadAt,Instr.sureAddr,loadVar,Gi,I4,Fb,ha,if_true,cX];have:=run_loadCells_list (P:=E.P) w ⟨(V.ν l).1,(V.ν l).2+o,none⟩ (cs.map (·.den V)) (λj u hu=>by
      rw[Ng,Yg] at hu;obtain⟨c,hc,rfl⟩:=hu;rw[Ce];exact(ot j c hc).1)
     rw[UC,hlen] at this;rw[this];rfl
    ·obtain⟨i,hi,rfl⟩:=kY hc;exact(ot i _ (Io hi)).2
   ·cases h
  | false=>
   rw[gf] at h ha;simp only[cond_false] at h;split at h
   ·rename_i c cS;simp only[Ai] at h;subst h;obtain⟨h1,h2⟩:=hm.read cS 0 c rfl;rw[QO] at h1;refine⟨?_,h2⟩;simp only[LV.cx,Instr.loadAt,Instr.sureAddr,loadVar,Gi,I4,Fb,ha,Qo,if_false,run_load,h1];rfl
   ·cases h
 ·rename_i d l o n s x mS;have ha:=TD.pN (hE.tt t d mS) w;have cX:=TD.cW (hE.tt t d mS) w;obtain⟨ua,hxn⟩:=hv;obtain⟨j,hj⟩:=kC ua;have HT:j<n:=by omega
  split at h
  ·rename_i cs cS;split at h
   ·rename_i k ks xs zv;cases hk:kV k ks with
    |false=>rw[hk] at h;simp at h
    | true=>
     rw[hk] at h;simp only[cond_true] at h;have ot:=hm.read cS;obtain⟨hlen,-⟩:=Ez cS;obtain⟨g1,g2,g3⟩:=J4 zv;have Ax:∀(i:Nat) (k':IntKind),(k::ks)[i]? = some k'->k'=k:=λi k' h'=>by
      rcases G9.1 (MB h') with h|h
      ·exact h
      ·exact UQ hk k' h
     cases gf:d.agg with
     | true=>
      rw[gf] at h ha;simp only[cond_true] at h;cases hb:Nat.beq d.size s with
      |false=>rw[hb] at h;simp at h
      | true=>
       rw[hb] at h;have rK:=Ca hb;simp only[cond_true,Ai] at h;subst h;have h4:=hd _ (NU.2 rfl);simp only[FT.den,NR.den,NM,VW,Hy.gi,GR hl,Qx,aa,d1,hj,Rh] at h4;have hns:j*s+s<=n*s:=by
        have:=Nat.mul_le_mul_right s (show j+1<=n from HT);rw[Nat.add_mul,Nat.one_mul] at this;exact this
       have hl4:(V.ρ nb).length=(List.replicate s k).length:=by
        rw[h4];simp;omega
       have cR:∀i,i<s->∃y,cs[j*s+i]? = some (.int k y)/\(V.ρ nb)[i]? = some (y.den V.ρ):=λi hi=>by
        have ID:j*s+i<cs.length:=by omega
        obtain⟨k',y,e1,e2,e3⟩:=g3 _ _ (Io ID);have:=Ax _ _ e1;subst this;refine⟨y,by rw[Io ID,e3],?_⟩;rw[h4,List.getElem?_take,if_pos hi,List.getElem?_drop,Ng,e2];rfl
       refine⟨?_,XB rfl ⟨hl4,λi k' y gj hy=>?_⟩⟩
       ·simp only[LV.ki,hj,Rh,Instr.loadAt,Instr.sureAddr,loadVar,Gi,I4,Fb,ha,if_true,cX];have:=run_loadCells_list (P:=E.P) w ⟨(V.ν l).1,(V.ν l).2+o+j*s,none⟩ ((IC nb (List.replicate s k)).map (·.den V)) (λi u hu=>by
         rw[Ng,Yg] at hu;obtain⟨c,hc,rfl⟩:=hu;obtain⟨k',e1,e2⟩:=PQ hc;have hi:i<s:=by have:=(Oa.1 e1).1;simpa using this
         have gj:k'=k:=(A6.1 (MB e1)).2;subst gj;obtain⟨y,f1,f2⟩:=cR i hi;have f3:=(ot _ _ f1).1;rw[Ce,show(V.ν l).2+o+j*s+i=(V.ν l).2+o+(j*s+i) by omega,f3,e2];simp[LV.den,X.den,List.getD,f2])
        rw[UC,Oi,Rp] at this;rw[rK,this];rfl
       ·have hi:i<s:=by have:=(Oa.1 gj).1;simpa using this
        have nB:k'=k:=(A6.1 (MB gj)).2;subst nB;obtain⟨z,f1,f2⟩:=cR i hi;rw[hy] at f2;simp only[Ai] at f2;subst f2;exact(ot _ _ f1).2
     | false=>
      rw[gf] at h ha;simp only[cond_false] at h;cases hb:Nat.beq s 1 with
      |false=>rw[hb] at h;simp at h
      | true=>
       rw[hb] at h;have rK:=Ca hb;subst rK;simp only[cond_true,Ai] at h;subst h;have h4:=hd _ (NU.2 rfl);simp only[FT.den,NR.den,NM,VW,Hy.gi,GR hl,Qx,aa,d1,hj,Rh] at h4;have ID:j<cs.length:=by omega
       obtain⟨k',y,e1,e2,e3⟩:=g3 _ _ (Io ID);have:=Ax _ _ e1;subst this;have h5:X.den V.ρ (.v nb 0)=y.den V.ρ:=by
        show(V.ρ nb).getD 0 0=_;rw[h4];simp[List.getD,e2]
       obtain⟨f1,f2⟩:=ot j _ (by rw[Io ID,e3]);refine⟨?_,by simp only[Gq,SV.ok,TV.ok,LV.ok,h5];exact f2⟩;simp only[LV.ki,hj,Rh,Nat.mul_one,Instr.loadAt,Instr.sureAddr,loadVar,Gi,I4,Fb,ha,Qo,if_false,run_load,f1];simp only[Gq,SV.aE,TV.aq,LV.cP,h5]
   ·cases h
  ·cases h
 ·cases h
end
section
variable{E:En}(hE:P5 E){st:St}{V:Vl}{w:World}{bv:Nat}(hm:Oc E st.rg V w)(hs:Ym bv st.rg)(hl:∀p∈st.ln,(V.ρ p.1).length=p.2)
include hE hm hs hl
theorem Vy{l o:Nat}{vs:List LV}{rg:List Rg}{nb:Nat}(h:Nh bv st.rg l o vs=some rg)(eM:∀v∈vs,v.ok V):
  (storeCells ⟨(V.ν l).1,(V.ν l).2+o,none⟩ (vs.map (·.den V))).run E.P w= .ok () (setCells w (V.ν l).1 ((V.ν l).2+o) (vs.map (·.den V)))/\
   Vw E st V nb bv rg false V (setCells w (V.ν l).1 ((V.ν l).2+o) (vs.map (·.den V))):=by
 have _:=hl;obtain⟨HE,hid⟩:=hs.write h;refine⟨?_,rfl,λ_ _=>rfl,λx hx=>⟨rfl,by rw[hid];exact hx⟩,hm.write hE.gc h eM,HE⟩;obtain⟨R,hR,rfl,lB,hle,-, -⟩:=KT h;have:=JS (P:=E.P) (V.ν R.id).1 ((V.ν R.id).2+o) (vs.map (·.den V)) 0 w (λv hv=>by
  obtain⟨c,hc,rfl⟩:=Us.1 hv;exact LV.one (eM c hc)) (λj hj=>by
  rw[UC] at hj;obtain⟨u,hu,-⟩:=hm.ov R hR (o+j) _ (Io (by omega));rw[lB] at hu;exact⟨u,by rw[QO,WZ];exact hu⟩)
 rw[QO] at this;exact this
theorem AA0 {t:Nat} {a:LV} {v:TV} {nb:Nat} {m:ZW} (h:uh E.C t a v nb bv st=some m) (ha:a.ok V) (hv:v.ok V) (hd:HX E.C.T V m.o.ds):
  ∃w',(Instr.storeAt t (a.den V) (v.den V)).run E.P w= .ok () w'/\Vw E st V nb bv m.rg m.er V w'/\m.o.v= .nj []:=by
 unfold uh at h;split at h
 ·rename_i d l o mS;have cX:=TD.cW (hE.tt t d mS) w;cases hb:Nat.beq v.cells.length d.size with
  |false=>rw[hb] at h;simp at h
  | true=>
   rw[hb] at h;have rK:=Ca hb;simp only[cond_true] at h;split at h
   ·rename_i rg oT;simp only[Ai] at h;subst h;obtain⟨h1,h2⟩:=Vy hE hm hs hl (nb:=nb) oT (TV.pS hv);refine⟨_,?_,h2,rfl⟩;have GO:=TV.nn hv;have cS:(v.den V).cells.size=d.size:=by rw[<- Array.length_toList,GO,UC];exact rK
    simp only[LV.cx,Instr.storeAt,Instr.sureAddr,storeVar,Gi,I4,Fb,cX,cS,ne_eq,not_true,if_false,GO];exact h1
   ·cases h
 ·rename_i d l o n s x mS;have cX:=TD.cW (hE.tt t d mS) w;obtain⟨ua,hxn⟩:=ha;obtain⟨j,hj⟩:=kC ua;have HT:j<n:=by omega
  split at h
  ·rename_i k y;cases hb:(Nat.beq d.size 1&&Nat.beq s 1) with
   |false=>rw[hb] at h;simp at h
   | true =>
    rw[hb] at h;simp only[Bj] at hb;have rK:=Ca hb.1;have hs1:=Ca hb.2;subst hs1;simp only[cond_true] at h;split at h
    ·rename_i cs cS;split at h
     ·rename_i ks xs zv;cases hk:kV k ks with
      |false=>rw[hk] at h;simp at h
      | true =>
       rw[hk] at h;simp only[cond_true] at h;split at h
       ·rename_i rg oT;simp only[Ai] at h;subst h;have ot:=hm.read cS;obtain⟨hlen,R,hR,OK,hRn,hRc⟩:=Ez cS;obtain⟨g1,g2,g3⟩:=J4 zv;have h4:=hd _ (NU.2 rfl);simp only[FT.den,NR.den,NM,VW,Hy.gi,GR hl,Qx,aa,d1,hj,Rh] at h4;have hl4:(V.ρ nb).length=ks.length:=by rw[h4];simp;omega
        have hky:IJ k (y.den V.ρ):=hv;have hold:∀(i:Nat) (k':IntKind) (z:Int),ks[i]? = some k'->(V.ρ nb)[i]? = some z->k'=k/\IJ k z/\(i≠j->∃c,cs[i]? = some c/\c.den V= .int k z)/\(i=j->z=y.den V.ρ):=λi k' z gj hz=>by
         have Ax:=UQ hk k' (MB gj);subst Ax;have hi:i<cs.length:=by have:=(Oa.1 gj).1;omega
         obtain⟨k2,x2,e1,e2,e3⟩:=g3 i _ (Io hi);rw[gj] at e1;cases e1;have hc:cs[i]? = some (.int k' x2):=by rw[Io hi,e3]
         rw[h4,List.getElem?_set] at hz;by_cases ue:j=i
         ·subst ue;rw[if_pos rfl] at hz;split at hz
          ·simp only[Ai] at hz;subst hz;exact⟨rfl,hky,λh=>absurd rfl h,λ_=>rfl⟩
          ·cases hz
         ·rw[if_neg ue,Ng,e2] at hz;simp only[UT,Ai] at hz;subst hz;exact⟨rfl,(ot i _ hc).2,λ_=>⟨_,hc,rfl⟩,λh=>absurd h.symm ue⟩
        have ajK:EP ks (V.ρ nb):=⟨hl4,λi k' z gj hz=>by
         obtain⟨e1,e2,-⟩:=hold i k' z gj hz;rw[e1];exact e2⟩
        obtain⟨h1,h2⟩:=Vy hE hm hs hl (nb:=nb) oT (XB rfl ajK);have hwR:R.wr=true:=by
         obtain⟨R',hR',ta,hw',-, -, -⟩:=KT oT;rw[<- hm.one R' hR' R hR (ta.trans OK.symm)];exact hw'
        obtain⟨u,hu,-⟩:=hm.ov R hR (o+j) _ (Io (by omega));rw[hwR,OK, <- WZ] at hu;have vx:=JS (P:=E.P) (V.ν l).1 ((V.ν l).2+o+j) [.int k (y.den V.ρ)] 0 w (λv hv=>by
         simp only[NU] at hv;subst hv;rfl) (λi hi=>by
         simp only[List.length_singleton] at hi;have:i=0:=by omega
         subst this;exact⟨u,by simpa using hu⟩)
        rw[QO] at vx;refine⟨setCells w (V.ν l).1 ((V.ν l).2+o+j) [.int k (y.den V.ρ)],?_,?_,rfl⟩
        ·simp only[LV.ki,hj,Rh,Nat.mul_one,Instr.storeAt,Instr.sureAddr,storeVar,Gi,I4,Fb,cX,rK];simp only[TV.aq,LV.cP,Value.cells];exact vx
        ·
         have ya:∀f b' o' v',CP f (setCells w (V.ν l).1 ((V.ν l).2+o) ((IC nb ks).map (·.den V))) b' o' v'->CP f (setCells w (V.ν l).1 ((V.ν l).2+o+j) [.int k (y.den V.ρ)]) b' o' v':=by
          intro f b' o' v' j8;have hvl:(IC nb ks).map (·.den V)=AL ks (V.ρ nb):=TA rfl hl4;rw[hvl] at j8;have hil:(AL ks (V.ρ nb)).length=ks.length:=by simp[AL,hl4]
          by_cases eE:b'=(V.ν l).1/\(V.ν l).2+o<=o'/\o'<(V.ν l).2+o+ks.length
          ·obtain⟨rfl,q1,q2⟩:=eE;obtain⟨i,rfl⟩:∃i,o'=(V.ν l).2+o+i:=⟨o'-((V.ν l).2+o),by omega⟩;have hi:i<ks.length:=by omega
           have hvi:(AL ks (V.ρ nb))[i]? = some ((AL ks (V.ρ nb))[i]'(by omega)):=Io _;obtain⟨k2,z,e1,e2,e3⟩:=XA hvi;obtain⟨f1,-,f3,f4⟩:=hold i k2 z e1 e2;subst f1;obtain⟨u2,rI,-⟩:=hm.ov R hR (o+i) _ (Io (by omega));rw[hwR,OK, <- WZ] at rI;have aeM:=CP.c9 (f:=f) (b:=(V.ν l).1) (AL ks (V.ρ nb)) w ((V.ν l).2+o) i _ hvi ⟨u2,rI.xT⟩;rw[j8.inj aeM,e3];by_cases ue:i=j
           ·subst ue;rw[f4 rfl];have:=CP.c9 (f:=f) (b:=(V.ν l).1) [.int k2 (y.den V.ρ)] w ((V.ν l).2+o+i) 0 _ rfl ⟨u2,by simpa using rI.xT⟩;simpa using this
           ·obtain⟨c,hc,GO⟩:=f3 ue;refine CP.ct _ _ _ _ ?_ (by simp only[List.length_singleton];omega);have hrc:=(ot i c hc).1;have:u2= .int k2 z:=by
             have:=rI.1.symm.trans hrc;rw[GO] at this;simpa using this
            rw[<- this];exact rI.xT
          ·have acS:=CP.ir _ _ _ _ j8 (by
            rw[hil];by_cases we:b'=(V.ν l).1
            ·right
             have:=λh1 h2=>eE ⟨we,h1,h2⟩
             omega
            ·exact .inl we)
           refine CP.ct _ _ _ _ acS ?_;simp only[List.length_singleton];by_cases we:b'=(V.ν l).1
           ·right
            have:=λh1 h2=>eE ⟨we,h1,h2⟩
            omega
           ·exact .inl we
         have μ:=hm.so R hR hwR;rw[OK] at μ;refine⟨rfl,λ_ _=>rfl,h2.ν,⟨λr hr i c hc=>?_,h2.mok.one,h2.mok.sep,h2.mok.so,?_,?_⟩,h2.mc⟩
         ·obtain⟨v',p1,p2⟩:=h2.mok.ov r hr i c hc;exact⟨v',ya _ _ _ _ p1,p2⟩
         ·refine BD.setCells _ _ _ hm.an λi hi=>?_
          simp only[List.length_singleton] at hi;have:i=0:=by omega
          subst this;rw[QO,WZ];exact μ.2 (o+j) (by omega)
         ·intro b' o' v' mL;have vn:=hE.gc b' o' v' mL;have h0:CP false w b' o' v':=⟨hm.gw b' o' v' mL,λh=>by cases h⟩;exact(CP.ct _ _ _ _ h0 (.inl (by have:=μ.1;omega))).1
       ·cases h
     ·cases h
    ·cases h
  ·cases h
 ·cases h
theorem AML{l:Nat}{cs:List LV}{rg:List Rg}{nb:Nat}(h:dV bv st.rg l cs=some rg)(eM:∀c∈cs,c.ok V)(elem:Nat):
  ∃w',(newRow elem (cs.map (·.den V)).toArray).run E.P w= .ok ⟨w.heap.size,0,none⟩ w'/\Vw E st V nb bv rg false (V.setν l (w.heap.size,0)) w'/\(V.setν l (w.heap.size,0)).ν l=(w.heap.size,0)/\Dz l (DL rg)=true:=by
 have _:=hl
 let w':World:= { w with heap:=w.heap.push (.cells (cs.map (·.den V)).toArray elem) }
 have hp:w'.heap=w.heap.push (.cells (cs.map (·.den V)).toArray elem (0,0)):=rfl;have gO:Oc E st.rg V w':=⟨λr hr i c hc=>by
   obtain⟨v,h1,h2⟩:=hm.ov r hr i c hc;exact⟨v,h1.push hp,h2⟩,hm.one,hm.sep,hm.so,hm.an.push hp rfl rfl rfl,λb o v hv=>by
   have h0:CP false w b o v:=⟨hm.gw b o v hv,λh=>by cases h⟩;exact(h0.push hp).1⟩
 have hB:=hm.an.1;have hG:=hE.gb;obtain⟨k1,k2,k3,k4,k5,k6⟩:=gO.add hs h (b:=(w.heap.size,0)) (λr hr=>by
   unfold ZH;cases cS:r.cs with
   |nil=>right;right;right;left;rfl
   |cons c uc=>
    obtain⟨v,h1,-⟩:=hm.ov r hr 0 c (by rw[cS];rfl);have:=h1.lt
    left
    show _≠w.heap.size;omega) hB (by show E.GB<=w.heap.size;omega) (λi c hc=>by
   refine CP.fh (c:=(cs.map (·.den V)).toArray) (e:=elem) (lo:=0) (hi:=0) ?_ ?_ (λ_=>by omega)
   ·rw[hp];simp
   ·simp[hc]) eM
 refine⟨w',rfl,⟨rfl,λ_ _=>rfl,λx hx=>⟨V.setν_other _ (λe=>by rw[e,k5] at hx;cases hx),k3 x hx⟩,k1,k2⟩,V.setν_same _ _,k4⟩
end
end
end Go.Proofs.YtkbfdaoohhmgoaaGreatDoor
