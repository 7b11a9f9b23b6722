/- The symbolic executor, part 1: what it computes (symbolic values, states, one operation). No theorem here. -/
import Derived.Orders
import Derived.KernelRfl
import Derived.Laws.Cells
import Derived.Laws.Externs
namespace Go.Proofs.YtloibefkijfdlaaGreatDoor
section
open Go
theorem IB:type_of% @Result.andThen_ok:=@Result.andThen_ok
theorem G9:type_of% @Nat.le_trans:=@Nat.le_trans
theorem K6:type_of% @List.length_append:=@List.length_append
theorem Pi:type_of% @List.getElem?_eq_some_iff:=@List.getElem?_eq_some_iff
theorem I1:type_of% @Sem.run_bind:=@Sem.run_bind
theorem Ll:type_of% @List.all_eq_true:=@List.all_eq_true
theorem Nc:type_of% @List.mem_singleton:=@List.mem_singleton
theorem J4:type_of% @List.mem_cons:=@List.mem_cons
theorem JP:type_of% @Nat.le_refl:=@Nat.le_refl
theorem Ti:type_of% @Array.getD_eq_getD_getElem?:=@Array.getD_eq_getD_getElem?
theorem OX:type_of% @List.getElem?_map:=@List.getElem?_map
theorem KD:type_of% @Sem.run_pure:=@Sem.run_pure
theorem Oq:type_of% @List.length_cons:=@List.length_cons
theorem Qu:type_of% @List.getD_cons_zero:=@List.getD_cons_zero
theorem SX:type_of% @List.length_replicate:=@List.length_replicate
theorem NT:type_of% @List.map_cons:=@List.map_cons
theorem Rc:type_of% @Bool.false_eq_true:=@Bool.false_eq_true
theorem VT:type_of% @List.getElem?_cons_zero:=@List.getElem?_cons_zero
theorem NU:type_of% @Nat.zero_add:=@Nat.zero_add
theorem TJ:type_of% @Int.toNat_natCast:=@Int.toNat_natCast
theorem SY:type_of% @Option.some.inj:=@Option.some.inj
theorem Ya:type_of% @Option.map_eq_some_iff:=@Option.map_eq_some_iff
theorem TL:type_of% @List.append_nil:=@List.append_nil
theorem cu:type_of% @Int.eq_ofNat_of_zero_le:=@Int.eq_ofNat_of_zero_le
theorem Q3:type_of% @Nat.add_zero:=@Nat.add_zero
theorem gI:type_of% @List.getElem?_append_left:=@List.getElem?_append_left
theorem QL:type_of% @congrArg:=@congrArg
theorem mH:type_of% @List.getElem?_append_right:=@List.getElem?_append_right
theorem Vj:type_of% @List.length_map:=@List.length_map
theorem Sk:type_of% @Int.le_trans:=@Int.le_trans
theorem YY:type_of% @List.append_assoc:=@List.append_assoc
theorem Ze:type_of% @List.getD_cons_succ:=@List.getD_cons_succ
theorem Xa:type_of% @Option.map_some:=@Option.map_some
theorem Y3:type_of% @List.length_take:=@List.length_take
theorem fU:type_of% @List.map_congr_left:=@List.map_congr_left
theorem VI:type_of% @List.mem_map:=@List.mem_map
theorem Vi:type_of% @List.map_nil:=@List.map_nil
theorem XN:type_of% @Nat.add_assoc:=@Nat.add_assoc
theorem Xr:type_of% @Int.mul_assoc:=@Int.mul_assoc
theorem lu:type_of% @List.getElem_of_mem:=@List.getElem_of_mem
theorem vR:type_of% @Array.getElem?_eq_none:=@Array.getElem?_eq_none
theorem fD:type_of% @List.mem_range:=@List.mem_range
theorem vH:type_of% @List.mem_append_right:=@List.mem_append_right
theorem iQ:type_of% @List.mem_append:=@List.mem_append
theorem Y6:type_of% @Int.mul_comm:=@Int.mul_comm
theorem zbv:type_of% @List.getElem?_cons_succ:=@List.getElem?_cons_succ
theorem zh:type_of% @Nat.ble_eq_true_of_le:=@Nat.ble_eq_true_of_le
theorem zbx:type_of% @List.eq_nil_of_length_eq_zero:=@List.eq_nil_of_length_eq_zero
theorem zby:type_of% @List.getElem?_replicate:=@List.getElem?_replicate
theorem nO:type_of% @List.length_drop:=@List.length_drop
theorem qj:type_of% @List.getElem_mem:=@List.getElem_mem
theorem yP:type_of% @Int.natCast_nonneg:=@Int.natCast_nonneg
theorem zcc:type_of% @List.mem_replicate:=@List.mem_replicate
theorem zcd:type_of% @Int.emod_eq_of_lt:=@Int.emod_eq_of_lt
theorem nG:type_of% @Nat.lt_or_ge:=@Nat.lt_or_ge
theorem lw:type_of% @Int.le_refl:=@Int.le_refl
theorem zcg:type_of% @Nat.lt_of_lt_of_le:=@Nat.lt_of_lt_of_le
theorem r9:type_of% @Nat.pow_succ:=@Nat.pow_succ
theorem qC:type_of% @Int.mul_add:=@Int.mul_add
theorem zcj:type_of% @List.length_nil:=@List.length_nil
theorem wP:type_of% @Int.add_zero:=@Int.add_zero
theorem sI:type_of% @Int.add_mul:=@Int.add_mul
theorem zcm:type_of% @List.cons_append:=@List.cons_append
theorem zcn:type_of% @List.nil_append:=@List.nil_append
theorem zco:type_of% @List.take_of_length_le:=@List.take_of_length_le
theorem zcp:type_of% @Nat.mul_comm:=@Nat.mul_comm
theorem zcq:type_of% @Int.pow_succ:=@Int.pow_succ
theorem zcr:type_of% @Int.zero_mul:=@Int.zero_mul
theorem zcs:type_of% @List.mem_of_mem_drop:=@List.mem_of_mem_drop
theorem zct:type_of% @Int.emod_emod_of_dvd:=@Int.emod_emod_of_dvd
theorem zcu:type_of% @Nat.sub_self:=@Nat.sub_self
theorem zcv:type_of% @List.take_zero:=@List.take_zero
theorem zcw:type_of% @Int.one_mul:=@Int.one_mul
theorem zcx:type_of% @Int.zero_add:=@Int.zero_add
theorem zcy:type_of% @Nat.mod_lt:=@Nat.mod_lt
theorem zcz:type_of% @Int.mul_one:=@Int.mul_one
theorem zda:type_of% @List.drop_zero:=@List.drop_zero
universe u
theorem Am {α : Type u} (a b : α) : (some a = some b) = (a = b) := Option.some.injEq a b
theorem CL {n m : Nat} (h : Nat.beq n m = true) : n = m := Nat.eq_of_beq_eq_true h
theorem Bd (a b : Bool) : ((a && b) = true) = (a = true ∧ b = true) := Bool.and_eq_true a b
theorem Na {n m : Nat} (h : Nat.ble n m = true) : n ≤ m := Nat.le_of_ble_eq_true h
theorem Jo {α : Type u} {l : List α} {i : Nat} (h : i < l.length) : l[i]? = some l[i] := List.getElem?_eq_getElem h
theorem LA {α : Type u} {a : α} {l : List α} : a ∈ a :: l := List.mem_cons_self
theorem MQ {α : Type u} (y : α) {a : α} {l : List α} (h : a ∈ l) : a ∈ y :: l := List.mem_cons_of_mem y h
theorem OZ {α : Type u} {a : α} {l : List α} {i : Nat} (h : l[i]? = some a) : a ∈ l := List.mem_of_getElem? h
def lk{α:Type}(t:Nat):List (Nat×α)→Option α
 | []=>none
 |(k,v)::r=>bif Nat.beq k t then some v else lk t r
def VG{α:Type}:List α→Nat→List α→List α
 | [],_,_=>[]
 |c::cs,0,[]=>c::cs
 |_::cs,0,v::vs=>v::VG cs 0 vs
 |c::cs,o+1,vs=>c::VG cs o vs
def JD(a b:Int):Bool:=match a,b with
 | .ofNat m,.ofNat n=>Nat.beq m n
 | .negSucc m,.negSucc n=>Nat.beq m n
 |_,_=>false
def Po{α:Type}(f:α→α→Bool):List α→List α→Bool
 | [],[]=>true
 |a::as,b::bs=>f a b&&Po f as bs
 |_,_=>false
inductive X where
 |lit (n:Int)
 |v (i k:Nat)
abbrev Bl:=Nat→List Int
def X.den(ρ:Bl):X→Int
 | .lit n=>n
 | .v i k=>(ρ i).getD k 0
def X.lt(nv:Nat):X→Bool
 | .lit _=>true
 | .v i _=>Nat.blt i nv
def X.beq:X→X→Bool
 | .lit a,.lit b=>JD a b
 | .v i k,.v j m=>Nat.beq i j&&Nat.beq k m
 |_,_=>false
structure Vl where
 ρ:Bl
 ν:Nat→Nat×Nat
 σ:Nat→Value
inductive CX where
 |n (x:X)
 |s (i:Nat)
def AII:Value→Nat
 | .slice _ _ c=>c
 |_=>0
def CX.den(V:Vl):CX→Int
 | .n x=>x.den V.ρ
 | .s i=>((AII (V.σ i):Nat):Int)
def CX.lt(nv:Nat):CX→Bool
 | .n x=>x.lt nv
 | .s i=>Nat.blt i nv
def CX.beq:CX→CX→Bool
 | .n a,.n b=>a.beq b
 | .s a,.s b=>Nat.beq a b
 |_,_=>false
def zn(ρ:Bl)(x:X):UInt8:=UInt8.ofNat (x.den ρ).toNat
inductive LV where
 |int (k:IntKind) (x:X)
 |bool (x:X)
 |ptr (l o:Nat)
 |nil
 |sl (l o n:Nat) (c:CX) (d:Nat)
 |se (l o s:Nat) (c:CX) (d a:Nat)
 |str (xs:List X)
 |nsl
 |nilI
 |val (v:Value)
 |opq (i:Nat)
 |err (i:Nat)
 |pd (l o n s:Nat) (x:X)
 |slm (l o n i:Nat)
def LV.den(V:Vl):LV→Value
 | .int k x=>.int k (x.den V.ρ)
 | .bool x=>.bool (x.den V.ρ != 0)
 | .ptr l o=>.pointer (some ⟨(V.ν l).1,(V.ν l).2+o,none⟩)
 | .nil=>.pointer none
 | .sl l o n c d=>.slice (some ⟨(V.ν l).1,(V.ν l).2+o,none⟩) n ((c.den V).toNat-d)
 | .se l o s c d a=>.slice (some ⟨(V.ν l).1,(V.ν l).2+(if (c.den V).toNat-d=a then o else o+a*s),none⟩) 0 ((c.den V).toNat-d-a)
 | .str xs=>.string ⟨(xs.map (zn V.ρ)).toArray⟩
 | .nsl=>.slice none 0 0
 | .nilI=>.nilIface
 | .val v=>v
 | .opq i=>V.σ i
 | .err i=>V.σ i
 | .pd l o _ s x=>.pointer (some ⟨(V.ν l).1,(V.ν l).2+o+(x.den V.ρ).toNat*s,none⟩)
 | .slm _ _ _ i=>V.σ i
def JC(k:IntKind)(n:Int):Prop:=k.min≤n∧n≤k.max
def bR(k:IntKind)(n:Int):Bool:=decide (k.min≤n)&&decide (n≤k.max)
def LV.ok(V:Vl):LV→Prop
 | .int k x=>JC k (x.den V.ρ)
 | .sl _ _ n c d=>((n+d:Nat):Int)≤c.den V
 | .se _ _ _ c d a=>((a+d:Nat):Int)≤c.den V
 | .str xs=>∀ x∈xs,JC .u8 (x.den V.ρ)
 | .err i=>∃ t v,V.σ i= .iface t v
 | .val v=>v.oneCell'=true
 | .opq i=>(V.σ i).oneCell'=true
 | .pd _ _ n _ x=>0≤x.den V.ρ∧x.den V.ρ<n
 | .slm l o n i=>∃ m c,V.σ i= .slice (some ⟨(V.ν l).1,(V.ν l).2+o,none⟩) m c∧n≤m
 |_=>True
def EH(l:Nat):List Nat→Bool
 | []=>false
 |i::r=>Nat.beq i l||EH l r
def LV.lt(nv:Nat)(ids:List Nat):LV→Bool
 | .int _ x=>x.lt nv
 | .bool x=>x.lt nv
 | .ptr l _=>EH l ids
 | .sl l _ _ c _=>EH l ids&&c.lt nv
 | .se l _ _ c _ _=>EH l ids&&c.lt nv
 | .str xs=>xs.all (·.lt nv)
 | .pd l _ _ _ x=>EH l ids&&x.lt nv
 | .slm l _ _ i=>EH l ids&&Nat.blt i nv
 | .opq i=>Nat.blt i nv
 | .err i=>Nat.blt i nv
 |_=>true
def ikN:IntKind→Nat
 | .i8=>0 | .i16=>1 | .i32=>2 | .i64=>3 | .u8=>4 | .u16=>5 | .u32=>6 | .u64=>7
def ui(a b:IntKind):Bool:=Nat.beq (ikN a) (ikN b)
def LV.beq:LV→LV→Bool
 | .int k x,.int k' x'=>ui k k'&&x.beq x'
 | .bool x,.bool x'=>x.beq x'
 | .ptr l o,.ptr l' o'=>Nat.beq l l'&&Nat.beq o o'
 | .nil,.nil=>true
 | .sl l o n c d,.sl l' o' n' c' d'=>Nat.beq l l'&&Nat.beq o o'&&Nat.beq n n'&&c.beq c'&&Nat.beq d d'
 | .se l o s c d a,.se l' o' s' c' d' a'=>Nat.beq l l'&&Nat.beq o o'&&Nat.beq s s'&&c.beq c'&&Nat.beq d d'&&Nat.beq a a'
 | .str xs,.str ys=>Po X.beq xs ys
 | .nsl,.nsl=>true
 | .nilI,.nilI=>true
 | .opq i,.opq j=>Nat.beq i j
 | .err i,.err j=>Nat.beq i j
 | .pd l o n s x,.pd l' o' n' s' x'=>Nat.beq l l'&&Nat.beq o o'&&Nat.beq n n'&&Nat.beq s s'&&x.beq x'
 | .slm l o n i,.slm l' o' n' i'=>Nat.beq l l'&&Nat.beq o o'&&Nat.beq n n'&&Nat.beq i i'
 |_,_=>false
inductive TV where
 |l (v:LV)
 |a (vs:List LV)
def TV.den(V:Vl):TV→Value
 | .l v=>v.den V
 | .a vs=>.agg (vs.map (·.den V)).toArray
def TV.ok(V:Vl):TV→Prop
 | .l v=>v.ok V
 | .a vs=>∀ v∈vs,v.ok V
def TV.lt(nv:Nat)(ids:List Nat):TV→Bool
 | .l v=>v.lt nv ids
 | .a vs=>vs.all (·.lt nv ids)
def TV.beq:TV→TV→Bool
 | .l v,.l v'=>v.beq v'
 | .a vs,.a vs'=>Po LV.beq vs vs'
 |_,_=>false
def TV.cells:TV→List LV
 | .l v=>[v]
 | .a vs=>vs
inductive SV where
 |t (v:TV)
 |tup (vs:List TV)
 |any (i:Nat)
def SV.den(V:Vl):SV→Value
 | .t v=>v.den V
 | .tup vs=>.tuple (vs.map (·.den V)).toArray
 | .any i=>V.σ i
def SV.ok(V:Vl):SV→Prop
 | .t v=>v.ok V
 | .tup vs=>∀ v∈vs,v.ok V
 | .any _=>True
def SV.lt(nv:Nat)(ids:List Nat):SV→Bool
 | .t v=>v.lt nv ids
 | .tup vs=>vs.all (·.lt nv ids)
 | .any i=>Nat.blt i nv
def SV.beq:SV→SV→Bool
 | .t v,.t v'=>v.beq v'
 | .tup vs,.tup vs'=>Po TV.beq vs vs'
 | .any i,.any j=>Nat.beq i j
 |_,_=>false
def LV.ofV:Value→Option LV
 | .int k n=>bif bR k n then some (.int k (.lit n)) else none
 | .bool b=>some (.bool (.lit (cond b 1 0)))
 | .pointer none=>some .nil
 | .slice none 0 0=>some .nsl
 | .nilIface=>some .nilI
 | .string s=>some (.val (.string s))
 |_=>none
def qy:List Value→Option (List LV)
 | []=>some []
 | v::vs=>match LV.ofV v with
  |none=>none
  |some x=>match qy vs with
   |none=>none
   |some xs=>some (x::xs)
def SV.ofV:Value→Option SV
 | .agg cs=>match qy cs.toList with
  |some vs=>some (.t (.a vs))
  |none=>none
 |v=>match LV.ofV v with
  |some x=>some (.t (.l x))
  |none=>none
structure Rg where
 id:Nat
 grp:Nat
 wr:Bool
 cs:List (Option LV)
structure St where
 lc:List (Nat×SV)
 tm:List (Nat×SV)
 rg:List Rg
 gl:List (Nat×Nat)
 ln:List (Nat×Nat)
 nt:Nat
 nv:Nat
 nl:Nat
def kI(l:Nat):List Rg→Option Rg
 | []=>none
 |r::rs=>bif Nat.beq r.id l then some r else kI l rs
def Si{α:Type}:List (Option α)→Option (List α)
 | []=>some []
 |none::_=>none
 |some x::xs=>match Si xs with
  |some ys=>some (x::ys)
  |none=>none
def Kz(rg:List Rg)(l o n:Nat):Option (List LV):=
 match kI l rg with
 |none=>none
 |some r=>bif Nat.ble (o+n) r.cs.length then Si ((r.cs.drop o).take n) else none
def Wm(l o g n:Nat)(vs:List (Option LV))(r:Rg):Rg:=
 bif Nat.beq r.id l then { r with cs:=VG r.cs o vs }
 else bif !(Nat.beq g 0)&&Nat.beq r.grp g then { r with cs:=VG r.cs o (List.replicate n none) } else r
def Db(rg:List Rg):List Nat:=rg.map (·.id)
def O7(bv:Nat)(rg:List Rg)(l o:Nat)(vs:List LV):Option (List Rg):=
 match kI l rg with
 |none=>none
 |some r=>bif r.wr&&Nat.ble (o+vs.length) r.cs.length&&vs.all (·.lt bv (Db rg)) then some (rg.map (Wm l o r.grp vs.length (vs.map some))) else none
def uZ(r:Rg):List Rg→List Rg
 | []=>[r]
 |r'::rs=>bif Nat.blt r'.id r.id then r::r'::rs else r'::uZ r rs
def ig(bv:Nat)(rg:List Rg)(l:Nat)(cs:List LV):Option (List Rg):=
 bif !(EH l (Db rg))&&cs.all (·.lt bv (Db rg)) then some (uZ ⟨l,0,true,cs.map some⟩ rg) else none
inductive TK where
 |int (k:IntKind)
 |ptr (e:Nat)
 |sl (e:Nat)
 |arr (n e:Nat)
 |str (fs:List (Nat×Nat))
 |iface
 |stg
 |other
structure TD where
 k:TK
 size:Nat
 bytes:Nat
 agg:Bool
 zero:List LV
def TK.ofDesc:TypeDesc→TK
 | .int k=>.int k
 | .pointer e=>.ptr e
 | .slice e=>.sl e
 | .array n e=>.arr n e
 | .struct fs=>.str (fs.toList.map fun f=>(f.offset,f.type))
 | .interface _=>.iface
 | .string=>.stg
 |_=>.other
def yh:TypeDesc→Bool
 | .struct _ | .array _ _=>true
 |_=>false
def TD.of (P:Program) (t:Nat):Option TD:=
 match P.underlying t with
 |none=>none
 | some d=>match P.info? t with
  |none=>none
  | some i=>match i.zero with
   |none=>none
   |some z=>match qy z.cells.toList with
    |none=>none
    |some zs=>some { k:=TK.ofDesc d,size:=i.size,bytes:=i.bytes,agg:=yh d,zero:=zs }
inductive Iq where
 |vec (j:Nat)
 |xs (l:List X)
def Iq.den(ρ:Bl):Iq→List Int
 | .vec j=>ρ j
 | .xs l=>l.map (·.den ρ)
def Iq.lt(nv:Nat):Iq→Bool
 | .vec j=>Nat.blt j nv
 | .xs l=>l.all (·.lt nv)
def Iq.beq:Iq→Iq→Bool
 | .vec i,.vec j=>Nat.beq i j
 | .xs a,.xs b=>Po X.beq a b
 |_,_=>false
inductive OP where
 |bin (op:BinOp) (k:IntKind)
 |conv (k:IntKind)
 |not
 |pick
 |getAt
 |setAt
 |subAt (s:Nat)
 |eqv
 |add64
 |sub64
 |fn (f:Nat) (b:Bool) (o:Nat)
structure FR where
 op:OP
 args:List Iq
def opN:BinOp→Nat
 | .add=>0 | .sub=>1 | .mul=>2 | .quo=>3 | .rem=>4 | .and=>5 | .or=>6 | .xor=>7 | .shl=>8 | .shr=>9 | .andNot=>10
 | .eql=>11 | .neq=>12 | .lss=>13 | .leq=>14 | .gtr=>15 | .geq=>16
def OP.beq:OP→OP→Bool
 | .bin a k,.bin b j=>Nat.beq (opN a) (opN b)&&ui k j
 | .conv k,.conv j=>ui k j
 | .not,.not=>true
 | .pick,.pick=>true
 | .getAt,.getAt=>true
 | .setAt,.setAt=>true
 | .subAt a,.subAt b=>Nat.beq a b
 | .eqv,.eqv=>true
 | .add64,.add64=>true
 | .sub64,.sub64=>true
 | .fn a b e,.fn c d f=>Nat.beq a c&&(b == d)&&Nat.beq e f
 |_,_=>false
def FR.beq(a b:FR):Bool:=a.op.beq b.op&&Po Iq.beq a.args b.args
def FR.lt(nv:Nat)(d:FR):Bool:=d.args.all (·.lt nv)
def K9(b:Bool):Int:=cond b 1 0
def Dl(op:BinOp)(k:IntKind)(x y:Int):Int:=
 let a:=BitVec.ofInt k.bits x
 let b:=BitVec.ofInt k.bits y
 k.wrap (match op with
  | .and=>a &&& b
  | .or=>a ||| b
  | .xor=>a ^^^ b
  |_=>a &&& ~~~b).toNat
def Ao(op:BinOp)(k:IntKind)(x y:Int):Int:=
 match op with
 | .add=>k.wrap (x+y)
 | .sub=>k.wrap (x-y)
 | .mul=>k.wrap (x*y)
 | .quo=>k.wrap (x.tdiv y)
 | .rem=>x.tmod y
 | .and=>Dl .and k x y
 | .or=>Dl .or k x y
 | .xor=>Dl .xor k x y
 | .andNot=>Dl .andNot k x y
 | .shl=>k.wrap (x*2^(min y.toNat k.bits))
 | .shr=>x.fdiv (2^(min y.toNat k.bits))
 | .eql=>K9 (x == y)
 | .neq=>K9 (x != y)
 | .lss=>K9 (decide (x<y))
 | .leq=>K9 (decide (x≤y))
 | .gtr=>K9 (decide (x>y))
 | .geq=>K9 (decide (x ≥ y))
inductive GG where
 |int (k:IntKind)
 |bool
 |mem (ks:List IntKind) (grp:Nat) (wr:Bool)
 |agg (ks:List IntKind)
 |sl (ks:List IntKind) (grp:Nat) (wr:Bool)
 |slm (ks:List IntKind) (grp:Nat) (wr:Bool)
abbrev PF:=List (List Int)→List Int
abbrev PI:=List (List Int)→Int
inductive Qr where
 |int (k:IntKind) (f:PI)
 |bool (f:PI)
 |ptrP (i:Nat)
 |ptrF (j:Nat)
 |agg (ks:List IntKind) (f:PF)
 |nil
 |nilI
 |slF (j n c:Nat)
 |slP (i n c:Nat)
 |slG (j n:Nat)
 |err
structure Az where
 params:List GG
 hp:Bool
 pre:List (List Int)→Prop
 outs:List (Nat×List IntKind×PF)
 fresh:List (List IntKind×PF)
 ret:List Qr
inductive FE where
 |one (s:Az)
 |two (c:List (List Int)→Bool) (s1 s2:Az)
def FE.sel:FE→Bool→Az
 | .one s,_=>s
 | .two _ s1 s2,b=>cond b s1 s2
def FE.cnd:FE→List (List Int)→Bool
 | .one _,_=>true
 | .two c _ _,as=>c as
abbrev Tb:=List (Nat×FE)
structure LD where
 lid:Nat
 ps:List Nat
 ss:List Nat
 cl:List Nat
 nt:Nat
structure IF where
 c:Code
 nt:Nat
 rvs:List ResultVar
structure Cx where
 tt:List (Nat×TD)
 T:Tb
 a64:Nat
 s64:Nat
 loops:List (Nat×LD)
 inl:List (Nat×IF):=[]
 eqs:List (Nat×List IntKind):=[]
inductive PR where
 |i (f:PI)
 |l (f:PF)
 |no
def Qr.pr:Qr→PR
 | .int _ f=>.i f
 | .bool f=>.i f
 | .agg _ f=>.l f
 |_=>.no
def Az.prs(s:Az):List PR:=s.outs.map (fun p=>.l p.2.2)++s.fresh.map (fun p=>.l p.2)++s.ret.map Qr.pr
def Az.pr(s:Az)(o:Nat):PR:=(s.prs).getD o .no
def PR.den(as:List (List Int)):PR→List Int
 | .i f=>[f as]
 | .l f=>f as
 | .no=>[]
def d1:List Int→Int
 | [x]=>x
 |_=>0
def OP.den(T:Tb)(op:OP)(as:List (List Int)):List Int:=
 match op with
 | .bin op k=>[Ao op k (d1 (as.getD 0 [])) (d1 (as.getD 1 []))]
 | .conv k=>[k.wrap (d1 (as.getD 0 []))]
 | .not=>[K9 (d1 (as.getD 0 []) == 0)]
 | .pick=>[if d1 (as.getD 0 []) != 0 then d1 (as.getD 1 []) else d1 (as.getD 2 [])]
 | .getAt=>[(as.getD 0 []).getD (d1 (as.getD 1 [])).toNat 0]
 | .setAt=>(as.getD 0 []).set (d1 (as.getD 1 [])).toNat (d1 (as.getD 2 []))
 | .subAt s=>((as.getD 0 []).drop ((d1 (as.getD 1 [])).toNat*s)).take s
 | .eqv=>[K9 (as.getD 0 [] == as.getD 1 [])]
 | .add64=>[(d1 (as.getD 0 [])+d1 (as.getD 1 [])+d1 (as.getD 2 []))%18446744073709551616,if d1 (as.getD 0 [])+d1 (as.getD 1 [])+d1 (as.getD 2 [])<18446744073709551616 then 0 else 1]
 | .sub64=>[(d1 (as.getD 0 [])+18446744073709551616-d1 (as.getD 1 [])-d1 (as.getD 2 []))%18446744073709551616,if d1 (as.getD 0 [])<d1 (as.getD 1 [])+d1 (as.getD 2 []) then 1 else 0]
 | .fn f b o=>match lk f T with
  |some s=>((s.sel b).pr o).den as
  |none=>[]
def FR.den(T:Tb)(ρ:Bl)(d:FR):List Int:=d.op.den T (d.args.map (·.den ρ))
inductive JM where
 |rng (x:X) (n:Nat)
 |ge0 (x:X)
 |c01 (x:X)
 |nz (x:X)
 |zr (x:X)
 |pre (f:Nat) (as:List Iq)
def JM.den(T:Tb)(ρ:Bl):JM→Prop
 | .rng x n=>0≤x.den ρ∧x.den ρ<n
 | .ge0 x=>0≤x.den ρ
 | .c01 x=>x.den ρ=0∨x.den ρ=1
 | .nz x=>x.den ρ≠0
 | .zr x=>x.den ρ=0
 | .pre f as=>match lk f T with
  |some s=>(s.sel true).pre (as.map (·.den ρ))
  |none=>False
def JM.beq:JM→JM→Bool
 | .rng x n,.rng y m=>x.beq y&&Nat.beq n m
 | .ge0 x,.ge0 y=>x.beq y
 | .c01 x,.c01 y=>x.beq y
 | .nz x,.nz y=>x.beq y
 | .zr x,.zr y=>x.beq y
 | .pre f a,.pre g b=>Nat.beq f g&&Po Iq.beq a b
 |_,_=>false
end
section
open Go
def St.look(st:St)(t:Nat):Option SV:=match lk t st.lc with
 |some v=>some v
 |none=>lk t st.tm
def St.opd(st:St):Operand→Option SV
 | .tmp t=>st.look t
 | .const v=>SV.ofV v
 | .global g=>match lk g st.gl with
  |some l=>some (.t (.l (.ptr l 0)))
  |none=>none
 | .func _=>none
structure OO where
 v:SV
 ds:List (Nat×FR)
 ob:List JM
 ln:List (Nat×Nat)
def OO.val(v:SV):OO:=⟨v,[],[],[]⟩
def IX(v:LV):SV:=.t (.l v)
def TQ(op:BinOp)(k:IntKind)(x y:X)(nb:Nat):X×List (Nat×FR):=
 match x,y with
 | .lit a,.lit b=>(.lit (Ao op k a b),[])
 |x,y=>(.v nb 0,[(nb,⟨.bin op k,[.xs [x],.xs [y]]⟩)])
def TS:BinOp→Bool
 | .eql | .neq | .lss | .leq | .gtr | .geq=>true
 |_=>false
def wR:BinOp→Bool
 | .shl | .shr=>true
 |_=>false
def ge0:X→Bool
 | .lit (.ofNat _)=>true
 |_=>false
def Pm:IntKind→Bool
 | .u8 | .u16 | .u32 | .u64=>true
 |_=>false
def nz:X→Bool
 | .lit n=> !(JD n 0)
 |_=>false
def iF(k:IntKind):X→Bool
 | .lit n=>bR k n
 |_=>true
def YE (op:BinOp) (k k':IntKind) (x y:X) (nb:Nat):Option OO:=
 bif wR op then
  let r:=TQ op k x y nb
  bif !(iF k r.1) then none else
  some ⟨IX (.int k r.1),r.2,bif ge0 y||Pm k' then [] else [.ge0 y],[]⟩
 else bif !(ui k k') then none
 else bif TS op then
  let r:=TQ op k x y nb
  some ⟨IX (.bool r.1),r.2,[],[]⟩
 else match op with
  | .quo | .rem=>bif nz y then
    let r:=TQ op k x y nb
    bif !(iF k r.1) then none else some ⟨IX (.int k r.1),r.2,[],[]⟩
   else none
  |_=>
   let r:=TQ op k x y nb
   bif !(iF k r.1) then none else some ⟨IX (.int k r.1),r.2,[],[]⟩
def KO:List LV→Option (List IntKind×List X)
 | []=>some ([],[])
 | .int k x::r=>match KO r with
  |some (ks,xs)=>some (k::ks,x::xs)
  |none=>none
 |_::_=>none
def Qd(j:Nat):Nat→List X→Bool
 |_,[]=>true
 |i,.v j' i'::r=>Nat.beq j j'&&Nat.beq i i'&&Qd j (i+1) r
 |_,_=>false
def TR(ln:List (Nat×Nat))(xs:List X):Iq:=
 match xs with
 | .v j 0::r=>bif Qd j 1 r&&(match lk j ln with|some n=>Nat.beq n xs.length|none=>false) then .vec j else .xs xs
 |xs=>.xs xs
def jr(k:IntKind):List IntKind→Bool
 | []=>true
 |j::r=>ui k j&&jr k r
def JR(j:Nat)(ks:List IntKind):List LV:=ks.zipIdx.map fun (k,i)=>.int k (.v j i)
def J8(C:Cx)(t:Nat):Option Nat:=match lk t C.tt with
 |some d=>some d.size
 |none=>none
def yY(C:Cx)(t:Nat)(cs:List LV)(off:Nat):Option SV:=match lk t C.tt with
 |none=>none
 | some d=>bif d.agg then
   (bif Nat.ble (off+d.size) cs.length then some (.t (.a ((cs.drop off).take d.size))) else none)
  else match cs[off]? with
   |some v=>some (IX v)
   |none=>none
def bO (C:Cx) (k:TK) (cells:List LV):List (Nat×TV)→Option (List LV)
 | []=>some cells
 | (i,v)::r=>
  match (match k with
   | .str fs=>match fs[i]? with
    |some (off,t)=>match J8 C t with
     |some s=>some (off,s)
     |none=>none
    |none=>none
   | .arr _ e=>match J8 C e with
    |some s=>some (i*s,s)
    |none=>none
   |_=>none) with
  |none=>none
  |some (off,s)=>bif Nat.beq v.cells.length s&&Nat.ble (off+s) cells.length then bO C k (VG cells off v.cells) r else none
def Uh(C:Cx):TK→Bool
 | .str fs=>fs.all fun p=>(J8 C p.2).isSome
 | .arr _ e=>(J8 C e).isSome
 |_=>false
def St.parts(st:St):List (Nat×Operand)→Option (List (Nat×TV))
 | []=>some []
 |(i,x)::r=>match st.opd x,st.parts r with
  |some (.t v),some vs=>some ((i,v)::vs)
  |_,_=>none
def bnd(st:St)(aep:Nat):Option Operand→Option Nat
 |none=>some aep
 |some x=>match st.opd x with
  |some (.t (.l (.int _ (.lit (.ofNat n)))))=>some n
  |_=>none
def MX(C:Cx)(t:Nat):Option (Option Nat×Nat):=match lk t C.tt with
 |some ⟨.arr n e,_,_,_,_⟩=>match J8 C e with
  |some s=>some (some n,s)
  |none=>none
 |some ⟨.sl e,_,_,_,_⟩=>match J8 C e with
  |some s=>some (none,s)
  |none=>none
 |_=>none
def RB (C:Cx) (o:Oper) (nb:Nat) (st:St):Option OO:=
 match o.op with
 | .move x=>match st.opd x with
  |some v=>some (.val v)
  |none=>none
 | .assign x=>match st.opd x with
  |some v=>some (.val v)
  |none=>none
 | .pick c a b=>match st.opd c,st.opd a,st.opd b with
  |some (.t (.l (.bool (.lit n)))),some va,some vb=>some (.val (bif JD n 0 then vb else va))
  |some (.t (.l (.bool (.lit n)))),some va,none=>bif JD n 0 then none else some (.val va)
  |some (.t (.l (.bool (.lit n)))),none,some vb=>bif JD n 0 then some (.val vb) else none
  |some (.t (.l (.bool x))),some (.t (.l (.bool y))),some (.t (.l (.bool z)))=>some ⟨IX (.bool (.v nb 0)),[(nb,⟨.pick,[.xs [x],.xs [y],.xs [z]]⟩)],[],[]⟩
  |_,_,_=>none
 | .build t ps=>match lk t C.tt,st.parts ps.toList with
  |some d,some vs=>bif Uh C d.k then (match bO C d.k d.zero vs with
   |some cs=>some (.val (.t (.a cs)))
   |none=>none) else none
  |_,_=>none
 | .nilCheck x=>match st.opd x with
  |some (.t (.l (.ptr l o)))=>some (.val (IX (.ptr l o)))
  |some (.t (.l (.pd l o n s x)))=>some (.val (IX (.pd l o n s x)))
  |_=>none
 | .binOp op xt x y _=>match st.opd x,st.opd y with
  |some (.t (.l (.int k a))),some (.t (.l (.int k' b)))=>YE op k k' a b nb
  | some (.t (.l .nilI)),some (.t (.l .nilI))=>
   (match lk xt C.tt,(match x,y with | .const _,_=>true|_,.const _=>true|_,_=>false) with
    |some ⟨.iface,_,_,_,_⟩,true=>(match op with
     | .eql=>some (.val (IX (.bool (.lit 1))))
     | .neq=>some (.val (IX (.bool (.lit 0))))
     |_=>none)
    |_,_=>none)
  | some (.t (.l (.err _))),some (.t (.l .nilI))=>
   (match lk xt C.tt with
    |some ⟨.iface,_,_,_,_⟩=>(match op with
     | .eql=>some (.val (IX (.bool (.lit 0))))
     | .neq=>some (.val (IX (.bool (.lit 1))))
     |_=>none)
    |_=>none)
  | some (.t (.l (.sl _ _ _ _ _))),some (.t (.l .nsl))=>
   (match lk xt C.tt with
    |some ⟨.sl _,_,_,_,_⟩=>(match op with
     | .eql=>some (.val (IX (.bool (.lit 0))))
     | .neq=>some (.val (IX (.bool (.lit 1))))
     |_=>none)
    |_=>none)
  |_,_=>none
 | .unOp op _ x=>match st.opd x with
  |some (.t (.l (.int k a)))=>(match op with
   | .neg=>YE .sub k k (.lit 0) a nb
   | .xor=>bif Pm k then YE .xor k k (.lit k.max) a nb else YE .xor k k (.lit (-1)) a nb
   |_=>none)
  |some (.t (.l (.bool (.lit n))))=>(match op with
   | .not=>some (.val (IX (.bool (.lit (K9 (JD n 0))))))
   |_=>none)
  |some (.t (.l (.bool a)))=>(match op with
   | .not=>some ⟨IX (.bool (.v nb 0)),[(nb,⟨.not,[.xs [a]]⟩)],[],[]⟩
   |_=>none)
  |_=>none
 | .convert s d x=>match lk s C.tt,lk d C.tt,st.opd x with
  |some _,some ⟨.int k,_,_,_,_⟩,some (.t (.l (.int k' a)))=>
   (bif ui k k' then some (.val (IX (.int k a))) else
   match a with
   | .lit n=>some (.val (IX (.int k (.lit (k.wrap n)))))
   |a=>some ⟨IX (.int k (.v nb 0)),[(nb,⟨.conv k,[.xs [a]]⟩)],[],[]⟩)
  |_,_,_=>none
 | .fieldAddr s x f=>match lk s C.tt,st.opd x with
  | some ⟨.str fs,_,_,_,_⟩,some (.t (.l (.ptr l o)))=>(match fs[f]? with
   |some (off,t)=>(match J8 C t with
    |some n=>bif Nat.beq n 0 then none else some (.val (IX (.ptr l (o+off))))
    |none=>none)
   |none=>none)
  |_,_=>none
 | .field t x f=>match lk t C.tt,st.opd x with
  | some ⟨.str fs,_,_,_,_⟩,some (.t (.a cs))=>(match fs[f]? with
   |some (off,t')=>(match yY C t' cs off with
    |some v=>some (.val v)
    |none=>none)
   |none=>none)
  |_,_=>none
 | .indexAddr t x ix=>match MX C t,st.opd x,st.opd ix with
  |some (some n,s),some (.t (.l (.ptr l o))),some (.t (.l (.int _ i)))=>(match i with
   | .lit (.ofNat i)=>bif Nat.blt i n then some (.val (IX (.ptr l (o+i*s)))) else none
   | .lit _=>none
   |i=>some ⟨IX (.pd l o n s i),[],[.rng i n],[]⟩)
  |some (none,s),some (.t (.l (.sl l o n _ _))),some (.t (.l (.int _ i)))=>(match i with
   | .lit (.ofNat i)=>bif Nat.blt i n then some (.val (IX (.ptr l (o+i*s)))) else none
   | .lit _=>none
   |i=>some ⟨IX (.pd l o n s i),[],[.rng i n],[]⟩)
  |some (none,s),some (.t (.l (.slm l o n _))),some (.t (.l (.int _ i)))=>(match i with
   | .lit (.ofNat i)=>bif Nat.blt i n then some (.val (IX (.ptr l (o+i*s)))) else none
   | .lit _=>none
   |i=>some ⟨IX (.pd l o n s i),[],[.rng i n],[]⟩)
  |_,_,_=>none
 | .index t x ix=>match lk t C.tt,st.opd x,st.opd ix with
  | some ⟨.arr n e,_,_,_,_⟩,some (.t (.a cs)),some (.t (.l (.int _ i)))=>(match i with
   | .lit (.ofNat i)=>bif Nat.blt i n then (match J8 C e with
     |some s=>(match yY C e cs (i*s) with
      |some v=>some (.val v)
      |none=>none)
     |none=>none) else none
   | .lit _=>none
   |i=>(match lk e C.tt,KO cs with
    | some ⟨.int k,1,_,false,_⟩,some (ks,xs)=>bif jr k ks&&Nat.beq cs.length n then
      some ⟨IX (.int k (.v nb 0)),[(nb,⟨.getAt,[TR st.ln xs,.xs [i]]⟩)],[.rng i n],[]⟩ else none
    |_,_=>none))
  |_,_,_=>none
 | .extract x i=>match st.opd x with
  |some (.tup vs)=>(match vs[i]? with
   |some v=>some (.val (.t v))
   |none=>none)
  |_=>none
 | .slice t x lo hi mx=>match mx,lk t C.tt,st.opd x with
  | none,some ⟨.ptr ar,_,_,_,_⟩,some (.t (.l (.ptr l o)))=>(match MX C ar with
   |some (some n,s)=>(match bnd st 0 lo,bnd st n hi with
    | some a,some b=>bif Nat.ble a b&&Nat.ble b n then
      some (.val (IX (.sl l (bif Nat.beq n a then o else o+a*s) (b-a) (.n (.lit n)) a))) else none
    |_,_=>none)
   |_=>none)
  | none,some ⟨.arr n e,_,_,_,_⟩,some (.t (.l (.ptr l o)))=>(match J8 C e with
   |some s=>(match bnd st 0 lo,bnd st n hi with
    | some a,some b=>bif Nat.ble a b&&Nat.ble b n then
      some (.val (IX (.sl l (bif Nat.beq n a then o else o+a*s) (b-a) (.n (.lit n)) a))) else none
    |_,_=>none)
   |none=>none)
  | none,some ⟨.sl _,_,_,_,_⟩,some (.t (.l (.sl l o n c d)))=>(match MX C t with
   |some (_,s)=>(match bnd st 0 lo,bnd st n hi with
    | some a,some b=>bif Nat.ble a b&&Nat.ble b n then
      (bif Nat.blt a n||Nat.beq a 0 then some (.val (IX (.sl l (o+a*s) (b-a) c (d+a)))) else some (.val (IX (.se l o s c d a)))) else none
    |_,_=>none)
   |_=>none)
  | some m,some ⟨.sl _,_,_,_,_⟩,some (.t (.l (.sl l o n _ _)))=>(match MX C t with
   |some _=>(match bnd st 0 lo,hi,bnd st 0 hi,bnd st 0 (some m) with
    |some 0,some _,some b,some m=>bif Nat.ble b m&&Nat.ble m n then some (.val (IX (.sl l o b (.n (.lit m)) 0))) else none
    |_,_,_,_=>none)
   |_=>none)
  |_,_,_=>none
 | .call ⟨.builtin .len,args,ψ⟩=>match ψ[0]?,args[0]? with
  |some t,some x=>(match lk t C.tt,st.opd x with
   |some ⟨.sl _,_,_,_,_⟩,some (.t (.l (.sl _ _ n _ _)))=>bif Nat.ble n 65536 then some (.val (IX (.int .i64 (.lit n)))) else none
   |some ⟨.sl _,_,_,_,_⟩,some (.t (.l .nsl))=>some (.val (IX (.int .i64 (.lit 0))))
   |some ⟨.sl _,_,_,_,_⟩,some (.t (.l (.se _ _ _ _ _ _)))=>some (.val (IX (.int .i64 (.lit 0))))
   |some ⟨.arr n _,_,_,_,_⟩,some _=>bif Nat.ble n 65536 then some (.val (IX (.int .i64 (.lit n)))) else none
   |_,_=>none)
  |_,_=>none
 |_=>none
structure aK where
 o:OO
 rg:List Rg
 er:Bool:=false
def nW (C:Cx) (t:Nat) (a:LV) (nb:Nat) (st:St):Option OO:=
 match lk t C.tt,a with
 | some d,.ptr l o=>bif d.agg then (match Kz st.rg l o d.size with
   |some cs=>some (.val (.t (.a cs)))
   |none=>none)
  else (match Kz st.rg l o 1 with
   |some [v]=>some (.val (IX v))
   |_=>none)
 | some d,.pd l o n s x=>(match Kz st.rg l o (n*s) with
   | some cs=>(match KO cs with
    | some (k::ks,xs)=>bif jr k ks then
      bif d.agg then (bif Nat.beq d.size s then
       some ⟨.t (.a (JR nb (List.replicate s k))),[(nb,⟨.subAt s,[TR st.ln xs,.xs [x]]⟩)],[],[(nb,s)]⟩ else none)
      else (bif Nat.beq s 1 then some ⟨IX (.int k (.v nb 0)),[(nb,⟨.getAt,[TR st.ln xs,.xs [x]]⟩)],[],[]⟩ else none)
     else none
    |_=>none)
   |none=>none)
 |_,_=>none
def uK (C:Cx) (t:Nat) (a:LV) (v:TV) (nb bv:Nat) (st:St):Option aK:=
 match lk t C.tt,a with
 | some d,.ptr l o=>bif Nat.beq v.cells.length d.size then (match O7 bv st.rg l o v.cells with
   |some rg=>some ⟨.val (.tup []),rg,false⟩
   |none=>none) else none
 | some d,.pd l o n s x=>(match v with
   | .l (.int k y)=>bif Nat.beq d.size 1&&Nat.beq s 1 then (match Kz st.rg l o n with
    |some cs=>(match KO cs with
     | some (ks,xs)=>bif jr k ks then (match O7 bv st.rg l o (JR nb ks) with
       |some rg=>some ⟨⟨.tup [],[(nb,⟨.setAt,[TR st.ln xs,.xs [x],.xs [y]]⟩)],[],[(nb,n)]⟩,rg,false⟩
       |none=>none) else none
     |none=>none)
    |none=>none) else none
   |_=>none)
 |_,_=>none
structure MP where
 l:Nat
 o:Nat
 n:Nat
 g:Nat
 wr:Bool
 lv:LV
def Ky:List IntKind→List IntKind→Bool:=Po ui
def ANs(st:St)(p:GG)(v:SV):Option (Iq×Option MP):=
 match p,v with
 | .int k,.t (.l (.int k' x))=>bif ui k k' then some (.xs [x],none) else none
 | .bool,.t (.l (.bool x))=>some (.xs [x],none)
 | .mem ks g wr,.t (.l (.ptr l o))=>(match Kz st.rg l o ks.length with
  |some cs=>(match KO cs with
   |some (μ,xs)=>bif Ky ks μ then some (TR st.ln xs,some ⟨l,o,ks.length,g,wr,.ptr l o⟩) else none
   |none=>none)
  |none=>none)
 | .agg ks,.t (.a cs)=>(match KO cs with
  |some (μ,xs)=>bif Ky ks μ then some (TR st.ln xs,none) else none
  |none=>none)
 | .sl ks g wr,.t (.l (.sl l o n c d))=>bif Nat.beq n ks.length then (match Kz st.rg l o n with
  |some cs=>(match KO cs with
   |some (μ,xs)=>bif Ky ks μ then some (TR st.ln xs,some ⟨l,o,n,g,wr,.sl l o n c d⟩) else none
   |none=>none)
  |none=>none) else none
 | .slm ks g wr,.t (.l (.slm l o n i))=>bif Nat.beq n ks.length then (match Kz st.rg l o n with
  |some cs=>(match KO cs with
   |some (μ,xs)=>bif Ky ks μ then some (TR st.ln xs,some ⟨l,o,n,g,wr,.slm l o n i⟩) else none
   |none=>none)
  |none=>none) else none
 |_,_=>none
def Py(st:St):List GG→List SV→Option (List Iq×List (Option MP))
 | [],[]=>some ([],[])
 |p::ps,v::vs=>match ANs st p v,Py st ps vs with
  |some (a,m),some (as,ms)=>some (a::as,m::ms)
  |_,_=>none
 |_,_=>none
def opdL(st:St):List Operand→Option (List SV)
 | []=>some []
 |x::xs=>match st.opd x,opdL st xs with
  |some v,some vs=>some (v::vs)
  |_,_=>none
def AHD(o1 n1 o2 n2:Nat):Bool:=Nat.ble (o1+n1) o2||Nat.ble (o2+n2) o1
def AON(rg:List Rg)(a b:MP):Bool:=
 !(a.wr||b.wr) ||
 (let same:=Nat.beq a.g b.g && !(Nat.beq a.g 0)&&Nat.beq a.o b.o&&Nat.beq a.n b.n
   bif Nat.beq a.l b.l then AHD a.o a.n b.o b.n||same
   else match kI a.l rg,kI b.l rg with
  |some r,some r'=>(r.wr||r'.wr)&&(bif Nat.beq r.grp r'.grp && !(Nat.beq r.grp 0) then AHD a.o a.n b.o b.n||same else true)
  |_,_=>false)
def XP(rg:List Rg):List (Option MP)→Bool
 | []=>true
 |none::r=>XP rg r
 |some a::r=>(r.all fun|some b=>AON rg a b|none=>true)&&XP rg r
def WY(rg:List Rg):List (Option MP)→Bool
 | []=>true
 |none::r=>WY rg r
 |some a::r=>(!a.wr||(match kI a.l rg with|some g=>g.wr|none=>false))&&WY rg r
def Yo (bv:Nat) (ms:List (Option MP)) (nb:Nat):List (Nat×List IntKind×PF)→List Rg→Option (List Rg)
 | [],rg=>some rg
 | (i,ks,_)::r,rg=>match ms[i]? with
  | some (some m)=>bif Nat.beq m.n ks.length&&m.wr then (match O7 bv rg m.l m.o (JR nb ks) with
    |some π=>Yo bv ms (nb+1) r π
    |none=>none) else none
  |_=>none
def dO(bv nb lb:Nat):List (List IntKind×PF)→List Rg→Option (List Rg)
 | [],rg=>some rg
 |(ks,_)::r,rg=>match ig bv rg lb (JR nb ks) with
  |some π=>dO bv (nb+1) (lb+1) r π
  |none=>none
def ZM(ms:List (Option MP))(nb lb:Nat):Qr→Option TV
 | .int k _=>some (.l (.int k (.v nb 0)))
 | .bool _=>some (.l (.bool (.v nb 0)))
 | .ptrP i=>match ms[i]? with
  |some (some m)=>some (.l m.lv)
  |_=>none
 | .ptrF j=>some (.l (.ptr (lb+j) 0))
 | .agg ks _=>some (.a (JR nb ks))
 | .nil=>some (.l .nil)
 | .nilI=>some (.l .nilI)
 | .slF j n c=>bif Nat.ble n c then some (.l (.sl (lb+j) 0 n (.n (.lit c)) 0)) else none
 | .slP i n c=>(match ms[i]? with
  |some (some m)=>(match m.lv with
   | .ptr l o=>bif Nat.ble n c then some (.l (.sl l o n (.n (.lit c)) 0)) else none
   |_=>none)
  |_=>none)
 | .slG j n=>some (.l (.sl (lb+j) 0 n (.s nb) 0))
 | .err=>some (.l (.err nb))
def pF(ms:List (Option MP))(nb lb:Nat):List Qr→Option (List TV)
 | []=>some []
 |r::rs=>match ZM ms nb lb r,pF ms (nb+1) lb rs with
  |some v,some vs=>some (v::vs)
  |_,_=>none
def ACD(nb:Nat):List Qr→List (Nat×Nat)
 | []=>[]
 | .agg ks _::rs=>(nb,ks.length)::ACD (nb+1) rs
 |_::rs=>ACD (nb+1) rs
def Rn(f:Nat)(sel:Bool)(as:List Iq)(nb:Nat):Nat→List PR→List (Nat×FR)
 |_,[]=>[]
 |i,.no::r=>Rn f sel as nb (i+1) r
 |i,_::r=>(nb+i,⟨.fn f sel i,as⟩)::Rn f sel as nb (i+1) r
def Rk:List TV→SV
 | [v]=>.t v
 |vs=>.tup vs
structure ASY where
 vs:List TV
 ds:List (Nat×FR)
 ob:List JM
 ln:List (Nat×Nat)
 rg:List Rg
 er:Bool
def UZ:List Qr→Bool
 | []=>false
 | .err::_=>true
 | .slG _ _::_=>true
 |_::r=>UZ r
def AAQ (C:Cx) (f:Nat) (sel:Bool) (vs:List SV) (nb lb bv:Nat) (st:St):Option ASY:=
 match lk f C.T with
 |none=>none
 | some fe=>
  let s:=fe.sel sel
  match Py st s.params vs with
  |none=>none
  | some (as,ms)=>
   bif XP st.rg ms&&WY st.rg ms then (match Yo bv ms nb s.outs st.rg with
    |none=>none
    | some rg=>
     let no:=s.outs.length
     let nf:=s.fresh.length
     (match dO bv (nb+no) lb s.fresh rg with
     |none=>none
     |some π=>(match pF ms (nb+no+nf) lb s.ret with
      |none=>none
      | some tv=>some ⟨tv,Rn f sel as nb 0 s.prs,bif s.hp then [.pre f as] else [],
        (s.outs.zipIdx.map fun (p,i)=>(nb+i,p.2.1.length))++(s.fresh.zipIdx.map fun (p,i)=>(nb+no+i,p.1.length))++ACD (nb+no+nf) s.ret,π,UZ s.ret⟩)))
   else none
def su(C:Cx)(st:St)(vs:List SV):Nat→Nat→Nat
 |0,k=>k
 | n+1,k=>match lk k C.T with
  |some (.one s)=>(match Py st s.params vs with
   |some _=>k
   |none=>su C st vs n (k+10000))
  |_=>k
def AKY:Option FE→Bool
 |some (.one _)=>true
 |_=>false
def ALE (C:Cx) (f:Nat) (sel:Bool) (args:List Operand) (nb lb bv:Nat) (st:St):Option aK:=
 match opdL st args with
 |none=>none
 | some vs=>
  bif Nat.beq f C.a64 then (match vs with
   | [.t (.l (.int .u64 x)),.t (.l (.int .u64 y)),.t (.l (.int .u64 z))]=>
    some ⟨⟨.tup [.l (.int .u64 (.v nb 0)),.l (.int .u64 (.v nb 1))],[(nb,⟨.add64,[.xs [x],.xs [y],.xs [z]]⟩)],[.c01 z],[(nb,2)]⟩,st.rg,false⟩
   |_=>none)
  else bif Nat.beq f C.s64 then (match vs with
   | [.t (.l (.int .u64 x)),.t (.l (.int .u64 y)),.t (.l (.int .u64 z))]=>
    some ⟨⟨.tup [.l (.int .u64 (.v nb 0)),.l (.int .u64 (.v nb 1))],[(nb,⟨.sub64,[.xs [x],.xs [y],.xs [z]]⟩)],[.c01 z],[(nb,2)]⟩,st.rg,false⟩
   |_=>none)
  else bif !(Nat.blt f 10000) then none else
   let k:=su C st vs 20 f
   bif Nat.beq k f||(sel&&AKY (lk k C.T)) then (match AAQ C k sel vs nb lb bv st with
   |none=>none
   |some r=>some ⟨⟨Rk r.vs,r.ds,r.ob,r.ln⟩,r.rg,r.er⟩) else none
def YZ{α:Type}:Nat→List α→List α
 |0,_=>[]
 |n+1,l=>l++YZ n l
def vo(bv:Nat)(rg:List Rg)(l:Nat)(cs:List LV)(v:LV):Option aK:=
 match ig bv rg l cs with
 |some π=>some ⟨.val (IX v),π,false⟩
 |none=>none
def ACQ(op:BinOp)(a b:Iq)(nb:Nat):Option OO:=match op with
 | .eql=>some ⟨IX (.bool (.v nb 0)),[(nb,⟨.eqv,[a,b]⟩)],[],[]⟩
 | .neq=>some ⟨IX (.bool (.v (nb+1) 0)),[(nb,⟨.eqv,[a,b]⟩),(nb+1,⟨.not,[.xs [.v nb 0]]⟩)],[],[]⟩
 |_=>none
def ACA(rg:List Rg):Option OO→Option aK
 |some r=>some ⟨r,rg,false⟩
 |none=>none
def eqM(C:Cx)(op:BinOp)(xt:Nat)(cs cs':List LV)(nb:Nat)(st:St):Option aK:=
 match lk xt C.eqs,KO cs,KO cs' with
 |some ks,some (k1,x1),some (k2,x2)=>bif Ky ks k1&&Ky ks k2 then ACA st.rg (ACQ op (TR st.ln x1) (TR st.ln x2) nb) else none
 |_,_,_=>none
def NQ (C:Cx) (o:Oper) (sel:Bool) (nb lb bv:Nat) (st:St):Option aK:=
 match o.op with
 | .load t a=>match st.opd a with
  |some (.t (.l v))=>(match nW C t v nb st with
   |some r=>some ⟨r,st.rg,false⟩
   |none=>none)
  |_=>none
 | .store t a x=>match st.opd a,st.opd x with
  |some (.t (.l v)),some (.t y)=>uK C t v y nb bv st
  |_,_=>none
 | .alloc t=>match lk t C.tt with
  |some d=>vo bv st.rg lb d.zero (.ptr lb 0)
  |none=>none
 | .box _ x=>match st.opd x with
  |some (.t v)=>vo bv st.rg lb v.cells (.ptr lb 0)
  |_=>none
 | .buildSlice t n ps=>match lk t C.tt,st.parts ps.toList with
  | some ⟨.sl e,_,_,_,_⟩,some vs=>(match lk e C.tt with
   |some d=>bif Nat.ble (n*d.size) 16777216&&Nat.blt 0 (n*d.size)&&Nat.beq d.zero.length d.size then (match bO C (.arr n e) (YZ n d.zero) vs with
    |some cs=>vo bv st.rg lb cs (.sl lb 0 n (.n (.lit n)) 0)
    |none=>none) else (bif Nat.beq n 0 then (match vs with
    | []=>vo bv st.rg lb [] (.sl lb 0 0 (.n (.lit 0)) 0)
    |_=>none) else none)
   |none=>none)
  |_,_=>none
 | .makeSlice t n c=>match lk t C.tt,bnd st 0 (some n),bnd st 0 (some c) with
  |some ⟨.sl e,_,_,_,_⟩,some n,some c=>(match lk e C.tt with
   | some d=>bif Nat.ble n c&&Nat.ble c 65536&&Nat.ble (d.bytes*c) 281474976710656&&Nat.blt 0 (c*d.size)&&Nat.beq d.zero.length d.size then
     vo bv st.rg lb (YZ c d.zero) (.sl lb 0 n (.n (.lit c)) 0) else none
   |none=>none)
  |_,_,_=>none
 | .call ⟨.value (.func f),args,_⟩=>ALE C f sel args.toList nb lb bv st
 | .call ⟨.builtin .copy,args,ψ⟩=>match ψ[0]?,args[0]?,args[1]? with
  | some t,some x,some y=>(match lk t C.tt,st.opd x,st.opd y with
   | some ⟨.sl e,_,_,_,_⟩,some (.t (.l (.sl l o n _ _))),some (.t (.l (.sl l' o' n' _ _)))=>
    (match J8 C e with
    | some 1=>bif Nat.ble n 65536 then (match Kz st.rg l' o' (min n' n) with
     |some cs=>(match O7 bv st.rg l o cs with
      |some rg=>some ⟨.val (IX (.int .i64 (.lit (min n' n:Nat)))),rg,false⟩
      |none=>none)
     |none=>none) else none
    |_=>none)
   |_,_,_=>none)
  |_,_,_=>none
 | .call ⟨.builtin .append,args,ψ⟩=>match ψ[0]?,ψ[1]?,args[0]?,args[1]? with
  | some t,some t',some x,some y=>(match lk t C.tt,lk t' C.tt,st.opd x,st.opd y with
   | some ⟨.sl e,_,_,_,_⟩,some ⟨.sl _,_,_,_,_⟩,some (.t (.l (.sl l o n (.n (.lit (.ofNat c))) d))),some (.t (.l (.sl l' o' n' _ _)))=>
    (match J8 C e with
    | some 1=>bif Nat.ble (n+n') (c-d) then (bif Nat.blt 0 n' then (match Kz st.rg l' o' n' with
     |some cs=>(match O7 bv st.rg l (o+n) cs with
      |some rg=>some ⟨.val (IX (.sl l o (n+n') (.n (.lit c)) d)),rg,false⟩
      |none=>none)
     |none=>none) else none)
     else none
    |_=>none)
   |_,_,_,_=>none)
  |_,_,_,_=>none
 | .binOp op xt x y _=>match st.opd x,st.opd y with
  |some (.t (.a cs)),some (.t (.a cs'))=>eqM C op xt cs cs' nb st
  |_,_=>match RB C o nb st with
   |some r=>some ⟨r,st.rg,false⟩
   |none=>none
 |_=>match RB C o nb st with
  |some r=>some ⟨r,st.rg,false⟩
  |none=>none
end
section
open Go
inductive Ex where
 |normal
 |exit (id:Nat)
 |ret
inductive Bc where
 |leaf (e:Ex) (st:St)
 |evs (ds:List (Nat×FR)) (ob:List JM) (t:Bc)
 |br (x:X) (t f:Bc)
 |brc (f:Nat) (as:List Iq) (t e:Bc)
 |chk (t k:Bc)
 |bad (why:Nat)
def ABX(x:X):Bc→Bc→Bc
 | .bad _,f=>.evs [] [.zr x] f
 |t,.bad _=>.evs [] [.nz x] t
 |t,f=>.br x t f
inductive K where
 |code (c:Code)
 |blk (id:Nat)
def GM:Nat→Nat→List (Nat×FR)→Bool
 |_,_,[]=>true
 |lo,hi,(n,d)::r=>Nat.ble lo n&&Nat.blt n hi&&d.lt n&&GM (n+1) hi r
def Iq.len(ln:List (Nat×Nat)):Iq→Option Nat
 | .vec j=>lk j ln
 | .xs l=>some l.length
def Qr.len:Qr→Option Nat
 | .agg ks _=>some ks.length
 |_=>none
def GG.len:GG→Nat
 | .int _=>1
 | .bool=>1
 | .mem ks _ _=>ks.length
 | .agg ks=>ks.length
 | .sl ks _ _=>ks.length
 | .slm ks _ _=>ks.length
def Az.lens(s:Az):List (Option Nat):=s.outs.map (fun p=>some p.2.1.length)++s.fresh.map (fun p=>some p.1.length)++s.ret.map Qr.len
def V6(ln:List (Nat×Nat)):List Iq→List GG→Bool
 | [],[]=>true
 |a::as,p::ps=>(match a.len ln with
  |some n=>Nat.beq n p.len
  |none=>false)&&V6 ln as ps
 |_,_=>false
def ACN(T:Tb)(ln:List (Nat×Nat))(d:FR):Option Nat:=
 match d.op with
 | .add64=>some 2
 | .sub64=>some 2
 | .setAt=>(match d.args with
  |a::_=>a.len ln
  | []=>none)
 | .fn f b o=>(match lk f T with
  |some fe=>bif V6 ln d.args (fe.sel b).params then (match (fe.sel b).lens[o]? with
   |some r=>r
   |none=>none) else none
  |none=>none)
 |_=>none
def KN(T:Tb):List (Nat×Nat)→List (Nat×FR)→List (Nat×Nat)
 |ln,[]=>ln
 |ln,(n,d)::r=>match ACN T ln d with
  |some k=>KN T ((n,k)::ln) r
  |none=>KN T ln r
def J7(bv:Nat):List JM→Bool
 | []=>true
 | .rng x _::r=>x.lt bv&&J7 bv r
 | .ge0 x::r=>x.lt bv&&J7 bv r
 | .c01 x::r=>x.lt bv&&J7 bv r
 | .nz x::r=>x.lt bv&&J7 bv r
 | .zr x::r=>x.lt bv&&J7 bv r
 | .pre _ as::r=>as.all (·.lt bv)&&J7 bv r
def St.put(st:St)(d:Option Nat)(v:SV):Option St:=match d with
 |none=>some st
 |some t=>bif Nat.blt t st.nt&&v.lt st.nv (Db st.rg) then some { st with lc:=(t,v)::st.lc } else none
def rmv{α:Type}(t:Nat):List (Nat×α)→List (Nat×α)
 | []=>[]
 |(k,v)::r=>bif Nat.beq k t then r else (k,v)::rmv t r
def flush:List (Nat×SV)→List (Nat×SV)→List (Nat×SV)
 | [],tm=>tm
 |(t,v)::r,tm=>(t,v)::rmv t (flush r tm)
def St.flush(st:St):St:= { st with lc:=[],tm:=YtloibefkijfdlaaGreatDoor.flush st.lc st.tm }
def St.setB(st:St)(t:Nat)(n:Int):St:= { st with lc:=(t,.t (.l (.bool (.lit n))))::st.lc }
def Z9(C:Cx)(o:Oper):Option Nat:=match o.op with
 | .call ⟨.value (.func f),_,_⟩=>(match lk f C.T with
  |some (.two _ _ _)=>some f
  |_=>none)
 |_=>none
def x8(C:Cx)(o:Oper)(f:Nat)(st:St):Option (List Iq):=match o.op with
 | .call ⟨_,args,_⟩=>(match opdL st args.toList,lk f C.T with
  |some vs,some fe=>(match Py st (fe.sel true).params vs,Py st (fe.sel false).params vs with
   |some (as,_),some (bs,_)=>bif Po Iq.beq as bs then some as else none
   |_,_=>none)
  |_,_=>none)
 |_=>none
def qN(C:Cx)(o:Oper)(sel:Bool)(st:St)(κ:St→Bc):Bc:=
 match NQ C o sel st.nv st.nl (st.nv+16) st with
 |none=>.bad 1
 | some m=>
  match St.put { st with rg:=m.rg,ln:=KN C.T st.ln m.o.ds,nv:=st.nv+16,nl:=st.nl+16 } o.dst m.o.v with
  |none=>.bad 2
  |some st'=>(match m.o.ds,m.o.ob with
   | [],[]=>κ st'
   |ds,ob=>bif GM st.nv (st.nv+16) ds&&J7 (st.nv+16) ob then .evs ds ob (κ st') else .bad 3)
def AAh(C:Cx)(st:St):ResultVar→Option TV
 | .tmp t=>(match lk t st.tm with
  |some (.t v)=>some v
  |_=>none)
 | .cell a t=>(match lk a st.tm with
  |some (.t (.l (.ptr l o)))=>(match nW C t (.ptr l o) 0 st with
   |some ⟨.t v,[],[],_⟩=>some v
   |_=>none)
  |_=>none)
def UH(C:Cx)(st:St):List ResultVar→Option (List TV)
 | []=>some []
 |r::rs=>match AAh C st r,UH C st rs with
  |some v,some vs=>some (v::vs)
  |_,_=>none
def Bc.bind(k:Ex→St→Bc):Bc→Bc
 | .leaf e st=>k e st
 | .evs ds ob t=>.evs ds ob (t.bind k)
 | .br x t f=>.br x (t.bind k) (f.bind k)
 | .brc f as t e=>.brc f as (t.bind k) (e.bind k)
 | .chk t e=>.chk t (e.bind k)
 | .bad n=>.bad n
def Bc.allL(p:Ex→St→Bool):Bc→Bool
 | .leaf e st=>p e st
 | .evs _ _ t=>t.allL p
 | .br _ t f=>t.allL p&&f.allL p
 | .brc _ _ t e=>t.allL p&&e.allL p
 | .chk _ k=>k.allL p
 | .bad _=>true
def Ud:Nat→List SV→List (Nat×SV)
 |_,[]=>[]
 |i,v::vs=>(i,v)::Ud (i+1) vs
def AC8(C:Cx)(o:Oper):Option (Nat×IF×List Operand):=match o.op with
 | .call ⟨.value (.func f),args,_⟩=>(match lk f C.inl with
  |some i=>some (f,i,args.toList)
  |none=>none)
 |_=>none
def ah:Option LV→Option LV→Bool
 |none,none=>true
 |some a,some b=>a.beq b
 |_,_=>false
def Rg.beq(a b:Rg):Bool:=Nat.beq a.id b.id&&Nat.beq a.grp b.grp&&(a.wr == b.wr)&&Po ah a.cs b.cs
def yX(rg:List Rg)(e:Ex)(st:St):Bool:=match e with
 | .exit _=>false
 |_=>Po Rg.beq st.rg rg
def ALP:List ResultVar→Bool
 | []=>true
 |_=>false
def ACd (C:Cx) (run:Code→St→Bc) (i:IF) (args:List Operand) (dst:Option Nat) (st:St) (κ:St→Bc):Bc:=
 match opdL st args with
 |none=>.bad 40
 | some vs=>bif Nat.ble vs.length i.nt then
   let t:=run i.c { st with lc:=[],tm:=Ud 0 vs,nt:=i.nt }
   bif ALP i.rvs&&t.allL (yX st.rg) then (match St.put st dst (.tup []) with
    |none=>.bad 45
    |some Δ=>.chk t (κ Δ))
   else t.bind fun ex st'=>match ex with
    | .exit _=>.bad 41
    | _=>(match UH C st' i.rvs with
     |none=>.bad 42
     |some tvs=>(match St.put { st' with lc:=st.lc,tm:=st.tm,nt:=st.nt } dst (Rk tvs) with
      |none=>.bad 43
      |some Δ=>κ Δ))
  else .bad 44
def ADe(C:Cx)(o:Oper)(st:St)(κ:St→Bc):Bc:=match Z9 C o with
 |none=>qN C o true st κ
 |some f=>(match x8 C o f st with
  |some as=>bif as.all (·.lt st.nv) then .brc f as (qN C o true st κ) (qN C o false st κ) else .bad 9
  |none=>.bad 4)
def AFT(C:Cx)(run:Code→St→Bc)(o:Oper)(st:St)(κ:St→Bc):Bc:=match AC8 C o with
 |some (_,i,args)=>ACd C run i args o.dst st κ
 |none=>ADe C o st κ
def Tn (C:Cx) (run:Code→St→Bc) (ops:Array Oper) (κ:St→Bc):List Oper→St→Bc
 | [],st=>κ st.flush
 | o :: r,st=>
  let go (st:St):Bc:=AFT C run o st (Tn C run ops κ r)
  let skip (st:St):Bc:=match st.put o.dst (.tup []) with
   |some st'=>Tn C run ops κ r st'
   |none=>.bad 5
  match o.guard with
  |none=>go st
  | some (j,want)=>(match ops[j]? with
   | some g=>(match g.dst with
    |some t=>(match st.look t with
     |some (.t (.l (.bool (.lit n))))=>bif (JD n 0 != want) then go st else skip st
     |some (.t (.l (.bool x)))=>bif want then ABX x (go (st.setB t 1)) (skip (st.setB t 0)) else ABX x (skip (st.setB t 1)) (go (st.setB t 0))
     |_=>.bad 6)
    |none=>.bad 7)
   |none=>.bad 8)
structure DS where
 ls:Array Bool
 lc:List (Nat×SV)
 rg:List Rg
def XB(new:List (Nat×SV)):List (Nat×SV)→Bool
 | []=>true
 |(t,v)::r=>(match lk t new with
  |some u=>u.beq v
  |none=>false)&&XB new r
def Wz:List (Nat×FR)→List (Nat×FR)→Bool:=Po fun a b=>Nat.beq a.1 b.1&&a.2.beq b.2
structure Rf where
 ds:List (Nat×FR)
 ob:List JM
 rg:List Rg
def AI4 (C:Cx) (nv nl bv:Nat):List Oper→St→Option (List Rf)
 | [],_=>some []
 | o::r,st=>match o.guard,NQ C o true nv nl bv st with
  | none,some m=>(match St.put { st with rg:=m.rg,ln:=KN C.T st.ln m.o.ds } o.dst m.o.v with
   |some st'=>(match AI4 C (nv+16) (nl+16) bv r st' with
    |some rs=>some (⟨m.o.ds,m.o.ob,m.rg⟩::rs)
    |none=>none)
   |none=>none)
  |_,_=>none
def ALd(C:Cx)(o:Oper)(nb:Nat)(kp:List Rg)(st:St):Option OO:=
 match o.op with
 | .load t a=>(match st.opd a with
  |some (.t (.l v))=>nW C t v nb { st with rg:=kp }
  |_=>none)
 |_=>RB C o nb st
def AF4(rg:List Rg):List Rg→Bool
 | []=>true
 |r::rs=>(match kI r.id rg with
  |some r'=>r.beq r'
  |none=>false)&&AF4 rg rs
def UO(C:Cx)(o:Oper)(rf:Rf)(i nv nl bv:Nat)(kp:List Rg)(st:St)(w:Bool)(s:DS):Option DS:=
 let τ:= { st with lc:=s.lc,rg:=s.rg }
 match Z9 C o with
 |some _=>none
 |none=>
 match (bif w then (match ALd C o (nv+16*i) kp τ with
   |some r=>some ⟨r,s.rg,false⟩
   |none=>none) else (match NQ C o true (nv+16*i) (nl+16*i) bv τ with
   |some m=>bif AF4 m.rg kp && !m.er then some m else none
   |none=>none)) with
 |none=>none
 | some m=>bif Wz m.o.ds rf.ds&&Po JM.beq m.o.ob rf.ob then
   (match St.put { τ with rg:=m.rg } o.dst m.o.v with
   |some st2=>some ⟨s.ls.setIfInBounds i true,st2.lc,st2.rg⟩
   |none=>none) else none
def jO(C:Cx)(ops:Array Oper)(rfs:List Rf)(nv nl bv:Nat)(kp:List Rg)(st:St)(s:DS):List Nat→Option DS
 | []=>none
 | i::r=>match ops[i]?,rfs[i]? with
  |some o,some rf=>(match UO C o rf i nv nl bv kp st true s with
   |some s'=>bif Region.free .any ops s.ls i then some s' else jO C ops rfs nv nl bv kp st s r
   |none=>jO C ops rfs nv nl bv kp st s r)
  |_,_=>none
def AHX(C:Cx)(ops:Array Oper)(rfs:List Rf)(nv nl bv:Nat)(kp:List Rg)(st:St)(s:DS):List Nat→Option (List DS)
 | []=>some []
 | i::r=>match ops[i]?,rfs[i]? with
  |some o,some rf=>(match UO C o rf i nv nl bv kp st false s,AHX C ops rfs nv nl bv kp st s r with
   |some s',some ss=>some (s'::ss)
   |_,_=>none)
  |_,_=>none
def AC7(C:Cx)(ops:Array Oper)(rfs:List Rf)(nv nl bv:Nat)(kp:List Rg)(st:St)(s:DS):Option (List DS):=
 let R:=Region.ready .any ops s.ls
 match R with
 | []=>none
 |R=>(match jO C ops rfs nv nl bv kp st s R with
  |some s'=>some [s']
  |none=>AHX C ops rfs nv nl bv kp st s R)
def mf(a b:Bool):Bool:=cond a b (!b)
def AGQ(s:DS):List DS→Option (List DS)
 | []=>some [s]
 | e::r=>bif Po mf e.ls.toList s.ls.toList then
   (bif XB s.lc e.lc&&XB e.lc s.lc&&Po Rg.beq s.rg e.rg then some (e::r) else none)
  else (match AGQ s r with
   |some r'=>some (e::r')
   |none=>none)
def XU:List DS→List DS→Option (List DS)
 | [],L=>some L
 |s::r,L=>match AGQ s L with
  |some L'=>XU r L'
  |none=>none
def Z6(C:Cx)(ops:Array Oper)(rfs:List Rf)(nv nl bv:Nat)(kp:List Rg)(st:St):List DS→List DS→Option (List DS)
 | [],acc=>some acc
 | s::r,acc=>match AC7 C ops rfs nv nl bv kp st s with
  |some ss=>(match XU ss acc with
   |some acP=>Z6 C ops rfs nv nl bv kp st r acP
   |none=>none)
  |none=>none
def AA0(C:Cx)(ops:Array Oper)(rfs:List Rf)(nv nl bv:Nat)(kp:List Rg)(st:St):Nat→List DS→Option DS
 |0,[s]=>bif (Region.ready .any ops s.ls).isEmpty then some s else none
 |0,_=>none
 |n+1,L=>match Z6 C ops rfs nv nl bv kp st L [] with
  |some L'=>AA0 C ops rfs nv nl bv kp st n L'
  |none=>none
def AOf(rg:List Rg)(rfs:List Rf):List Rg:=match rfs.getLast? with
 |none=>[]
 | some f=>rg.filter fun r=>Nat.ble r.cs.length 256&&(match kI r.id f.rg with
   |some r'=>r.beq r'
   |none=>false)
def mQ(C:Cx)(ops:Array Oper)(st:St)(κ:St→Bc):Bc:=
 let bv:=st.nv+16*ops.size
 let bl:=st.nl+16*ops.size
 let cz:= { st with nv:=bv,nl:=bl }
 bif !(Region.noSelect ops) then .bad 10 else
 match AI4 C st.nv st.nl bv ops.toList cz with
 |none=>.bad 11
 | some rfs=>
  let ds:=rfs.flatMap (·.ds)
  let ob:=rfs.flatMap (·.ob)
  let τ:= { cz with ln:=KN C.T st.ln ds }
  let kp:=AOf st.rg rfs
  match AA0 C ops rfs st.nv st.nl bv kp τ ops.size [⟨Array.replicate ops.size false,[],st.rg⟩] with
  |none=>.bad 12
  |some s=>
   let st2:=St.flush { τ with lc:=s.lc,rg:=s.rg }
   match ds,ob with
   | [],[]=>κ st2
   |ds,ob=>bif GM st.nv bv ds&&J7 bv ob then .evs ds ob (κ st2) else .bad 13
def looks(st:St):List Nat→Option (List SV)
 | []=>some []
 |t::r=>match st.look t,looks st r with
  |some v,some vs=>some (v::vs)
  |_,_=>none
def AG7(ts:List Nat)(tm:List (Nat×SV)):List (Nat×SV):=tm.filter fun p=> !(EH p.1 ts)
def wE(st:St):List Nat→List TV→Option St
 | [],[]=>some st
 |t::ts,v::vs=>match st.put (some t) (.t v) with
  |some st'=>wE st' ts vs
  |none=>none
 |_,_=>none
def lT (C:Cx) (d:LD) (st:St) (κ:St→Bc):Bc:=
 bif !(Nat.beq st.nt d.nt) then .bad 24 else
 match looks st d.ps with
 |none=>.bad 20
 | some vs=>match AAQ C d.lid true vs st.nv st.nl (st.nv+16) st with
  |none=>.bad 21
  | some r=>
   match wE { st with lc:=[],tm:=AG7 d.cl st.tm,rg:=r.rg,ln:=KN C.T st.ln r.ds,nv:=st.nv+16,nl:=st.nl+16 } d.ss r.vs with
   |none=>.bad 22
   |some st'=>(match r.ds,r.ob with
    | [],[]=>κ st'.flush
    |ds,ob=>bif GM st.nv (st.nv+16) ds&&J7 (st.nv+16) ob then .evs ds ob (κ st'.flush) else .bad 23)
def APD:List K→Option (Code×List K)
 | []=>none
 | .code c::k=>some (c,k)
 | .blk _::k=>APD k
def oJ(id:Nat):List K→Option (List K)
 | []=>none
 | .blk j::k=>bif Nat.beq j id then some k else oJ id k
 | .code _::k=>oJ id k
def Pd(C:Cx):Nat→List K→Code→St→Bc
 |0,_,_,_=>.bad 30
 | n+1,k,c,st=>
  let fin (k:List K) (st:St):Bc:=match APD k with
   |none=>.leaf .normal st
   |some (c,k')=>Pd C n k' c st
  match c with
  | .skip=>fin k st
  | .region _ ops draw=>cond draw (mQ C ops st (fin k)) (Tn C (Pd C n []) ops (fin k) ops.toList st)
  | .seq a b=>Pd C n (.code b::k) a st
  | .cond x t e=>(match st.opd x with
   |some (.t (.l (.bool (.lit m))))=>bif JD m 0 then Pd C n k e st else Pd C n k t st
   |some (.t (.l (.bool y)))=>ABX y (Pd C n k t st) (Pd C n k e st)
   |_=>.bad 31)
  | .block id body=>(match lk id C.loops with
   |some d=>lT C d st (fin k)
   |none=>Pd C n (.blk id::k) body st)
  | .loop body=>Pd C n (.code (.loop body)::k) body st
  | .exit id=>(match oJ id k with
   |none=>.leaf (.exit id) st
   |some k'=>fin k' st)
  | .ret=>.leaf .ret st
  |_=>.bad 32
end
section
open Go
theorem Oo{α:Type}{t:Nat}{v:α}:∀ {l:List (Nat×α)},lk t l=some v→(t,v)∈l
 | [],h=>by simp[lk] at h
 | (k,u)::r,h=>by
  unfold lk at h
  cases hb:Nat.beq k t with
  |true=>
   rw[hb] at h;simp only[cond_true,Am] at h;have:=CL hb;subst this;subst h;exact LA
  |false=>
   rw[hb] at h;exact MQ _ (Oo h)
theorem NP{a b:Int}(h:JD a b=true):a=b:=by
 cases a<;>cases b<;>simp only[JD,Rc] at h
 ·rw[CL h]
 ·rw[CL h]
theorem QV{a b:Int}(h:JD a b=false):a≠b:=by
 intro e;subst e
 cases a<;>simp[JD] at h
theorem HV{α:Type}{f:α→α→Bool}(hf:∀ a b,f a b=true→a=b):∀ {l m:List α},Po f l m=true→l=m
 | [],[],_=>rfl
 | [],_::_,h=>by simp[Po] at h
 |_::_,[],h=>by simp[Po] at h
 |a::as,b::bs,h=>by
  simp only[Po,Bd] at h;rw[hf _ _ h.1,HV hf h.2]
theorem X.beq_eq{a b:X}(h:a.beq b=true):a=b:=by
 cases a<;>cases b<;>simp only[X.beq,Bd,Rc] at h
 ·rw[NP h]
 ·rw[CL h.1,CL h.2]
theorem N9{a b:IntKind}(h:ui a b=true):a=b:=by
 cases a<;>cases b<;>first|rfl|(exact absurd h (by decide))
theorem CX.beq_eq{a b:CX}(h:a.beq b=true):a=b:=by
 cases a<;>cases b<;>simp only[CX.beq,Rc] at h
 ·rw[X.beq_eq h]
 ·rw[CL h]
theorem LV.beq_eq{a b:LV}(h:a.beq b=true):a=b:=by
 cases a<;>cases b<;>simp only[LV.beq,Bd,Rc] at h
 all_goals first
  |rfl
  |rw[HV (fun _ _=>X.beq_eq) h]
  |rw[N9 h.1,X.beq_eq h.2]
  |rw[X.beq_eq h]
  |rw[CL h]
  |rw[CL h.1,CL h.2]
  |rw[CL h.1.1.1,CL h.1.1.2,CL h.1.2,CL h.2]
  | (obtain⟨⟨⟨⟨h1,h2⟩,h3⟩,h4⟩,h5⟩:=h
     first
    |rw[CL h1,CL h2,CL h3,CX.beq_eq h4,CL h5]
    |rw[CL h1,CL h2,CL h3,CL h4,X.beq_eq h5])
  | (obtain⟨⟨⟨⟨⟨h1,h2⟩,h3⟩,h4⟩,h5⟩,h6⟩:=h
     rw[CL h1,CL h2,CL h3,CX.beq_eq h4,CL h5,CL h6])
theorem TV.beq_eq{a b:TV}(h:a.beq b=true):a=b:=by
 cases a<;>cases b<;>simp only[TV.beq,Rc] at h
 ·rw[LV.beq_eq h]
 ·rw[HV (fun _ _=>LV.beq_eq) h]
theorem SV.beq_eq{a b:SV}(h:a.beq b=true):a=b:=by
 cases a<;>cases b<;>simp only[SV.beq,Rc] at h
 ·rw[TV.beq_eq h]
 ·rw[HV (fun _ _=>TV.beq_eq) h]
 ·rw[CL h]
theorem oo{a b:Option LV}(h:ah a b=true):a=b:=by
 cases a<;>cases b<;>simp only[ah,Rc] at h
 ·rfl
 ·rw[LV.beq_eq h]
theorem Rg.beq_eq{a b:Rg}(h:a.beq b=true):a=b:=by
 simp only[Rg.beq,Bd,beq_iff_eq] at h;obtain⟨⟨⟨h1,h2⟩,h3⟩,h4⟩:=h
 cases a;cases b
 simp only at h1 h2 h3 h4;rw[CL h1,CL h2,h3,HV (fun _ _=>oo) h4]
theorem Iq.beq_eq{a b:Iq}(h:a.beq b=true):a=b:=by
 cases a<;>cases b<;>simp only[Iq.beq,Rc] at h
 ·rw[CL h]
 ·rw[HV (fun _ _=>X.beq_eq) h]
theorem AM1{a b:BinOp}(h:Nat.beq (opN a) (opN b)=true):a=b:=by
 cases a<;>cases b<;>first|rfl|(exact absurd h (by decide))
theorem OP.beq_eq{a b:OP}(h:a.beq b=true):a=b:=by
 cases a<;>cases b<;>simp only[OP.beq,Bd,beq_iff_eq,Rc] at h
 all_goals first
  |rfl
  |rw[AM1 h.1,N9 h.2]
  |rw[N9 h]
  |rw[CL h]
  |rw[CL h.1.1,h.1.2,CL h.2]
theorem FR.beq_eq{a b:FR}(h:a.beq b=true):a=b:=by
 simp only[FR.beq,Bd] at h
 cases a;cases b
 simp only at h;rw[OP.beq_eq h.1,HV (fun _ _=>Iq.beq_eq) h.2]
theorem aJ{a b:List (Nat×FR)}(h:Wz a b=true):a=b:=
 HV (fun a b h=>by
  simp only[Bd] at h
  cases a;cases b
  simp only at h;rw[CL h.1,FR.beq_eq h.2]) h
theorem JM.beq_eq{a b:JM}(h:a.beq b=true):a=b:=by
 cases a<;>cases b<;>simp only[JM.beq,Bd,Rc] at h
 all_goals first
  |rw[X.beq_eq h]
  |rw[X.beq_eq h.1,CL h.2]
  |rw[CL h.1,HV (fun _ _=>Iq.beq_eq) h.2]
theorem Oe{α:Type}:∀ (cs:List α) (o:Nat) (vs:List α),(VG cs o vs).length=cs.length
 | [],_,_=>by simp[VG]
 |_::_,0,[]=>by simp[VG]
 |c::cs,0,v::vs=>by simp[VG,Oe cs 0 vs]
 |c::cs,o+1,vs=>by simp[VG,Oe cs o vs]
theorem Qz{α:Type}:∀ (cs:List α) (o:Nat) (vs:List α) (i:Nat),i<cs.length→
  (VG cs o vs)[i]? = if o≤i∧i<o+vs.length then vs[i-o]? else cs[i]?
 | [],_,_,i,h=>by simp at h
 |c::cs,0,[],i,_=>by simp[VG]
 |c::cs,0,v::vs,0,_=>by simp[VG]
 |c::cs,0,v::vs,i+1,h=>by
  simp only[VG,zbv,Oq];rw[Qz cs 0 vs i (by simpa using h)];simp only[Nat.zero_le,true_and,NU,Nat.sub_zero]
  by_cases h1:i<vs.length
  ·rw[if_pos h1,if_pos (by omega)];simp
  ·rw[if_neg h1,if_neg (by omega)]
 |c::cs,o+1,vs,0,_=>by simp[VG]
 |c::cs,o+1,vs,i+1,h=>by
  simp only[VG,zbv];rw[Qz cs o vs i (by simpa using h)]
  by_cases h1:o≤i∧i<o+vs.length
  ·rw[if_pos h1,if_pos (by omega),Nat.add_sub_add_right]
  ·rw[if_neg h1,if_neg (by omega)]
theorem Yy{α:Type}:∀ {l:List (Option α)} {r:List α},Si l=some r→l=r.map some
 | [],r,h=>by simp[Si] at h;subst h;rfl
 |none::_,r,h=>by simp[Si] at h
 | some x::xs,r,h=>by
  unfold Si at h
  cases hx:Si xs with
  |none=>rw[hx] at h;simp at h
  |some ys=>
   rw[hx] at h;simp only[Am] at h;subst h;rw[Yy hx];rfl
def Ci(f:Bool)(w:World)(b o:Nat)(v:Value):Prop:=w.cell? ⟨b,o,none⟩=some v∧(f=true→w.frozen? ⟨b,o,none⟩=false)
theorem Ci.lt{f:Bool}{w:World}{b o:Nat}{v:Value}(h:Ci f w b o v):b<w.heap.size:=by
 have h1:=h.1;unfold World.cell? at h1
 rcases nG b w.heap.size with h2|h2
 ·exact h2
 ·simp[vR h2] at h1
theorem Ci.weak{f:Bool}{w:World}{b o:Nat}{v:Value}(h:Ci true w b o v):Ci f w b o v:=⟨h.1,fun _=>h.2 rfl⟩
theorem Ci.obj{f:Bool}{w:World}{b o:Nat}{v:Value}(h:Ci f w b o v):
  ∃ c e lo hi,w.heap[b]? = some (.cells c e (lo,hi))∧c[o]? = some v∧(f=true→¬ (lo≤o∧o<hi)):=by
 obtain⟨h1,h2⟩:=h;unfold World.cell? at h1;unfold World.frozen? at h2;simp only at h1 h2
 split at h1
 ·rename_i c e fr heq
  rw[heq] at h2;obtain⟨lo,hi⟩:=fr;simp only[Option.isSome_none,Rc,if_false] at h1;exact⟨c,e,lo,hi,heq,h1,fun hf=>by simpa using h2 hf⟩
 ·exact absurd h1 (by simp)
theorem Ci.of_obj{f:Bool}{w:World}{b o:Nat}{v:Value}{c:Array Value}{e lo hi:Nat}(h:w.heap[b]? = some (.cells c e (lo,hi)))(hc:c[o]? = some v)
  (hf:f=true→¬ (lo≤o∧o<hi)):Ci f w b o v:=by
 constructor
 ·unfold World.cell?;simp only[h]
  simpa using hc
 ·intro hft
  unfold World.frozen?;simp only[h]
  simpa using hf hft
theorem World.setCell_heap(w:World)(b o:Nat)(v:Value)(j:Nat):
  (w.setCell ⟨b,o,none⟩ v).heap[j]? = if j=b then (w.heap[b]?).map (fun | .cells c e f=>.cells (c.setIfInBounds o v) e f|x=>x) else w.heap[j]? := by
 unfold World.setCell;simp only[Array.getElem?_modify]
 by_cases h:b=j
 ·subst h;simp;generalize w.heap[b]? = q
  cases q with
  |none=>rfl
  |some x=>cases x<;>rfl
 ·rw[if_neg h,if_neg (fun e=>h e.symm)]
theorem XW(w:World)(a:Addr)(v:Value):(w.setCell a v).heap.size=w.heap.size:=by
 unfold World.setCell;simp
theorem Ci.set_same{f:Bool}{w:World}{b o:Nat}{u v:Value}(h:Ci f w b o u):Ci f (w.setCell ⟨b,o,none⟩ v) b o v:=by
 obtain⟨c,e,lo,hi,h1,h2,h3⟩:=h.obj;refine Ci.of_obj (c:=c.setIfInBounds o v) (e:=e) (lo:=lo) (hi:=hi) ?_ ?_ h3
 ·rw[World.setCell_heap,if_pos rfl,h1];rfl
 ·have:o<c.size:=by
   rcases nG o c.size with h|h
   ·exact h
   ·simp[vR h] at h2
  simp[this]
theorem Ci.set_other{f:Bool}{w:World}{b o b' o':Nat}{u v:Value}(h:Ci f w b o u)(hne:¬ (b=b'∧o=o')):Ci f (w.setCell ⟨b',o',none⟩ v) b o u:=by
 obtain⟨c,e,lo,hi,h1,h2,h3⟩:=h.obj
 by_cases hb:b=b'
 ·subst hb;have ho:o'≠o:=fun e=>hne ⟨rfl,e.symm⟩
  refine Ci.of_obj (c:=c.setIfInBounds o' v) (e:=e) (lo:=lo) (hi:=hi) ?_ ?_ h3
  ·rw[World.setCell_heap,if_pos rfl,h1];rfl
  ·rw[Array.getElem?_setIfInBounds_ne ho];exact h2
 ·refine Ci.of_obj (c:=c) (e:=e) (lo:=lo) (hi:=hi) ?_ h2 h3;rw[World.setCell_heap,if_neg hb];exact h1
def BR(S:Nat→Prop)(x y:Obj):Prop:=
 x=y∨∃ c c' e f,x= .cells c e f∧y= .cells c' e f∧c'.size=c.size∧∀ o,¬ S o→c'[o]? = c[o]?
theorem BR.refl(S:Nat→Prop)(x:Obj):BR S x x:=.inl rfl
theorem BR.trans{S:Nat→Prop}{x y z:Obj}(h:BR S x y)(h':BR S y z):BR S x z:=by
 rcases h with rfl|⟨c,c',e,f,rfl,rfl,h1,h2⟩
 ·exact h'
 ·rcases h' with rfl|⟨d,d',e',f',h3,rfl,h4,h5⟩
  ·exact .inr ⟨c,c',e,f,rfl,rfl,h1,h2⟩
  ·cases h3
   exact .inr ⟨c,d',e,f,rfl,rfl,by rw[h4,h1],fun o ho=>by rw[h5 o ho,h2 o ho]⟩
theorem BR.mono{S S':Nat→Prop}{x y:Obj}(h:BR S x y)(hs:∀ o,S o→S' o):BR S' x y:=by
 rcases h with rfl|⟨c,c',e,f,rfl,rfl,h1,h2⟩
 ·exact .inl rfl
 ·exact .inr ⟨c,c',e,f,rfl,rfl,h1,fun o ho=>h2 o fun h=>ho (hs o h)⟩
def CV(B w:World)(S:Nat→Nat→Prop):Prop:=
 B.heap.size≤w.heap.size∧(∀ b x,B.heap[b]? = some x→∃ y,w.heap[b]? = some y∧BR (S b) x y)∧w.os=B.os∧w.output=B.output∧w.tape=B.tape
theorem CV.refl(w:World)(S:Nat→Nat→Prop):CV w w S:=⟨JP _,fun _ x h=>⟨x,h,.refl _ x⟩,rfl,rfl,rfl⟩
theorem CV.trans{A B w:World}{S:Nat→Nat→Prop}(h:CV A B S)(h':CV B w S):CV A w S:=
 ⟨G9 h.1 h'.1,fun b x hx=>by
  obtain⟨y,hy,h1⟩:=h.2.1 b x hx;obtain⟨z,hz,h2⟩:=h'.2.1 b y hy;exact⟨z,hz,h1.trans h2⟩,h'.2.2.1.trans h.2.2.1,h'.2.2.2.1.trans h.2.2.2.1,h'.2.2.2.2.trans h.2.2.2.2⟩
theorem CV.mono{B w:World}{S S':Nat→Nat→Prop}(h:CV B w S)(hs:∀ b o,b<B.heap.size→S b o→S' b o):CV B w S':=
 ⟨h.1,fun b x hx=>by
  obtain⟨y,hy,h1⟩:=h.2.1 b x hx;have hb:b<B.heap.size:=by
   rcases nG b B.heap.size with h2|h2
   ·exact h2
   ·simp[vR h2] at hx
  exact⟨y,hy,h1.mono fun o=>hs b o hb⟩,h.2.2⟩
theorem CV.of_heap{B w w':World}{S:Nat→Nat→Prop}(h:CV B w S)(e:w'.heap=w.heap)(e1:w'.os=w.os)(e2:w'.output=w.output)(e3:w'.tape=w.tape):CV B w' S:=by
 unfold CV;rw[e,e1,e2,e3];exact h
theorem CV.setCell{B w:World}{S:Nat→Nat→Prop}(h:CV B w S){b o:Nat}{v:Value}(hs:B.heap.size≤b∨S b o):CV B (w.setCell ⟨b,o,none⟩ v) S:=by
 refine⟨by rw[XW];exact h.1,fun j x hx=>?_,h.2.2⟩;obtain⟨y,hy,h1⟩:=h.2.1 j x hx;have hj:j<B.heap.size:=by
  rcases nG j B.heap.size with h2|h2
  ·exact h2
  ·simp[vR h2] at hx
 rw[World.setCell_heap]
 by_cases hjb:j=b
 ·subst hjb;rw[if_pos rfl,hy];have hS:S j o:=hs.resolve_left (by omega);refine⟨_,rfl,h1.trans ?_⟩
  cases y with
  | cells c e f=>exact .inr ⟨c,_,e,f,rfl,rfl,by simp,fun o' ho'=>by
    have:o≠o':=fun e=>ho' (e ▸ hS)
    exact Array.getElem?_setIfInBounds_ne this⟩
  |_=>exact .refl _ _
 ·rw[if_neg hjb];exact⟨y,hy,h1⟩
theorem CV.push{B w w':World}{S:Nat→Nat→Prop}(h:CV B w S){o:Obj}(e:w'.heap=w.heap.push o)(e1:w'.os=w.os)(e2:w'.output=w.output)(e3:w'.tape=w.tape):CV B w' S:=by
 refine⟨by rw[e,Array.size_push];have:=h.1;omega,fun j x hx=>?_,by rw[e1,e2,e3];exact h.2.2⟩;obtain⟨y,hy,h1⟩:=h.2.1 j x hx;refine⟨y,?_,h1⟩;have hj:j<w.heap.size:=by
  rcases nG j w.heap.size with h2|h2
  ·exact h2
  ·simp[vR h2] at hy
 rw[e,Array.getElem?_push_lt hj]
 simpa[Array.getElem?_eq_getElem hj] using hy
theorem CV.hasC{f:Bool}{B w:World}{S:Nat→Nat→Prop}(h:CV B w S){b o:Nat}{v:Value}(hc:Ci f B b o v)(hs:¬ S b o):Ci f w b o v:=by
 obtain⟨c,e,lo,hi,h1,h2,h3⟩:=hc.obj;obtain⟨y,hy,hb⟩:=h.2.1 b _ h1
 rcases hb with rfl|⟨c0,c',e0,fr,h4,rfl,h5,h6⟩
 ·exact Ci.of_obj hy h2 h3
 ·cases h4
  exact Ci.of_obj hy (by rw[h6 o hs];exact h2) h3
theorem Ci.push{f:Bool}{w w':World}{b o:Nat}{v:Value}{x:Obj}(h:Ci f w b o v)(e:w'.heap=w.heap.push x):Ci f w' b o v:=by
 have hb:=h.lt;obtain⟨c,el,lo,hi,h1,h2,h3⟩:=h.obj;refine Ci.of_obj (c:=c) (e:=el) (lo:=lo) (hi:=hi) ?_ h2 h3;rw[e,Array.getElem?_push_lt hb]
 simpa[Array.getElem?_eq_getElem hb] using h1
theorem Ci.of_heap{f:Bool}{w w':World}{b o:Nat}{v:Value}(h:Ci f w b o v)(e:w'.heap=w.heap):Ci f w' b o v:=by
 unfold Ci World.cell? World.frozen?;rw[e];exact h
theorem Ci.inj{f g:Bool}{w:World}{b o:Nat}{v u:Value}(h:Ci f w b o v)(h':Ci g w b o u):v=u:=by
 have:=h.1.symm.trans h'.1;simpa using this
end
section
open Go
structure En where
 P:Program
 C:Cx
 B:World
 S:Nat→Nat→Prop
 GB:Nat
 GC:Nat→Nat→Option Value
 I:List (Nat×(Nat×Nat)):=[]
 sn:Nat:=0
 σ0:Nat→Value:=fun _=>undef
def GW(GC:Nat→Nat→Option Value)(w:World):Prop:=∀ b o v,GC b o=some v→w.cell? ⟨b,o,none⟩=some v
def RgH(V:Vl)(w:World)(r:Rg):Prop:=
 ∀ (i:Nat) (c:Option LV),r.cs[i]? = some c→∃ v,Ci r.wr w (V.ν r.id).1 ((V.ν r.id).2+i) v∧∀ lv,c=some lv→v=lv.den V∧lv.ok V
def fM(a b:Nat×Nat)(n m:Nat):Prop:=a.1≠b.1∨a.2+n≤b.2∨b.2+m≤a.2∨n=0∨m=0
def wK(V:Vl)(r r':Rg):Prop:=
 (r.grp=r'.grp∧r.grp≠0∧V.ν r.id=V.ν r'.id∧r.cs.length=r'.cs.length)∨fM (V.ν r.id) (V.ν r'.id) r.cs.length r'.cs.length
structure Pw (E:En) (rg:List Rg) (V:Vl) (w:World):Prop where
 rgs:∀ r∈rg,RgH V w r
 one:∀ r∈rg,∀ r'∈rg,r.id=r'.id→r=r'
 sep:∀ r∈rg,∀ r'∈rg,r.wr=true→r.id≠r'.id→wK V r r'
 cov:∀ r∈rg,r.wr=true→E.GB≤(V.ν r.id).1∧∀ i,i<r.cs.length→E.B.heap.size≤(V.ν r.id).1∨E.S (V.ν r.id).1 ((V.ν r.id).2+i)
 frm:CV E.B w E.S
 gw:GW E.GC w
def Zl(nv:Nat)(rg:List Rg):Prop:=∀ r∈rg,∀ lv,some lv∈r.cs→lv.lt nv (Db rg)=true
structure Tq (st:St) (V:Vl) (a:Act):Prop where
 tm:∀ t v,st.look t=some v→a.tmps.getD t undef=v.den V∧v.ok V∧v.lt st.nv (Db st.rg)=true
 gl:∀ g l,lk g st.gl=some l→V.ν l=(g,0)∧EH l (Db st.rg)=true
 ln:∀ p∈st.ln,(V.ρ p.1).length=p.2
structure Sat (E:En) (st:St) (V:Vl) (a:Act) (w:World):Prop where
 m:Pw E st.rg V w
 scp:Zl st.nv st.rg
 t:Tq st V a
 nt:a.tmps.size=st.nt
 df:a.defers= []
def Ag(nv:Nat)(ids:List Nat)(V V':Vl):Prop:=
 (∀ i,i<nv→V'.ρ i=V.ρ i)∧(∀ i,i<nv→V'.σ i=V.σ i)∧(∀ l,EH l ids=true→V'.ν l=V.ν l)
theorem Ag.refl(nv:Nat)(ids:List Nat)(V:Vl):Ag nv ids V V:=⟨fun _ _=>rfl,fun _ _=>rfl,fun _ _=>rfl⟩
theorem EF{a b:Nat}(h:Nat.blt a b=true):a<b:=by
 have:=Na h;omega
theorem X.den_ag{nv:Nat}{ids:List Nat}{V V':Vl}(h:Ag nv ids V V'){x:X}(hx:x.lt nv=true):x.den V'.ρ=x.den V.ρ:=by
 cases x with
 |lit n=>rfl
 |v i k=>simp only[X.den,h.1 i (EF hx)]
theorem CX.den_ag{nv:Nat}{ids:List Nat}{V V':Vl}(h:Ag nv ids V V'){x:CX}(hx:x.lt nv=true):x.den V'=x.den V:=by
 cases x with
 |n x=>exact X.den_ag h hx
 |s i=>simp only[CX.den,h.2.1 i (EF hx)]
theorem LV.den_ag{nv:Nat}{ids:List Nat}{V V':Vl}(h:Ag nv ids V V'){v:LV}(hv:v.lt nv ids=true):v.den V'=v.den V:=by
 cases v with
 |int k x=>simp only[LV.den,X.den_ag h hv]
 |bool x=>simp only[LV.den,X.den_ag h hv]
 |ptr l o=>simp only[LV.den,h.2.2 l hv]
 |sl l o n c d=>
  simp only[LV.lt,Bd] at hv;simp only[LV.den,h.2.2 l hv.1,CX.den_ag h hv.2]
 |se l o s c d a=>
  simp only[LV.lt,Bd] at hv;simp only[LV.den,h.2.2 l hv.1,CX.den_ag h hv.2]
 |str xs=>
  simp only[LV.lt,Ll] at hv;simp only[LV.den];rw[fU fun x hx=>show zn V'.ρ x=zn V.ρ x by unfold zn;rw[X.den_ag h (hv x hx)]]
 |pd l o n s x=>
  simp only[LV.lt,Bd] at hv;simp only[LV.den,h.2.2 l hv.1,X.den_ag h hv.2]
 |slm l o n i=>
  simp only[LV.lt,Bd] at hv;simp only[LV.den,h.2.1 i (EF hv.2)]
 |opq i=>simp only[LV.den,h.2.1 i (EF hv)]
 |err i=>simp only[LV.den,h.2.1 i (EF hv)]
 |_=>rfl
theorem LV.ok_ag{nv:Nat}{ids:List Nat}{V V':Vl}(h:Ag nv ids V V'){v:LV}(hv:v.lt nv ids=true)(ho:v.ok V):v.ok V':=by
 cases v with
 |int k x=>simpa only[LV.ok,X.den_ag h hv] using ho
 |sl l o n c d=>
  simp only[LV.lt,Bd] at hv
  simpa only[LV.ok,CX.den_ag h hv.2] using ho
 |se l o s c d a=>
  simp only[LV.lt,Bd] at hv
  simpa only[LV.ok,CX.den_ag h hv.2] using ho
 |str xs=>
  simp only[LV.lt,Ll] at hv;exact fun x hx=>by rw[X.den_ag h (hv x hx)];exact ho x hx
 |pd l o n s x=>
  simp only[LV.lt,Bd] at hv
  simpa only[LV.ok,X.den_ag h hv.2] using ho
 |slm l o n i=>
  simp only[LV.lt,Bd] at hv
  simpa only[LV.ok,h.2.1 i (EF hv.2),h.2.2 l hv.1] using ho
 |opq i=>simpa only[LV.ok,h.2.1 i (EF hv)] using ho
 |err i=>simpa only[LV.ok,h.2.1 i (EF hv)] using ho
 |val v=>exact ho
 |_=>trivial
theorem TV.den_ag{nv:Nat}{ids:List Nat}{V V':Vl}(h:Ag nv ids V V'){v:TV}(hv:v.lt nv ids=true):v.den V'=v.den V:=by
 cases v with
 |l v=>exact LV.den_ag h hv
 |a vs=>
  simp only[TV.lt,Ll] at hv;simp only[TV.den];rw[fU fun x hx=>LV.den_ag h (hv x hx)]
theorem TV.ok_ag{nv:Nat}{ids:List Nat}{V V':Vl}(h:Ag nv ids V V'){v:TV}(hv:v.lt nv ids=true)(ho:v.ok V):v.ok V':=by
 cases v with
 |l v=>exact LV.ok_ag h hv ho
 |a vs=>
  simp only[TV.lt,Ll] at hv;exact fun x hx=>LV.ok_ag h (hv x hx) (ho x hx)
theorem SV.den_ag{nv:Nat}{ids:List Nat}{V V':Vl}(h:Ag nv ids V V'){v:SV}(hv:v.lt nv ids=true):v.den V'=v.den V:=by
 cases v with
 |t v=>exact TV.den_ag h hv
 |tup vs=>
  simp only[SV.lt,Ll] at hv;simp only[SV.den];rw[fU fun x hx=>TV.den_ag h (hv x hx)]
 |any i=>exact h.2.1 i (EF hv)
theorem SV.ok_ag{nv:Nat}{ids:List Nat}{V V':Vl}(h:Ag nv ids V V'){v:SV}(hv:v.lt nv ids=true)(ho:v.ok V):v.ok V':=by
 cases v with
 |t v=>exact TV.ok_ag h hv ho
 |tup vs=>
  simp only[SV.lt,Ll] at hv;exact fun x hx=>TV.ok_ag h (hv x hx) (ho x hx)
 |any i=>trivial
theorem PZ{rg:List Rg}{l:Nat}:EH l (Db rg)=true↔∃ r∈rg,r.id=l:=by
 induction rg with
 |nil=>simp[Db,EH]
 | cons r rs ih=>
  simp only[Db,NT,EH,Bool.or_eq_true] at ih ⊢;rw[show EH l (List.map (fun x=>x.id) rs)=true↔∃ r∈rs,r.id=l from ih]
  constructor
  ·rintro (h|⟨r',h1,h2⟩)
   ·exact⟨r,LA,CL h⟩
   ·exact⟨r',MQ _ h1,h2⟩
  ·rintro⟨r',h1,h2⟩
   rcases J4.1 h1 with rfl|h1
   ·exact .inl (by rw[h2];exact Nat.beq_refl l)
   ·exact .inr ⟨r',h1,h2⟩
theorem Gh{rg:List Rg}{r:Rg}(h:r∈rg):EH r.id (Db rg)=true:=PZ.2 ⟨r,h,rfl⟩
theorem X.lt_mono{a b:Nat}(h:a≤b){x:X}(hx:x.lt a=true):x.lt b=true:=by
 cases x with
 |lit n=>rfl
 |v i k=>exact zh (by have:=EF hx;omega)
theorem CX.lt_mono{a b:Nat}(h:a≤b){x:CX}(hx:x.lt a=true):x.lt b=true:=by
 cases x with
 |n x=>exact X.lt_mono h hx
 |s i=>exact zh (by have:=EF hx;omega)
theorem LV.lt_mono{a b:Nat}{is js:List Nat}(h:a≤b)(hi:∀ l,EH l is=true→EH l js=true){v:LV}(hv:v.lt a is=true):v.lt b js=true:=by
 cases v with
 |int k x=>exact X.lt_mono h hv
 |bool x=>exact X.lt_mono h hv
 |ptr l o=>exact hi l hv
 |sl l o n c d=>
  simp only[LV.lt,Bd] at hv ⊢;exact⟨hi l hv.1,CX.lt_mono h hv.2⟩
 |se l o s c d a=>
  simp only[LV.lt,Bd] at hv ⊢;exact⟨hi l hv.1,CX.lt_mono h hv.2⟩
 |str xs=>
  simp only[LV.lt,Ll] at hv ⊢;exact fun x hx=>X.lt_mono h (hv x hx)
 |pd l o n s x=>
  simp only[LV.lt,Bd] at hv ⊢;exact⟨hi l hv.1,X.lt_mono h hv.2⟩
 |slm l o n i=>
  simp only[LV.lt,Bd] at hv ⊢;exact⟨hi l hv.1,zh (by have:=EF hv.2;omega)⟩
 |opq i=>exact zh (by have:=EF hv;omega)
 |err i=>exact zh (by have:=EF hv;omega)
 |_=>rfl
theorem TV.lt_mono{a b:Nat}{is js:List Nat}(h:a≤b)(hi:∀ l,EH l is=true→EH l js=true){v:TV}(hv:v.lt a is=true):v.lt b js=true:=by
 cases v with
 |l v=>exact LV.lt_mono h hi hv
 |a vs=>
  simp only[TV.lt,Ll] at hv ⊢;exact fun x hx=>LV.lt_mono h hi (hv x hx)
theorem SV.lt_mono{a b:Nat}{is js:List Nat}(h:a≤b)(hi:∀ l,EH l is=true→EH l js=true){v:SV}(hv:v.lt a is=true):v.lt b js=true:=by
 cases v with
 |t v=>exact TV.lt_mono h hi hv
 |tup vs=>
  simp only[SV.lt,Ll] at hv ⊢;exact fun x hx=>TV.lt_mono h hi (hv x hx)
 |any i=>exact zh (by have:=EF hv;omega)
theorem RgH.ag{nv:Nat}{rg:List Rg}{V V':Vl}(h:Ag nv (Db rg) V V')(hs:Zl nv rg){w:World}{r:Rg}(hr:r∈rg)(hh:RgH V w r):RgH V' w r:=by
 intro i c hc
 obtain⟨v,h1,h2⟩:=hh i c hc;rw[h.2.2 r.id (Gh hr)];refine⟨v,h1,fun lv e=>?_⟩;subst e;obtain⟨h3,h4⟩:=h2 lv rfl;have hl:=hs r hr lv (OZ hc);exact⟨by rw[LV.den_ag h hl];exact h3,LV.ok_ag h hl h4⟩
theorem Pw.ag{E:En}{nv:Nat}{rg:List Rg}{V V':Vl}{w:World}(h:Ag nv (Db rg) V V')(hs:Zl nv rg)(hm:Pw E rg V w):Pw E rg V' w where
 rgs r hr:=(hm.rgs r hr).ag h hs hr
 one:=hm.one
 sep r hr r' hr' hw hne:=by
  have:=hm.sep r hr r' hr' hw hne;unfold wK at *
  rw[h.2.2 r.id (Gh hr),h.2.2 r'.id (Gh hr')];exact this
 cov r hr hw:=by
  have:=hm.cov r hr hw;rw[h.2.2 r.id (Gh hr)];exact this
 frm:=hm.frm
 gw:=hm.gw
theorem Kc{l:Nat}{rg:List Rg}{r:Rg}(h:kI l rg=some r):r∈rg∧r.id=l:=by
 induction rg with
 |nil=>simp[kI] at h
 | cons x xs ih=>
  unfold kI at h
  cases hb:Nat.beq x.id l with
  |true=>
   rw[hb] at h;simp only[cond_true,Am] at h;subst h;exact⟨LA,CL hb⟩
  |false=>
   rw[hb] at h;exact⟨MQ _ (ih h).1,(ih h).2⟩
theorem GR{rg:List Rg}{l o n:Nat}{cs:List LV}(h:Kz rg l o n=some cs):
  cs.length=n∧∃ r∈rg,r.id=l∧o+n≤r.cs.length∧∀ i v,cs[i]? = some v→r.cs[o+i]? = some (some v):=by
 unfold Kz at h
 cases hf:kI l rg with
 |none=>rw[hf] at h;simp at h
 | some r=>
  rw[hf] at h;simp only at h
  cases hb:Nat.ble (o+n) r.cs.length with
  |false=>rw[hb] at h;simp at h
  | true=>
   rw[hb] at h;simp only[cond_true] at h;have hle:=Na hb;have he:=Yy h;have hlen:cs.length=n:=by
    have:=QL List.length he;simp at this;omega
   refine⟨hlen,r,(Kc hf).1,(Kc hf).2,hle,fun i v hv=>?_⟩;have h1:=QL (fun l=>l[i]?) he;simp only[OX,hv,Xa,List.getElem?_take,List.getElem?_drop] at h1;have hi:i<n:=by
    have:=(Pi.1 hv).1;omega
   rw[if_pos hi] at h1;exact h1
theorem Pw.read{E:En}{rg:List Rg}{V:Vl}{w:World}(hm:Pw E rg V w){l o n:Nat}{cs:List LV}(h:Kz rg l o n=some cs):
  ∀ i v,cs[i]? = some v→w.cell? ⟨(V.ν l).1,(V.ν l).2+o+i,none⟩=some (v.den V)∧v.ok V:=by
 obtain⟨hlen,r,hr,rfl,hle,hg⟩:=GR h
 intro i v hv
 obtain⟨u,h1,h2⟩:=hm.rgs r hr _ _ (hg i v hv);obtain⟨h3,h4⟩:=h2 v rfl;refine⟨?_,h4⟩;rw[XN, ← h3];exact h1.1
def setCells(w:World)(b o:Nat):List Value→World
 | []=>w
 |v::vs=>setCells (w.setCell ⟨b,o,none⟩ v) b (o+1) vs
theorem Ci.setCells_other{f:Bool}{b o:Nat}{u:Value}(b':Nat):∀ (vs:List Value) (w:World) (o':Nat),Ci f w b o u→(b≠b'∨o<o'∨o'+vs.length≤o)→Ci f (setCells w b' o' vs) b o u
 | [],_,_,h,_=>h
 |v::vs,w,o',h,hn=>by
  simp only[Oq] at hn;exact Ci.setCells_other b' vs _ (o'+1) (h.set_other (by rintro⟨rfl,rfl⟩;omega)) (by omega)
theorem Ci.setCells_in{f:Bool}{b:Nat}:∀ (vs:List Value) (w:World) (o i:Nat) (v:Value),vs[i]? = some v→(∃ u,Ci f w b (o+i) u)→Ci f (setCells w b o vs) b (o+i) v
 | [],_,_,i,_,h,_=>by simp at h
 |x::vs,w,o,0,v,h,⟨u,hu⟩=>by
  simp only[VT,Am] at h;subst h;exact Ci.setCells_other b vs _ (o+1) (by simpa using hu.set_same) (by omega)
 | x::vs,w,o,i+1,v,h,⟨u,hu⟩=>by
  simp only[zbv] at h;have:=Ci.setCells_in (f:=f) (b:=b) vs (w.setCell ⟨b,o,none⟩ x) (o+1) i v h ⟨u,(by
   rw[show o+1+i=o+(i+1) by omega];exact hu.set_other (by omega))⟩
  rwa [show o+1+i=o+(i+1) by omega] at this
theorem CV.setCells{B:World}{S:Nat→Nat→Prop}{b:Nat}:∀ (vs:List Value) (w:World) (o:Nat),CV B w S→(∀ i,i<vs.length→B.heap.size≤b∨S b (o+i))→CV B (setCells w b o vs) S
 | [],_,_,h,_=>h
 | v::vs,w,o,h,hs=>CV.setCells vs _ (o+1) (h.setCell (hs 0 (by simp))) (fun i hi=>by
   rw[show o+1+i=o+(i+1) by omega];exact hs (i+1) (by simp;omega))
theorem Ke{P:Program}(b o:Nat):∀ (vs:List Value) (i:Nat) (w:World),(∀ v∈vs,v.oneCell'=true)→(∀ j,j<vs.length→∃ u,Ci true w b (o+i+j) u)→
  (storeCells ⟨b,o,none⟩ vs i).run P w= .ok () (setCells w b (o+i) vs)
 | [],i,w,_,_=>rfl
 | v::vs,i,w,h1,h2=>by
  obtain⟨u,hu⟩:=h2 0 (by simp);have ha:(⟨b,o,none⟩:Addr).add i=⟨b,o+i,none⟩:=by
   unfold Addr.add;split
   ·rename_i h;subst h;rfl
   ·rfl
  simp only[storeCells,I1,run_store P w _ v _ (h1 v LA),ha];rw[Q3] at hu;simp only[hu.1,hu.2 rfl,Rc,if_false,IB];rw[Ke b o vs (i+1) _ (fun v hv=>h1 v (MQ _ hv)) (fun j hj=>by
   obtain⟨u',hu'⟩:=h2 (j+1) (by simp;omega)
   by_cases he:o+i=o+(i+1)+j
   ·omega
   ·exact⟨u',by rw[show o+(i+1)+j=o+i+(j+1) by omega];exact hu'.set_other (by omega)⟩)]
  simp only[setCells,XN]
theorem Lg{bv:Nat}{rg π:List Rg}{l o:Nat}{vs:List LV}(h:O7 bv rg l o vs=some π):
  ∃ r∈rg,r.id=l∧r.wr=true∧o+vs.length≤r.cs.length∧(∀ v∈vs,v.lt bv (Db rg)=true)∧π=rg.map (Wm l o r.grp vs.length (vs.map some)):=by
 unfold O7 at h
 cases hf:kI l rg with
 |none=>rw[hf] at h;simp at h
 | some r=>
  rw[hf] at h;simp only at h
  cases hb:(r.wr&&Nat.ble (o+vs.length) r.cs.length&&vs.all (·.lt bv (Db rg))) with
  |false=>rw[hb] at h;simp at h
  |true=>
   rw[hb] at h;simp only[Bd,Ll] at hb;simp only[cond_true,Am] at h;exact⟨r,(Kc hf).1,(Kc hf).2,hb.1.1,Na hb.1.2,hb.2,h.symm⟩
theorem Oy(l o g n:Nat)(vs:List (Option LV))(r:Rg):(Wm l o g n vs r).id=r.id:=by
 unfold Wm
 cases Nat.beq r.id l<;>simp only[cond_true,cond_false]
 cases (!(Nat.beq g 0)&&Nat.beq r.grp g)<;>rfl
theorem AEV(l o g n:Nat)(vs:List (Option LV))(r:Rg):(Wm l o g n vs r).grp=r.grp:=by
 unfold Wm
 cases Nat.beq r.id l<;>simp only[cond_true,cond_false]
 cases (!(Nat.beq g 0)&&Nat.beq r.grp g)<;>rfl
theorem Zr(l o g n:Nat)(vs:List (Option LV))(r:Rg):(Wm l o g n vs r).wr=r.wr:=by
 unfold Wm
 cases Nat.beq r.id l<;>simp only[cond_true,cond_false]
 cases (!(Nat.beq g 0)&&Nat.beq r.grp g)<;>rfl
theorem QZ(l o g n:Nat)(vs:List (Option LV))(r:Rg):(Wm l o g n vs r).cs.length=r.cs.length:=by
 unfold Wm
 cases Nat.beq r.id l<;>simp only[cond_true,cond_false,Oe]
 cases (!(Nat.beq g 0)&&Nat.beq r.grp g)<;>simp only[cond_true,cond_false,Oe]
theorem AAa(rg:List Rg)(l o g n:Nat)(vs:List (Option LV)):Db (rg.map (Wm l o g n vs))=Db rg:=by
 simp only[Db,List.map_map];exact fU fun r _=>Oy l o g n vs r
theorem Pw.write{E:En}{bv:Nat}{rg π:List Rg}{V:Vl}{w:World}(hm:Pw E rg V w)(hgc:∀ b o v,E.GC b o=some v→b<E.GB){l o:Nat}{vs:List LV}(h:O7 bv rg l o vs=some π)
  (hok:∀ v∈vs,v.ok V):Pw E π V (setCells w (V.ν l).1 ((V.ν l).2+o) (vs.map (·.den V))):=by
 obtain⟨R,hR,rfl,hwr,hle,hlt,rfl⟩:=Lg h;have ι:=hm.cov R hR hwr;refine⟨?_,?_,?_,?_,?_,?_⟩
 ·intro r' hr'
  obtain⟨r,hr,rfl⟩:=VI.1 hr'
  intro i c hc
  rw[Oy,Zr];have hilt:i<r.cs.length:=by
   have:=(Pi.1 hc).1;rwa [QZ] at this
  unfold Wm at hc
  cases hb:Nat.beq r.id R.id with
  | true=>
   rw[hb] at hc;simp only[cond_true] at hc;have hrR:r=R:=hm.one r hr R hR (CL hb);subst hrR;rw[Qz _ _ _ _ hilt,Vj] at hc;obtain⟨u,hu,hu2⟩:=hm.rgs r hr i _ (Jo hilt)
   by_cases hin:o≤i∧i<o+vs.length
   ·rw[if_pos hin] at hc;simp only[OX,Ya] at hc;obtain⟨v,hv,rfl⟩:=hc;refine⟨v.den V,?_,fun lv e=>?_⟩
    ·have h1:=Ci.setCells_in (f:=r.wr) (b:=(V.ν r.id).1) (vs.map (·.den V)) w ((V.ν r.id).2+o) (i-o) (v.den V) (by simp[hv]) ⟨u,by
      rw[show (V.ν r.id).2+o+(i-o)=(V.ν r.id).2+i by omega];exact hu⟩
     rwa [show (V.ν r.id).2+o+(i-o)=(V.ν r.id).2+i by omega] at h1
    ·cases e
     exact⟨rfl,hok v (OZ hv)⟩
   ·rw[if_neg hin,Jo hilt] at hc;simp only[Am] at hc;subst hc;exact⟨u,Ci.setCells_other _ _ _ _ hu (by simp only[Vj];omega),hu2⟩
  | false=>
   rw[hb] at hc;simp only[cond_false] at hc;have hne:R.id≠r.id:=fun e=>by rw[e,Nat.beq_refl] at hb;exact absurd hb (by simp)
   have hsep:=hm.sep R hR r hr hwr hne;obtain⟨u,hu,hu2⟩:=hm.rgs r hr i _ (Jo hilt)
   rcases hsep with ⟨hg,hg0,hν,hlen⟩|hd
   ·have hgb:(!(Nat.beq R.grp 0)&&Nat.beq r.grp R.grp)=true:=by
     simp only[Bd,Bool.not_eq_true'];refine⟨?_,by rw[hg];exact Nat.beq_refl _⟩
     cases hz:Nat.beq R.grp 0 with
     |false=>rfl
     |true=>exact absurd (CL hz) hg0
    rw[hgb] at hc;simp only[cond_true] at hc;rw[Qz _ _ _ _ hilt,SX] at hc;rw[← hν] at hu ⊢
    by_cases hin:o≤i∧i<o+vs.length
    ·rw[if_pos hin] at hc;have hcn:c=none:=by
      have:=OZ hc;exact (zcc.1 this).2
     subst hcn;obtain⟨v,hv⟩:∃ v,vs[i-o]? = some v:=⟨_,Jo (by omega)⟩;refine⟨v.den V,?_,fun lv e=>by cases e⟩;have h1:=Ci.setCells_in (f:=r.wr) (b:=(V.ν R.id).1) (vs.map (·.den V)) w ((V.ν R.id).2+o) (i-o) (v.den V) (by simp[hv]) ⟨u,by
      rw[show (V.ν R.id).2+o+(i-o)=(V.ν R.id).2+i by omega];exact hu⟩
     rwa [show (V.ν R.id).2+o+(i-o)=(V.ν R.id).2+i by omega] at h1
    ·rw[if_neg hin,Jo hilt] at hc;simp only[Am] at hc;subst hc;exact⟨u,Ci.setCells_other _ _ _ _ hu (by simp only[Vj];omega),hu2⟩
   ·have abE:Ci r.wr (setCells w (V.ν R.id).1 ((V.ν R.id).2+o) (vs.map (·.den V))) (V.ν r.id).1 ((V.ν r.id).2+i) u:=by
     refine Ci.setCells_other _ _ _ _ hu ?_;simp only[Vj]
     rcases hd with h|h|h|h|h
     ·exact .inl fun e=>h e.symm
     ·omega
     ·omega
     ·omega
     ·omega
    cases hgb:(!(Nat.beq R.grp 0)&&Nat.beq r.grp R.grp) with
    |false=>
     rw[hgb] at hc;simp only[cond_false,Jo hilt,Am] at hc;subst hc;exact⟨u,abE,hu2⟩
    | true=>
     rw[hgb] at hc;simp only[cond_true] at hc;rw[Qz _ _ _ _ hilt,SX] at hc;refine⟨u,abE,fun lv e=>?_⟩;subst e
     by_cases hin:o≤i∧i<o+vs.length
     ·rw[if_pos hin] at hc;have:=OZ hc;exact absurd (zcc.1 this).2 (by simp)
     ·rw[if_neg hin,Jo hilt] at hc;simp only[Am] at hc;exact hu2 lv hc
 ·intro r1 h1 r2 h2 he
  obtain⟨r,hr,rfl⟩:=VI.1 h1;obtain⟨r',hr',rfl⟩:=VI.1 h2;rw[Oy,Oy] at he;rw[hm.one r hr r' hr' he]
 ·intro r1 h1 r2 h2 hw hne
  obtain⟨r,hr,rfl⟩:=VI.1 h1;obtain⟨r',hr',rfl⟩:=VI.1 h2;rw[Zr] at hw;rw[Oy,Oy] at hne;have:=hm.sep r hr r' hr' hw hne;unfold wK at *
  simp only[Oy,AEV,QZ];exact this
 ·intro r1 h1 hw
  obtain⟨r,hr,rfl⟩:=VI.1 h1;rw[Zr] at hw;rw[Oy,QZ];exact hm.cov r hr hw
 ·refine CV.setCells _ _ _ hm.frm fun i hi=>?_
  rw[Vj] at hi;rw[XN];exact ι.2 (o+i) (by omega)
 ·intro b o' v hv
  have hb:=hgc b o' v hv;have h0:Ci false w b o' v:=⟨hm.gw b o' v hv,fun h=>by cases h⟩;exact (Ci.setCells_other _ _ _ _ h0 (.inl (by have:=ι.1;omega))).1
theorem Zl.write{nv:Nat}{rg π:List Rg}(hs:Zl nv rg){l o:Nat}{vs:List LV}(h:O7 nv rg l o vs=some π):Zl nv π∧Db π=Db rg:=by
 obtain⟨R,hR,rfl,hwr,hle,hlt,rfl⟩:=Lg h;refine⟨?_,AAa _ _ _ _ _ _⟩
 intro r1 h1 lv hlv
 rw[AAa];obtain⟨r,hr,rfl⟩:=VI.1 h1;obtain⟨i,hi,he⟩:=lu hlv;rw[QZ] at hi;have hg:(Wm R.id o R.grp vs.length (vs.map some) r).cs[i]? = some (some lv):=by
  rw[Jo (by rw[QZ];exact hi),he]
 have hold:r.cs[i]? = some (some lv)→lv.lt nv (Db rg)=true:=fun h=>hs r hr lv (OZ h)
 unfold Wm at hg
 cases hb:Nat.beq r.id R.id<;>rw[hb] at hg<;>simp only[cond_true,cond_false] at hg
 ·cases hgb:(!(Nat.beq R.grp 0)&&Nat.beq r.grp R.grp)<;>rw[hgb] at hg<;>simp only[cond_true,cond_false] at hg
  ·exact hold hg
  ·rw[Qz _ _ _ _ hi,SX] at hg
   split at hg
   ·exact absurd (zcc.1 (OZ hg)).2 (by simp)
   ·exact hold hg
 ·rw[Qz _ _ _ _ hi,Vj] at hg
  split at hg
  ·obtain⟨v,hv,hve⟩:=VI.1 (OZ hg)
   cases hve
   exact hlt _ hv
  ·exact hold hg
end
section
open Go
theorem X.den_lit(ρ:Bl)(n:Int):(X.lit n).den ρ=n:=rfl
theorem Iq.den_xs(ρ:Bl)(l:List X):(Iq.xs l).den ρ=l.map (·.den ρ):=rfl
section
variable(V:Vl)
theorem SV.den_t(v:TV):(SV.t v).den V=v.den V:=rfl
theorem SV.den_tup(vs:List TV):(SV.tup vs).den V= .tuple (vs.map (·.den V)).toArray:=rfl
theorem TV.den_l(v:LV):(TV.l v).den V=v.den V:=rfl
theorem TV.den_a(vs:List LV):(TV.a vs).den V= .agg (vs.map (·.den V)).toArray:=rfl
theorem LV.den_int(k:IntKind)(x:X):(LV.int k x).den V= .int k (x.den V.ρ):=rfl
theorem LV.den_bool(x:X):(LV.bool x).den V= .bool (x.den V.ρ != 0):=rfl
theorem LV.den_ptr(l o:Nat):(LV.ptr l o).den V= .pointer (some ⟨(V.ν l).1,(V.ν l).2+o,none⟩):=rfl
theorem LV.den_sl(l o n:Nat)(c:CX)(d:Nat):(LV.sl l o n c d).den V= .slice (some ⟨(V.ν l).1,(V.ν l).2+o,none⟩) n ((c.den V).toNat-d):=rfl
theorem CX.den_n(x:X):(CX.n x).den V=x.den V.ρ:=rfl
theorem LV.den_nsl:(LV.nsl).den V= .slice none 0 0:=rfl
theorem LV.den_nilI:(LV.nilI).den V= .nilIface:=rfl
theorem LV.den_err(i:Nat):(LV.err i).den V=V.σ i:=rfl
theorem LV.den_pd(l o n s:Nat)(x:X):(LV.pd l o n s x).den V= .pointer (some ⟨(V.ν l).1,(V.ν l).2+o+(x.den V.ρ).toNat*s,none⟩):=rfl
end
theorem UQ(k:IntKind)(n:Int):JC k (k.wrap n):=by
 cases k<;>simp only[JC,IntKind.wrap,IntKind.min,IntKind.max,IntKind.bits,IntKind.signed]<;>simp<;>omega
theorem aV{k:IntKind}{n:Int}:bR k n=true↔JC k n:=by simp[bR,JC]
theorem mK(b:Bool):(K9 b != 0)=b:=by cases b<;>rfl
theorem LV.ofV_ok{v:Value}{x:LV}(h:LV.ofV v=some x)(V:Vl)(nv:Nat)(ids:List Nat):x.den V=v∧x.ok V∧x.lt nv ids=true:=by
 unfold LV.ofV at h
 split at h
 ·rename_i k n
  cases hb:bR k n with
  |false=>rw[hb] at h;simp at h
  |true=>
   rw[hb] at h;simp only[cond_true,Am] at h;subst h;exact⟨rfl,aV.1 hb,rfl⟩
 ·rename_i b
  simp only[Am] at h;subst h;refine⟨?_,trivial,rfl⟩
  cases b<;>rfl
 all_goals first
  |(simp only[Am] at h;subst h;exact⟨rfl,trivial,rfl⟩)
  |(simp only[Am] at h;subst h;exact⟨rfl,rfl,rfl⟩)
  |cases h
theorem Uo:∀ {vs:List Value} {xs:List LV},qy vs=some xs→∀ (V:Vl) (nv:Nat) (ids:List Nat),xs.map (·.den V)=vs∧∀ x∈xs,x.ok V∧x.lt nv ids=true
 | [],xs,h,V,nv,ids=>by simp[qy] at h;subst h;exact⟨rfl,fun _ h=>by cases h⟩
 | v::vs,xs,h,V,nv,ids=>by
  unfold qy at h
  split at h
  ·cases h
  ·rename_i x hx
   split at h
   ·cases h
   ·rename_i ys hy
    simp only[Am] at h;subst h;obtain⟨h1,h2,h3⟩:=LV.ofV_ok hx V nv ids;obtain⟨h4,h5⟩:=Uo hy V nv ids;refine⟨by rw[NT,h1,h4],fun y hy=>?_⟩
    rcases J4.1 hy with rfl|hy
    ·exact⟨h2,h3⟩
    ·exact h5 y hy
theorem SV.ofV_ok{v:Value}{x:SV}(h:SV.ofV v=some x)(V:Vl)(nv:Nat)(ids:List Nat):x.den V=v∧x.ok V∧x.lt nv ids=true:=by
 unfold SV.ofV at h
 split at h
 ·rename_i cs
  split at h
  ·rename_i vs hvs
   simp only[Am] at h;subst h;obtain⟨h1,h2⟩:=Uo hvs V nv ids;refine⟨?_,fun x hx=>(h2 x hx).1,?_⟩
   ·simp only[SV.den,TV.den,h1,Array.toArray_toList]
   ·simp only[SV.lt,TV.lt,Ll];exact fun x hx=>(h2 x hx).2
  ·cases h
 ·split at h
  ·rename_i y hy
   simp only[Am] at h;subst h;exact LV.ofV_ok hy V nv ids
  ·cases h
section
variable{st:St}{V:Vl}{a:Act}
theorem Tq.opd(h:Tq st V a){x:Operand}{v:SV}(hx:st.opd x=some v):a.eval x=v.den V∧v.ok V∧v.lt st.nv (Db st.rg)=true:=by
 unfold St.opd at hx
 split at hx
 ·exact h.tm _ _ hx
 ·obtain⟨h1,h2,h3⟩:=SV.ofV_ok hx V st.nv (Db st.rg);exact⟨h1.symm,h2,h3⟩
 ·rename_i g
  split at hx
  ·rename_i l hl
   simp only[Am] at hx;subst hx;obtain⟨h1,h2⟩:=h.gl g l hl;refine⟨?_,trivial,h2⟩;simp only[Act.eval,SV.den,TV.den,LV.den,h1,Q3]
  ·cases hx
 ·cases hx
theorem Tq.den(h:Tq st V a){x:Operand}{v:SV}(hx:st.opd x=some v):a.eval x=v.den V:=(h.opd hx).1
end
def AIn(P:Program)(tt:List (Nat×TD)):Prop:=∀ t d,lk t tt=some d→TD.of P t=some d
theorem TD.of_spec{P:Program}{t:Nat}{d:TD}(h:TD.of P t=some d):∃ desc i z,P.underlying t=some desc∧P.info? t=some i∧i.size=d.size∧d.k=TK.ofDesc desc∧
  d.agg=yh desc∧i.zero=some z∧qy z.cells.toList=some d.zero∧i.bytes=d.bytes:=by
 unfold TD.of at h
 split at h
 ·cases h
 rename_i desc hd
 split at h
 ·cases h
 rename_i i hi
 split at h
 ·cases h
 rename_i z hz
 split at h
 ·cases h
 rename_i zs hzs
 simp only[Am] at h;subst h;exact⟨desc,i,z,hd,hi,rfl,rfl,rfl,hz,hzs,rfl⟩
section
variable{P:Program}{t:Nat}{d:TD}(h:TD.of P t=some d)(w:World)
include h
theorem TD.run_size:(sizeOf t).run P w= .ok d.size w:=by
 obtain⟨desc,i,z,h1,h2,h3,-⟩:=TD.of_spec h;simp[sizeOf,typeInfo,h2,h3]
theorem TD.run_agg:(isAgg t).run P w= .ok d.agg w:=by
 obtain⟨desc,i,z,h1,h2,h3,h4,h5,h6,h7⟩:=TD.of_spec h;simp only[isAgg,underlying,I1,run_program,IB,h1,KD,h5]
 cases desc<;>rfl
theorem TD.run_zero:∃ z,(zeroValue t).run P w= .ok z w∧qy z.cells.toList=some d.zero:=by
 obtain⟨desc,i,z,h1,h2,h3,h4,h5,h6,h7,-⟩:=TD.of_spec h;exact⟨z,by simp[zeroValue,typeInfo,h2,h6],h7⟩
end
theorem TK.int_inv{desc:TypeDesc}{k:IntKind}(h:TK.int k=TK.ofDesc desc):desc= .int k:=by
 cases desc<;>simp[TK.ofDesc] at h;subst h;rfl
theorem TK.ptr_inv{desc:TypeDesc}{e:Nat}(h:TK.ptr e=TK.ofDesc desc):desc= .pointer e:=by
 cases desc<;>simp[TK.ofDesc] at h;subst h;rfl
theorem TK.sl_inv{desc:TypeDesc}{e:Nat}(h:TK.sl e=TK.ofDesc desc):desc= .slice e:=by
 cases desc<;>simp[TK.ofDesc] at h;subst h;rfl
theorem TK.arr_inv{desc:TypeDesc}{n e:Nat}(h:TK.arr n e=TK.ofDesc desc):desc= .array n e:=by
 cases desc<;>simp[TK.ofDesc] at h;obtain⟨rfl,rfl⟩:=h;rfl
theorem TK.str_inv{desc:TypeDesc}{fs:List (Nat×Nat)}(h:TK.str fs=TK.ofDesc desc):∃ fields,desc= .struct fields∧fs=fields.toList.map fun f=>(f.offset,f.type):=by
 cases desc<;>simp[TK.ofDesc] at h;exact⟨_,rfl,h⟩
theorem TK.iface_inv{desc:TypeDesc}(h:TK.iface=TK.ofDesc desc):∃ ms,desc= .interface ms:=by
 cases desc<;>simp[TK.ofDesc] at h;exact⟨_,rfl⟩
theorem TD.under_of{P:Program}{t:Nat}{d:TD}(h:TD.of P t=some d){k:TK}(hk:d.k=k):∃ desc,(∀ w,(underlying t).run P w= .ok desc w)∧k=TK.ofDesc desc:=by
 obtain⟨desc,i,z,h1,h2,h3,h4,h5,h6,h7⟩:=TD.of_spec h;exact⟨desc,fun w=>by simp[underlying,h1],by rw[← hk];exact h4⟩
theorem DZ(b o n:Nat):(⟨b,o,none⟩:Addr).add n=⟨b,o+n,none⟩:=by
 unfold Addr.add;split
 ·rename_i h;subst h;rfl
 ·rfl
theorem rY(P:Program)(op:BinOp)(t:Nat)(x y:Operand)(k k':IntKind)(a b:Int)(w:World):(eqGuard op t x y (.int k a) (.int k' b)).run P w= .ok () w:=by
 unfold eqGuard;split<;>rfl
theorem Q8(P:Program)(op:BinOp)(t:Nat)(k:IntKind)(a b:Int)(w:World)(hs:wR op=false)(hc:TS op=false)(hz:op= .quo∨op= .rem→b≠0):
  (binOp op t (.int k a) (.int k b)).run P w= .ok (.int k (Ao op k a b)) w:=by
 cases op<;>simp only[wR,TS,Bool.true_eq_false] at hs hc
 case quo=>have hb:b≠0:=hz (.inl rfl);simp[binOp,Op.intDiv,hb,Ao]
 case rem=>have hb:b≠0:=hz (.inr rfl);simp[binOp,Op.intDiv,hb,Ao]
 all_goals (simp[binOp,Op.intArith,Op.intBits,Ao,Dl])
theorem ABV(P:Program)(op:BinOp)(t:Nat)(k:IntKind)(a b:Int)(w:World)(hc:TS op=true):
  (binOp op t (.int k a) (.int k b)).run P w= .ok (.bool (Ao op k a b != 0)) w:=by
 cases op<;>simp only[TS,Rc] at hc
 all_goals (simp[binOp,Op.intCmp,Ao,mK])
theorem qW(P:Program)(op:BinOp)(t:Nat)(k k':IntKind)(a b:Int)(w:World)(hs:wR op=true)(hb:0≤b):
  (binOp op t (.int k a) (.int k' b)).run P w= .ok (.int k (Ao op k a b)) w:=by
 have hb':¬ b<0:=by omega
 cases op<;>simp only[wR,Rc] at hs
 all_goals (simp[binOp,Op.shift,Ao,hb'])
theorem AGG{k:IntKind}{a b:Int}(ha:JC k a):JC k (a.tmod b):=by
 have h1:a.tmod b=Int.tmod a b:=rfl;have h2:(a.tmod b).natAbs≤a.natAbs:=by
  rw[Int.natAbs_tmod];exact Nat.mod_le _ _
 have h3:0≤a→0≤a.tmod b:=fun h=>Int.tmod_nonneg b h
 have h4:a≤0→a.tmod b≤0:=fun h=>by
  have h5:=Int.tmod_nonneg b (a:= -a) (by omega);rw[Int.neg_tmod] at h5;omega
 cases k<;>simp only[JC,IntKind.min,IntKind.max,IntKind.bits,IntKind.signed] at ha ⊢ <;> simp at ha ⊢ <;> omega
theorem AEt{k:IntKind}{a:Int}(ha:JC k a)(n:Nat):JC k (a.fdiv (2^n)):=by
 have hp:(0:Int)<2^n:=Int.pow_pos (by omega);rw[Int.fdiv_eq_ediv_of_nonneg _ (by omega)];have hp1:(1:Int)≤2^n:=by omega
 have h1:0≤a→0≤a/2^n∧a/2^n≤a:=fun h=>⟨Int.ediv_nonneg h (by omega),Int.ediv_le_self _ h⟩
 have h2:a<0→a≤a/2^n∧a/2^n<0:=fun h=>by
  refine⟨?_,Int.ediv_neg_of_neg_of_pos h hp⟩;rw[Int.le_ediv_iff_mul_le hp];have:a*2^n≤a*1:=Int.mul_le_mul_of_nonpos_left (by omega) hp1;omega
 cases k<;>simp only[JC,IntKind.min,IntKind.max,IntKind.bits,IntKind.signed] at ha ⊢ <;> simp at ha ⊢ <;> omega
theorem qV{op:BinOp}{k:IntKind}{a b:Int}(ha:JC k a)(hc:TS op=false):JC k (Ao op k a b):=by
 cases op<;>simp only[TS,Bool.true_eq_false] at hc
 all_goals first
  |exact UQ _ _
  |exact AGG ha
  |exact AEt ha _
def DsH(T:Tb)(V:Vl)(ds:List (Nat×FR)):Prop:=∀ p∈ds,V.ρ p.1=p.2.den T V.ρ
def ObH(T:Tb)(V:Vl)(ob:List JM):Prop:=∀ q∈ob,q.den T V.ρ
theorem YT{op:BinOp}{k:IntKind}{x y:X}{nb:Nat}{T:Tb}{V:Vl}(h:DsH T V (TQ op k x y nb).2):
  (TQ op k x y nb).1.den V.ρ=Ao op k (x.den V.ρ) (y.den V.ρ):=by
 unfold TQ at h ⊢
 split
 ·rfl
 ·rename_i x' y' hne
  have h1:=h _ (by
   split
   ·rename_i a b;exact (hne a b rfl rfl).elim
   ·exact Nc.2 rfl)
  simp only[X.den,h1];rfl
section
variable{P:Program}{V:Vl}{T:Tb}
theorem Uu {op:BinOp} {k k':IntKind} {x y:X} {nb:Nat} {r:OO} (h:YE op k k' x y nb=some r) (hx:JC k (x.den V.ρ)) (hy:JC k' (y.den V.ρ))
  (hd:DsH T V r.ds) (ho:ObH T V r.ob) (t:Nat) (w:World):
  (binOp op t (.int k (x.den V.ρ)) (.int k' (y.den V.ρ))).run P w= .ok (r.v.den V) w∧r.v.ok V∧r.ln= []:=by
 unfold YE at h
 cases hs:wR op with
 | true=>
  have hcm:TS op=false:=by cases op<;>simp[wR] at hs<;>rfl
  rw[hs] at h;simp only[cond_true] at h
  cases hl:iF k (TQ op k x y nb).1 with
  |false=>rw[hl] at h;simp at h
  | true=>
   rw[hl] at h;simp only[Bool.not_true,cond_false,Am] at h;subst h;have hb:0≤y.den V.ρ:=by
    cases hg:(ge0 y||Pm k') with
    | true=>
     simp only[Bool.or_eq_true] at hg
     rcases hg with hg|hg
     ·cases y with
      |lit n=>cases n with
       |ofNat n=>exact yP n
       |negSucc n=>simp[ge0] at hg
      |v i j=>simp[ge0] at hg
     ·cases k'<;>simp[Pm] at hg<;>exact hy.1
    |false=>
     simp only[hg,cond_false] at ho;exact ho (.ge0 y) (Nc.2 rfl)
   rw[qW P op t k k' _ _ w hs hb];have he:=YT hd;exact⟨by simp only[IX,SV.den,TV.den,LV.den,he],by simp only[IX,SV.ok,TV.ok,LV.ok,he];exact qV hx hcm,rfl⟩
 | false =>
  rw[hs] at h;simp only[cond_false] at h
  cases hk:ui k k' with
  |false=>rw[hk] at h;simp at h
  | true =>
   have hk':=N9 hk;subst hk';rw[hk] at h;simp only[Bool.not_true,cond_false] at h
   cases hcm:TS op with
   |true=>
    rw[hcm] at h;simp only[cond_true,Am] at h;subst h;rw[ABV P op t k _ _ w hcm];have he:=YT hd;exact⟨by simp only[IX,SV.den,TV.den,LV.den,he],trivial,rfl⟩
   | false=>
    rw[hcm] at h;simp only[cond_false] at h;have key:(op= .quo∨op= .rem→y.den V.ρ≠0)→(bif !(iF k (TQ op k x y nb).1) then none else some (⟨IX (.int k (TQ op k x y nb).1),(TQ op k x y nb).2,[],[]⟩:OO))=some r→
      (binOp op t (.int k (x.den V.ρ)) (.int k (y.den V.ρ))).run P w= .ok (r.v.den V) w∧r.v.ok V∧r.ln= []:=by
     intro hz h
     cases hl:iF k (TQ op k x y nb).1 with
     |false=>rw[hl] at h;simp at h
     |true=>
      rw[hl] at h;simp only[Bool.not_true,cond_false,Am] at h;subst h;rw[Q8 P op t k _ _ w hs hcm hz];have he:=YT hd;exact⟨by simp only[IX,SV.den,TV.den,LV.den,he],by simp only[IX,SV.ok,TV.ok,LV.ok,he];exact qV hx hcm,rfl⟩
    have hnz:nz y=true→y.den V.ρ≠0:=by
     intro hn
     cases y with
     |lit n=>
      simp only[nz,Bool.not_eq_true'] at hn;exact QV hn
     |v i j=>simp[nz] at hn
    cases op<;>simp only[] at h
    all_goals first
     |exact key (by simp) h
     | (cases hn:nz y with
        |false=>rw[hn] at h;simp at h
        |true=>
         rw[hn] at h;simp only[cond_true] at h;exact key (fun _=>hnz hn) h)
end
end
section
open Go
theorem bn{j:Nat}{ρ:Bl}:∀ {l:List X} {i:Nat},Qd j i l=true→∀ k x,l[k]? = some x→x.den ρ=(ρ j).getD (i+k) 0
 | [],_,_,k,x,h=>by simp at h
 | .lit n::r,i,h,k,x,hk=>by simp[Qd] at h
 | .v j' i'::r,i,h,0,x,hk=>by
  simp only[Qd,Bd] at h;simp only[VT,Am] at hk;subst hk;rw[← CL h.1.1, ← CL h.1.2];rfl
 | .v j' i'::r,i,h,k+1,x,hk=>by
  simp only[Qd,Bd] at h;have:=bn (ρ:=ρ) h.2 k x (by simpa using hk);rw[this,show i+1+k=i+(k+1) by omega]
theorem IC{ln:List (Nat×Nat)}{ρ:Bl}(hl:∀ p∈ln,(ρ p.1).length=p.2)(xs:List X):(TR ln xs).den ρ=xs.map (·.den ρ):=by
 unfold TR
 split
 ·rename_i j r
  cases hb:(Qd j 1 r&&(match lk j ln with|some n=>Nat.beq n (X.v j 0::r).length|none=>false)) with
  |false=>rfl
  | true=>
   simp only[Bd] at hb;obtain⟨h1,h2⟩:=hb;simp only[cond_true,Iq.den]
   split at h2
   ·rename_i n hn
    have hlen:=hl _ (Oo hn);have hn':=CL h2;simp only at hlen
    apply List.ext_getElem?
    intro k
    by_cases hk:k<n
    ·rw[OX,Jo (by omega)]
     cases k with
     |zero=>simp[X.den,List.getD,Jo (show 0<(ρ j).length by omega)]
     |succ k=>
      simp only[Oq] at hn';have hk':k<r.length:=by omega
      simp only[zbv,Jo hk',Xa];rw[bn (ρ:=ρ) h1 k _ (Jo hk')];simp[List.getD,Nat.add_comm 1 k,Jo (show k+1<(ρ j).length by omega)]
    ·rw[List.getElem?_eq_none (by omega),List.getElem?_eq_none (by simp only[Vj];omega)]
   ·cases h2
 ·rfl
theorem LC:∀ {cs:List LV} {ks:List IntKind} {xs:List X},KO cs=some (ks,xs)→cs.length=ks.length∧cs.length=xs.length∧
  ∀ (i:Nat) (c:LV),cs[i]? = some c→∃ k x,ks[i]? = some k∧xs[i]? = some x∧c=LV.int k x
 | [],ks,xs,h=>by
  simp only[KO,Am,Prod.mk.injEq] at h;obtain⟨rfl,rfl⟩:=h;exact⟨rfl,rfl,fun i c h=>by simp at h⟩
 | c::r,ks,xs,h=>by
  cases c with
  | int k x=>
   unfold KO at h
   split at h
   ·rename_i μ xs' hr
    simp only[Am,Prod.mk.injEq] at h;obtain⟨rfl,rfl⟩:=h;obtain⟨h1,h2,h3⟩:=LC hr;refine⟨by simp[h1],by simp[h2],fun i c hc=>?_⟩
    cases i with
    |zero=>simp at hc;subst hc;exact⟨k,x,rfl,rfl,rfl⟩
    |succ i=>simp at hc;obtain⟨k',x',e1,e2,e3⟩:=h3 i c hc;exact⟨k',x',by simpa using e1,by simpa using e2,e3⟩
   ·cases h
  |_=>simp[KO] at h
theorem Un{k:IntKind}:∀ {ks:List IntKind},jr k ks=true→∀ k'∈ks,k'=k
 | [],_,_,h=>by cases h
 |j::r,h,k',hk=>by
  simp only[jr,Bd] at h
  rcases J4.1 hk with rfl|hk
  ·exact (N9 h.1).symm
  ·exact Un h.2 k' hk
theorem LV.one{V:Vl}{v:LV}(h:v.ok V):(v.den V).oneCell'=true:=by
 cases v with
 |err i=>obtain⟨t,u,h⟩:=h;simp only[LV.den,h,Value.oneCell']
 |slm l o n i=>obtain⟨m,c,h,_⟩:=h;simp only[LV.den,h,Value.oneCell']
 |val v=>exact h
 |opq i=>exact h
 |_=>rfl
theorem Value.cells_one{v:Value}(h:v.oneCell'=true):v.cells= #[v]:=by
 cases v<;>first|rfl|(simp[Value.oneCell'] at h)
theorem TV.cells_den{V:Vl}{v:TV}(h:v.ok V):(v.den V).cells.toList=v.cells.map (·.den V):=by
 cases v with
 |l v=>simp only[TV.den,TV.cells,Value.cells_one (LV.one h),NT,Vi]
 |a vs=>simp[TV.den,TV.cells,Value.cells]
theorem TV.cells_ok{V:Vl}{v:TV}(h:v.ok V):∀ c∈v.cells,c.ok V:=by
 cases v with
 |l v=>intro c hc;simp only[TV.cells,Nc] at hc;subst hc;exact h
 |a vs=>exact h
theorem uG{C:Cx}{t n:Nat}(h:J8 C t=some n):∃ d,lk t C.tt=some d∧d.size=n:=by
 unfold J8 at h
 split at h
 ·rename_i d hd;exact⟨d,hd,by simpa using h⟩
 ·cases h
section
variable{P:Program}{C:Cx}(ht:AIn P C.tt){V:Vl}
include ht
theorem IE{t n:Nat}(h:J8 C t=some n)(w:World):(sizeOf t).run P w= .ok n w:=by
 obtain⟨d,hd,rfl⟩:=uG h;exact TD.run_size (ht t d hd) w
theorem rH{t:Nat}{cs:List LV}{off:Nat}{v:SV}(h:yY C t cs off=some v)(hc:∀ c∈cs,c.ok V)(w:World):
  (part t (cs.map (·.den V)).toArray off).run P w= .ok (v.den V) w∧v.ok V:=by
 unfold yY at h
 split at h
 ·cases h
 rename_i d hd
 have ha:=TD.run_agg (ht t d hd) w;have hs:=TD.run_size (ht t d hd) w
 cases hag:d.agg with
 | true=>
  rw[hag] at h ha;simp only[cond_true] at h
  cases hb:Nat.ble (off+d.size) cs.length with
  |false=>rw[hb] at h;simp at h
  |true=>
   rw[hb] at h;simp only[cond_true,Am] at h;subst h;refine⟨?_,fun c ω=>hc c (zcs (List.mem_of_mem_take ω))⟩;simp only[part,I1,ha,IB,if_true,hs,KD,SV.den,TV.den]
   congr 2
   apply Array.ext'
   simp[List.map_take,List.map_drop]
 | false=>
  rw[hag] at h ha;simp only[cond_false] at h
  split at h
  ·rename_i c hcs
   simp only[Am] at h;subst h;refine⟨?_,hc c (OZ hcs)⟩;simp only[part,I1,ha,IB,Rc,if_false];simp[hcs,IX,SV.den,TV.den]
  ·cases h
end
theorem xq{α:Type}:∀ (l:List α) (o:Nat) (v:α) (vs:List α),VG (l.set o v) (o+1) vs=VG l o (v::vs)
 | [],o,v,vs=>by simp[VG]
 |c::cs,0,v,vs=>by simp[VG]
 |c::cs,o+1,v,vs=>by simp[VG,xq cs o v vs]
theorem AAk{α:Type}:∀ (l:List α) (o:Nat),VG l o []=l
 | [],_=>by simp[VG]
 |c::cs,0=>by simp[VG]
 |c::cs,o+1=>by simp[VG,AAk cs o]
theorem jA(off:Nat):∀ (vs:List Value) (k:Nat) (cells:Array Value),
  (List.foldl (fun (cs:Array Value) (p:Value×Nat)=>cs.setIfInBounds (off+p.2) p.1) cells (vs.zipIdx k)).toList=VG cells.toList (off+k) vs
 | [],k,cells=>by simp[AAk]
 |v::vs,k,cells=>by
  rw[List.zipIdx_cons,List.foldl_cons,jA off vs (k+1)];simp only[Array.toList_setIfInBounds];rw[show off+(k+1)=off+k+1 by omega,xq]
theorem ABD(cells:Array Value)(off:Nat)(v:Value):
  (v.cells.zipIdx.foldl (fun cs (c,j)=>cs.setIfInBounds (off+j) c) cells).toList=VG cells.toList off v.cells.toList:=by
 rw[← Array.foldl_toList,Array.toList_zipIdx];exact jA off v.cells.toList 0 cells
theorem lY{α β:Type}(f:α→β):∀ (l:List α) (o:Nat) (vs:List α),(VG l o vs).map f=VG (l.map f) o (vs.map f)
 | [],_,_=>by simp[VG]
 |c::cs,0,[]=>by simp[VG]
 |c::cs,0,v::vs=>by simp[VG,lY f cs 0 vs]
 |c::cs,o+1,vs=>by simp[VG,lY f cs o vs]
def aA(C:Cx)(k:TK)(i:Nat):Option (Nat×Nat):=match k with
 | .str fs=>match fs[i]? with
  |some (off,t)=>match J8 C t with
   |some s=>some (off,s)
   |none=>none
  |none=>none
 | .arr _ e=>match J8 C e with
  |some s=>some (i*s,s)
  |none=>none
 |_=>none
theorem XT{C:Cx}{k:TK}{V:Vl}{place:Nat→Option (Nat×Nat)}(hp:∀ i p,aA C k i=some p→place i=some p):
  ∀ {ps:List (Nat×TV)} {cells cs:List LV},bO C k cells ps=some cs→(∀ c∈cells,c.ok V)→(∀ p∈ps,p.2.ok V)→
  Instr.fill place (cells.map (·.den V)).toArray (ps.map fun p=>(p.1,p.2.den V))=some (cs.map (·.den V)).toArray∧∀ c∈cs,c.ok V
 | [],cells,cs,h,hc,_=>by
  simp only[bO,Am] at h;subst h;exact⟨rfl,hc⟩
 | (i,v)::r,cells,cs,h,hc,hv=>by
  unfold bO at h
  split at h
  ·cases h
  rename_i off s hpl
  have hpl':aA C k i=some (off,s):=hpl
  cases hb:(Nat.beq v.cells.length s&&Nat.ble (off+s) cells.length) with
  |false=>rw[hb] at h;simp at h
  | true=>
   rw[hb] at h;simp only[cond_true] at h;simp only[Bd] at hb;have h1:=CL hb.1;have h2:=Na hb.2;have hvo:=hv _ LA;have hcd:=TV.cells_den hvo;have hsz:(v.den V).cells.size=s:=by
    rw[← Array.length_toList,hcd,Vj];exact h1
   have hok':∀ c∈VG cells off v.cells,c.ok V:=by
    intro c ω
    obtain⟨j,hj,rfl⟩:=lu ω;rw[Oe] at hj;have hg:=Qz cells off v.cells j hj;rw[Jo (by rw[Oe];exact hj)] at hg
    split at hg
    ·exact TV.cells_ok hvo _ (OZ hg.symm)
    ·exact hc _ (OZ hg.symm)
   obtain⟨h3,h4⟩:=XT hp h hok' (fun p hp=>hv p (MQ _ hp));refine⟨?_,h4⟩;rw[NT];unfold Instr.fill;simp only[hp i _ hpl',hsz];rw[if_neg (by simp;omega)];rw[← h3]
   congr 1
   apply Array.ext'
   rw[ABD,hcd,lY]
section
variable{st:St}{V:Vl}{a:Act}
theorem Tq.parts(h:Tq st V a):∀ {ps:List (Nat×Operand)} {vs:List (Nat×TV)},st.parts ps=some vs→
  (ps.map fun p=>(p.1,a.eval p.2))=(vs.map fun p=>(p.1,p.2.den V))∧∀ p∈vs,p.2.ok V∧p.2.lt st.nv (Db st.rg)=true
 | [],vs,hp=>by
  simp only[St.parts,Am] at hp;subst hp;exact⟨rfl,fun p h=>by cases h⟩
 | (i,x)::r,vs,hp=>by
  unfold St.parts at hp
  split at hp
  ·rename_i v ws hx hr
   simp only[Am] at hp;subst hp;obtain⟨h1,h2,h3⟩:=h.opd hx;obtain⟨h4,h5⟩:=h.parts hr;refine⟨by simp only[NT,h4,h1,SV.den],fun p hp=>?_⟩
   rcases J4.1 hp with rfl|hp
   ·exact⟨h2,h3⟩
   ·exact h5 p hp
  ·cases hp
theorem Tq.bnd(h:Tq st V a){x:Operand}{n d:Nat}(hb:bnd st d (some x)=some n):∃ k,a.eval x= .int k n:=by
 unfold Go.Proofs.YtloibefkijfdlaaGreatDoor.bnd at hb;simp only at hb
 split at hb
 ·rename_i k m hx
  simp only[Am] at hb;subst hb;exact⟨k,by rw[h.den hx];rfl⟩
 ·cases hb
theorem CR(P:Program)(w:World){k:IntKind}{n y:Nat}(h:n≤y)(code:BoundsCode):(Instr.sliceBound (.int k n) y code).run P w= .ok n w:=by
 simp only[Instr.sliceBound,asIntOf,I1,KD,IB];rw[if_pos (by omega)];rfl
theorem Tq.bounds(h:Tq st V a)(P:Program){lo hi:Option Operand}{n c l r:Nat}(isS:Bool)(hlo:Go.Proofs.YtloibefkijfdlaaGreatDoor.bnd st 0 lo=some l)(hhi:Go.Proofs.YtloibefkijfdlaaGreatDoor.bnd st n hi=some r)(hlr:l≤r)(hrc:r≤c)(w:World):
  (Instr.sliceBounds isS n c (lo.map a.eval) (hi.map a.eval) none).run P w= .ok (l,r,c) w:=by
 cases lo with
 | none=>
  simp only[Go.Proofs.YtloibefkijfdlaaGreatDoor.bnd,Am] at hlo;subst hlo
  cases hi with
  |none=>
   simp only[Go.Proofs.YtloibefkijfdlaaGreatDoor.bnd,Am] at hhi;subst hhi;simp[Instr.sliceBounds]
  |some x=>
   obtain⟨k,hx⟩:=h.bnd hhi;simp[Instr.sliceBounds,hx,CR P w hrc]
 | some y=>
  obtain⟨k',hy⟩:=h.bnd hlo
  cases hi with
  |none=>
   simp only[Go.Proofs.YtloibefkijfdlaaGreatDoor.bnd,Am] at hhi;subst hhi;simp[Instr.sliceBounds,hy,CR P w hlr]
  |some x=>
   obtain⟨k,hx⟩:=h.bnd hhi;simp[Instr.sliceBounds,hx,hy,CR P w hrc,CR P w hlr]
theorem Tq.bounds3(h:Tq st V a)(P:Program){lo:Option Operand}{x z:Operand}{n c r m:Nat}(hlo:Go.Proofs.YtloibefkijfdlaaGreatDoor.bnd st 0 lo=some 0)(hhi:Go.Proofs.YtloibefkijfdlaaGreatDoor.bnd st 0 (some x)=some r)(hmx:Go.Proofs.YtloibefkijfdlaaGreatDoor.bnd st 0 (some z)=some m)(hrm:r≤m)(hmc:m≤c)(w:World):
  (Instr.sliceBounds true n c (lo.map a.eval) (some (a.eval x)) (some (a.eval z))).run P w= .ok (0,r,m) w:=by
 obtain⟨k,hx⟩:=h.bnd hhi;obtain⟨k2,hz⟩:=h.bnd hmx
 cases lo with
 |none=>simp[Instr.sliceBounds,hx,hz,CR P w hrm,CR P w hmc]
 |some y=>
  obtain⟨k',hy⟩:=h.bnd hlo;have h00:=CR P w (k:=k') (Nat.zero_le r) .slice3C;simp only[Int.ofNat_zero] at h00;simp[Instr.sliceBounds,hx,hy,hz,CR P w hrm,CR P w hmc,h00]
end
theorem QW{j:Nat}{ks:List IntKind}{i:Nat}{c:LV}(h:(JR j ks)[i]? = some c):∃ k,ks[i]? = some k∧c=LV.int k (.v j i):=by
 unfold JR at h;simp only[OX,Ya] at h;obtain⟨⟨k,i'⟩,h1,h2⟩:=h;rw[List.getElem?_zipIdx] at h1;simp only[Ya,Prod.mk.injEq] at h1;obtain⟨k',h3,rfl,rfl⟩:=h1;exact⟨k',h3,by rw[← h2,NU]⟩
theorem VV{P:Program}{t:Nat}{ms:Array (String×TypeId)}(hu:∀ w,(underlying t).run P w= .ok (.interface ms) w)(w:World):
  (Op.equal t .nilIface .nilIface).run P w= .ok true w:=by
 have h:∀ d,(Op.equalIn (d+1) t .nilIface .nilIface).run P w= .ok true w:=fun d=>by
  unfold Op.equalIn;simp only[I1,hu,IB,KD]
 exact h 9999
theorem TY{P:Program}{t:Nat}{ms:Array (String×TypeId)}(hu:∀ w,(underlying t).run P w= .ok (.interface ms) w)(t':Nat)(u:Value)(w:World):
  (Op.equal t (.iface t' u) .nilIface).run P w= .ok false w:=by
 have h:∀ d,(Op.equalIn (d+1) t (.iface t' u) .nilIface).run P w= .ok false w:=fun d=>by
  unfold Op.equalIn;simp only[I1,hu,IB,KD]
 exact h 9999
theorem Wq{P:Program}{t:Nat}{e:TypeId}(hu:∀ w,(underlying t).run P w= .ok (.slice e) w)(p:Addr)(n c:Nat)(w:World):
  (Op.equal t (.slice (some p) n c) (.slice none 0 0)).run P w= .ok false w:=by
 have h:∀ d,(Op.equalIn (d+1) t (.slice (some p) n c) (.slice none 0 0)).run P w= .ok false w:=fun d=>by
  unfold Op.equalIn;simp only[I1,hu,IB,KD]
 exact h 9999
section
variable{P:Program}{C:Cx}(ht:AIn P C.tt){st:St}{V:Vl}{a:Act}(hT:Tq st V a)
include ht hT
set_option maxHeartbeats 1600000 in
theorem o5 {o:Oper} {nb:Nat} {r:OO} (h:RB C o nb st=some r) (hd:DsH C.T V r.ds) (ho:ObH C.T V r.ob):
  (∀ w,(execOp a.eval o).run P w= .ok (.value (r.v.den V)) w)∧r.v.ok V∧r.ln= []:=by
 obtain⟨dst,op,type,pos,after,guard⟩:=o
 cases op
 case call c=>
  obtain⟨callee,args,ψ⟩:=c
  cases callee with
  |value f=>simp only[RB] at h;cases h
  |invoke r m=>simp only[RB] at h;cases h
  | builtin b=>
   cases b<;>simp only[RB] at h<;>first|(cases h;done)|skip
   split at h
   ·rename_i t x ht0 hx0
    have hargs:args[0]? = some x:=hx0;have hlen:∀ (v:Value),a.eval x=v→∀ (w:World),(execOp a.eval ⟨dst,.call ⟨.builtin .len,args,ψ⟩,type,pos,after,guard⟩).run P w=
      ((Builtin.len_ ψ type (args.map a.eval)).run P w).andThen fun r w'=>.ok (.value r) w':=by
     intro v hv w
     simp only[execOp,resolve,I1,KD,IB,invoke,builtin]
    clear hargs;have hx1:(args.map a.eval)[0]? = some (a.eval x):=by
     rw[Array.getElem?_map,hx0];rfl
    split at h
    ·rename_i e sz by' ag zz l o' n c d hl hx
     cases hb:Nat.ble n 65536 with
     |false=>rw[hb] at h;simp at h
     |true=>
     rw[hb] at h;have hn:=Na hb;simp only[cond_true,Am] at h;subst h;have h1:=hT.den hx;obtain⟨desc,hu,hk⟩:=TD.under_of (ht _ _ hl) rfl;have:=TK.sl_inv hk;subst this;refine⟨fun w=>?_,?_,rfl⟩
     ·rw[hlen _ rfl w];simp only[Builtin.len_,ht0,hx1,h1,SV.den_t,TV.den_l,LV.den_sl,I1,hu,IB,KD,goInt];rfl
     ·simp[OO.val,IX,SV.ok,TV.ok,LV.ok,X.den_lit,JC,IntKind.min,IntKind.max,IntKind.bits,IntKind.signed];omega
    ·rename_i e sz by' ag zz hl hx
     simp only[Am] at h;subst h;have h1:=hT.den hx;obtain⟨desc,hu,hk⟩:=TD.under_of (ht _ _ hl) rfl;have:=TK.sl_inv hk;subst this;refine⟨fun w=>?_,?_,rfl⟩
     ·rw[hlen _ rfl w];simp only[Builtin.len_,ht0,hx1,h1,SV.den_t,TV.den_l,LV.den_nsl,I1,hu,IB,KD,goInt];rfl
     ·simp[OO.val,IX,SV.ok,TV.ok,LV.ok,X.den_lit,JC,IntKind.min,IntKind.max,IntKind.bits,IntKind.signed]
    ·rename_i e sz by' ag zz l1 o1 s1 c1 d1 a1 hl hx
     simp only[Am] at h;subst h;have h1:=hT.den hx;obtain⟨desc,hu,hk⟩:=TD.under_of (ht _ _ hl) rfl;have:=TK.sl_inv hk;subst this;refine⟨fun w=>?_,?_,rfl⟩
     ·rw[hlen _ rfl w];simp only[Builtin.len_,ht0,hx1,h1,SV.den_t,TV.den_l,LV.den,I1,hu,IB,KD,goInt];rfl
     ·simp[OO.val,IX,SV.ok,TV.ok,LV.ok,X.den_lit,JC,IntKind.min,IntKind.max,IntKind.bits,IntKind.signed]
    ·rename_i n e sz by' ag zz v hl hx
     cases hb:Nat.ble n 65536 with
     |false=>rw[hb] at h;simp at h
     |true=>
     rw[hb] at h;have hn:=Na hb;simp only[cond_true,Am] at h;subst h;have h1:=hT.den hx;obtain⟨desc,hu,hk⟩:=TD.under_of (ht _ _ hl) rfl;have:=TK.arr_inv hk;subst this;refine⟨fun w=>?_,?_,rfl⟩
     ·rw[hlen _ rfl w];simp only[Builtin.len_,ht0,hx1,I1,hu,IB,KD,goInt];rfl
     ·simp[OO.val,IX,SV.ok,TV.ok,LV.ok,X.den_lit,JC,IntKind.min,IntKind.max,IntKind.bits,IntKind.signed];omega
    ·cases h
   ·cases h
 all_goals simp only[RB] at h
 case move x=>
  split at h
  ·rename_i v hv
   simp only[Am] at h;subst h;obtain⟨h1,h2,h3⟩:=hT.opd hv;exact⟨fun w=>by simp[execOp,h1,OO.val],h2,rfl⟩
  ·cases h
 case assign x=>
  split at h
  ·rename_i v hv
   simp only[Am] at h;subst h;obtain⟨h1,h2,h3⟩:=hT.opd hv;exact⟨fun w=>by simp[execOp,h1,OO.val],h2,rfl⟩
  ·cases h
 case pick c x y=>
  split at h
  ·rename_i n va vb hc hx hy
   simp only[Am] at h;subst h;obtain⟨h1,h2,-⟩:=hT.opd hx;obtain⟨h3,h4,-⟩:=hT.opd hy;have h5:=hT.den hc
   cases hn:JD n 0 with
   |true=>
    have:=NP hn;subst this;exact⟨fun w=>by simp[execOp,h5,h3,OO.val,SV.den_t,TV.den_l,LV.den_bool,X.den_lit,asBool],h4,rfl⟩
   |false=>
    have:=QV hn;exact⟨fun w=>by simp[execOp,h5,h1,OO.val,SV.den_t,TV.den_l,LV.den_bool,X.den_lit,asBool,this],h2,rfl⟩
  ·rename_i n va hc hx hy
   obtain⟨h1,h2,-⟩:=hT.opd hx;have h5:=hT.den hc
   cases hn:JD n 0 with
   |true=>rw[hn] at h;simp at h
   |false=>
    rw[hn] at h;simp only[cond_false,Am] at h;subst h;have:=QV hn;exact⟨fun w=>by simp[execOp,h5,h1,OO.val,SV.den_t,TV.den_l,LV.den_bool,X.den_lit,asBool,this],h2,rfl⟩
  ·rename_i n vb hc hx hy
   obtain⟨h3,h4,-⟩:=hT.opd hy;have h5:=hT.den hc
   cases hn:JD n 0 with
   |false=>rw[hn] at h;simp at h
   |true=>
    rw[hn] at h;simp only[cond_true,Am] at h;subst h;have:=NP hn;subst this;exact⟨fun w=>by simp[execOp,h5,h3,OO.val,SV.den_t,TV.den_l,LV.den_bool,X.den_lit,asBool],h4,rfl⟩
  ·rename_i xc xa xb hne hc hx hy
   simp only[Am] at h;subst h;have h1:=hT.den hc;have h2:=hT.den hx;have h3:=hT.den hy;have h4:=hd _ (Nc.2 rfl);simp only[FR.den,OP.den,NT,Vi,Iq.den_xs] at h4;refine⟨fun w=>?_,trivial,rfl⟩;simp only[Qu,Ze,d1] at h4;simp only[execOp,h1,h2,h3,IX,SV.den_t,TV.den_l,LV.den_bool,asBool,I1,KD,IB];have h5:X.den V.ρ (.v nb 0)=if (X.den V.ρ xc != 0)=true then X.den V.ρ xa else X.den V.ρ xb:=by
    show (V.ρ nb).getD 0 0=_;rw[h4];rfl
   rw[h5]
   cases (X.den V.ρ xc != 0)<;>rfl
  ·cases h
 case build t ps=>
  split at h
  ·rename_i d vs hd' hvs
   cases hf:Uh C d.k with
   |false=>rw[hf] at h;simp at h
   | true =>
    rw[hf] at h;simp only[cond_true] at h
    split at h
    ·rename_i cs hcs
     simp only[Am] at h;subst h;obtain⟨z,hz,hzl⟩:=TD.run_zero (ht t d hd') default;have hz':∀ w,(zeroValue t).run P w= .ok z w:=fun w=>by
      obtain⟨z',h1,-⟩:=TD.run_zero (ht t d hd') w;obtain⟨desc,i,zz,g1,g2,g3,g4,g5,g6,g7,-⟩:=TD.of_spec (ht t d hd');have e1:∀ w,(zeroValue t).run P w= .ok zz w:=fun w=>by simp[zeroValue,typeInfo,g2,g6]
      have:=(e1 default).symm.trans hz;simp only[Result.ok.injEq,and_true] at this;rw[e1 w,this]
     obtain⟨hz1,hz2⟩:=Uo hzl V st.nv (Db st.rg);obtain⟨hp1,hp2⟩:=hT.parts hvs;have hp1':(ps.map fun (p:Nat×Operand)=>(p.1,a.eval p.2)).toList=vs.map fun p=>(p.1,p.2.den V):=by
      rw[Array.toList_map];exact hp1
     obtain⟨desc,hu,hk⟩:=TD.under_of (ht t d hd') rfl;have hzc:z.cells=(d.zero.map (·.den V)).toArray:=by
      apply Array.ext';rw[hz1]
     cases hdk:d.k with
     | arr n e=>
      rw[hdk] at hk hcs;have:=TK.arr_inv hk;subst this;have hsz:∃ s,J8 C e=some s∨vs= []:=by
       cases hs:J8 C e with
       |some s=>exact⟨s,.inl rfl⟩
       |none=>
        cases vs with
        |nil=>exact⟨0,.inr rfl⟩
        |cons p r=>simp only[bO,hs] at hcs;cases hcs
      cases hs:J8 C e with
      |none=>
       exfalso;rw[hdk] at hf;simp[Uh,hs] at hf
      | some s=>
       have hrs:=IE ht hs;obtain⟨h3,h4⟩:=XT (C:=C) (k:=.arr n e) (V:=V) (place:=fun i=>some (i*s,s)) (fun i p hp=>by
        simp only[aA,hs] at hp;exact hp) hcs (fun c hc=>(hz2 c hc).1) (fun p hp=>(hp2 p hp).1)
       refine⟨fun w=>?_,h4,rfl⟩;simp only[execOp,Instr.build,I1,hz',IB,hu,hrs,hzc];rw[show (ps.map fun x=>match x with|(i,x)=>(i,a.eval x)).toList=vs.map fun p=>(p.1,p.2.den V) from hp1'];simp only[h3,KD,IB];rfl
     | str fs=>
      rw[hdk] at hk hcs hf;obtain⟨fields,rfl,rfl⟩:=TK.str_inv hk;simp only[Uh,Ll,VI,forall_exists_index,and_imp] at hf;have hm:∀ (l:List Field),(∀ f∈l,(J8 C f.type).isSome=true)→∀ w,(l.mapM fun f=>(do pure (f.offset, ← sizeOf f.type):Sem (Nat×Nat))).run P w=
        .ok (l.map fun f=>(f.offset,(J8 C f.type).getD 0)) w:=by
       intro l
       induction l with
       |nil=>intro _ w;rfl
       |cons f r ih=>
        intro hl w
        obtain⟨s,hs⟩:=Option.isSome_iff_exists.1 (hl f LA);rw[List.mapM_cons];simp only[I1,IE ht hs,IB,KD,ih (fun g hg=>hl g (MQ _ hg)),NT,hs,Option.getD_some]
      have hfs:∀ f∈fields.toList,(J8 C f.type).isSome=true:=fun f hf'=>hf _ f hf' rfl
      obtain⟨h3,h4⟩:=XT (C:=C) (k:=.str (fields.toList.map fun f=>(f.offset,f.type))) (V:=V)
       (place:=fun i=>((fields.toList.map fun f=>(f.offset,(J8 C f.type).getD 0)).toArray)[i]?) (fun i p hp=>by
        simp only[aA,OX] at hp
        cases hfi:fields.toList[i]? with
        |none=>simp[hfi] at hp
        | some f=>
         simp only[hfi,Xa] at hp
         split at hp
         ·rename_i s hs
          simp only[Am] at hp;subst hp;rw[List.getElem?_toArray,OX,hfi];simp[hs]
         ·cases hp) hcs (fun c hc=>(hz2 c hc).1) (fun p hp=>(hp2 p hp).1)
      refine⟨fun w=>?_,h4,rfl⟩;have hmA:(fields.mapM fun f=>(do pure (f.offset, ← sizeOf f.type):Sem (Nat×Nat))).run P w= .ok ((fields.toList.map fun f=>(f.offset,(J8 C f.type).getD 0)).toArray) w:=by
       rw[Array.mapM_eq_mapM_toList];simp only[Sem.run_map,hm fields.toList hfs w,IB]
      simp only[execOp,Instr.build,I1,hz',IB,hu,hmA,hzc];rw[show (ps.map fun x=>match x with|(i,x)=>(i,a.eval x)).toList=vs.map fun p=>(p.1,p.2.den V) from hp1'];simp only[h3,KD,IB];rfl
     |_=>
      rw[hdk] at hf;simp[Uh] at hf
    ·cases h
  ·cases h
 case nilCheck x=>
  split at h
  ·rename_i l o' hx
   simp only[Am] at h;subst h;obtain⟨h1,h2,-⟩:=hT.opd hx;exact⟨fun w=>by simp[execOp,h1,SV.den_t,TV.den_l,LV.den_ptr,OO.val,IX],h2,rfl⟩
  ·rename_i l o' n s y hx
   simp only[Am] at h;subst h;obtain⟨h1,h2,-⟩:=hT.opd hx;exact⟨fun w=>by simp[execOp,h1,SV.den_t,TV.den_l,LV.den_pd,OO.val,IX],h2,rfl⟩
  ·cases h
 case binOp op xt x y yt=>
  split at h
  ·rename_i k x' k' y' hx hy
   obtain⟨h1,h2,-⟩:=hT.opd hx;obtain⟨h3,h4,-⟩:=hT.opd hy;have key:=fun w=>Uu (P:=P) h h2 h4 hd ho xt w
   refine⟨fun w=>?_,(key default).2.1,(key default).2.2⟩;simp only[execOp,h1,h3,SV.den_t,TV.den_l,LV.den_int,I1,rY,IB,(key w).1,KD]
  ·rename_i hx hy
   split at h
   ·rename_i sz by' ag zz hlk aeB
    have h1:=hT.den hx;have h3:=hT.den hy;obtain⟨desc,hu,hk⟩:=TD.under_of (ht _ _ hlk) rfl;obtain⟨ms,rfl⟩:=TK.iface_inv hk;have hg:∀ op w,(eqGuard op xt x y .nilIface .nilIface).run P w= .ok () w:=by
     intro op w
     unfold eqGuard
     split<;>first|rfl|(cases x<;>cases y<;>first|rfl|(simp at aeB))
    split at h
    ·simp only[Am] at h;subst h;refine⟨fun w=>?_,trivial,rfl⟩;simp[execOp,h1,h3,SV.den_t,TV.den_l,LV.den_bool,LV.den_nilI,hg,binOp,VV hu,OO.val,IX,X.den_lit]
    ·simp only[Am] at h;subst h;refine⟨fun w=>?_,trivial,rfl⟩;simp[execOp,h1,h3,SV.den_t,TV.den_l,LV.den_bool,LV.den_nilI,hg,binOp,VV hu,OO.val,IX,X.den_lit]
    ·cases h
   ·cases h
  ·rename_i i hx hy
   split at h
   ·rename_i sz by' ag zz hlk
    obtain⟨h1,h2,-⟩:=hT.opd hx;have h3:=hT.den hy;obtain⟨t',u,hσ⟩:=h2;obtain⟨desc,hu,hk⟩:=TD.under_of (ht _ _ hlk) rfl;obtain⟨ms,rfl⟩:=TK.iface_inv hk;have hg:∀ op w,(eqGuard op xt x y (.iface t' u) .nilIface).run P w= .ok () w:=by
     intro op w
     unfold eqGuard
     split<;>rfl
    split at h
    ·simp only[Am] at h;subst h;refine⟨fun w=>?_,trivial,rfl⟩;simp[execOp,h1,h3,SV.den_t,TV.den_l,LV.den_bool,LV.den_nilI,LV.den_err,hσ,hg,binOp,TY hu,OO.val,IX,X.den_lit]
    ·simp only[Am] at h;subst h;refine⟨fun w=>?_,trivial,rfl⟩;simp[execOp,h1,h3,SV.den_t,TV.den_l,LV.den_bool,LV.den_nilI,LV.den_err,hσ,hg,binOp,TY hu,OO.val,IX,X.den_lit]
    ·cases h
   ·cases h
  ·rename_i l o n c d hx hy
   split at h
   ·rename_i e sz by' ag zz hlk
    obtain⟨h1,h2,-⟩:=hT.opd hx;have h3:=hT.den hy;obtain⟨desc,hu,hk⟩:=TD.under_of (ht _ _ hlk) rfl;have:=TK.sl_inv hk;subst this;have hg:∀ op (p:Addr) (m k:Nat) w,(eqGuard op xt x y (.slice (some p) m k) (.slice none 0 0)).run P w= .ok () w:=by
     intro op p m k w
     unfold eqGuard
     split<;>rfl
    split at h
    ·simp only[Am] at h;subst h;refine⟨fun w=>?_,trivial,rfl⟩;simp[execOp,h1,h3,SV.den_t,TV.den_l,LV.den_bool,LV.den_sl,LV.den_nsl,hg,binOp,Wq hu,OO.val,IX,X.den_lit]
    ·simp only[Am] at h;subst h;refine⟨fun w=>?_,trivial,rfl⟩;simp[execOp,h1,h3,SV.den_t,TV.den_l,LV.den_bool,LV.den_sl,LV.den_nsl,hg,binOp,Wq hu,OO.val,IX,X.den_lit]
    ·cases h
   ·cases h
  ·cases h
 case unOp op t x=>
  split at h
  ·rename_i k x' hx
   obtain⟨h1,h2,-⟩:=hT.opd hx
   split at h
   ·have hr0:JC k (X.den V.ρ (.lit 0)):=by
     cases k<;>simp[X.den_lit,JC,IntKind.min,IntKind.max,IntKind.bits,IntKind.signed]
    have key:=fun w=>Uu (P:=P) h hr0 h2 hd ho t w
    refine⟨fun w=>?_,(key default).2.1,(key default).2.2⟩;have h4:=(key w).1.symm.trans (Q8 P .sub t k 0 (x'.den V.ρ) w rfl rfl (by simp))
    injection h4 with h5
    have h1':a.eval x= .int k (x'.den V.ρ):=h1;rw[h5];simp only[execOp,h1',Op.unary,Op.intArith,I1,KD,IB];rfl
   ·cases hu:Pm k with
    | true=>
     rw[hu] at h;simp only[cond_true] at h;have hr0:JC k (X.den V.ρ (.lit k.max)):=by
      cases k<;>simp[X.den_lit,JC,IntKind.min,IntKind.max,IntKind.bits,IntKind.signed]
     have key:=fun w=>Uu (P:=P) h hr0 h2 hd ho t w
     refine⟨fun w=>?_,(key default).2.1,(key default).2.2⟩;have h4:=(key w).1.symm.trans (Q8 P .xor t k k.max (x'.den V.ρ) w rfl rfl (by simp));have hsg:k.signed=false:=by cases k<;>first|rfl|(simp[Pm] at hu)
     injection h4 with h5
     have h1':a.eval x= .int k (x'.den V.ρ):=h1;rw[h5];simp only[execOp,h1',Op.unary,hsg,Rc,if_false];rfl
    | false=>
     rw[hu] at h;simp only[cond_false] at h;have hsg:k.signed=true:=by cases k<;>first|rfl|(simp[Pm] at hu)
     have hr0:JC k (X.den V.ρ (.lit (-1))):=by
      cases k<;>simp[IntKind.signed] at hsg<;>simp[X.den_lit,JC,IntKind.min,IntKind.max,IntKind.bits,IntKind.signed]
     have key:=fun w=>Uu (P:=P) h hr0 h2 hd ho t w
     refine⟨fun w=>?_,(key default).2.1,(key default).2.2⟩;have h4:=(key w).1.symm.trans (Q8 P .xor t k (-1) (x'.den V.ρ) w rfl rfl (by simp))
     injection h4 with h5
     have h1':a.eval x= .int k (x'.den V.ρ):=h1;rw[h5];simp only[execOp,h1',Op.unary,hsg,if_true];rfl
   ·cases h
  ·rename_i n hx
   have h1:=hT.den hx
   split at h
   ·simp only[Am] at h;subst h;refine⟨fun w=>?_,trivial,rfl⟩
    cases hn:JD n 0 with
    |true=>have:=NP hn;subst this;simp[execOp,h1,SV.den_t,TV.den_l,LV.den_bool,Op.unary,OO.val,IX,X.den_lit,K9]
    |false=>have:=QV hn;simp[execOp,h1,SV.den_t,TV.den_l,LV.den_bool,Op.unary,OO.val,IX,X.den_lit,K9,this]
   ·cases h
  ·rename_i x' hne hx
   have h1:=hT.den hx
   split at h
   ·simp only[Am] at h;subst h;have h4:=hd _ (Nc.2 rfl);simp only[FR.den,OP.den,NT,Vi,Iq.den_xs,Qu,d1] at h4;refine⟨fun w=>?_,trivial,rfl⟩;simp only[execOp,h1,IX,SV.den_t,TV.den_l,LV.den_bool,Op.unary,I1,KD,IB];have h5:X.den V.ρ (.v nb 0)=K9 (X.den V.ρ x' == 0):=by
     show (V.ρ nb).getD 0 0=_;rw[h4];rfl
    rw[h5,mK];simp[bne]
   ·cases h
  ·cases h
 case convert sr dt x=>
  split at h
  ·rename_i d1' k sz by' ag zz k' x' hl1 hl2 hx
   obtain⟨h1,h2,-⟩:=hT.opd hx;obtain⟨ds1,hu1,-⟩:=TD.under_of (ht _ _ hl1) rfl;obtain⟨ds2,hu2,hk2⟩:=TD.under_of (ht _ _ hl2) rfl;have:=TK.int_inv hk2;subst this;have hrun:∀ w,(execOp a.eval ⟨dst,.convert sr dt x,type,pos,after,guard⟩).run P w= .ok (.value (.int k (k.wrap (x'.den V.ρ)))) w:=fun w=>by
    simp[execOp,h1,SV.den_t,TV.den_l,LV.den_int,convert,hu1,hu2,Conv.intToInt]
   cases hkk:ui k k' with
   | true=>
    rw[hkk] at h;simp only[cond_true,Am] at h;subst h;have:=N9 hkk;subst this;have hw:k.wrap (x'.den V.ρ)=x'.den V.ρ:=by
     have h3:JC k (x'.den V.ρ):=h2
     revert h3
     cases k<;>simp only[JC,IntKind.wrap,IntKind.min,IntKind.max,IntKind.bits,IntKind.signed]<;>simp<;>omega
    exact⟨fun w=>by rw[hrun w,hw];rfl,h2,rfl⟩
   | false=>
    rw[hkk] at h;simp only[cond_false] at h
    split at h
    ·simp only[Am] at h;subst h;exact⟨fun w=>by rw[hrun w];rfl,UQ _ _,rfl⟩
    ·simp only[Am] at h;subst h;have h4:=hd _ (Nc.2 rfl);simp only[FR.den,OP.den,NT,Vi,Iq.den_xs,Qu,d1] at h4;have h5:X.den V.ρ (.v nb 0)=k.wrap (x'.den V.ρ):=by
      show (V.ρ nb).getD 0 0=_;rw[h4];rfl
     refine⟨fun w=>by rw[hrun w];simp only[IX,SV.den_t,TV.den_l,LV.den_int,h5],?_,rfl⟩;simp only[IX,SV.ok,TV.ok,LV.ok,h5];exact UQ _ _
  ·cases h
 case fieldAddr s x f=>
  split at h
  ·rename_i fs sz by' ag zz l o' hl hx
   obtain⟨h1,-, -⟩:=hT.opd hx;obtain⟨desc,hu,hk⟩:=TD.under_of (ht _ _ hl) rfl;obtain⟨fields,rfl,rfl⟩:=TK.str_inv hk
   split at h
   ·rename_i off t hf
    split at h
    ·rename_i n hs
     cases hn:Nat.beq n 0 with
     |true=>rw[hn] at h;simp at h
     |false=>
      rw[hn] at h;simp only[cond_false,Am] at h;subst h;rw[OX,Ya] at hf;obtain⟨fd,hfd,he⟩:=hf;simp only[Prod.mk.injEq] at he;obtain⟨rfl,rfl⟩:=he;have hfd':fields[f]? = some fd:=by simpa using hfd
      have hn0:n≠0:=fun e=>by subst e;simp at hn
      refine⟨fun w=>?_,trivial,rfl⟩;simp only[execOp,h1,SV.den_t,TV.den_l,LV.den_ptr,Instr.fieldAt,I1,hu,IB,hfd',Instr.sureAddr,KD,fieldPlace,IE ht hs,hn0,if_false,DZ];simp only[OO.val,IX,SV.den_t,TV.den_l,LV.den_ptr,XN]
    ·cases h
   ·cases h
  ·cases h
 case field t x f=>
  split at h
  ·rename_i fs sz by' ag zz cs hl hx
   obtain⟨h1,h2,-⟩:=hT.opd hx;obtain⟨desc,hu,hk⟩:=TD.under_of (ht _ _ hl) rfl;obtain⟨fields,rfl,rfl⟩:=TK.str_inv hk
   split at h
   ·rename_i off t' hf
    split at h
    ·rename_i v hp
     simp only[Am] at h;subst h;rw[OX,Ya] at hf;obtain⟨fd,hfd,he⟩:=hf;simp only[Prod.mk.injEq] at he;obtain⟨rfl,rfl⟩:=he;have hfd':fields[f]? = some fd:=by simpa using hfd
     have hp':=fun w=>rH (P:=P) ht hp h2 w
     refine⟨fun w=>?_,(hp' default).2,rfl⟩;simp only[execOp,h1,SV.den_t,TV.den_a,Instr.field,I1,hu,IB,hfd',asAgg,KD,(hp' w).1];rfl
    ·cases h
   ·cases h
  ·cases h
 case extract x i=>
  split at h
  ·rename_i vs hx
   obtain⟨h1,h2,-⟩:=hT.opd hx
   split at h
   ·rename_i v hv
    simp only[Am] at h;subst h;refine⟨fun w=>?_,h2 v (OZ hv),rfl⟩;simp[execOp,h1,SV.den_tup,Instr.extract,hv,OO.val,SV.den_t]
   ·cases h
  ·cases h
 case indexAddr t x ix=>
  split at h
  ·rename_i n s l o' k i he hx hi
   obtain⟨h1,-, -⟩:=hT.opd hx;obtain⟨h2,h2o,-⟩:=hT.opd hi;unfold MX at he
   split at he
   ·rename_i n' e sz by' ag zz hl
    split at he
    ·rename_i s' hs
     simp only[Am,Prod.mk.injEq] at he;obtain⟨rfl,rfl⟩:=he;obtain⟨desc,hu,hk⟩:=TD.under_of (ht _ _ hl) rfl;have:=TK.arr_inv hk;subst this;have hrs:=IE ht hs;have hrun:∀ j:Nat,i.den V.ρ=(j:Int)→j<n'→∀ w,(execOp a.eval ⟨dst,.indexAddr t x ix,type,pos,after,guard⟩).run P w=
       .ok (.value (.pointer (some ⟨(V.ν l).1,(V.ν l).2+o'+j*s',none⟩))) w:=by
      intro j hj hjn w
      simp only[execOp,h1,h2,SV.den_t,TV.den_l,LV.den_int,LV.den_ptr,Instr.indexAt,asIntOf,I1,KD,IB,hu,Instr.sureAddr,hj];rw[if_pos (by omega)];simp only[I1,hrs,IB,KD,TJ,DZ]
     split at h
     ·rename_i j
      cases hb:Nat.blt j n' with
      |false=>rw[hb] at h;simp at h
      |true=>
       rw[hb] at h;simp only[cond_true,Am] at h;subst h;exact⟨fun w=>by rw[hrun j rfl (EF hb) w];simp only[OO.val,IX,SV.den_t,TV.den_l,LV.den_ptr,XN],trivial,rfl⟩
     ·cases h
     ·simp only[Am] at h;subst h;have hr:=ho _ (Nc.2 rfl);simp only[JM.den] at hr;obtain⟨j,hj⟩:=cu hr.1;refine⟨fun w=>?_,hr,rfl⟩;rw[hrun j hj (by omega) w];simp only[IX,SV.den_t,TV.den_l,LV.den_pd,hj,TJ]
    ·cases he
   ·split at he<;>simp at he
   ·cases he
  ·rename_i s l o' n c d k i he hx hi
   obtain⟨h1,-, -⟩:=hT.opd hx;obtain⟨h2,h2o,-⟩:=hT.opd hi;unfold MX at he
   split at he
   ·split at he<;>simp at he
   ·rename_i e sz by' ag zz hl
    split at he
    ·rename_i s' hs
     simp only[Am,Prod.mk.injEq,true_and] at he;subst he;obtain⟨desc,hu,hk⟩:=TD.under_of (ht _ _ hl) rfl;have:=TK.sl_inv hk;subst this;have hrs:=IE ht hs;have hrun:∀ j:Nat,i.den V.ρ=(j:Int)→j<n→∀ w,(execOp a.eval ⟨dst,.indexAddr t x ix,type,pos,after,guard⟩).run P w=
       .ok (.value (.pointer (some ⟨(V.ν l).1,(V.ν l).2+o'+j*s',none⟩))) w:=by
      intro j hj hjn w
      simp only[execOp,h1,h2,SV.den_t,TV.den_l,LV.den_int,LV.den_sl,Instr.indexAt,asIntOf,I1,KD,IB,hu,hj];rw[if_pos (by omega)];simp only[I1,hrs,IB,KD,TJ,DZ]
     split at h
     ·rename_i j
      cases hb:Nat.blt j n with
      |false=>rw[hb] at h;simp at h
      |true=>
       rw[hb] at h;simp only[cond_true,Am] at h;subst h;exact⟨fun w=>by rw[hrun j rfl (EF hb) w];simp only[OO.val,IX,SV.den_t,TV.den_l,LV.den_ptr,XN],trivial,rfl⟩
     ·cases h
     ·simp only[Am] at h;subst h;have hr:=ho _ (Nc.2 rfl);simp only[JM.den] at hr;obtain⟨j,hj⟩:=cu hr.1;refine⟨fun w=>?_,hr,rfl⟩;rw[hrun j hj (by omega) w];simp only[IX,SV.den_t,TV.den_l,LV.den_pd,hj,TJ]
    ·cases he
   ·cases he
  ·rename_i s l o' n iσ k i he hx hi
   obtain⟨h1,h1o,-⟩:=hT.opd hx;obtain⟨m,cc,hσ,hnm⟩:=h1o;obtain⟨h2,h2o,-⟩:=hT.opd hi;unfold MX at he
   split at he
   ·split at he<;>simp at he
   ·rename_i e sz by' ag zz hl
    split at he
    ·rename_i s' hs
     simp only[Am,Prod.mk.injEq,true_and] at he;subst he;obtain⟨desc,hu,hk⟩:=TD.under_of (ht _ _ hl) rfl;have:=TK.sl_inv hk;subst this;have hrs:=IE ht hs;have hrun:∀ j:Nat,i.den V.ρ=(j:Int)→j<n→∀ w,(execOp a.eval ⟨dst,.indexAddr t x ix,type,pos,after,guard⟩).run P w=
       .ok (.value (.pointer (some ⟨(V.ν l).1,(V.ν l).2+o'+j*s',none⟩))) w:=by
      intro j hj hjn w
      simp only[execOp,h1,h2,SV.den_t,TV.den_l,LV.den,hσ,Instr.indexAt,asIntOf,I1,KD,IB,hu,hj];rw[if_pos (by omega)];simp only[I1,hrs,IB,KD,TJ,DZ]
     split at h
     ·rename_i j
      cases hb:Nat.blt j n with
      |false=>rw[hb] at h;simp at h
      |true=>
       rw[hb] at h;simp only[cond_true,Am] at h;subst h;exact⟨fun w=>by rw[hrun j rfl (EF hb) w];simp only[OO.val,IX,SV.den_t,TV.den_l,LV.den_ptr,XN],trivial,rfl⟩
     ·cases h
     ·simp only[Am] at h;subst h;have hr:=ho _ (Nc.2 rfl);simp only[JM.den] at hr;obtain⟨j,hj⟩:=cu hr.1;refine⟨fun w=>?_,hr,rfl⟩;rw[hrun j hj (by omega) w];simp only[IX,SV.den_t,TV.den_l,LV.den_pd,hj,TJ]
    ·cases he
   ·cases he
  ·cases h
 case index t x ix=>
  split at h
  ·rename_i n e sz by' ag zz cs k i hl hx hi
   obtain⟨h1,h1o,-⟩:=hT.opd hx;obtain⟨h2,h2o,-⟩:=hT.opd hi;obtain⟨desc,hu,hk⟩:=TD.under_of (ht _ _ hl) rfl;have:=TK.arr_inv hk;subst this
   split at h
   ·rename_i j
    cases hb:Nat.blt j n with
    |false=>rw[hb] at h;simp at h
    | true=>
     rw[hb] at h;simp only[cond_true] at h
     split at h
     ·rename_i s hs
      split at h
      ·rename_i v hp
       simp only[Am] at h;subst h;have hp':=fun w=>rH (P:=P) ht hp h1o w
       have hjn:=EF hb;refine⟨fun w=>?_,(hp' default).2,rfl⟩;simp only[execOp,h1,h2,SV.den_t,TV.den_l,TV.den_a,LV.den_int,X.den_lit,Instr.index,asIntOf,I1,KD,IB,hu];rw[if_pos (by constructor<;>simp;omega)]
       simp only[I1,IE ht hs,IB];have:=(hp' w).1;simp only[TJ,Int.ofNat_eq_natCast] at this ⊢;rw[this];rfl
      ·cases h
     ·cases h
   ·cases h
   ·split at h
    ·rename_i k' acY zz' ks xs hle hcx
     cases hb:(jr k' ks&&Nat.beq cs.length n) with
     |false=>rw[hb] at h;simp at h
     | true=>
      rw[hb] at h;simp only[cond_true,Am] at h;subst h;simp only[Bd] at hb;have hlen:=CL hb.2;obtain⟨g1,g2,g3⟩:=LC hcx;have hr:=ho _ (Nc.2 rfl);simp only[JM.den] at hr;obtain⟨j,hj⟩:=cu hr.1;have hjn:j<cs.length:=by omega
      obtain⟨kk,xx,e1,e2,e3⟩:=g3 j _ (Jo hjn);have hkk:=Un hb.1 kk (OZ e1);subst hkk;have h4:=hd _ (Nc.2 rfl);simp only[FR.den,OP.den,NT,Vi,Iq.den_xs,IC hT.ln] at h4;have h5:X.den V.ρ (.v nb 0)=xx.den V.ρ:=by
       show (V.ρ nb).getD 0 0=_;rw[h4];simp[d1,hj,List.getD,e2]
      have hx5:=h1o _ (OZ (by rw[Jo hjn,e3]));refine⟨fun w=>?_,?_,rfl⟩
      ·simp only[execOp,h1,h2,SV.den_t,TV.den_l,TV.den_a,LV.den_int,Instr.index,asIntOf,I1,KD,IB,hu,hj];rw[if_pos (by omega)];simp only[I1,TD.run_size (ht _ _ hle),IB,part,TD.run_agg (ht _ _ hle),Rc,if_false,TJ,Nat.mul_one];have hg:((cs.map fun x=>LV.den V x).toArray)[j]? = some (.int kk (xx.den V.ρ)):=by
        simp[Jo hjn,e3,LV.den]
       rw[hg];simp only[KD,IB,IX,SV.den_t,TV.den_l,LV.den_int,h5]
      ·simp only[IX,SV.ok,TV.ok,LV.ok,h5];exact hx5
    ·cases h
  ·cases h
 case slice t x lo hi mx=>
  split at h
  ·rename_i ar sz by' ag zz l o' hl hx
   obtain⟨h1,-, -⟩:=hT.opd hx;obtain⟨desc,hu,hk⟩:=TD.under_of (ht _ _ hl) rfl;have:=TK.ptr_inv hk;subst this
   split at h
   ·rename_i n s he
    unfold MX at he
    split at he
    ·rename_i n' e sz' acY ag' zz' hl'
     split at he
     ·rename_i s' hs
      simp only[Am,Prod.mk.injEq] at he;obtain⟨rfl,rfl⟩:=he;obtain⟨abN,hu',hk'⟩:=TD.under_of (ht _ _ hl') rfl;have:=TK.arr_inv hk';subst this
      split at h
      ·rename_i p q hp hq
       cases hb:(Nat.ble p q&&Nat.ble q n') with
       |false=>rw[hb] at h;simp at h
       | true=>
        rw[hb] at h;simp only[cond_true,Am] at h;subst h;simp only[Bd] at hb;have hpq:=Na hb.1;have hqn:=Na hb.2;refine⟨fun w=>?_,?_,rfl⟩
        ·simp only[execOp,h1,SV.den_t,TV.den_l,LV.den_ptr,Instr.sliceAt,Instr.slice,I1,hu,IB,asAddr,KD,hu',Option.map_none,hT.bounds P false hp hq hpq hqn,IE ht hs];simp only[OO.val,IX,SV.den_t,TV.den_l,LV.den_sl,CX.den_n,X.den_lit,DZ]
         by_cases hnp:n'=p
         ·subst hnp;simp
         ·have:Nat.beq n' p=false:=by
           cases hq':Nat.beq n' p with
           |false=>rfl
           |true=>exact absurd (CL hq') hnp
          simp[hnp,this,XN]
        ·simp only[OO.val,IX,SV.ok,TV.ok,LV.ok,CX.den_n,X.den_lit];omega
      ·cases h
     ·cases he
    ·split at he<;>simp at he
    ·cases he
   ·cases h
  ·rename_i n e sz by' ag zz l o' hl hx
   obtain⟨h1,-, -⟩:=hT.opd hx;obtain⟨desc,hu,hk⟩:=TD.under_of (ht _ _ hl) rfl;have:=TK.arr_inv hk;subst this
   split at h
   ·rename_i s hs
    split at h
    ·rename_i p q hp hq
     cases hb:(Nat.ble p q&&Nat.ble q n) with
     |false=>rw[hb] at h;simp at h
     | true=>
      rw[hb] at h;simp only[cond_true,Am] at h;subst h;simp only[Bd] at hb;have hpq:=Na hb.1;have hqn:=Na hb.2;refine⟨fun w=>?_,?_,rfl⟩
      ·simp only[execOp,h1,SV.den_t,TV.den_l,LV.den_ptr,Instr.sliceAt,I1,hu,IB,Instr.sureAddr,KD,Option.map_none,hT.bounds P false hp hq hpq hqn,IE ht hs];simp only[OO.val,IX,SV.den_t,TV.den_l,LV.den_sl,CX.den_n,X.den_lit,DZ]
       by_cases hnp:n=p
       ·subst hnp;simp
       ·have:Nat.beq n p=false:=by
         cases hq':Nat.beq n p with
         |false=>rfl
         |true=>exact absurd (CL hq') hnp
        simp[hnp,this,XN]
      ·simp only[OO.val,IX,SV.ok,TV.ok,LV.ok,CX.den_n,X.den_lit];omega
    ·cases h
   ·cases h
  ·rename_i e sz by' ag zz l o' n c d hl hx
   obtain⟨h1,h1o,-⟩:=hT.opd hx;obtain⟨desc,hu,hk⟩:=TD.under_of (ht _ _ hl) rfl;have:=TK.sl_inv hk;subst this
   split at h
   ·rename_i q0 s he
    unfold MX at he;rw[hl] at he;simp only at he
    split at he
    ·rename_i s' hs
     simp only[Am,Prod.mk.injEq] at he;obtain⟨rfl,rfl⟩:=he
     split at h
     ·rename_i p q hp hq
      cases hb:(Nat.ble p q&&Nat.ble q n) with
      |false=>rw[hb] at h;simp at h
      | true=>
       rw[hb,cond_true] at h;simp only[Bd] at hb;have hpq:=Na hb.1;have hqn:=Na hb.2;have hcap:((n+d:Nat):Int)≤c.den V:=h1o
       cases hb2:(Nat.blt p n||Nat.beq p 0) with
       |false=>
       rw[hb2] at h;simp only[cond_false,Am] at h;subst h;have hnp:¬ p<n:=fun hlt=>by
        rw[show Nat.blt p n=true from zh hlt] at hb2;simp at hb2
       have hpe:p=n:=by omega
       have hqe:q=p:=by omega
       subst hqe;refine⟨fun w=>?_,?_,rfl⟩
       ·simp only[execOp,h1,SV.den_t,TV.den_l,LV.den_sl,Instr.sliceAt,Instr.slice,I1,hu,IB,KD,Option.map_none,hT.bounds P true hp hq hpq (by omega:q≤(c.den V).toNat-d),IE ht hs];simp only[OO.val,IX,SV.den_t,TV.den_l,LV.den,Xa,DZ,zcu]
        by_cases hnp:(c.den V).toNat-d=q
        ·rw[if_pos hnp,if_pos hnp]
        ·rw[if_neg hnp,if_neg hnp,XN]
       ·simp only[OO.val,IX,SV.ok,TV.ok,LV.ok];omega
       |true=>
       rw[hb2] at h;simp only[cond_true,Am] at h;subst h;simp only[Bool.or_eq_true] at hb2;have hpn:p<n∨p=0:=hb2.imp EF CL;refine⟨fun w=>?_,?_,rfl⟩
       ·simp only[execOp,h1,SV.den_t,TV.den_l,LV.den_sl,Instr.sliceAt,Instr.slice,I1,hu,IB,KD,Option.map_none,hT.bounds P true hp hq hpq (by omega:q≤(c.den V).toNat-d),IE ht hs];simp only[OO.val,IX,SV.den_t,TV.den_l,LV.den_sl,Xa,DZ,Nat.sub_sub]
        by_cases hnp:(c.den V).toNat-d=p
        ·have hp0:p=0:=by omega
         subst hp0;simp
        ·simp[hnp,XN]
       ·simp only[OO.val,IX,SV.ok,TV.ok,LV.ok];omega
     ·cases h
    ·cases he
   ·cases h
  ·rename_i z e sz by' ag zz l o' n c d hl hx
   obtain⟨h1,h1o,-⟩:=hT.opd hx;have hcap:((n+d:Nat):Int)≤c.den V:=h1o;obtain⟨desc,hu,hk⟩:=TD.under_of (ht _ _ hl) rfl;have:=TK.sl_inv hk;subst this
   split at h
   ·rename_i q0 he
    obtain⟨q1,s⟩:=q0;unfold MX at he;rw[hl] at he;simp only at he
    split at he
    ·rename_i s' hs
     split at h
     ·rename_i y p m hp hm hq
      cases hb:(Nat.ble p m&&Nat.ble m n) with
      |false=>rw[hb] at h;simp at h
      | true=>
       rw[hb] at h;simp only[cond_true,Am] at h;subst h;simp only[Bd] at hb;have hpm:=Na hb.1;have hmn:=Na hb.2;refine⟨fun w=>?_,?_,rfl⟩
       ·have hbb:=hT.bounds3 P (n:=n) hp hq hm hpm (by omega:m≤(c.den V).toNat-d) w;simp only[execOp,h1,SV.den_t,TV.den_l,LV.den_sl,Instr.sliceAt,Instr.slice,I1,hu,IB,KD,Xa,IE ht hs];rw[hbb];simp only[IB,OO.val,IX,SV.den_t,TV.den_l,LV.den_sl,CX.den_n,X.den_lit,DZ,Nat.sub_zero,Nat.zero_mul,Q3,TJ,ite_self]
       ·simp only[OO.val,IX,SV.ok,TV.ok,LV.ok,CX.den_n,X.den_lit];omega
     ·cases h
    ·cases he
   ·cases h
  ·cases h
 all_goals cases h
end
end
section
open Go
def AZ(ks:List IntKind)(xs:List Int):List Value:=List.zipWith Value.int ks xs
def Hf(ks:List IntKind)(xs:List Int):Prop:=xs.length=ks.length∧∀ (i:Nat) (k:IntKind) (x:Int),ks[i]? = some k→xs[i]? = some x→JC k x
def Ar(f:Bool)(w:World)(b:Nat×Nat)(ks:List IntKind)(xs:List Int):Prop:=
 Hf ks xs∧∀ (i:Nat) (k:IntKind) (x:Int),ks[i]? = some k→xs[i]? = some x→Ci f w b.1 (b.2+i) (.int k x)
def PM(GB:Nat)(w:World)(p:GG)(v:Value)(xs:List Int)(b:Nat×Nat):Prop:=
 match p with
 | .int k=>∃ x,xs= [x]∧v= .int k x∧JC k x
 | .bool=>∃ x,xs= [x]∧v= .bool (x != 0)
 | .mem ks _ wr=>v= .pointer (some ⟨b.1,b.2,none⟩)∧Ar wr w b ks xs∧(wr=true→GB≤b.1)
 | .agg ks=>Hf ks xs∧v= .agg (AZ ks xs).toArray
 | .sl ks _ wr=>∃ c,v= .slice (some ⟨b.1,b.2,none⟩) ks.length c∧ks.length≤c∧Ar wr w b ks xs∧(wr=true→GB≤b.1)
 | .slm ks _ wr=>∃ m c,v= .slice (some ⟨b.1,b.2,none⟩) m c∧ks.length≤m∧Ar wr w b ks xs∧(wr=true→GB≤b.1)
def Kt(GB:Nat)(w:World):List GG→List Value→List (List Int)→List (Nat×Nat)→Prop
 | [],[],[],[]=>True
 |p::ps,v::vs,x::xs,b::bs=>PM GB w p v x b∧Kt GB w ps vs xs bs
 |_,_,_,_=>False
def GG.reg:GG→Option (Nat×Bool×Nat)
 | .mem ks g wr=>some (g,wr,ks.length)
 | .sl ks g wr=>some (g,wr,ks.length)
 | .slm ks g wr=>some (g,wr,ks.length)
 |_=>none
def YR(p q:GG)(b c:Nat×Nat):Prop:=
 match p.reg,q.reg with
 |some (g,wr,n),some (g',wr',n')=>wr=true∨wr'=true→(g=g'∧g≠0∧b=c∧n=n')∨fM b c n n'
 |_,_=>True
def G8:List GG→List (Nat×Nat)→Prop
 |p::ps,b::bs=>(∀ x∈ps.zip bs,YR p x.1 b x.2)∧G8 ps bs
 |_,_=>True
def YP(s:Az)(bs:List (Nat×Nat))(b o:Nat):Prop:=
 ∃ p∈s.outs,b=(bs.getD p.1 (0,0)).1∧(bs.getD p.1 (0,0)).2≤o∧o<(bs.getD p.1 (0,0)).2+p.2.1.length
def RV(r:Qr)(ins:List (List Int))(args:List Value)(fb:List (Nat×Nat))(v:Value):Prop:=
 match r with
 | .int k f=>v= .int k (f ins)∧JC k (f ins)
 | .bool f=>v= .bool (f ins != 0)
 | .ptrP i=>args[i]? = some v
 | .ptrF j=>∃ b,fb[j]? = some b∧v= .pointer (some ⟨b.1,b.2,none⟩)
 | .agg ks f=>Hf ks (f ins)∧v= .agg (AZ ks (f ins)).toArray
 | .nil=>v= .pointer none
 | .nilI=>v= .nilIface
 | .slF j n c=>∃ b,fb[j]? = some b∧v= .slice (some ⟨b.1,b.2,none⟩) n c
 | .slP i n c=>∃ b:Nat×Nat,args[i]? = some (.pointer (some ⟨b.1,b.2,none⟩))∧v= .slice (some ⟨b.1,b.2,none⟩) n c
 | .slG j n=>∃ b c,fb[j]? = some b∧n≤c∧v= .slice (some ⟨b.1,b.2,none⟩) n c
 | .err=>∃ t u,v= .iface t u
def RVs(ins:List (List Int))(args:List Value)(fb:List (Nat×Nat)):List Qr→List Value→Prop
 | [],[]=>True
 |r::rs,v::vs=>RV r ins args fb v∧RVs ins args fb rs vs
 |_,_=>False
structure Yp (GC:Nat→Nat→Option Value) (s:Az) (args:List Value) (ins:List (List Int)) (bs:List (Nat×Nat)) (w:World) (fb:List (Nat×Nat)) (vs:List Value) (w':World):Prop where
 len:fb.length=s.fresh.length
 fr:∀ b∈fb,w.heap.size≤b.1
 fd:∀ (i j:Nat) (p q:List IntKind×PF) (b c:Nat×Nat),s.fresh[i]? = some p→s.fresh[j]? = some q→fb[i]? = some b→fb[j]? = some c→i≠j→fM b c p.1.length q.1.length
 frm:CV w w' (YP s bs)
 outs:∀ p∈s.outs,Ar true w' (bs.getD p.1 (0,0)) p.2.1 (p.2.2 ins)
 fresh:∀ (j:Nat) (p:List IntKind×PF) (b:Nat×Nat),s.fresh[j]? = some p→fb[j]? = some b→Ar true w' b p.1 (p.2 ins)
 ret:RVs ins args fb s.ret vs
 gw:GW GC w'
def TU:List Value→Value
 | [v]=>v
 |vs=>.tuple vs.toArray
def Bp(P:Program)(GB:Nat)(GC:Nat→Nat→Option Value)(f:Nat)(fe:FE):Prop:=
 ∀ (sel:Bool) (args:List Value) (ins:List (List Int)) (bs:List (Nat×Nat)) (w:World),GW GC w→GB≤w.heap.size→Kt GB w (fe.sel sel).params args ins bs→G8 (fe.sel sel).params bs→
  ((fe.sel sel).hp=true→(fe.sel true).pre ins)→fe.cnd ins=sel→
  Calls P f args.toArray w fun e w'=>∃ fb vs,e= .returned (TU vs)∧Yp GC (fe.sel sel) args ins bs w fb vs w'
def PX(s:Az):Prop:=∀ ins:List (List Int),ins.map List.length=s.params.map GG.len→
 (∀ p∈s.outs,(p.2.2 ins).length=p.2.1.length)∧(∀ p∈s.fresh,(p.2 ins).length=p.1.length)∧(∀ ks f,Qr.agg ks f∈s.ret→(f ins).length=ks.length)
theorem NC{V:Vl}{cs:List LV}{ks μ:List IntKind}{xs:List X}(h:KO cs=some (μ,xs))(hk:Ky ks μ=true):
  cs.map (·.den V)=AZ ks (xs.map (·.den V.ρ))∧cs.length=ks.length∧(xs.map (·.den V.ρ)).length=ks.length:=by
 have:=HV (fun _ _=>N9) hk;subst this;obtain⟨h1,h2,h3⟩:=LC h;refine⟨?_,h1,by rw[Vj];omega⟩
 apply List.ext_getElem?
 intro i
 unfold AZ;rw[List.getElem?_zipWith,OX,OX]
 cases hc:cs[i]? with
 |none=>
  have:cs.length≤i:=List.getElem?_eq_none_iff.1 hc;rw[List.getElem?_eq_none (by omega)];rfl
 |some c=>
  obtain⟨k,x,e1,e2,rfl⟩:=h3 i c hc;rw[e1,e2];rfl
theorem Oh{V:Vl}{cs:List LV}{ks μ:List IntKind}{xs:List X}(h:KO cs=some (μ,xs))(hk:Ky ks μ=true)(ho:∀ c∈cs,c.ok V):
  Hf ks (xs.map (·.den V.ρ)):=by
 have:=HV (fun _ _=>N9) hk;subst this;obtain⟨h1,h2,h3⟩:=LC h;refine⟨by rw[Vj];omega,fun i k x hk hx=>?_⟩;rw[OX,Ya] at hx;obtain⟨y,hy,rfl⟩:=hx;have hi:i<cs.length:=by have:=(Pi.1 hk).1;omega
 obtain⟨k',x',e1,e2,e3⟩:=h3 i _ (Jo hi);rw[hk] at e1;rw[hy] at e2
 cases e1;cases e2
 have:=ho _ (qj hi);rw[e3] at this;exact this
theorem UL{V:Vl}{j:Nat}{ks:List IntKind}{xs:List Int}(hx:V.ρ j=xs)(hl:xs.length=ks.length):(JR j ks).map (·.den V)=AZ ks xs:=by
 apply List.ext_getElem?
 intro i
 unfold AZ;rw[List.getElem?_zipWith,OX]
 cases hc:(JR j ks)[i]? with
 | none=>
  have:ks.length≤i:=by
   have:=List.getElem?_eq_none_iff.1 hc
   simpa[JR] using this
  rw[List.getElem?_eq_none (by omega)];rfl
 |some c=>
  obtain⟨k,e1,rfl⟩:=QW hc;have hi:i<ks.length:=(Pi.1 e1).1;rw[e1,Jo (by omega:i<xs.length)];simp only[Xa,LV.den,X.den,hx];simp[List.getD,Jo (by omega:i<xs.length)]
theorem X6{V:Vl}{j:Nat}{ks:List IntKind}{xs:List Int}(hx:V.ρ j=xs)(hr:Hf ks xs):∀ c∈JR j ks,c.ok V:=by
 intro c hc
 obtain⟨i,hi,rfl⟩:=lu hc;obtain⟨k,e1,e2⟩:=QW (Jo hi);have hi':i<ks.length:=(Pi.1 e1).1;rw[e2];have hxi:xs[i]? = some (xs[i]'(by have:=hr.1;omega)):=Jo _;have:=hr.2 i k _ e1 hxi;simp only[LV.ok,X.den,hx]
 simpa[List.getD,hxi] using this
theorem QT(j:Nat)(ks:List IntKind):(JR j ks).length=ks.length:=by simp[JR]
def Ux(V:Vl):Option MP→Nat×Nat
 |some m=>((V.ν m.l).1,(V.ν m.l).2+m.o)
 |none=>(0,0)
def az:Option MP→Option (Nat×Bool×Nat)
 |some m=>some (m.g,m.wr,m.n)
 |none=>none
section
variable{E:En}{st:St}{V:Vl}{w:World}(hm:Pw E st.rg V w)(hl:∀ p∈st.ln,(V.ρ p.1).length=p.2)
include hm hl
theorem AGt{p:GG}{v:SV}{a:Iq}{m:Option MP}(h:ANs st p v=some (a,m))(hv:v.ok V)
  (hw:∀ x,m=some x→x.wr=true→∃ r∈st.rg,r.id=x.l∧r.wr=true):
  PM E.GB w p (v.den V) (a.den V.ρ) (Ux V m)∧p.reg=az m∧(a.den V.ρ).length=p.len∧(∀ x,m=some x→v= .t (.l x.lv)∧∃ r∈st.rg,r.id=x.l∧x.o+x.n≤r.cs.length):=by
 have mem:∀ {ks μ:List IntKind} {xs:List X} {cs:List LV} {l o n:Nat} {wr:Bool},Kz st.rg l o n=some cs→n=ks.length→KO cs=some (μ,xs)→Ky ks μ=true→
   (wr=true→∃ r∈st.rg,r.id=l∧r.wr=true)→Ar wr w ((V.ν l).1,(V.ν l).2+o) ks (xs.map (·.den V.ρ))∧(wr=true→E.GB≤(V.ν l).1):=by
  intro ks μ xs cs l o n wr hr hn hc hk hwr
  obtain⟨g1,r,g2,g3,g4,g5⟩:=GR hr;have hrd:=hm.read hr;refine⟨⟨Oh hc hk (fun c ω=>?_),fun i k x hki hxi=>?_⟩,fun hwt=>?_⟩
  ·obtain⟨i,hi,rfl⟩:=lu ω;exact (hrd i _ (Jo hi)).2
  ·have hkk:=HV (fun _ _=>N9) hk;subst hkk;obtain⟨h1,h2,h3⟩:=LC hc;have hi:i<cs.length:=by have:=(Pi.1 hki).1;omega
   obtain⟨k',x',e1,e2,e3⟩:=h3 i _ (Jo hi);rw[hki] at e1;cases e1;rw[OX,e2] at hxi;simp only[Xa,Am] at hxi;subst hxi;have hcell:=(hrd i _ (Jo hi)).1;rw[e3] at hcell;refine⟨hcell,fun hwt=>?_⟩;obtain⟨r',q1,q2,q3⟩:=hwr hwt;have:r'=r:=hm.one r' q1 r g2 (q2.trans g3.symm);subst this;obtain⟨u,hu,-⟩:=hm.rgs r' g2 (o+i) _ (g5 i _ (Jo hi));rw[g3, ← XN] at hu;exact hu.2 q3
  ·obtain⟨r',q1,q2,q3⟩:=hwr hwt;have:=(hm.cov r' q1 q3).1
   rwa [q2] at this
 unfold ANs at h
 split at h
 ·rename_i k k' x
  cases hk:ui k k' with
  |false=>rw[hk] at h;simp at h
  |true=>
   rw[hk] at h;simp only[cond_true,Am,Prod.mk.injEq] at h;obtain⟨rfl,rfl⟩:=h;have:=N9 hk;subst this;exact⟨⟨_,rfl,rfl,hv⟩,rfl,rfl,fun x hx=>by cases hx⟩
 ·rename_i x
  simp only[Am,Prod.mk.injEq] at h;obtain⟨rfl,rfl⟩:=h;exact⟨⟨_,rfl,rfl⟩,rfl,rfl,fun x hx=>by cases hx⟩
 ·rename_i ks g wr l o
  split at h
  ·rename_i cs hcs
   split at h
   ·rename_i μ xs hcx
    cases hb:Ky ks μ with
    |false=>rw[hb] at h;simp at h
    | true=>
     rw[hb] at h;simp only[cond_true,Am,Prod.mk.injEq] at h;obtain⟨rfl,rfl⟩:=h;obtain⟨q1,q2⟩:=mem (wr:=wr) hcs rfl hcx hb (fun hwt=>hw _ rfl hwt);obtain⟨g1,r,g2,g3,g4,g5⟩:=GR hcs;refine⟨?_,rfl,?_,fun x hx=>?_⟩
     ·rw[IC hl];exact⟨rfl,q1,q2⟩
     ·rw[IC hl];exact q1.1.1
     ·cases hx
      exact⟨rfl,r,g2,g3,g4⟩
   ·cases h
  ·cases h
 ·rename_i ks cs
  split at h
  ·rename_i μ xs hcx
   cases hb:Ky ks μ with
   |false=>rw[hb] at h;simp at h
   |true=>
    rw[hb] at h;simp only[cond_true,Am,Prod.mk.injEq] at h;obtain⟨rfl,rfl⟩:=h;obtain⟨e1,e2,e3⟩:=NC (V:=V) hcx hb;refine⟨?_,rfl,by rw[IC hl];exact e3,fun x hx=>by cases hx⟩;rw[IC hl];exact⟨Oh hcx hb hv,by simp only[SV.den_t,TV.den_a,e1]⟩
  ·cases h
 ·rename_i ks g wr l o n c d
  cases hn:Nat.beq n ks.length with
  |false=>rw[hn] at h;simp at h
  | true=>
   rw[hn] at h;have hn':=CL hn;simp only[cond_true] at h
   split at h
   ·rename_i cs hcs
    split at h
    ·rename_i μ xs hcx
     cases hb:Ky ks μ with
     |false=>rw[hb] at h;simp at h
     | true=>
      rw[hb] at h;simp only[cond_true,Am,Prod.mk.injEq] at h;obtain⟨rfl,rfl⟩:=h;obtain⟨q1,q2⟩:=mem (wr:=wr) hcs hn' hcx hb (fun hwt=>hw _ rfl hwt);obtain⟨g1,r,g2,g3,g4,g5⟩:=GR hcs;have hcap:((n+d:Nat):Int)≤c.den V:=hv;refine⟨?_,by simp[GG.reg,az,hn'],?_,fun x hx=>?_⟩
      ·rw[IC hl];exact⟨_,by rw[← hn'];rfl,by omega,q1,q2⟩
      ·rw[IC hl];exact q1.1.1
      ·cases hx
       exact⟨rfl,r,g2,g3,g4⟩
    ·cases h
   ·cases h
 ·rename_i ks g wr l o n iσ
  cases hn:Nat.beq n ks.length with
  |false=>rw[hn] at h;simp at h
  | true=>
   rw[hn] at h;have hn':=CL hn;simp only[cond_true] at h
   split at h
   ·rename_i cs hcs
    split at h
    ·rename_i μ xs hcx
     cases hb:Ky ks μ with
     |false=>rw[hb] at h;simp at h
     | true=>
      rw[hb] at h;simp only[cond_true,Am,Prod.mk.injEq] at h;obtain⟨rfl,rfl⟩:=h;obtain⟨q1,q2⟩:=mem (wr:=wr) hcs hn' hcx hb (fun hwt=>hw _ rfl hwt);obtain⟨g1,r,g2,g3,g4,g5⟩:=GR hcs;obtain⟨m,cc,hσ,hnm⟩:=(hv:∃ m c,V.σ iσ= .slice (some ⟨(V.ν l).1,(V.ν l).2+o,none⟩) m c∧n≤m);refine⟨?_,by simp[GG.reg,az,hn'],?_,fun x hx=>?_⟩
      ·rw[IC hl];exact⟨m,cc,hσ,by omega,q1,q2⟩
      ·rw[IC hl];exact q1.1.1
      ·cases hx
       exact⟨rfl,r,g2,g3,g4⟩
    ·cases h
   ·cases h
 ·cases h
theorem Tv:∀ {ps:List GG} {vs:List SV} {as:List Iq} {ms:List (Option MP)},Py st ps vs=some (as,ms)→(∀ v∈vs,v.ok V)→WY st.rg ms=true→
  Kt E.GB w ps (vs.map (·.den V)) (as.map (·.den V.ρ)) (ms.map (Ux V))∧ps.map GG.reg=ms.map az∧(as.map (·.den V.ρ)).map List.length=ps.map GG.len∧vs.length=ms.length∧
   (∀ (i:Nat) (x:MP),ms[i]? = some (some x)→vs[i]? = some (.t (.l x.lv))∧∃ r∈st.rg,r.id=x.l∧x.o+x.n≤r.cs.length∧(x.wr=true→r.wr=true))
 | [],[],as,ms,h,_,_=>by
  simp only[Py,Am,Prod.mk.injEq] at h;obtain⟨rfl,rfl⟩:=h;exact⟨trivial,rfl,rfl,rfl,fun i x h=>by simp at h⟩
 | [],_::_,as,ms,h,_,_=>by simp[Py] at h
 |_::_,[],as,ms,h,_,_=>by simp[Py] at h
 | p :: ps,v::vs,as,ms,h,hv,hwr=>by
  unfold Py at h
  split at h
  ·rename_i a m as' ms' h1 h2
   simp only[Am,Prod.mk.injEq] at h;obtain⟨rfl,rfl⟩:=h;have hwr':WY st.rg ms'=true∧∀ x,m=some x→x.wr=true→∃ r∈st.rg,r.id=x.l∧r.wr=true:=by
    cases m with
    |none=>exact⟨by simpa[WY] using hwr,fun x hx=>by cases hx⟩
    | some a=>
     simp only[WY,Bd,Bool.or_eq_true,Bool.not_eq_true'] at hwr;refine⟨hwr.2,fun x hx hxw=>?_⟩
     cases hx
     rcases hwr.1 with h|h
     ·rw[hxw] at h;cases h
     ·split at h
      ·rename_i g hg
       exact⟨g,(Kc hg).1,(Kc hg).2,h⟩
      ·cases h
   obtain⟨q1,q2,q3,q4⟩:=AGt hm hl h1 (hv v LA) hwr'.2;obtain⟨r1,r2,r3,r4,r5⟩:=Tv (ps:=ps) h2 (fun v hv'=>hv v (MQ _ hv')) hwr'.1;refine⟨⟨q1,r1⟩,by simp[q2,r2],by simp[q3];simpa using r3,by simp[r4],fun i x hx=>?_⟩
   cases i with
   |zero=>
    simp only[VT,Am] at hx;obtain⟨e1,r,e2,e3,e4⟩:=q4 x hx;refine⟨by simp[e1],r,e2,e3,e4,fun hxw=>?_⟩;obtain⟨r',f1,f2,f3⟩:=hwr'.2 x hx hxw;have:=hm.one r' f1 r e2 (f2.trans e3.symm);subst this;exact f3
   |succ i=>simpa using r5 i x (by simpa using hx)
  ·cases h
end
theorem AO0{E:En}{rg:List Rg}{V:Vl}{w:World}(hm:Pw E rg V w){a b:MP}(h:AON rg a b=true)
  (ha:∃ r∈rg,r.id=a.l∧a.o+a.n≤r.cs.length∧(a.wr=true→r.wr=true)) (hb:∃ r∈rg,r.id=b.l∧b.o+b.n≤r.cs.length∧(b.wr=true→r.wr=true)) (hw:a.wr=true∨b.wr=true):
  (a.g=b.g∧a.g≠0∧Ux V (some a)=Ux V (some b)∧a.n=b.n)∨fM (Ux V (some a)) (Ux V (some b)) a.n b.n:=by
 obtain⟨r,hr,hrl,hrn,hrw⟩:=ha;obtain⟨r',hr',ab1,ahl,agp⟩:=hb;have hdis:AHD a.o a.n b.o b.n=true→a.o+a.n≤b.o∨b.o+b.n≤a.o:=by
  intro h
  simp only[AHD,Bool.or_eq_true] at h;exact h.imp Na Na
 have hsame:(Nat.beq a.g b.g && !(Nat.beq a.g 0)&&Nat.beq a.o b.o&&Nat.beq a.n b.n)=true→a.g=b.g∧a.g≠0∧a.o=b.o∧a.n=b.n:=by
  intro h
  simp only[Bd,Bool.not_eq_true'] at h;refine⟨CL h.1.1.1,fun e=>?_,CL h.1.2,CL h.2⟩;rw[e] at h;simp at h
 unfold AON at h;have hnw:(!(a.wr||b.wr))=false:=by rcases hw with h|h<;>simp[h]
 rw[hnw,Bool.false_or] at h
 cases hl:Nat.beq a.l b.l with
 | true=>
  have hle:=CL hl;simp only[hl,cond_true,Bool.or_eq_true] at h
  rcases h with h|h
  ·have:=hdis h
   right
   simp only[fM,Ux,hle];omega
  ·obtain⟨e1,e2,e3,e4⟩:=hsame h;exact .inl ⟨e1,e2,by simp only[Ux,hle,e3],e4⟩
 | false=>
  simp only[hl,cond_false] at h
  split at h
  ·rename_i q q' hq hq'
   have hqr:q=r:=hm.one q (Kc hq).1 r hr ((Kc hq).2.trans hrl.symm);have hqr':q'=r':=hm.one q' (Kc hq').1 r' hr' ((Kc hq').2.trans ab1.symm);subst hqr;subst hqr';simp only[Bd,Bool.or_eq_true] at h;obtain⟨hww,h⟩:=h;have hne:q.id≠q'.id:=fun e=>by
    rw[hrl,ab1] at e;rw[e,Nat.beq_refl] at hl;cases hl
   have hsep:(q.grp=q'.grp∧q.grp≠0∧V.ν a.l=V.ν b.l∧q.cs.length=q'.cs.length)∨fM (V.ν a.l) (V.ν b.l) q.cs.length q'.cs.length:=by
    rw[← hrl, ← ab1]
    rcases hww with h|h
    ·exact hm.sep q hr q' hr' h hne
    ·rcases hm.sep q' hr' q hr h (Ne.symm hne) with ⟨e1,e2,e3,e4⟩|e
     ·exact .inl ⟨e1.symm,by rw[← e1];exact e2,e3.symm,e4.symm⟩
     ·right
      unfold fM at *
      omega
   rcases hsep with ⟨e1,e2,e3,e4⟩|e
   ·have hg:(Nat.beq q.grp q'.grp && !(Nat.beq q.grp 0))=true:=by
     simp only[Bd,Bool.not_eq_true',e1,Nat.beq_refl,true_and]
     cases hz:Nat.beq q'.grp 0 with
     |false=>rfl
     |true=>exact absurd (e1.trans (CL hz)) e2
    rw[hg] at h;simp only[cond_true,Bool.or_eq_true] at h
    rcases h with h|h
    ·have:=hdis h
     right
     simp only[fM,Ux,e3];omega
    ·obtain⟨f1,f2,f3,f4⟩:=hsame h;exact .inl ⟨f1,f2,by simp only[Ux,e3,f3],f4⟩
   ·right
    unfold fM at *
    simp only[Ux];omega
  ·cases h
theorem zQ{E:En}{rg:List Rg}{V:Vl}{w:World}(hm:Pw E rg V w):∀ {ps:List GG} {ms:List (Option MP)},ps.map GG.reg=ms.map az→XP rg ms=true→
  (∀ x,some x∈ms→∃ r∈rg,r.id=x.l∧x.o+x.n≤r.cs.length∧(x.wr=true→r.wr=true))→G8 ps (ms.map (Ux V))
 | [],ms,_,_,_=>trivial
 |p::ps,[],h,_,_=>by simp at h
 | p::ps,m::ms,h,hs,hx=>by
  simp only[NT,List.cons.injEq] at h;have hs':XP rg ms=true:=by
   cases m with
   |none=>simpa[XP] using hs
   |some a=>simp only[XP,Bd] at hs;exact hs.2
  refine⟨fun y hy=>?_,zQ hm h.2 hs' (fun x hx'=>hx x (MQ _ hx'))⟩;obtain⟨i,hi,he⟩:=lu hy;simp only[List.length_zip,Vj] at hi;have hi1:i<ps.length:=by omega
  have hi2:i<ms.length:=by omega
  have hy1:y=(ps[i],Ux V ms[i]):=by rw[← he];simp
  subst hy1;have hreg:(ps[i]).reg=az ms[i]:=by
   have:=QL (fun l=>l[i]?) h.2
   simpa[hi1,hi2] using this
  unfold YR;rw[h.1,hreg]
  cases m with
  |none=>trivial
  | some a=>
   cases hmi:ms[i] with
   |none=>trivial
   |some b=>
    simp only[az]
    intro hw
    simp only[XP,Bd,Ll] at hs;have hsb:=hs.1 (some b) (by rw[← hmi];exact qj hi2);exact AO0 hm hsb (hx a LA) (hx b (MQ _ (by rw[← hmi];exact qj hi2))) hw
end
section
open Go
theorem Ci.of_set_other{f:Bool}{w:World}{b o b' o':Nat}{u v:Value}(h:Ci f (w.setCell ⟨b',o',none⟩ v) b o u)(hne:¬ (b=b'∧o=o')):Ci f w b o u:=by
 obtain⟨c,e,lo,hi,h1,h2,h3⟩:=h.obj;rw[World.setCell_heap] at h1
 by_cases hb:b=b'
 ·subst hb;rw[if_pos rfl] at h1;have ho:o'≠o:=fun e=>hne ⟨rfl,e.symm⟩
  cases hw:w.heap[b]? with
  |none=>rw[hw] at h1;simp at h1
  | some x=>
   rw[hw] at h1
   cases x with
   |cells c0 e0 f0=>
    simp only[Xa,Am,Obj.cells.injEq] at h1;obtain⟨rfl,rfl,rfl⟩:=h1;rw[Array.getElem?_setIfInBounds_ne ho] at h2;exact Ci.of_obj hw h2 h3
   |_=>simp at h1
 ·rw[if_neg hb] at h1;exact Ci.of_obj h1 h2 h3
theorem Ci.of_setCells{f:Bool}{b o:Nat}{u:Value}(b':Nat):∀ (vs:List Value) (w:World) (o':Nat),Ci f (setCells w b' o' vs) b o u→(b≠b'∨o<o'∨o'+vs.length≤o)→Ci f w b o u
 | [],_,_,h,_=>h
 |v::vs,w,o',h,hn=>by
  simp only[Oq] at hn;exact (Ci.of_setCells b' vs _ (o'+1) h (by omega)).of_set_other (by rintro⟨rfl,rfl⟩;omega)
theorem CV.trans'{A B w:World}{S S':Nat→Nat→Prop}(h:CV A B S)(h':CV B w S')(hs:∀ b o,b<A.heap.size→S' b o→S b o):CV A w S:=
 ⟨G9 h.1 h'.1,fun b x hx=>by
  have hb:b<A.heap.size:=by
   rcases nG b A.heap.size with h2|h2
   ·exact h2
   ·simp[vR h2] at hx
  obtain⟨y,hy,h1⟩:=h.2.1 b x hx;obtain⟨z,hz,h2⟩:=h'.2.1 b y hy;exact⟨z,hz,h1.trans (h2.mono fun o=>hs b o hb)⟩,h'.2.2.1.trans h.2.2.1,h'.2.2.2.1.trans h.2.2.2.1,h'.2.2.2.2.trans h.2.2.2.2⟩
def Vl.setν(V:Vl)(l:Nat)(b:Nat×Nat):Vl:= { V with ν:=fun x=>if x=l then b else V.ν x }
theorem Vl.setν_same(V:Vl)(l:Nat)(b:Nat×Nat):(V.setν l b).ν l=b:=by simp[Vl.setν]
theorem Vl.setν_other(V:Vl){l x:Nat}(b:Nat×Nat)(h:x≠l):(V.setν l b).ν x=V.ν x:=by simp[Vl.setν,h]
theorem Jv{r x:Rg}:∀ {rg:List Rg},x∈uZ r rg↔x=r∨x∈rg
 | []=>by simp[uZ]
 | y::ys=>by
  unfold uZ
  cases Nat.blt y.id r.id
  ·simp only[cond_false,J4,Jv (rg:=ys)]
   constructor
   ·rintro (h|h|h)
    ·exact .inr (.inl h)
    ·exact .inl h
    ·exact .inr (.inr h)
   ·rintro (h|h|h)
    ·exact .inr (.inl h)
    ·exact .inl h
    ·exact .inr (.inr h)
  ·simp
theorem sj{bv:Nat}{rg π:List Rg}{l:Nat}{cs:List LV}(h:ig bv rg l cs=some π):
  EH l (Db rg)=false∧(∀ c∈cs,c.lt bv (Db rg)=true)∧π=uZ ⟨l,0,true,cs.map some⟩ rg:=by
 unfold ig at h
 cases hb:(!(EH l (Db rg))&&cs.all (·.lt bv (Db rg))) with
 |false=>rw[hb] at h;simp at h
 |true=>
  rw[hb] at h;simp only[cond_true,Am] at h;simp only[Bd,Bool.not_eq_true',Ll] at hb;exact⟨hb.1,hb.2,h.symm⟩
theorem Pw.add{E:En}{bv:Nat}{rg π:List Rg}{V:Vl}{w:World}{l:Nat}{cs:List LV}{b:Nat×Nat}(hm:Pw E rg V w)(hs:Zl bv rg)(h:ig bv rg l cs=some π)
  (ab6:∀ r∈rg,fM (V.ν r.id) b r.cs.length cs.length) (hB:E.B.heap.size≤b.1) (δ:E.GB≤b.1) (hc:∀ (i:Nat) (c:LV),cs[i]? = some c→Ci true w b.1 (b.2+i) (c.den V)) (hok:∀ c∈cs,c.ok V):
  Pw E π (V.setν l b) w∧Zl bv π∧(∀ x,EH x (Db rg)=true→EH x (Db π)=true)∧EH l (Db π)=true∧EH l (Db rg)=false∧(∀ r∈π,(r∈rg∧r.id≠l)∨r=⟨l,0,true,cs.map some⟩):=by
 obtain⟨hl,hlt,rfl⟩:=sj h;have hne:∀ x,EH x (Db rg)=true→x≠l:=fun x hx e=>by rw[e,hl] at hx;cases hx
 have hag:Ag bv (Db rg) V (V.setν l b):=⟨fun _ _=>rfl,fun _ _=>rfl,fun x hx=>V.setν_other b (hne x hx)⟩;have hm':=hm.ag hag hs;have hids:∀ x,EH x (Db rg)=true→EH x (Db (uZ ⟨l,0,true,cs.map some⟩ rg))=true:=fun x hx=>by
  obtain⟨r,hr,rfl⟩:=PZ.1 hx;exact Gh (Jv.2 (.inr hr))
 have hnl:∀ r∈rg,r.id≠l:=fun r hr=>hne _ (Gh hr)
 have hsep:∀ r∈rg,fM ((V.setν l b).ν r.id) b r.cs.length cs.length:=fun r hr=>by
  rw[V.setν_other b (hnl r hr)];exact ab6 r hr
 refine⟨⟨?_,?_,?_,?_,hm.frm,hm.gw⟩,?_,hids,PZ.2 ⟨_,Jv.2 (.inl rfl),rfl⟩,hl,?_⟩
 ·intro r hr
  rcases Jv.1 hr with rfl|hr
  ·intro i c hi
   simp only[OX,Ya] at hi;obtain⟨lv,h1,rfl⟩:=hi;have hlv:=hlt lv (OZ h1);refine⟨lv.den V,?_,fun lv' e=>?_⟩
   ·show Ci true w ((V.setν l b).ν l).1 (((V.setν l b).ν l).2+i) _;rw[V.setν_same];exact hc i lv h1
   ·cases e
    exact⟨(LV.den_ag hag hlv).symm,LV.ok_ag hag hlv (hok lv (OZ h1))⟩
  ·exact hm'.rgs r hr
 ·intro r hr r' hr' he
  rcases Jv.1 hr with rfl|hr
  ·rcases Jv.1 hr' with rfl|hr'
   ·rfl
   ·exact absurd he.symm (hnl r' hr')
  ·rcases Jv.1 hr' with rfl|hr'
   ·exact absurd he (hnl r hr)
   ·exact hm.one r hr r' hr' he
 ·intro r hr r' hr' hw acX
  rcases Jv.1 hr with rfl|hr
  ·rcases Jv.1 hr' with rfl|hr'
   ·exact absurd rfl acX
   ·right
    have:=hsep r' hr';show fM ((V.setν l b).ν l) _ _ _;rw[V.setν_same];unfold fM at *
    simp only[Vj];omega
  ·rcases Jv.1 hr' with rfl|hr'
   ·right
    have:=hsep r hr;show fM _ ((V.setν l b).ν l) _ _;rw[V.setν_same]
    simpa[Vj] using this
   ·exact hm'.sep r hr r' hr' hw acX
 ·intro r hr hw
  rcases Jv.1 hr with rfl|hr
  ·show E.GB≤((V.setν l b).ν l).1∧_;rw[V.setν_same];exact⟨δ,fun i _=>.inl hB⟩
  ·exact hm'.cov r hr hw
 ·intro r hr lv hlv
  rcases Jv.1 hr with rfl|hr
  ·simp only[VI,Am,exists_eq_right] at hlv;exact LV.lt_mono (JP _) hids (hlt lv hlv)
  ·exact LV.lt_mono (JP _) hids (hs r hr lv hlv)
 ·intro r hr
  rcases Jv.1 hr with rfl|hr
  ·exact .inr rfl
  ·exact .inl ⟨hr,hnl r hr⟩
def AWB(bs:List (Nat×Nat))(outs:List (Nat×List IntKind×PF))(b o:Nat):Prop:=
 ∃ p∈outs,b=(bs.getD p.1 (0,0)).1∧(bs.getD p.1 (0,0)).2≤o∧o<(bs.getD p.1 (0,0)).2+p.2.1.length
theorem YM{ks:List IntKind}{xs:List Int}{i:Nat}{v:Value}(h:(AZ ks xs)[i]? = some v):∃ k x,ks[i]? = some k∧xs[i]? = some x∧v= .int k x:=by
 unfold AZ at h;rw[List.getElem?_zipWith] at h
 cases hk:ks[i]? with
 |none=>rw[hk] at h;simp at h
 |some k=>
  cases hx:xs[i]? with
  |none=>rw[hk,hx] at h;simp at h
  |some x=>rw[hk,hx] at h;simp at h;exact⟨k,x,rfl,rfl,h.symm⟩
theorem xJ {E:En} (hgc:∀ b o v,E.GC b o=some v→b<E.GB) {V:Vl} {bv:Nat} {ms:List (Option MP)} {ins:List (List Int)} {w w':World}:
  ∀ {outs:List (Nat×List IntKind×PF)} {nb:Nat} {rg π:List Rg} {wk:World} {D:Nat→Nat→Prop},Yo bv ms nb outs rg=some π→Pw E rg V wk→Zl bv rg→
  (∀ (i:Nat) (p:Nat×List IntKind×PF),outs[i]? = some p→V.ρ (nb+i)=p.2.2 ins)→(∀ p∈outs,Ar true w' ((ms.map (Ux V)).getD p.1 (0,0)) p.2.1 (p.2.2 ins))→
  (∀ f b o v,Ci f wk b o v→Ci true w' b o v∨(Ci f w b o v∧¬ D b o))→
  ∃ wk',Pw E π V wk'∧Zl bv π∧Db π=Db rg∧(∀ f b o v,Ci f wk' b o v→Ci true w' b o v∨(Ci f w b o v∧¬ (D b o∨AWB (ms.map (Ux V)) outs b o)))
 | [],nb,rg,π,wk,D,h,hm,hs,_,_,hI=>by
  simp only[Yo,Am] at h;subst h;exact⟨wk,hm,hs,rfl,fun f b o v hv=>(hI f b o v hv).imp id fun h=>⟨h.1,fun hh=>hh.elim h.2 (fun ⟨p,hp,_⟩=>by cases hp)⟩⟩
 | (i,ks,f)::r,nb,rg,π,wk,D,h,hm,hs,hd,ho,hI=>by
  unfold Yo at h
  split at h
  ·rename_i m hmi
   cases hb:(Nat.beq m.n ks.length&&m.wr) with
   |false=>rw[hb] at h;simp at h
   | true =>
    rw[hb] at h;simp only[cond_true] at h;simp only[Bd] at hb;have hn:=CL hb.1
    split at h
    ·rename_i rg1 hw1
     have hρ:V.ρ nb=f ins:=by simpa using hd 0 _ rfl
     have hmem:=ho _ LA;have hbs:(ms.map (Ux V)).getD i (0,0)=Ux V (some m):=by
      simp[List.getD,hmi]
     simp only[hbs] at hmem;have hlen:(f ins).length=ks.length:=hmem.1.1;have hvals:(JR nb ks).map (·.den V)=AZ ks (f ins):=UL hρ hlen;have hok:∀ c∈JR nb ks,c.ok V:=X6 hρ hmem.1;have hm1:=hm.write hgc hw1 hok;obtain⟨hs1,hid1⟩:=hs.write hw1;obtain⟨R,hR,hRl,hRw,hRn,-, -⟩:=Lg hw1;rw[QT] at hRn;obtain⟨wk',g1,g2,g3,g4⟩:=xJ (V:=V) (ms:=ms) (ins:=ins) (w:=w) (w':=w') (D:=fun b o=>D b o∨(b=(Ux V (some m)).1∧(Ux V (some m)).2≤o∧o<(Ux V (some m)).2+ks.length)) hgc h hm1 hs1
      (fun j p hp=>by have:=hd (j+1) p (by simpa using hp);rwa [show nb+(j+1)=nb+1+j by omega] at this) (fun p hp=>ho p (MQ _ hp)) (by
       intro f' b o v hv
       by_cases hin:b=(Ux V (some m)).1∧(Ux V (some m)).2≤o∧o<(Ux V (some m)).2+ks.length
       ·left
        obtain⟨rfl,h1,h2⟩:=hin;simp only[Ux] at h1 h2 hv hmem ⊢;obtain⟨j,rfl⟩:∃ j,o=(V.ν m.l).2+m.o+j:=⟨o-((V.ν m.l).2+m.o),by omega⟩;have hj:j<ks.length:=by omega
        have hvj:(AZ ks (f ins))[j]? = some ((AZ ks (f ins))[j]'(by simp[AZ];omega)):=Jo _;obtain⟨k,x,e1,e2,e3⟩:=YM hvj;have hcell:∃ u,Ci f' wk (V.ν m.l).1 ((V.ν m.l).2+m.o+j) u:=by
         have hlt:m.o+j<R.cs.length:=by omega
         obtain⟨u,hu,-⟩:=hm.rgs R hR (m.o+j) _ (Jo hlt);rw[hRl,hRw] at hu;exact⟨u,by rw[XN];exact hu.weak⟩
        rw[hvals] at hv;have hin':=Ci.setCells_in (f:=f') (b:=(V.ν m.l).1) (AZ ks (f ins)) wk ((V.ν m.l).2+m.o) j _ hvj hcell;have:=hv.inj hin';rw[this,e3];exact hmem.2 j k x e1 e2
       ·have hold:Ci f' wk b o v:=by
         refine Ci.of_setCells _ _ _ _ hv ?_;simp only[Ux] at hin;simp only[Vj,QT]
         by_cases hbb:b=(V.ν m.l).1
         ·right
          have:=fun h1 h2=>hin ⟨hbb,h1,h2⟩
          omega
         ·exact .inl hbb
        rcases hI f' b o v hold with h|⟨h1,h2⟩
        ·exact .inl h
        ·exact .inr ⟨h1,fun hh=>hh.elim h2 hin⟩)
     refine⟨wk',g1,g2,by rw[g3,hid1],fun f' b o v hv=>?_⟩
     rcases g4 f' b o v hv with h|⟨h1,h2⟩
     ·exact .inl h
     ·refine .inr ⟨h1,fun hh=>h2 ?_⟩
      rcases hh with hh|⟨p,hp,hq⟩
      ·exact .inl (.inl hh)
      ·rcases J4.1 hp with rfl|hp
       ·left;right
        simp only[hbs] at hq;exact hq
       ·exact .inr ⟨p,hp,hq⟩
    ·cases h
  ·cases h
theorem iB{bv:Nat}{ms:List (Option MP)}:∀ {outs:List (Nat×List IntKind×PF)} {nb:Nat} {rg π:List Rg},Yo bv ms nb outs rg=some π→
  (∀ r'∈π,∃ r∈rg,r.id=r'.id∧r.cs.length=r'.cs.length)∧(∀ p∈outs,∃ m,ms[p.1]? = some (some m)∧m.n=p.2.1.length∧m.wr=true∧∃ r∈rg,r.id=m.l∧r.wr=true∧m.o+m.n≤r.cs.length)
 | [],nb,rg,π,h=>by
  simp only[Yo,Am] at h;subst h;exact⟨fun r hr=>⟨r,hr,rfl,rfl⟩,fun p hp=>by cases hp⟩
 | (i,ks,f)::r,nb,rg,π,h=>by
  unfold Yo at h
  split at h
  ·rename_i m hmi
   cases hb:(Nat.beq m.n ks.length&&m.wr) with
   |false=>rw[hb] at h;simp at h
   | true=>
    rw[hb] at h;simp only[cond_true] at h;simp only[Bd] at hb;have hn:=CL hb.1
    split at h
    ·rename_i rg1 hw1
     obtain⟨h1,h2⟩:=iB h;obtain⟨R,hR,hRl,hRw,hRn,-,rfl⟩:=Lg hw1;rw[QT] at hRn;refine⟨fun r' hr'=>?_,fun p hp=>?_⟩
     ·obtain⟨q,hq,e1,e2⟩:=h1 r' hr';obtain⟨q0,hq0,rfl⟩:=VI.1 hq;exact⟨q0,hq0,by rw[← e1,Oy],by rw[← e2,QZ]⟩
     ·rcases J4.1 hp with rfl|hp
      ·exact⟨m,hmi,hn,hb.2,R,hR,hRl,hRw,by omega⟩
      ·obtain⟨m',a1,a2,a3,q,hq,a4,a5,a6⟩:=h2 p hp;obtain⟨q0,hq0,rfl⟩:=VI.1 hq;exact⟨m',a1,a2,a3,q0,hq0,by rw[← a4,Oy],by rw[← a5,Zr],by rw[QZ] at a6;exact a6⟩
    ·cases h
  ·cases h
theorem oN{E:En}{bv:Nat}{ins:List (List Int)}{w w':World}(hBw:E.B.heap.size≤w.heap.size)(δ:E.GB≤E.B.heap.size):
  ∀ {fr:List (List IntKind×PF)} {nb lb:Nat} {rg π:List Rg} {V:Vl} {fb:List (Nat×Nat)},dO bv nb lb fr rg=some π→Pw E rg V w'→Zl bv rg→fb.length=fr.length→
  (∀ (i:Nat) (p:List IntKind×PF),fr[i]? = some p→V.ρ (nb+i)=p.2 ins)→(∀ b∈fb,w.heap.size≤b.1)→(∀ (i j:Nat) (p q:List IntKind×PF) (b c:Nat×Nat),fr[i]? = some p→fr[j]? = some q→fb[i]? = some b→fb[j]? = some c→i≠j→fM b c p.1.length q.1.length)→
  (∀ (j:Nat) (p:List IntKind×PF) (b:Nat×Nat),fr[j]? = some p→fb[j]? = some b→Ar true w' b p.1 (p.2 ins))→
  (∀ r∈rg,∀ (j:Nat) (p:List IntKind×PF) (b:Nat×Nat),fr[j]? = some p→fb[j]? = some b→fM (V.ν r.id) b r.cs.length p.1.length)→
  ∃ V',Pw E π V' w'∧Zl bv π∧V'.ρ=V.ρ∧V'.σ=V.σ∧(∀ x,EH x (Db rg)=true→V'.ν x=V.ν x∧EH x (Db π)=true)∧(∀ (j:Nat) (b:Nat×Nat),fb[j]? = some b→V'.ν (lb+j)=b∧EH (lb+j) (Db π)=true)
 | [],nb,lb,rg,π,V,fb,h,hm,hs,hl,_,_,_,_,_=>by
  simp only[dO,Am] at h;subst h;exact⟨V,hm,hs,rfl,rfl,fun x hx=>⟨rfl,hx⟩,fun j b hb=>by
   have:=(Pi.1 hb).1;simp at hl;subst hl;simp at this⟩
 |(ks,f)::r,nb,lb,rg,π,V,[],h,hm,hs,hl,_,_,_,_,_=>by simp at hl
 | (ks,f)::r,nb,lb,rg,π,V,b0::fb,h,hm,hs,hl,hd,hfr,hfd,hmem,hnw=>by
  unfold dO at h
  split at h
  ·rename_i rg1 h1
   have hρ:V.ρ nb=f ins:=by simpa using hd 0 _ rfl
   have hm0:=hmem 0 _ b0 rfl rfl;simp only at hm0;have hb0:=hfr b0 LA;have hvals:(JR nb ks).map (·.den V)=AZ ks (f ins):=UL hρ hm0.1.1;obtain⟨k1,k2,k3,k4,k5,k6⟩:=hm.add hs h1 (b:=b0) (fun q hq=>by
     have:=hnw q hq 0 _ b0 rfl rfl
     simpa[JR] using this) (by omega) (by omega) (fun i c hc=>by
     have hv:(AZ ks (f ins))[i]? = some (c.den V):=by rw[← hvals,OX,hc];rfl
     obtain⟨k,x,e1,e2,e3⟩:=YM hv;rw[e3];exact hm0.2 i k x e1 e2) (X6 hρ hm0.1)
   have hlne:∀ q∈rg,q.id≠lb:=fun q hq e=>by
    have:=Gh hq;rw[e,k5] at this;cases this
   obtain⟨V',g1,g2,g3,g4,g5,g6⟩:=oN (E:=E) (w:=w) hBw δ h k1 k2 (by simpa using hl)
    (fun i p hp=>by have:=hd (i+1) p (by simpa using hp);rwa [show nb+(i+1)=nb+1+i by omega] at this)
    (fun b hb=>hfr b (MQ _ hb)) (fun i j p q b c hp hq hb hc hij=>hfd (i+1) (j+1) p q b c (by simpa using hp) (by simpa using hq) (by simpa using hb) (by simpa using hc) (by omega))
    (fun j p b hp hb=>hmem (j+1) p b (by simpa using hp) (by simpa using hb)) (fun q hq j p b hp hb=>by
     rcases k6 q hq with ⟨hq,hqe⟩|hq
     ·rw[V.setν_other b0 (hlne q hq)];exact hnw q hq (j+1) p b (by simpa using hp) (by simpa using hb)
     ·subst hq;show fM ((V.setν lb b0).ν lb) b _ _;rw[V.setν_same];have:=hfd 0 (j+1) _ p b0 b rfl (by simpa using hp) rfl (by simpa using hb) (by omega)
      simpa[JR] using this)
   refine⟨V',g1,g2,g3,g4,fun x hx=>?_,fun j b hb=>?_⟩
   ·obtain⟨e1,e2⟩:=g5 x (k3 x hx);refine⟨?_,e2⟩;rw[e1,V.setν_other b0 (fun e=>by rw[e,k5] at hx;cases hx)]
   ·cases j with
    |zero=>
     simp only[VT,Am] at hb;subst hb;obtain⟨e1,e2⟩:=g5 lb k4;exact⟨by rw[Q3,e1,V.setν_same],by rw[Q3];exact e2⟩
    |succ j=>
     have:=g6 j b (by simpa using hb)
     rwa [show lb+1+j=lb+(j+1) by omega] at this
  ·cases h
end
section
open Go
def AVY(E:En):Prop:=∀ f fe,lk f E.C.T=some fe→(f<1000000→Bp E.P E.GB E.GC (f%10000) fe)∧∀ b,PX (fe.sel b)
structure Qs (E:En):Prop where
 tt:AIn E.P E.C.tt
 gc:∀ b o v,E.GC b o=some v→b<E.GB
 gb:E.GB≤E.B.heap.size
 tb:AVY E
 mx:E.P.follows .mixedOrders=true
 a64:∀ (x y c:Int) (w:World),0≤x→0≤y→c=0∨c=1→(callFunc E.C.a64 #[.int .u64 x,.int .u64 y,.int .u64 c]).run E.P w=
  .ok (.value (.tuple #[.int .u64 ((x+y+c)%18446744073709551616),.int .u64 ((x+y+c)/18446744073709551616)])) w
 s64:∀ (x y c:Int) (w:World),0≤x→0≤y→c=0∨c=1→y<18446744073709551616→(callFunc E.C.s64 #[.int .u64 x,.int .u64 y,.int .u64 c]).run E.P w=
  .ok (.value (.tuple #[.int .u64 ((x+18446744073709551616-y-c)%18446744073709551616),.int .u64 (if x<y+c then 1 else 0)])) w
 en:∀ f args w,(∃ fe,lk f E.C.T=some fe)→f<1000000→f%10000≠E.C.a64→f%10000≠E.C.s64→(callFunc (f%10000) args).run E.P w= .ok (.enter (f%10000) args) w
 eq:∀ t ks,lk t E.C.eqs=some ks→∀ xs ys:List Int,Hf ks xs→Hf ks ys→∀ (op:BinOp) (x y:Operand) (w:World),
  (eqGuard op t x y (.agg (AZ ks xs).toArray) (.agg (AZ ks ys).toArray)).run E.P w= .ok () w∧(Op.equal t (.agg (AZ ks xs).toArray) (.agg (AZ ks ys).toArray)).run E.P w= .ok (xs == ys) w
theorem dI{f:Nat}{sel:Bool}{as:List Iq}{nb:Nat}:∀ {prs:List PR} {k i:Nat} {p:PR},prs[i]? = some p→p ≠ .no→(nb+(k+i),⟨.fn f sel (k+i),as⟩)∈Rn f sel as nb k prs
 | [],k,i,p,h,_=>by simp at h
 |q::r,k,0,p,h,hp=>by
  simp only[VT,Am] at h;subst h
  cases q with
  |no=>exact absurd rfl hp
  |i f=>simp[Rn]
  |l f=>simp[Rn]
 |q::r,k,i+1,p,h,hp=>by
  have:=dI (f:=f) (sel:=sel) (as:=as) (nb:=nb) (k:=k+1) (i:=i) (p:=p) (prs:=r) (by simpa using h) hp;rw[show k+1+i=k+(i+1) by omega] at this
  cases q with
  |no=>simpa[Rn] using this
  |i f=>simp only[Rn];exact MQ _ this
  |l f=>simp only[Rn];exact MQ _ this
theorem Vo{T:Tb}{V:Vl}{f:Nat}{sel:Bool}{as:List Iq}{nb:Nat}{fe:FE}(hf:lk f T=some fe)(hd:DsH T V (Rn f sel as nb 0 (fe.sel sel).prs)){i:Nat}{p:PR}
  (hp:(fe.sel sel).prs[i]? = some p) (hn:p ≠ .no):V.ρ (nb+i)=p.den (as.map (·.den V.ρ)):=by
 have h1:=dI (f:=f) (sel:=sel) (as:=as) (nb:=nb) (k:=0) hp hn;rw[NU] at h1;have h2:=hd _ h1;simp only[FR.den,OP.den,hf,Az.pr] at h2;rw[h2,List.getD,hp];rfl
theorem rq {ms:List (Option MP)} {lb:Nat} {V:Vl} {ins:List (List Int)} {args:List Value} {fb:List (Nat×Nat)} (hms:∀ (i:Nat) (m:MP),ms[i]? = some (some m)→args[i]? = some (m.lv.den V)∧m.lv.ok V)
  (hfb:∀ (j:Nat) (b:Nat×Nat),fb[j]? = some b→V.ν (lb+j)=b):
  ∀ {rs:List Qr} {nb:Nat} {vals:List Value} {tv:List TV},pF ms nb lb rs=some tv→RVs ins args fb rs vals→
  (∀ (i:Nat) (r:Qr),rs[i]? = some r→r.pr ≠ .no→V.ρ (nb+i)=r.pr.den ins)→(UZ rs=true→∀ (i:Nat) (v:Value),vals[i]? = some v→V.σ (nb+i)=v)→
  tv.map (·.den V)=vals∧∀ t∈tv,t.ok V
 | [],nb,[],tv,h,_,_,_=>by
  simp only[pF,Am] at h;subst h;exact⟨rfl,fun t h=>by cases h⟩
 | [],nb,v::vs,tv,h,hr,_,_=>by simp[RVs] at hr
 |r::rs,nb,[],tv,h,hr,_,_=>by simp[RVs] at hr
 | r :: rs,nb,v::vs,tv,h,hr,hρ,hσ=>by
  unfold pF at h
  split at h
  ·rename_i t ts h1 h2
   simp only[Am] at h;subst h;obtain⟨hr1,hr2⟩:=hr;obtain⟨g1,g2⟩:=rq hms hfb h2 hr2 (fun i r' hr' hn=>by
     have:=hρ (i+1) r' (by simpa using hr') hn
     rwa [show nb+(i+1)=nb+1+i by omega] at this) (fun he i v' hv'=>by
     have:=hσ (by cases r<;>first|exact he|(simp[UZ];done)|simpa[UZ] using he) (i+1) v' (by simpa using hv')
     rwa [show nb+(i+1)=nb+1+i by omega] at this)
   have h0:=hρ 0 r rfl;rw[Q3] at h0;have hd:t.den V=v∧t.ok V:=by
    cases r with
    |int k f=>
     simp only[ZM,Am] at h1;subst h1;have h3:=h0 (by simp[Qr.pr]);simp only[Qr.pr,PR.den] at h3;obtain⟨e1,e2⟩:=hr1;simp only[TV.den,LV.den,TV.ok,LV.ok,X.den,h3,Qu];exact⟨e1.symm,e2⟩
    |bool f=>
     simp only[ZM,Am] at h1;subst h1;have h3:=h0 (by simp[Qr.pr]);simp only[Qr.pr,PR.den] at h3;simp only[TV.den,LV.den,TV.ok,LV.ok,X.den,h3,Qu];exact⟨hr1.symm,trivial⟩
    | ptrP i=>
     simp only[ZM] at h1
     split at h1
     ·rename_i m hm
      simp only[Am] at h1;subst h1;obtain⟨e1,e2⟩:=hms i m hm;refine⟨?_,e2⟩;have:args[i]? = some v:=hr1;rw[e1] at this
      simpa[TV.den] using this
     ·cases h1
    |ptrF j=>
     simp only[ZM,Am] at h1;subst h1;obtain⟨b,e1,e2⟩:=hr1;refine⟨?_,trivial⟩;simp only[TV.den,LV.den,hfb j b e1,e2,Q3]
    |agg ks f=>
     simp only[ZM,Am] at h1;subst h1;have h3:=h0 (by simp[Qr.pr]);simp only[Qr.pr,PR.den] at h3;obtain⟨e1,e2⟩:=hr1;refine⟨?_,X6 h3 e1⟩;simp only[TV.den,UL h3 e1.1,e2]
    |nil=>
     simp only[ZM,Am] at h1;subst h1;exact⟨Eq.symm hr1,trivial⟩
    |nilI=>
     simp only[ZM,Am] at h1;subst h1;exact⟨Eq.symm hr1,trivial⟩
    | slF j n c=>
     simp only[ZM] at h1
     cases hb:Nat.ble n c with
     |false=>rw[hb] at h1;simp at h1
     |true=>
      rw[hb] at h1;simp only[cond_true,Am] at h1;subst h1;have hnc:=Na hb;obtain⟨b,e1,e2⟩:=hr1;refine⟨?_,?_⟩
      ·simp only[TV.den,LV.den,hfb j b e1,e2,Q3,CX.den,X.den,TJ,Nat.sub_zero]
      ·simp only[TV.ok,LV.ok,CX.den,X.den];omega
    | slP i n c=>
     simp only[ZM] at h1
     split at h1
     ·rename_i m hm
      split at h1
      ·rename_i l o hlv
       cases hb:Nat.ble n c with
       |false=>rw[hb] at h1;cases h1
       |true=>
        rw[hb] at h1;simp only[cond_true,Am] at h1;subst h1;have hnc:=Na hb;obtain⟨b,e1,e2⟩:=hr1;obtain⟨e3,-⟩:=hms i m hm;rw[e1,hlv,LV.den_ptr] at e3;simp only[Am,Value.pointer.injEq,Addr.mk.injEq,and_true] at e3;refine⟨?_,?_⟩
        ·simp only[TV.den,LV.den,e2,CX.den,X.den,TJ,Nat.sub_zero,e3.1,e3.2]
        ·simp only[TV.ok,LV.ok,CX.den,X.den];omega
      ·cases h1
     ·cases h1
    |slG j n=>
     simp only[ZM,Am] at h1;subst h1;have h4:=hσ rfl 0 v rfl;rw[Q3] at h4;obtain⟨b,c,e1,e2,e3⟩:=hr1;refine⟨?_,?_⟩
     ·simp only[TV.den,LV.den,hfb j b e1,CX.den,h4,e3,AII,Q3,TJ,Nat.sub_zero]
     ·simp only[TV.ok,LV.ok,CX.den,h4,e3,AII];omega
    |err=>
     simp only[ZM,Am] at h1;subst h1;have h4:=hσ rfl 0 v rfl;rw[Q3] at h4;obtain⟨t',u,e⟩:=hr1;exact⟨by simp only[TV.den,LV.den,h4],t',u,by rw[h4,e]⟩
   refine⟨by rw[NT,hd.1,g1],fun t' ht'=>?_⟩
   rcases J4.1 ht' with rfl|ht'
   ·exact hd.2
   ·exact g2 t' ht'
  ·cases h
theorem zC{s:Az}{i:Nat}{p:Nat×List IntKind×PF}(h:s.outs[i]? = some p):s.prs[i]? = some (.l p.2.2):=by
 have hi:=(Pi.1 h).1;unfold Az.prs;rw[YY,gI (by simpa using hi),OX,h];rfl
theorem ik{s:Az}{i:Nat}{p:List IntKind×PF}(h:s.fresh[i]? = some p):s.prs[s.outs.length+i]? = some (.l p.2):=by
 have hi:=(Pi.1 h).1;unfold Az.prs;rw[YY,mH (by simp),gI (by simp;omega)];simp[h]
theorem yA{s:Az}{i:Nat}{r:Qr}(h:s.ret[i]? = some r):s.prs[s.outs.length+s.fresh.length+i]? = some r.pr:=by
 unfold Az.prs;rw[mH (by simp)];simp[h]
theorem UU{GB:Nat}{w:World}:∀ {ps:List GG} {vs:List Value} {xs:List (List Int)} {bs:List (Nat×Nat)},Kt GB w ps vs xs bs→vs.length=ps.length∧xs.length=ps.length∧bs.length=ps.length
 | [],[],[],[],_=>⟨rfl,rfl,rfl⟩
 |p::ps,v::vs,x::xs,b::bs,h=>by
  obtain⟨h1,h2,h3⟩:=UU h.2;simp[h1,h2,h3]
 | [],_::_,_,_,h=>by simp[Kt] at h
 | [],[],_::_,_,h=>by simp[Kt] at h
 | [],[],[],_::_,h=>by simp[Kt] at h
 |_::_,[],_,_,h=>by simp[Kt] at h
 |_::_,_::_,[],_,h=>by simp[Kt] at h
 |_::_,_::_,_::_,[],h=>by simp[Kt] at h
structure XL (E:En) (st:St) (V:Vl) (nb bv:Nat) (rg:List Rg) (er:Bool) (V':Vl) (w':World):Prop where
 ρ:V'.ρ=V.ρ
 σ:∀ i,(i<nb∨er=false)→V'.σ i=V.σ i
 ν:∀ l,EH l (Db st.rg)=true→V'.ν l=V.ν l∧EH l (Db rg)=true
 mok:Pw E rg V' w'
 scp:Zl bv rg
section
variable{E:En}(hE:Qs E){st:St}{V:Vl}{w:World}{bv:Nat}(hm:Pw E st.rg V w)(hs:Zl bv st.rg)(hl:∀ p∈st.ln,(V.ρ p.1).length=p.2)
include hE hm hs hl
theorem rP{f:Nat}{sel:Bool}{vs:List SV}{nb lb:Nat}{r:ASY}(h:AAQ E.C f sel vs nb lb bv st=some r)(hv:∀ v∈vs,v.ok V∧v.lt bv (Db st.rg)=true)
  (hsn:r.er=false∨(Zl nb st.rg∧∀ v∈vs,v.lt nb (Db st.rg)=true))
  (hd:DsH E.C.T V r.ds) (ho:ObH E.C.T V r.ob):
  ∃ fe as bs,lk f E.C.T=some fe∧Py st (fe.sel sel).params vs=some as∧Kt E.GB w (fe.sel sel).params (vs.map (·.den V)) (as.1.map (·.den V.ρ)) bs∧G8 (fe.sel sel).params bs∧
   ((fe.sel sel).hp=true→(fe.sel true).pre (as.1.map (·.den V.ρ)))∧
   ∀ fb vals w',Yp E.GC (fe.sel sel) (vs.map (·.den V)) (as.1.map (·.den V.ρ)) bs w fb vals w'→
    ∃ V',XL E st V nb bv r.rg r.er V' w'∧r.vs.map (·.den V')=vals∧∀ t∈r.vs,t.ok V':=by
 unfold AAQ at h
 split at h
 ·cases h
 rename_i fe hfe
 simp only at h
 split at h
 ·cases h
 rename_i as ms has
 cases hb:(XP st.rg ms&&WY st.rg ms) with
 |false=>rw[hb] at h;simp at h
 |true=>
 rw[hb] at h;simp only[cond_true] at h;simp only[Bd] at hb
 split at h
 ·cases h
 rename_i rg1 hout
 split at h
 ·cases h
 rename_i rg2 hfr
 split at h
 ·cases h
 rename_i tv htv
 simp only[Am] at h;subst h;simp only at hd ho;obtain⟨p1,p2,p3,p4,p5⟩:=Tv hm hl has (fun v hv'=>(hv v hv').1) hb.2;have hsep:=zQ hm p2 hb.1 (fun x hx=>by
  obtain⟨i,hi,he⟩:=lu hx;have hg:ms[i]? = some (some x):=by rw[Jo hi,he]
  exact (p5 i x hg).2)
 refine⟨fe,(as,ms),ms.map (Ux V),hfe,has,p1,hsep,fun hhp=>?_,fun fb vals w' hP=>?_⟩
 ·rw[hhp] at ho;have:=ho (.pre f as) (by simp)
  simpa[JM.den,hfe] using this
 have hdo:∀ (i:Nat) (p:Nat×List IntKind×PF),(fe.sel sel).outs[i]? = some p→V.ρ (nb+i)=p.2.2 (as.map (·.den V.ρ)):=fun i p hp=>by
  have:=Vo hfe hd (zC hp) (by simp)
  simpa[PR.den] using this
 have hdf:∀ (i:Nat) (p:List IntKind×PF),(fe.sel sel).fresh[i]? = some p→V.ρ (nb+(fe.sel sel).outs.length+i)=p.2 (as.map (·.den V.ρ)):=fun i p hp=>by
  have:=Vo hfe hd (ik hp) (by simp);rw[XN];simpa[PR.den] using this
 have hdr:∀ (i:Nat) (r:Qr),(fe.sel sel).ret[i]? = some r→r.pr ≠ .no→V.ρ (nb+(fe.sel sel).outs.length+(fe.sel sel).fresh.length+i)=r.pr.den (as.map (·.den V.ρ)):=fun i r hr hn=>by
  have:=Vo hfe hd (yA hr) hn;rw[show nb+(fe.sel sel).outs.length+(fe.sel sel).fresh.length+i=nb+((fe.sel sel).outs.length+(fe.sel sel).fresh.length+i) by omega];exact this
 let nr:=nb+(fe.sel sel).outs.length+(fe.sel sel).fresh.length
 let V0:Vl:= { V with σ:=fun i=>if UZ (fe.sel sel).ret=true∧nr≤i∧i<nr+vals.length then vals.getD (i-nr) undef else V.σ i }
 have hσ0:UZ (fe.sel sel).ret=false→∀ i,V0.σ i=V.σ i:=fun he i=>if_neg (fun h=>by rw[he] at h;exact absurd h.1 (by simp))
 have hσ1:∀ i,i<nb→V0.σ i=V.σ i:=fun i hi=>if_neg (fun h=>by have:=h.2.1;omega)
 obtain⟨n,hn1,hn2,hn3⟩:∃ n,Zl n st.rg∧(∀ v∈vs,v.lt n (Db st.rg)=true)∧∀ i,i<n→V0.σ i=V.σ i:=by
  rcases hsn with he|⟨h1,h2⟩
  ·exact⟨bv,hs,fun v hv'=>(hv v hv').2,fun i _=>hσ0 he i⟩
  ·exact⟨nb,h1,h2,hσ1⟩
 have hag0:Ag n (Db st.rg) V V0:=⟨fun _ _=>rfl,hn3,fun _ _=>rfl⟩;have hm0:Pw E st.rg V0 w:=hm.ag hag0 hn1;have hmp:Ux V0=Ux V:=by funext m;cases m<;>rfl
 obtain⟨wk,k1,k2,k3,k4⟩:=xJ (V:=V0) (ins:=as.map (·.den V.ρ)) (w:=w) (w':=w') (D:=fun _ _=>False) hE.gc hout hm0 hs hdo (by rw[hmp];exact hP.outs) (fun f b o v hv=>.inr ⟨hv,fun h=>h⟩);rw[hmp] at k4;obtain⟨j1,j2⟩:=iB hout;have hcell:∀ f b o v,Ci f wk b o v→Ci f w' b o v:=fun f b o v hv=>by
  rcases k4 f b o v hv with h|⟨h1,h2⟩
  ·exact h.weak
  ·exact hP.frm.hasC h1 (fun hh=>h2 (.inr hh))
 have hfrm:CV E.B w' E.S:=hm.frm.trans' hP.frm (fun b o hb0 hS=>by
  obtain⟨p,hp,e1,e2,e3⟩:=hS;obtain⟨m,a1,a2,a3,R,hR,a4,a5,a6⟩:=j2 p hp;have hbs:(ms.map (Ux V)).getD p.1 (0,0)=Ux V (some m):=by simp[List.getD,a1]
  rw[hbs] at e1 e2 e3;simp only[Ux] at e1 e2 e3;have:=(hm.cov R hR a5).2 (o-(V.ν m.l).2) (by omega);rw[a4] at this;rw[show (V.ν m.l).2+(o-(V.ν m.l).2)=o by omega, ← e1] at this
  rcases this with h|h
  ·omega
  ·exact h)
 have hm1:Pw E rg1 V0 w':=⟨fun r hr i c hc=>by
   obtain⟨v,h1,h2⟩:=k1.rgs r hr i c hc;exact⟨v,hcell _ _ _ _ h1,h2⟩,k1.one,k1.sep,k1.cov,hfrm,hP.gw⟩
 have hlow:∀ r∈st.rg,r.cs ≠ []→(V.ν r.id).1<w.heap.size:=fun r hr hne=>by
  cases hcs:r.cs with
  |nil=>exact absurd hcs hne
  |cons c cs'=>
   obtain⟨v,h1,-⟩:=hm.rgs r hr 0 c (by rw[hcs];rfl);exact h1.lt
 obtain⟨V1,q1,q2,q3,q4,q5,q6⟩:=oN (E:=E) (w:=w) hm.frm.1 hE.gb hfr hm1 k2 hP.len hdf hP.fr hP.fd hP.fresh (fun r hr j p b hp hb=>by
  obtain⟨r0,hr0,e1,e2⟩:=j1 r hr;have hb':=hP.fr b (OZ hb);unfold fM
  cases hcs:r.cs with
  |nil=>right;right;right;left;rfl
  |cons c cs'=>
   left
   show (V.ν r.id).1≠b.1;have:=hlow r0 hr0 (fun e=>by rw[e,hcs] at e2;cases e2);rw[e1] at this;omega)
 have hidst:∀ x,EH x (Db st.rg)=true→V1.ν x=V.ν x∧EH x (Db rg2)=true:=fun x hx=>q5 x (by rw[k3];exact hx)
 have hag:Ag n (Db st.rg) V V1:=⟨fun i _=>by rw[q3],fun i hi=>by rw[q4];exact hn3 i hi,fun l hl'=>(hidst l hl').1⟩;refine⟨V1,⟨by rw[q3],fun i hi=>?_,hidst,q1,q2⟩,?_⟩
 ·rw[q4];exact hi.elim (hσ1 i) (fun he=>hσ0 he i)
 ·refine rq (V:=V1) (ms:=ms) (lb:=lb) (fb:=fb) (args:=vs.map (·.den V)) (ins:=as.map (·.den V.ρ)) (fun i m hmi=>?_) (fun j b hb=>(q6 j b hb).1) htv hP.ret (fun i r hr hn=>?_) (fun he i v hvi=>?_)
  ·obtain⟨e1,e2⟩:=p5 i m hmi;have hlt:=hn2 _ (OZ e1);have hok:=(hv _ (OZ e1)).1;refine⟨?_,SV.ok_ag hag hlt hok⟩;rw[OX,e1];simp only[Xa,Am];exact (SV.den_ag hag hlt).symm
  ·rw[q3];exact hdr i r hr hn
  ·have hi:=(Pi.1 hvi).1;rw[q4];show (if UZ (fe.sel sel).ret=true∧nr≤nr+i∧nr+i<nr+vals.length then vals.getD (nr+i-nr) undef else V.σ (nr+i))=v;rw[if_pos ⟨he,by omega,by omega⟩,Nat.add_sub_cancel_left,List.getD,hvi];rfl
end
end
section
open Go
theorem XL.same{E:En}{st:St}{V:Vl}{w:World}{nb bv:Nat}{er:Bool}(hm:Pw E st.rg V w)(hs:Zl bv st.rg):XL E st V nb bv st.rg er V w:=
 ⟨rfl,fun _ _=>rfl,fun _ h=>⟨rfl,h⟩,hm,hs⟩
section
variable{E:En}(hE:Qs E){st:St}{V:Vl}{w:World}(hm:Pw E st.rg V w)(hl:∀ p∈st.ln,(V.ρ p.1).length=p.2)
include hE hm hl
theorem bi {t:Nat} {v:LV} {nb:Nat} {r:OO} (h:nW E.C t v nb st=some r) (hv:v.ok V) (hd:DsH E.C.T V r.ds):
  (Instr.loadAt t (v.den V)).run E.P w= .ok (r.v.den V) w∧r.v.ok V:=by
 unfold nW at h
 split at h
 ·rename_i d l o hlk
  have ha:=TD.run_agg (hE.tt t d hlk) w;have hsz:=TD.run_size (hE.tt t d hlk) w
  cases hag:d.agg with
  | true=>
   rw[hag] at h ha;simp only[cond_true] at h
   split at h
   ·rename_i cs hcs
    simp only[Am] at h;subst h;have hrd:=hm.read hcs;obtain⟨hlen,-⟩:=GR hcs;refine⟨?_,fun c hc=>?_⟩
    ·simp only[LV.den_ptr,Instr.loadAt,Instr.sureAddr,loadVar,I1,KD,IB,ha,if_true,hsz];have:=run_loadCells_list (P:=E.P) w ⟨(V.ν l).1,(V.ν l).2+o,none⟩ (cs.map (·.den V)) (fun j u hu=>by
      rw[OX,Ya] at hu;obtain⟨c,hc,rfl⟩:=hu;rw[DZ];exact (hrd j c hc).1)
     rw[Vj,hlen] at this;rw[this];rfl
    ·obtain⟨i,hi,rfl⟩:=lu hc;exact (hrd i _ (Jo hi)).2
   ·cases h
  | false=>
   rw[hag] at h ha;simp only[cond_false] at h
   split at h
   ·rename_i c hcs
    simp only[Am] at h;subst h;obtain⟨h1,h2⟩:=hm.read hcs 0 c rfl;rw[Q3] at h1;refine⟨?_,h2⟩;simp only[LV.den_ptr,Instr.loadAt,Instr.sureAddr,loadVar,I1,KD,IB,ha,Rc,if_false,run_load,h1];rfl
   ·cases h
 ·rename_i d l o n s x hlk
  have ha:=TD.run_agg (hE.tt t d hlk) w;have hsz:=TD.run_size (hE.tt t d hlk) w;obtain⟨hx0,hxn⟩:=hv;obtain⟨j,hj⟩:=cu hx0;have hjn:j<n:=by omega
  split at h
  ·rename_i cs hcs
   split at h
   ·rename_i k ks xs hcx
    cases hk:jr k ks with
    |false=>rw[hk] at h;simp at h
    | true=>
     rw[hk] at h;simp only[cond_true] at h;have hrd:=hm.read hcs;obtain⟨hlen,-⟩:=GR hcs;obtain⟨g1,g2,g3⟩:=LC hcx;have hkk:∀ (i:Nat) (k':IntKind),(k::ks)[i]? = some k'→k'=k:=fun i k' h'=>by
      rcases J4.1 (OZ h') with h|h
      ·exact h
      ·exact Un hk k' h
     cases hag:d.agg with
     | true=>
      rw[hag] at h ha;simp only[cond_true] at h
      cases hb:Nat.beq d.size s with
      |false=>rw[hb] at h;simp at h
      | true=>
       rw[hb] at h;have hds:=CL hb;simp only[cond_true,Am] at h;subst h;have h4:=hd _ (Nc.2 rfl);simp only[FR.den,OP.den,NT,Vi,Iq.den_xs,IC hl,Qu,Ze,d1,hj,TJ] at h4;have hns:j*s+s≤n*s:=by
        have:=Nat.mul_le_mul_right s (show j+1≤n from hjn);rw[Nat.add_mul,Nat.one_mul] at this;exact this
       have hl4:(V.ρ nb).length=(List.replicate s k).length:=by
        rw[h4];simp;omega
       have hcell:∀ i,i<s→∃ y,cs[j*s+i]? = some (.int k y)∧(V.ρ nb)[i]? = some (y.den V.ρ):=fun i hi=>by
        have hi':j*s+i<cs.length:=by omega
        obtain⟨k',y,e1,e2,e3⟩:=g3 _ _ (Jo hi');have:=hkk _ _ e1;subst this;refine⟨y,by rw[Jo hi',e3],?_⟩;rw[h4,List.getElem?_take,if_pos hi,List.getElem?_drop,OX,e2];rfl
       refine⟨?_,X6 rfl ⟨hl4,fun i k' y hk' hy=>?_⟩⟩
       ·simp only[LV.den_pd,hj,TJ,Instr.loadAt,Instr.sureAddr,loadVar,I1,KD,IB,ha,if_true,hsz];have:=run_loadCells_list (P:=E.P) w ⟨(V.ν l).1,(V.ν l).2+o+j*s,none⟩ ((JR nb (List.replicate s k)).map (·.den V)) (fun i u hu=>by
         rw[OX,Ya] at hu;obtain⟨c,hc,rfl⟩:=hu;obtain⟨k',e1,e2⟩:=QW hc;have hi:i<s:=by have:=(Pi.1 e1).1;simpa using this
         have hk':k'=k:=(zcc.1 (OZ e1)).2;subst hk';obtain⟨y,f1,f2⟩:=hcell i hi;have f3:=(hrd _ _ f1).1;rw[DZ,show (V.ν l).2+o+j*s+i=(V.ν l).2+o+(j*s+i) by omega,f3,e2];simp[LV.den,X.den,List.getD,f2])
        rw[Vj,QT,SX] at this;rw[hds,this];rfl
       ·have hi:i<s:=by have:=(Pi.1 hk').1;simpa using this
        have hk2:k'=k:=(zcc.1 (OZ hk')).2;subst hk2;obtain⟨z,f1,f2⟩:=hcell i hi;rw[hy] at f2;simp only[Am] at f2;subst f2;exact (hrd _ _ f1).2
     | false=>
      rw[hag] at h ha;simp only[cond_false] at h
      cases hb:Nat.beq s 1 with
      |false=>rw[hb] at h;simp at h
      | true=>
       rw[hb] at h;have hds:=CL hb;subst hds;simp only[cond_true,Am] at h;subst h;have h4:=hd _ (Nc.2 rfl);simp only[FR.den,OP.den,NT,Vi,Iq.den_xs,IC hl,Qu,Ze,d1,hj,TJ] at h4;have hi':j<cs.length:=by omega
       obtain⟨k',y,e1,e2,e3⟩:=g3 _ _ (Jo hi');have:=hkk _ _ e1;subst this;have h5:X.den V.ρ (.v nb 0)=y.den V.ρ:=by
        show (V.ρ nb).getD 0 0=_;rw[h4];simp[List.getD,e2]
       obtain⟨f1,f2⟩:=hrd j _ (by rw[Jo hi',e3]);refine⟨?_,by simp only[IX,SV.ok,TV.ok,LV.ok,h5];exact f2⟩;simp only[LV.den_pd,hj,TJ,Nat.mul_one,Instr.loadAt,Instr.sureAddr,loadVar,I1,KD,IB,ha,Rc,if_false,run_load,f1];simp only[IX,SV.den_t,TV.den_l,LV.den_int,h5]
   ·cases h
  ·cases h
 ·cases h
end
section
variable{E:En}(hE:Qs E){st:St}{V:Vl}{w:World}{bv:Nat}(hm:Pw E st.rg V w)(hs:Zl bv st.rg)(hl:∀ p∈st.ln,(V.ρ p.1).length=p.2)
include hE hm hs hl
theorem WU{l o:Nat}{vs:List LV}{rg:List Rg}{nb:Nat}(h:O7 bv st.rg l o vs=some rg)(hok:∀ v∈vs,v.ok V):
  (storeCells ⟨(V.ν l).1,(V.ν l).2+o,none⟩ (vs.map (·.den V))).run E.P w= .ok () (setCells w (V.ν l).1 ((V.ν l).2+o) (vs.map (·.den V)))∧
   XL E st V nb bv rg false V (setCells w (V.ν l).1 ((V.ν l).2+o) (vs.map (·.den V))):=by
 have _:=hl;obtain⟨hs',hid⟩:=hs.write h;refine⟨?_,rfl,fun _ _=>rfl,fun x hx=>⟨rfl,by rw[hid];exact hx⟩,hm.write hE.gc h hok,hs'⟩;obtain⟨R,hR,rfl,hwr,hle,-, -⟩:=Lg h;have:=Ke (P:=E.P) (V.ν R.id).1 ((V.ν R.id).2+o) (vs.map (·.den V)) 0 w (fun v hv=>by
  obtain⟨c,hc,rfl⟩:=VI.1 hv;exact LV.one (hok c hc)) (fun j hj=>by
  rw[Vj] at hj;obtain⟨u,hu,-⟩:=hm.rgs R hR (o+j) _ (Jo (by omega));rw[hwr] at hu;exact⟨u,by rw[Q3,XN];exact hu⟩)
 rw[Q3] at this;exact this
theorem ABK {t:Nat} {a:LV} {v:TV} {nb:Nat} {m:aK} (h:uK E.C t a v nb bv st=some m) (ha:a.ok V) (hv:v.ok V) (hd:DsH E.C.T V m.o.ds):
  ∃ w',(Instr.storeAt t (a.den V) (v.den V)).run E.P w= .ok () w'∧XL E st V nb bv m.rg m.er V w'∧m.o.v= .tup []:=by
 unfold uK at h
 split at h
 ·rename_i d l o hlk
  have hsz:=TD.run_size (hE.tt t d hlk) w
  cases hb:Nat.beq v.cells.length d.size with
  |false=>rw[hb] at h;simp at h
  | true=>
   rw[hb] at h;have hds:=CL hb;simp only[cond_true] at h
   split at h
   ·rename_i rg hrg
    simp only[Am] at h;subst h;obtain⟨h1,h2⟩:=WU hE hm hs hl (nb:=nb) hrg (TV.cells_ok hv);refine⟨_,?_,h2,rfl⟩;have hcd:=TV.cells_den hv;have hcs:(v.den V).cells.size=d.size:=by rw[← Array.length_toList,hcd,Vj];exact hds
    simp only[LV.den_ptr,Instr.storeAt,Instr.sureAddr,storeVar,I1,KD,IB,hsz,hcs,ne_eq,not_true,if_false,hcd];exact h1
   ·cases h
 ·rename_i d l o n s x hlk
  have hsz:=TD.run_size (hE.tt t d hlk) w;obtain⟨hx0,hxn⟩:=ha;obtain⟨j,hj⟩:=cu hx0;have hjn:j<n:=by omega
  split at h
  ·rename_i k y
   cases hb:(Nat.beq d.size 1&&Nat.beq s 1) with
   |false=>rw[hb] at h;simp at h
   | true =>
    rw[hb] at h;simp only[Bd] at hb;have hds:=CL hb.1;have hs1:=CL hb.2;subst hs1;simp only[cond_true] at h
    split at h
    ·rename_i cs hcs
     split at h
     ·rename_i ks xs hcx
      cases hk:jr k ks with
      |false=>rw[hk] at h;simp at h
      | true =>
       rw[hk] at h;simp only[cond_true] at h
       split at h
       ·rename_i rg hrg
        simp only[Am] at h;subst h;have hrd:=hm.read hcs;obtain⟨hlen,R,hR,hRl,hRn,hRc⟩:=GR hcs;obtain⟨g1,g2,g3⟩:=LC hcx;have h4:=hd _ (Nc.2 rfl);simp only[FR.den,OP.den,NT,Vi,Iq.den_xs,IC hl,Qu,Ze,d1,hj,TJ] at h4;have hl4:(V.ρ nb).length=ks.length:=by rw[h4];simp;omega
        have hky:JC k (y.den V.ρ):=hv;have hold:∀ (i:Nat) (k':IntKind) (z:Int),ks[i]? = some k'→(V.ρ nb)[i]? = some z→k'=k∧JC k z∧(i≠j→∃ c,cs[i]? = some c∧c.den V= .int k z)∧(i=j→z=y.den V.ρ):=fun i k' z hk' hz=>by
         have hkk:=Un hk k' (OZ hk');subst hkk;have hi:i<cs.length:=by have:=(Pi.1 hk').1;omega
         obtain⟨k2,x2,e1,e2,e3⟩:=g3 i _ (Jo hi);rw[hk'] at e1;cases e1;have hc:cs[i]? = some (.int k' x2):=by rw[Jo hi,e3]
         rw[h4,List.getElem?_set] at hz
         by_cases hij:j=i
         ·subst hij;rw[if_pos rfl] at hz
          split at hz
          ·simp only[Am] at hz;subst hz;exact⟨rfl,hky,fun h=>absurd rfl h,fun _=>rfl⟩
          ·cases hz
         ·rw[if_neg hij,OX,e2] at hz;simp only[Xa,Am] at hz;subst hz;exact⟨rfl,(hrd i _ hc).2,fun _=>⟨_,hc,rfl⟩,fun h=>absurd h.symm hij⟩
        have hAll:Hf ks (V.ρ nb):=⟨hl4,fun i k' z hk' hz=>by
         obtain⟨e1,e2,-⟩:=hold i k' z hk' hz;rw[e1];exact e2⟩
        obtain⟨h1,h2⟩:=WU hE hm hs hl (nb:=nb) hrg (X6 rfl hAll);have hwR:R.wr=true:=by
         obtain⟨R',hR',hl',hw',-, -, -⟩:=Lg hrg;rw[← hm.one R' hR' R hR (hl'.trans hRl.symm)];exact hw'
        obtain⟨u,hu,-⟩:=hm.rgs R hR (o+j) _ (Jo (by omega));rw[hwR,hRl, ← XN] at hu;have hone:=Ke (P:=E.P) (V.ν l).1 ((V.ν l).2+o+j) [.int k (y.den V.ρ)] 0 w (fun v hv=>by
         simp only[Nc] at hv;subst hv;rfl) (fun i hi=>by
         simp only[List.length_singleton] at hi;have:i=0:=by omega
         subst this;exact⟨u,by simpa using hu⟩)
        rw[Q3] at hone;refine⟨setCells w (V.ν l).1 ((V.ν l).2+o+j) [.int k (y.den V.ρ)],?_,?_,rfl⟩
        ·simp only[LV.den_pd,hj,TJ,Nat.mul_one,Instr.storeAt,Instr.sureAddr,storeVar,I1,KD,IB,hsz,hds];simp only[TV.den_l,LV.den_int,Value.cells];exact hone
        ·
         have hcells:∀ f b' o' v',Ci f (setCells w (V.ν l).1 ((V.ν l).2+o) ((JR nb ks).map (·.den V))) b' o' v'→Ci f (setCells w (V.ν l).1 ((V.ν l).2+o+j) [.int k (y.den V.ρ)]) b' o' v':=by
          intro f b' o' v' ω
          have hvl:(JR nb ks).map (·.den V)=AZ ks (V.ρ nb):=UL rfl hl4;rw[hvl] at ω;have hil:(AZ ks (V.ρ nb)).length=ks.length:=by simp[AZ,hl4]
          by_cases hin:b'=(V.ν l).1∧(V.ν l).2+o≤o'∧o'<(V.ν l).2+o+ks.length
          ·obtain⟨rfl,q1,q2⟩:=hin;obtain⟨i,rfl⟩:∃ i,o'=(V.ν l).2+o+i:=⟨o'-((V.ν l).2+o),by omega⟩;have hi:i<ks.length:=by omega
           have hvi:(AZ ks (V.ρ nb))[i]? = some ((AZ ks (V.ρ nb))[i]'(by omega)):=Jo _;obtain⟨k2,z,e1,e2,e3⟩:=YM hvi;obtain⟨f1,-,f3,f4⟩:=hold i k2 z e1 e2;subst f1;obtain⟨u2,hu2,-⟩:=hm.rgs R hR (o+i) _ (Jo (by omega));rw[hwR,hRl, ← XN] at hu2;have aef:=Ci.setCells_in (f:=f) (b:=(V.ν l).1) (AZ ks (V.ρ nb)) w ((V.ν l).2+o) i _ hvi ⟨u2,hu2.weak⟩;rw[ω.inj aef,e3]
           by_cases hij:i=j
           ·subst hij;rw[f4 rfl];have:=Ci.setCells_in (f:=f) (b:=(V.ν l).1) [.int k2 (y.den V.ρ)] w ((V.ν l).2+o+i) 0 _ rfl ⟨u2,by simpa using hu2.weak⟩
            simpa using this
           ·obtain⟨c,hc,hcd⟩:=f3 hij;refine Ci.setCells_other _ _ _ _ ?_ (by simp only[List.length_singleton];omega);have hrc:=(hrd i c hc).1;have:u2= .int k2 z:=by
             have:=hu2.1.symm.trans hrc;rw[hcd] at this;simpa using this
            rw[← this];exact hu2.weak
          ·have acF:=Ci.of_setCells _ _ _ _ ω (by
            rw[hil]
            by_cases hbb:b'=(V.ν l).1
            ·right
             have:=fun h1 h2=>hin ⟨hbb,h1,h2⟩
             omega
            ·exact .inl hbb)
           refine Ci.setCells_other _ _ _ _ acF ?_;simp only[List.length_singleton]
           by_cases hbb:b'=(V.ν l).1
           ·right
            have:=fun h1 h2=>hin ⟨hbb,h1,h2⟩
            omega
           ·exact .inl hbb
         have ι:=hm.cov R hR hwR;rw[hRl] at ι;refine⟨rfl,fun _ _=>rfl,h2.ν,⟨fun r hr i c hc=>?_,h2.mok.one,h2.mok.sep,h2.mok.cov,?_,?_⟩,h2.scp⟩
         ·obtain⟨v',p1,p2⟩:=h2.mok.rgs r hr i c hc;exact⟨v',hcells _ _ _ _ p1,p2⟩
         ·refine CV.setCells _ _ _ hm.frm fun i hi=>?_
          simp only[List.length_singleton] at hi;have:i=0:=by omega
          subst this;rw[Q3,XN];exact ι.2 (o+j) (by omega)
         ·intro b' o' v' hv'
          have hb':=hE.gc b' o' v' hv';have h0:Ci false w b' o' v':=⟨hm.gw b' o' v' hv',fun h=>by cases h⟩;exact (Ci.setCells_other _ _ _ _ h0 (.inl (by have:=ι.1;omega))).1
       ·cases h
     ·cases h
    ·cases h
  ·cases h
 ·cases h
theorem APQ{l:Nat}{cs:List LV}{rg:List Rg}{nb:Nat}(h:ig bv st.rg l cs=some rg)(hok:∀ c∈cs,c.ok V)(elem:Nat):
  ∃ w',(newRow elem (cs.map (·.den V)).toArray).run E.P w= .ok ⟨w.heap.size,0,none⟩ w'∧XL E st V nb bv rg false (V.setν l (w.heap.size,0)) w'∧(V.setν l (w.heap.size,0)).ν l=(w.heap.size,0)∧EH l (Db rg)=true:=by
 have _:=hl
 let w':World:= { w with heap:=w.heap.push (.cells (cs.map (·.den V)).toArray elem) }
 have hp:w'.heap=w.heap.push (.cells (cs.map (·.den V)).toArray elem (0,0)):=rfl;have hm':Pw E st.rg V w':=⟨fun r hr i c hc=>by
   obtain⟨v,h1,h2⟩:=hm.rgs r hr i c hc;exact⟨v,h1.push hp,h2⟩,hm.one,hm.sep,hm.cov,hm.frm.push hp rfl rfl rfl,fun b o v hv=>by
   have h0:Ci false w b o v:=⟨hm.gw b o v hv,fun h=>by cases h⟩;exact (h0.push hp).1⟩
 have hB:=hm.frm.1;have hG:=hE.gb;obtain⟨k1,k2,k3,k4,k5,k6⟩:=hm'.add hs h (b:=(w.heap.size,0)) (fun r hr=>by
   unfold fM
   cases hcs:r.cs with
   |nil=>right;right;right;left;rfl
   |cons c cs'=>
    obtain⟨v,h1,-⟩:=hm.rgs r hr 0 c (by rw[hcs];rfl);have:=h1.lt
    left
    show _≠w.heap.size;omega) hB (by show E.GB≤w.heap.size;omega) (fun i c hc=>by
   refine Ci.of_obj (c:=(cs.map (·.den V)).toArray) (e:=elem) (lo:=0) (hi:=0) ?_ ?_ (fun _=>by omega)
   ·rw[hp];simp
   ·simp[hc]) hok
 refine⟨w',rfl,⟨rfl,fun _ _=>rfl,fun x hx=>⟨V.setν_other _ (fun e=>by rw[e,k5] at hx;cases hx),k3 x hx⟩,k1,k2⟩,V.setν_same _ _,k4⟩
end
end
end Go.Proofs.YtloibefkijfdlaaGreatDoor
