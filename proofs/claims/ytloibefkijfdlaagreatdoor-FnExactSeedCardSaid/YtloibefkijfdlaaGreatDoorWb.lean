/- SHA-512 in plain words: blocks, one behind the other. The hash over any bytes: Digest.Write. The hash over any bytes: a new digest. Walking by hand: further operations. The hash over any bytes: numbers written as bytes. The hash over any bytes: the padding. -/
import Derived.Test.YtloibefkijfdlaaGreatDoorDx
import Derived.Test.YtloibefkijfdlaaGreatDoorSax
import Derived.Test.YtloibefkijfdlaaGreatDoorWa
import Derived.StillTail
namespace Go.Proofs.YtloibefkijfdlaaGreatDoor
open Go
theorem cpr_len{h bl:List Int}(hl:h.length=8):(cpr h bl).length=8:=by
 unfold cpr
 rw[List.length_zipWith,hl]; rfl
theorem cprN_len:∀ {n:Nat} {h xs:List Int},h.length=8→(cprN n h xs).length=8
 |0,_h,_xs,hl=>hl
 |n+1,_h,_xs,hl=>cprN_len (n:=n) (cpr_len hl)
end Go.Proofs.YtloibefkijfdlaaGreatDoor

namespace Go.Proofs.YtloibefkijfdlaaGreatDoor
open Go
def H0:List Int:= [7640891576956012808,13503953896175478587,4354685564936845355,11912009170470909681,5840696475078001361,11170449401992604703,2270897969802886507,6620516959819538809]
def hst(m:List Int):List Int:=cprN (m.length/128) H0 m
theorem hst_len(m:List Int):(hst m).length=8:=cprN_len rfl
structure Dg (w:World) (B o:Nat) (h x:List Int) (nx L:Nat):Prop where
 hh:MemI true w (B,o) (List.replicate 8 .u64) h
 hx:MemI true w (B,o+8) (List.replicate 128 .u8) x
 hn:HasC true w B (o+136) (.int .i64 nx)
 hl:HasC true w B (o+137) (.int .u64 L)
 hs:HasC true w B (o+138) (.int .i64 64)
theorem Dg.frm{w w':World}{B o:Nat}{h x:List Int}{nx L:Nat}{S:Nat→Nat→Prop}(d:Dg w B o h x nx L)(hf:Frm w w' S)(hn:∀ i,¬ S B i):Dg w' B o h x nx L:=
 ⟨d.hh.frm hf fun _ _=>hn _,d.hx.frm hf fun _ _=>hn _,hf.hasC d.hn (hn _),hf.hasC d.hl (hn _),hf.hasC d.hs (hn _)⟩
structure Dig (w:World) (B o:Nat) (m:List Int):Prop where
 ex:∃ x,Dg w B o (hst m) x (m.length%128) m.length∧x.take (m.length%128)=m.drop (m.length/128*128)
theorem Dig.frm{w w':World}{B o:Nat}{m:List Int}{S:Nat→Nat→Prop}(d:Dig w B o m)(hf:Frm w w' S)(hn:∀ i,¬ S B i):Dig w' B o m:=by
 obtain⟨x,h,e⟩:=d.ex
 exact⟨x,h.frm hf hn,e⟩
section
variable{P:Program}{ops:Array Oper}{rest:List Oper}{a:Act}{w:World}{n:Nat}{f:Nat→Value}{K:Act→Prop}
theorem st_val{o:Oper}{t:Nat}{v:Value}(F:Fr a n f)(hg:o.guard=none)(hd:o.dst=some t)(ht:Nat.blt t n=true)(h:(execOp a.eval o).run P w= .ok (.value v) w)(hn:∀ a',Fr a' n (upd f t v)→wpStill P ops w K rest a'):wpStill P ops w K (o::rest) a:=by
 unfold wpStill
 rw[if_pos (by simp[Region.wanted,hg])]
 unfold Oper.still
 rw[h,Oper.stillUpon_value,hd]
 exact hn _ (F.put ht v)
theorem st_move{t x:Nat}{ty:TypeId}{pos:String}{af:Array Edge}(F:Fr a n f)(ht:Nat.blt t n=true)(hn:∀ a',Fr a' n (upd f t (f x))→wpStill P ops w K rest a'):wpStill P ops w K (⟨some t,.move (.tmp x),ty,pos,af,none⟩::rest) a:=
 st_val F rfl rfl ht (by simp only[execOp,F.ev (t:=x) rfl]; rfl) hn
end
theorem w_sr{P:Program}{Q:Exit→Act→World→Prop}{a:Act}{w:World}{id:Nat}{l:List Oper}{y:Code}(h:wpList P l.toArray (Exit.then (y.wp P Q) Q) l a w):(Code.seq (.region id l.toArray false) y).wp P Q a w:=wp_seq (reg h)
theorem w_end{P:Program}{ops:Array Oper}{Q:Exit→Act→World→Prop}{a:Act}{w:World}{y:Code}(h:y.wp P Q a w):wpList P ops (Exit.then (y.wp P Q) Q) [] a w:=h
theorem gw_frm{GB:Nat}{GC:Nat→Nat→Option Value}{ad:Nat→Nat×Nat}(hG:GOk GB GC ad){w w':World}{B:Nat}(h:GW GC w)(hf:Frm w w' (fun b _=>b=B))(hB:GB≤B):GW GC w':=fun b o v hv=>(hf.hasC (f:=false) ⟨h b o v hv,fun h=>(by cases h)⟩ (fun (e:b=B)=>by have:=hG.lt b o v hv; omega)).1
structure St1 (GC:Nat→Nat→Option Value) (B o N:Nat) (m1:List Int) (w0 w:World):Prop where
 frm:Frm w0 w (fun b _=>b=B)
 gw:GW GC w
 dg:∃ x,Dg w B o (hst m1) x (m1.length%128) N∧x.take (m1.length%128)=m1.drop (m1.length/128*128)
theorem St1.heap{GC:Nat→Nat→Option Value}{B o N:Nat}{m1:List Int}{w0 w w':World}(h:St1 GC B o N m1 w0 w)(hf:Frm w w' (fun b _=>b=B))(hg:GW GC w'){x':List Int}(hd:Dg w' B o (hst m1) x' (m1.length%128) N)(hx:x'.take (m1.length%128)=m1.drop (m1.length/128*128)):St1 GC B o N m1 w0 w':=
 ⟨h.frm.trans hf,hg,x',hd,hx⟩
end Go.Proofs.YtloibefkijfdlaaGreatDoor

namespace Go.Proofs.YtloibefkijfdlaaGreatDoor
open Go
end Go.Proofs.YtloibefkijfdlaaGreatDoor

namespace Go.Proofs.YtloibefkijfdlaaGreatDoor
open Go
section
variable{ρ:Operand→Value}{d:Option Tmp}{x y:Operand}{ty:TypeId}{pos:String}{af:Array Edge}{w:World}{b o:Nat}
theorem e_neqi{i j:Int}(h:ρ x= .int .i64 i)(hy:ρ y= .int .i64 j):(execOp ρ ⟨d,.binOp .neq 3 x y 3,ty,pos,af,none⟩).run Tryz.prog w= .ok (.value (.bool (i != j))) w:=by
 simp[execOp,go_sem,h,hy]
theorem e_ixh{k:Nat}(h:ρ x= .pointer (some ⟨b,o,none⟩))(hy:ρ y= .int .i64 k)(hk:k<8):(execOp ρ ⟨d,.indexAddr 51 x y,ty,pos,af,none⟩).run Tryz.prog w= .ok (.value (.pointer (some ⟨b,o+k,none⟩))) w:=by
 simp[execOp,go_sem,h,hy]
 intro h; omega
theorem e_ldA{t:TypeId}{cs:List Value}(ha:∀ w,(isAgg t).run Tryz.prog w= .ok true w)(hz:∀ w,(sizeOf t).run Tryz.prog w= .ok cs.length w)(h:ρ x= .pointer (some ⟨b,o,none⟩))(hc:∀ i v,cs[i]? = some v→w.cell? ⟨b,o+i,none⟩=some v):
  (execOp ρ ⟨d,.load t x,ty,pos,af,none⟩).run Tryz.prog w= .ok (.value (.agg cs.toArray)) w:=by
 have hl:=run_loadCells_list (P:=Tryz.prog) w ⟨b,o,none⟩ cs (fun j u hu=>by rw[addr_add]; exact hc j u hu)
 simp only[execOp,h,Instr.loadAt,Instr.sureAddr,loadVar,Sem.run_bind,Sem.run_pure,Result.andThen_ok,ha,if_true,hz,hl]
theorem setCells_eq(b:Nat):∀ (vs:List Value) (w:World) (o:Nat),setCells w b o vs=w.setCells b o vs
 | [],_,_=>rfl
 |_v::vs,_w,o=>setCells_eq b vs _ (o+1)
theorem e_stA{t:TypeId}{cs:List Value}(hz:∀ w,(sizeOf t).run Tryz.prog w= .ok cs.length w)(h:ρ x= .pointer (some ⟨b,o,none⟩))(hy:ρ y= .agg cs.toArray)(h1:∀ v∈cs,v.oneCell'=true)(hc:∀ j,j<cs.length→∃ u,HasC true w b (o+j) u):
  (execOp ρ ⟨d,.store t x y,ty,pos,af,none⟩).run Tryz.prog w= .ok .skip (w.setCells b o cs):=by
 have hst:=run_storeCells' (P:=Tryz.prog) b o cs 0 w h1 (by simpa using hc)
 rw[Nat.add_zero,setCells_eq] at hst
 have hcs:(Value.agg cs.toArray).cells.size=cs.length:=by simp[Value.cells]
 simp only[execOp,h,hy,Instr.storeAt,Instr.sureAddr,storeVar,Sem.run_bind,Sem.run_pure,Result.andThen_ok,hz,hcs,ne_eq,not_true,if_false]
 have hcl:(Value.agg cs.toArray).cells.toList=cs:=by simp[Value.cells]
 rw[hcl,hst]; rfl
end
end Go.Proofs.YtloibefkijfdlaaGreatDoor

namespace Go.Proofs.YtloibefkijfdlaaGreatDoor
open Go
def be8(v:Int):List Int:= [56,48,40,32,24,16,8,0].map fun k=>IntKind.u8.wrap (o64 .shr v k)
def tl8(n:Nat)(old:List Int):List Int:=(List.range (n-8)).map fun i=>old.getD (i+8) 0
theorem raw_be0{old:List Int}{v:Int}:i_sha512_bePutUint64.raw C_sha512_bePutUint64 0 [old,[v]]=be8 v++tl8 64 old:=by kernel_rfl
theorem raw_be1{old:List Int}{v:Int}:i_sha512_bePutUint64_v1.raw C_sha512_bePutUint64_v1 0 [old,[v]]=be8 v++tl8 56 old:=by kernel_rfl
theorem raw_be2{old:List Int}{v:Int}:i_sha512_bePutUint64_v2.raw C_sha512_bePutUint64_v2 0 [old,[v]]=be8 v++tl8 48 old:=by kernel_rfl
theorem raw_be3{old:List Int}{v:Int}:i_sha512_bePutUint64_v3.raw C_sha512_bePutUint64_v3 0 [old,[v]]=be8 v++tl8 40 old:=by kernel_rfl
theorem raw_be4{old:List Int}{v:Int}:i_sha512_bePutUint64_v4.raw C_sha512_bePutUint64_v4 0 [old,[v]]=be8 v++tl8 32 old:=by kernel_rfl
theorem raw_be5{old:List Int}{v:Int}:i_sha512_bePutUint64_v5.raw C_sha512_bePutUint64_v5 0 [old,[v]]=be8 v++tl8 24 old:=by kernel_rfl
theorem raw_be6{old:List Int}{v:Int}:i_sha512_bePutUint64_v6.raw C_sha512_bePutUint64_v6 0 [old,[v]]=be8 v++tl8 16 old:=by kernel_rfl
theorem raw_be7{old:List Int}{v:Int}:i_sha512_bePutUint64_v7.raw C_sha512_bePutUint64_v7 0 [old,[v]]=be8 v++tl8 8 old:=by kernel_rfl
theorem tl8_len{n:Nat}{old:List Int}:(tl8 n old).length=n-8:=by simp[tl8]
theorem be8_len(v:Int):(be8 v).length=8:=rfl
section
variable{GB:Nat}{GC:Nat→Nat→Option Value}{ad:Nat→Nat×Nat}
end
end Go.Proofs.YtloibefkijfdlaaGreatDoor

namespace Go.Proofs.YtloibefkijfdlaaGreatDoor
open Go
section
variable{GB:Nat}{GC:Nat→Nat→Option Value}{ad:Nat→Nat×Nat}(hG:GOk GB GC ad){w:World}{b o c:Nat}{old:List Int}{v:Int}(hgw:GW GC w)(hGB:GB≤w.heap.size)(hB:GB≤b)(hv:inR .u64 v)
include hG hgw hGB hB hv
end
def padT(L:Nat):Nat:=if L%128<112 then 112-L%128 else 240-L%128
def pad(L:Nat):List Int:=128::(List.replicate (padT L+7) 0++be8 ((L*8:Nat):Int))
def out8(h:List Int):List Int:=h.flatMap be8
def sha(m:List Int):List Int:=out8 (hst (m++pad m.length))
theorem pad_len(L:Nat):(pad L).length=padT L+16:=by
 unfold pad
 rw[List.length_cons,List.length_append,List.length_replicate,be8_len]
theorem padT_le(L:Nat):1≤padT L∧padT L≤128∧(L+(padT L+16))%128=0:=by
 unfold padT
 split<;>omega
theorem sha_mod(m:List Int):(m++pad m.length).length%128=0:=by
 rw[List.length_append,pad_len]
 exact (padT_le _).2.2
theorem mem_sub{f:Bool}{w:World}{b o n k m:Nat}{xs:List Int}(h:MemI f w (b,o) (List.replicate n .u8) xs)(hk:k+m≤n):MemI f w (b,o+k) (List.replicate m .u8) ((xs.drop k).take m):=by
 have h1:=h.drop (n:=k) (by omega)
 exact h1.take (n:=m) (by omega)
end Go.Proofs.YtloibefkijfdlaaGreatDoor
