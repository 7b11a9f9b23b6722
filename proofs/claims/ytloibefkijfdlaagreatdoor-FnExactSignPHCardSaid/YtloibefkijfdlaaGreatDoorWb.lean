/- SHA-512 in plain words: blocks, one behind the other. -/
import Derived.Test.YtloibefkijfdlaaGreatDoorHc
import Derived.Test.YtloibefkijfdlaaGreatDoorWa
import Derived.StillTail
namespace Go.Proofs.YtloibefkijfdlaaGreatDoor
section
open Go
theorem ASb:(Sd.sum AA (Sd.pre AA)).pr 0= .l fun a=>Aw 80 ((Sd.val AA a).getD 9 []):=rfl
theorem ASH:∀ k,k<8→(Sd.sum AA (Sd.pre AA)).pr (k+1)= .i fun a=>d1 ((Sd.val AA a).getD k [])
 |0,_|1,_|2,_|3,_|4,_|5,_|6,_|7,_=>rfl
theorem ALW(a:List (List Int)):Sd.val AA a=Gf (Sd.step AA) 81 a:=by
 unfold I7.val;rw[AE1]
theorem V8.ls_get{v:V8}{k:Nat}{x:List (List Int)}(h:k<8):(v.ls++x).getD k []=v.ls.getD k []:=by
 simp only[List.getD];rw[gI (by simpa[V8.ls] using h)]
theorem V8.get8(v:V8)(x:List Int):(v.ls ++ [x]).getD 8 []=x:=rfl
theorem ASV(v:V8):((List.range 8).map fun k=>[d1 (v.ls.getD k [])])=v.ls:=rfl
theorem APk{x:Int}:([x]:List Int).getD 0 0=x:=rfl
theorem AQ6{v:V8}{ws bl:List Int}(h:ws.length=80):(s4 v.ls ws bl).take 9=(rV bl v 80).ls ++ [K7 bl 80]:=by
 have hT:=@AVP rz.T v.a v.b v.c v.d v.e v.f v.g v.h ws bl;rw[← Tz] at hT;have hin: [[v.a],[v.b],[v.c],[v.d],[v.e],[v.f],[v.g],[v.h],ws,bl]=v.ls ++ [ws,bl]:=rfl;rw[hin] at hT;have hA: [[v.a],[v.b],[v.c],[v.d],[v.e],[v.f],[v.g],[v.h],[0],ws,bl]=v.ls ++ [[0],ws,bl]:=rfl;simp only[hA] at hT;have hg0:gv rz.T (1000000+154) 0 (v.ls ++ [[0],ws,bl])=K7 bl 80:=by
  rw[Bg zq,ASb];show Aw 80 ((Sd.val _ _).getD 9 [])=_;rw[ALW,AAM h];show Aw 80 (K7 bl 80)=_;exact Au (JQ _ _)
 have hgk:∀ k,k<8→gv rz.T (1000000+154) (k+1) (v.ls ++ [[0],ws,bl])= [d1 ((rV bl v 80).ls.getD k [])]:=fun k hk=>by
  rw[Bg zq,ASH k hk];show [d1 ((Sd.val _ _).getD k [])]=_;rw[ALW,AAM h];rw[V8.ls_get hk]
 rw[hg0] at hT;have hmap:((List.range 8).map fun k=>[(gv rz.T (1000000+154) (k+1) (v.ls ++ [[0],ws,bl])).getD 0 0])=(rV bl v 80).ls:=by
  rw[fU (g:=fun k=>[d1 ((rV bl v 80).ls.getD k [])]) fun k hk=>by rw[hgk k (fD.1 hk),APk]];exact ASV _
 rw[hmap] at hT;unfold s4
 split
 ·rename_i r hr
  rw[hr] at hT
  simpa using hT
 ·rename_i hr
  rw[hr] at hT
  cases hT
theorem AQf(v:V8):s3 v.ls=(v.ls,v.ls):=by
 have:=@ATe v.a v.b v.c v.d v.e v.f v.g v.h;unfold s3;rw[show v.ls= [[v.a],[v.b],[v.c],[v.d],[v.e],[v.f],[v.g],[v.h]] from rfl,this]
theorem nu{k:Nat}(hk:k<8)(x y:Int):sA k [x] [y]= [Di .add x y]:=by
 have:=QL (fun l=>l[k]?) (@AT6 x y);simp only[OX,List.getElem?_range hk,Xa,Am] at this;unfold sA;rw[this];rfl
theorem ATk{h:List Int}(hl:h.length=8):wl h=(V8.of h).ls:=by
 match h,hl with
 | [a,b,c,d,e,f,g,i],_=>rfl
theorem AIH{h:List Int}{S:List (List Int)}{r:V8}{z:List Int}(hl:h.length=8)(hS:S.take 9=r.ls ++ [z]):
  ((List.range 8).map fun k=>sA k ((V8.of h).ls.getD k []) (S.getD k []))=wl (List.zipWith (Di .add) h r.l)∧S.getD 8 []=z:=by
 have hg:∀ k,k<9→S.getD k []=(r.ls ++ [z]).getD k []:=fun k hk=>by
  rw[← hS];simp only[List.getD];rw[List.getElem?_take_of_lt hk]
 refine⟨?_,(hg 8 (by omega)).trans (V8.get8 _ _)⟩;have hk8:∀ k,k<8→sA k ((V8.of h).ls.getD k []) (S.getD k [])= [Di .add (h.getD k 0) (r.l.getD k 0)]:=fun k hk=>by
  rw[hg k (by omega)]
  match k,hk with
  |0,_=>exact nu (by omega) _ _
  |1,_=>exact nu (by omega) _ _
  |2,_=>exact nu (by omega) _ _
  |3,_=>exact nu (by omega) _ _
  |4,_=>exact nu (by omega) _ _
  |5,_=>exact nu (by omega) _ _
  |6,_=>exact nu (by omega) _ _
  |7,_=>exact nu (by omega) _ _
 rw[fU fun k hk=>hk8 k (fD.1 hk)]
 match h,hl with
 | [a,b,c,d,e,f,g,i],_=>rfl
theorem AR3{h ws bl:List Int}(hl:h.length=8)(hw:ws.length=80):xS (wl h) ws bl=(wl (mO h bl),K7 bl 80):=by
 have h4:=AQ6 (v:=V8.of h) (bl:=bl) hw;unfold mO;generalize rV bl (V8.of h) 80=r at h4 ⊢;generalize K7 bl 80=z at h4 ⊢;unfold xS;rw[ATk hl,AQf];simp only;generalize s4 (V8.of h).ls ws bl=S at h4 ⊢;obtain⟨e1,e2⟩:=AIH hl h4;rw[e1,e2]
theorem Xc{h bl:List Int}(hl:h.length=8):(mO h bl).length=8:=by
 unfold mO;rw[List.length_zipWith,hl];rfl
theorem AF9:∀ {n:Nat} {h ws xs:List Int},h.length=8→ws.length=80→bks n (wl h) ws xs=wl (QQ n h xs)
 |0,h,ws,xs,_,_=>rfl
 |n+1,h,ws,xs,hl,hw=>by
  unfold bks QQ;rw[AR3 hl hw];exact AF9 (Xc hl) (JQ _ _)
theorem AGM{n:Nat}{h xs:List Int}(hl:h.length=8):blk n h xs=QQ n h xs:=by
 unfold blk;rw[AF9 hl (by simp),AJu]
theorem oF:∀ {n:Nat} {h xs:List Int},h.length=8→(QQ n h xs).length=8
 |0,_h,_xs,hl=>hl
 |n+1,_h,_xs,hl=>oF (n:=n) (Xc hl)
theorem eX:∀ {m n:Nat} {h xs:List Int},QQ (m+n) h xs=QQ n (QQ m h xs) (xs.drop (m*128))
 |0,n,h,xs=>by simp[QQ]
 |m+1,n,h,xs=>by
  rw[show m+1+n=(m+n)+1 by omega];show QQ (m+n) (mO h (xs.take 128)) (xs.drop 128)=QQ n (QQ m (mO h (xs.take 128)) (xs.drop 128)) _;rw[eX,List.drop_drop]
  congr 2;omega
theorem gm:∀ {n:Nat} {h xs:List Int} {k:Nat},n*128≤k→QQ n h (xs.take k)=QQ n h xs
 |0,h,xs,k,_=>rfl
 |n+1,h,xs,k,hk=>by
  show QQ n (mO h ((xs.take k).take 128)) ((xs.take k).drop 128)=QQ n (mO h (xs.take 128)) (xs.drop 128);rw[List.take_take,show min 128 k=128 by omega,List.drop_take,gm (by omega)]
end
section
open Go
def H0:List Int:=[7640891576956012808,13503953896175478587,4354685564936845355,11912009170470909681,5840696475078001361,11170449401992604703,2270897969802886507,6620516959819538809]
def hst(m:List Int):List Int:=QQ (m.length/128) H0 m
theorem XD(m:List Int):(hst m).length=8:=oF rfl
theorem dB{n:Nat}{h m ys:List Int}(hm:n*128≤m.length):QQ n h (m++ys)=QQ n h m:=by
 rw[← gm (xs:=m++ys) (k:=m.length) hm,List.take_left]
theorem AIX{m ys:List Int}{q:Nat}(hm:m.length=q*128):hst (m++ys)=QQ (ys.length/128) (hst m) ys:=by
 unfold hst;have e1:(m++ys).length/128=q+ys.length/128:=by rw[K6,hm];omega
 rw[e1,eX,dB (by omega),show m.length/128=q by omega]
 congr 1
 rw[← hm,List.drop_left]
theorem oh{m ys:List Int}(h:m.length%128+ys.length<128):hst (m++ys)=hst m:=by
 unfold hst;rw[K6,show (m.length+ys.length)/128=m.length/128 by omega,dB (by omega)]
theorem ACo{m ys:List Int}(h:m.length%128+ys.length=128):hst (m++ys)=QQ 1 (hst m) (m.drop (m.length/128*128)++ys):=by
 unfold hst;rw[K6,show (m.length+ys.length)/128=m.length/128+1 by omega,eX,dB (by omega),List.drop_append_of_le_length (by omega)]
structure Dg (w:World) (B o:Nat) (h x:List Int) (nx L:Nat):Prop where
 hh:Ar true w (B,o) (List.replicate 8 .u64) h
 hx:Ar true w (B,o+8) (List.replicate 128 .u8) x
 hn:Ci true w B (o+136) (.int .i64 nx)
 hl:Ci true w B (o+137) (.int .u64 L)
 hs:Ci true w B (o+138) (.int .i64 64)
theorem Dg.frm{w w':World}{B o:Nat}{h x:List Int}{nx L:Nat}{S:Nat→Nat→Prop}(d:Dg w B o h x nx L)(hf:CV w w' S)(hn:∀ i,¬ S B i):Dg w' B o h x nx L:=
 ⟨d.hh.frm hf fun _ _=>hn _,d.hx.frm hf fun _ _=>hn _,hf.hasC d.hn (hn _),hf.hasC d.hl (hn _),hf.hasC d.hs (hn _)⟩
theorem Ar.setC{w:World}{b o o':Nat}{ks:List IntKind}{xs:List Int}{v:Value}(h:Ar true w (b,o) ks xs)(hn:o'<o∨o+ks.length≤o'):Ar true (w.setCell ⟨b,o',none⟩ v) (b,o) ks xs:=
 ⟨h.1,fun i k x hk hx=>(h.2 i k x hk hx).set_other (by
  have:=(Pi.1 hk).1;show ¬ (b=b∧o+i=o');omega)⟩
theorem Dg.setN{w:World}{B o:Nat}{h x:List Int}{nx L:Nat}(d:Dg w B o h x nx L)(k:Nat):Dg (w.setCell ⟨B,o+136,none⟩ (.int .i64 k)) B o h x k L:=
 ⟨d.hh.setC (by simp),d.hx.setC (by simp),d.hn.set_same,d.hl.set_other (by omega),d.hs.set_other (by omega)⟩
theorem Dg.setL{w:World}{B o:Nat}{h x:List Int}{nx L:Nat}(d:Dg w B o h x nx L)(k:Nat):Dg (w.setCell ⟨B,o+137,none⟩ (.int .u64 k)) B o h x nx k:=
 ⟨d.hh.setC (by simp),d.hx.setC (by simp),d.hn.set_other (by omega),d.hl.set_same,d.hs.set_other (by omega)⟩
theorem Dg.lay{w:World}{B o:Nat}{h x:List Int}{nx L:Nat}(d:Dg w B o h x nx L){ys:List Int}{r:Nat}(hy:∀ y∈ys,0≤y∧y≤255)(hr:r+ys.length≤128):Dg (w.setCells B (o+8+r) (v8 ys)) B o h (Go.Proofs.YtloibefkijfdlaaGreatDoor.lay x ys r) nx L:=by
 have hl8:(v8 ys).length=ys.length:=by simp[v8]
 refine⟨⟨d.hh.1,fun i k x hk hx=>II (d.hh.2 i k x hk hx) (.inr (.inl ?_))⟩,XF d.hx hy hr,II d.hn (by omega),II d.hl (by omega),II d.hs (by omega)⟩;have:i<8:=by have:=(Pi.1 hk).1;simpa using this
 show o+i<o+8+r;omega
theorem AAj{w w':World}{B o:Nat}{v:Value}(h:CV w w' (fun b _=>b=B)):CV w (w'.setCell ⟨B,o,none⟩ v) (fun b _=>b=B):=h.setCell (.inr rfl)
structure Dig (w:World) (B o:Nat) (m:List Int):Prop where
 ex:∃ x,Dg w B o (hst m) x (m.length%128) m.length∧x.take (m.length%128)=m.drop (m.length/128*128)
theorem Dig.frm{w w':World}{B o:Nat}{m:List Int}{S:Nat→Nat→Prop}(d:Dig w B o m)(hf:CV w w' S)(hn:∀ i,¬ S B i):Dig w' B o m:=by
 obtain⟨x,h,e⟩:=d.ex;exact⟨x,h.frm hf hn,e⟩
theorem dJ{x:Int}(h:0≤x)(h2:x<18446744073709551616):IntKind.u64.wrap x=x:=JV (k:=.u64) ⟨h,by show x≤18446744073709551615;omega⟩
section
variable{P:Program}{ops:Array Oper}{rest:List Oper}{a:Act}{w:World}{n:Nat}{f:Nat→Value}{K:Act→Prop}
theorem Dq{o:Oper}{t:Nat}{v:Value}(F:Fr a n f)(hg:o.guard=none)(hd:o.dst=some t)(ht:Nat.blt t n=true)(h:(execOp a.eval o).run P w= .ok (.value v) w)(hn:∀ a',Fr a' n (SN f t v)→wpStill P ops w K rest a'):wpStill P ops w K (o::rest) a:=by
 unfold wpStill;rw[if_pos (by simp[Region.wanted,hg])];unfold Oper.still;rw[h,Oper.stillUpon_value,hd];exact hn _ (F.put ht v)
theorem Kv{t x:Nat}{ty:TypeId}{pos:String}{af:Array Edge}(F:Fr a n f)(ht:Nat.blt t n=true)(hn:∀ a',Fr a' n (SN f t (f x))→wpStill P ops w K rest a'):wpStill P ops w K (⟨some t,.move (.tmp x),ty,pos,af,none⟩::rest) a:=
 Dq F rfl rfl ht (by simp only[execOp,F.ev (t:=x) rfl];rfl) hn
theorem RX{t x:Nat}{p:Addr}{ty:TypeId}{pos:String}{af:Array Edge}(F:Fr a n f)(hx:f x= .pointer (some p))(ht:Nat.blt t n=true)(hn:∀ a',Fr a' n (SN f t (.pointer (some p)))→wpStill P ops w K rest a'):wpStill P ops w K (⟨some t,.nilCheck (.tmp x),ty,pos,af,none⟩::rest) a:=
 Dq F rfl rfl ht (AKg (F.ev hx)) hn
end
theorem BQ{P:Program}{Q:Exit→Act→World→Prop}{a:Act}{w:World}{id:Nat}{l:List Oper}{y:Code}(h:wpList P l.toArray (Exit.then (y.wp P Q) Q) l a w):(Code.seq (.region id l.toArray false) y).wp P Q a w:=wp_seq (reg h)
theorem Ae{P:Program}{ops:Array Oper}{Q:Exit→Act→World→Prop}{a:Act}{w:World}{y:Code}(h:y.wp P Q a w):wpList P ops (Exit.then (y.wp P Q) Q) [] a w:=h
theorem wH(x:BitVec 64):x &&& ~~~(127#64)=(x >>> 7) <<< 7:=by
 have e: ~~~(127#64)=(BitVec.allOnes 64) <<< 7:=by decide
 rw[e]
 apply BitVec.eq_of_getLsbD_eq
 intro i hi
 simp only[BitVec.getLsbD_and,BitVec.getLsbD_shiftLeft,BitVec.getLsbD_allOnes,BitVec.getLsbD_ushiftRight]
 by_cases h:i<7
 ·simp[h]
 ·have h2:i-7<64:=by omega
  simp[h,hi,h2,show 7+(i-7)=i by omega]
theorem AFY{i:Nat}(hi:i<9223372036854775808):bits .andNot .i64 (i:Int) 127=((i/128*128:Nat):Int):=by
 unfold bits;have e:(BitVec.ofInt 64 (i:Int) &&& ~~~(BitVec.ofInt 64 127)).toNat=i/128*128:=by
  rw[show BitVec.ofInt 64 127=127#64 by decide,wH];simp only[BitVec.toNat_shiftLeft,BitVec.toNat_ushiftRight,BitVec.toNat_ofInt];rw[Nat.shiftLeft_eq,Nat.shiftRight_eq_div_pow];omega
 show IntKind.i64.wrap ((BitVec.ofInt 64 (i:Int) &&& ~~~(BitVec.ofInt 64 127)).toNat:Int)=_;rw[e,JV (k:=.i64) ⟨by show (-9223372036854775808:Int)≤_;omega,by show _≤(9223372036854775807:Int);omega⟩]
theorem AMu{ρ:Operand→Value}{d:Option Tmp}{x y:Operand}{ty:TypeId}{pos:String}{af:Array Edge}{w:World}{i:Nat}(h:ρ x= .int .i64 i)(hy:ρ y= .int .i64 127)(hi:i<9223372036854775808):(execOp ρ ⟨d,.binOp .andNot 3 x y 3,ty,pos,af,none⟩).run Tryz.prog w= .ok (.value (.int .i64 ((i/128*128:Nat):Int))) w:=by
 have:=AFY hi;simp[execOp,go_sem,h,hy];exact this
structure WrP (GC:Nat→Nat→Option Value) (B o:Nat) (m xs:List Int) (w:World) (e:Ending) (w':World):Prop where
 ret:e= .returned (.tuple #[.int .i64 xs.length,.nilIface])
 dig:Dig w' B o (m++xs)
 frm:CV w w' (fun b _=>b=B)
 gw:GW GC w'
theorem Ia{GB:Nat}{GC:Nat→Nat→Option Value}{ad:Nat→Nat×Nat}(hG:Jk GB GC ad){w w':World}{B:Nat}(h:GW GC w)(hf:CV w w' (fun b _=>b=B))(hB:GB≤B):GW GC w':=fun b o v hv=>(hf.hasC (f:=false) ⟨h b o v hv,fun h=>(by cases h)⟩ (fun (e:b=B)=>by have:=hG.lt b o v hv;omega)).1
structure St1 (GC:Nat→Nat→Option Value) (B o N:Nat) (m1:List Int) (w0 w:World):Prop where
 frm:CV w0 w (fun b _=>b=B)
 gw:GW GC w
 dg:∃ x,Dg w B o (hst m1) x (m1.length%128) N∧x.take (m1.length%128)=m1.drop (m1.length/128*128)
structure Fx (B o N:Nat) (v:Value) (a:Act) (f:Nat→Value):Prop where
 fr:Fr a 85 f
 f0:f 0= .pointer (some ⟨B,o,none⟩)
 f1:f 1=v
 f4:f 4= .int .i64 N
 f5:f 5= .nilIface
theorem Fx.pin{B o N:Nat}{v:Value}{a:Act}{f:Nat→Value}(h:Fx B o N v a f):Fr a 85 (SN (SN (SN (SN f 0 (.pointer (some ⟨B,o,none⟩))) 1 v) 4 (.int .i64 N)) 5 .nilIface):=
 (((h.fr.pin h.f0).pin (t:=1) (by rw[NA (by omega)];exact h.f1)).pin (t:=4) (by rw[NA (by omega),NA (by omega)];exact h.f4)).pin (t:=5) (by rw[NA (by omega),NA (by omega),NA (by omega)];exact h.f5)
theorem St1.heap{GC:Nat→Nat→Option Value}{B o N:Nat}{m1:List Int}{w0 w w':World}(h:St1 GC B o N m1 w0 w)(hf:CV w w' (fun b _=>b=B))(hg:GW GC w'){x':List Int}(hd:Dg w' B o (hst m1) x' (m1.length%128) N)(hx:x'.take (m1.length%128)=m1.drop (m1.length/128*128)):St1 GC B o N m1 w0 w':=
 ⟨h.frm.trans hf,hg,x',hd,hx⟩
theorem AAJ{ρ:Operand→Value}{d:Option Tmp}{x y:Operand}{ty:TypeId}{pos:String}{af:Array Edge}{w:World}{B b o k c:Nat}{v:Value}{ys:List Int}(hx:ρ x= .slice (some ⟨b,o,none⟩) k c)(hy:ρ y=v)(hp:aX w B v ys)(hd:∀ i,i<k→∃ u,Ci true w b (o+i) u):
  (execOp ρ ⟨d,.call ⟨.builtin .copy,#[x,y],#[22,22]⟩,ty,pos,af,none⟩).run Tryz.prog w= .ok (.value (.int .i64 (min k ys.length:Nat))) (w.setCells b o (v8 (ys.take k))):=by
 obtain⟨ap,c',rfl,h2,h3,h4⟩:=hp
 by_cases h0:Nat.min ys.length k=0
 ·have e1:min k ys.length=0:=by rw[Nat.min_comm];exact h0
  have e2:ys.take k= []:=zbx (by rw[Y3];exact e1);rw[e1,e2];exact AHg hx hy h0
 ·have h0':0<ys.length:=by
   rcases Nat.eq_zero_or_pos ys.length with h|h
   ·exact absurd (by rw[h];exact Nat.zero_min k) h0
   ·exact h
  obtain⟨b',o',rfl,hb,hc⟩:=h4 h0';have hl:(ys.take k).length=Nat.min ys.length k:=by rw[Y3];exact Nat.min_comm _ _
  have:=AOk (d:=d) (ty:=ty) (pos:=pos) (af:=af) (w:=w) (ys:=ys.take k) hx hy hl (fun i hi=>by
   rw[Y3] at hi;rw[DZ,hc i (by omega)];simp[List.getD,show i<k by omega]) (fun i hi=>by rw[Y3] at hi;exact hd i (by omega))
  rw[Y3] at this;exact this
theorem AJv{ρ:Operand→Value}{d:Option Tmp}{x y:Operand}{ty:TypeId}{pos:String}{af:Array Edge}{w:World}{B b o k c:Nat}{v:Value}{ys:List Int}(hx:ρ x= .slice (some ⟨b,o,none⟩) k c)(hy:ρ y=v)(hp:aX w B v ys)(hk:ys.length≤k)(hd:∀ i,i<k→∃ u,Ci true w b (o+i) u):
  (execOp ρ ⟨d,.call ⟨.builtin .copy,#[x,y],#[22,22]⟩,ty,pos,af,none⟩).run Tryz.prog w= .ok (.value (.int .i64 ys.length)) (w.setCells b o (v8 ys)):=by
 have:=AAJ (d:=d) (ty:=ty) (pos:=pos) (af:=af) hx hy hp hd
 rwa [show min k ys.length=ys.length by omega,zco hk] at this
theorem Ot{P:Program}{Q:Exit→Act→World→Prop}{a:Act}{w:World}(h:Q .normal a w):Code.skip.wp P Q a w:=wp_skip h
theorem jH{GB:Nat}{GC:Nat→Nat→Option Value}{ad:Nat→Nat×Nat}(hG:Jk GB GC ad){w:World}{B o n pb po c:Nat}{h xs:List Int}(ε:GW GC w)(δ:GB≤w.heap.size)(hB:GB≤B)(hh:Ar true w (B,o) (List.replicate 8 .u64) h)(hp:Ar false w (pb,po) (List.replicate (n*128) .u8) xs)(hn:0<n)(hc:n*128≤c):
  Calls Tryz.prog 109 #[.pointer (some ⟨B,o,none⟩),.slice (some ⟨pb,po,none⟩) (n*128) c] w (ASS GC B o n h xs w):=by
 refine enter (args:=[.pointer (some ⟨B,o,none⟩),.slice (some ⟨pb,po,none⟩) (n*128) c]) Tryz.func109 rfl (n:=7) rfl fun a F=>?_
 refine reg (AB F rfl fun a F=>AB F rfl fun a F=>Jr F rfl (Cz rfl F.e F.e Tryz.call154) (AGh hG ε δ hB hh hp hn hc) fun e w5 h5=>⟨_,h5.ret,fun a F=>Gv ?_⟩);refine⟨F.df,.tuple #[],by simp[results,go_sem],rfl,h5.mem,h5.frm,h5.gw⟩
set_option maxRecDepth 100000 in
set_option maxHeartbeats 1000000 in
theorem JK{GB:Nat}{GC:Nat→Nat→Option Value}{ad:Nat→Nat×Nat}(hG:Jk GB GC ad){w:World}{B o:Nat}{m xs:List Int}{v:Value}(ε:GW GC w)(δ:GB≤w.heap.size)(hB:GB≤B)(hd:Dig w B o m)(hp:aX w B v xs)(hlen:m.length+xs.length<1152921504606846976):
  Calls Tryz.prog 93 #[.pointer (some ⟨B,o,none⟩),v] w (WrP GC B o m xs w):=by
 obtain⟨x,D,hxm⟩:=hd.ex;have hp0:=hp;obtain⟨ap,c,rfl,hc,hr,-⟩:=hp;refine enter (args:=[.pointer (some ⟨B,o,none⟩),.slice ap xs.length c]) Tryz.func93 rfl (n:=85) rfl fun a F=>?_
 refine BQ (Bv F rfl fun a F=>Bv F rfl fun a F=>Ae ?_);refine BQ (AB F rfl fun a F=>Cm F rfl (Ug F.e) fun a F=>AR F rfl fun a F=>Ae ?_);refine BQ (AB F rfl fun a F=>Kr F rfl rfl fun a F=>Cm F rfl (AO2 F.e) fun a F=>Cm F rfl (UB F.e D.hl.1) fun a F=>AB F rfl fun a F=>Cm F rfl (ASU F.e) fun a F=>
  Cm F rfl (vg F.e F.e) fun a F=>Kr F rfl rfl fun a F=>Cm F rfl (AO2 F.e) fun a F=>LP F rfl rfl (ASp F.e F.e D.hl) fun a F=>Ae ?_)
 have hN:IntKind.u64.wrap ((m.length:Int)+IntKind.u64.wrap (xs.length:Int))=((m.length+xs.length:Nat):Int):=by
  rw[dJ (x:=(xs.length:Int)) (by omega) (by omega),dJ (by omega) (by omega)];omega
 rw[hN];have D1:Dg (w.setCell ⟨B,o+137,none⟩ (.int .u64 ((m.length+xs.length:Nat):Int))) B o (hst m) x (m.length%128) (m.length+xs.length):=D.setL _;have hf1:CV w (w.setCell ⟨B,o+137,none⟩ (.int .u64 ((m.length+xs.length:Nat):Int))) (fun b _=>b=B):=AAj (CV.refl _ _);generalize w.setCell ⟨B,o+137,none⟩ (.int .u64 ((m.length+xs.length:Nat):Int))=w1 at D1 hf1 ⊢;have hp1:=hp0.frm hf1;have hgw1:=Ia hG ε hf1 hB;generalize hM:m.length+xs.length=N at D1 hlen ⊢;refine KT (J:=fun a w'=>∃ f m1 ys v,m1++ys=m++xs∧Fx B o xs.length v a f∧aX w' B v ys∧(ys= []∨m1.length%128=0)∧St1 GC B o N m1 w w') ?_ ?_
 ·refine BQ (AB F rfl fun a F=>Kr F rfl rfl fun a F=>Cm F rfl (rR F.e) fun a F=>Cm F rfl (bL F.e D1.hn.1) fun a F=>Cm F rfl (AAO F.e rfl) fun a F=>Ae (tL F rfl (fun hb=>?_) fun hb=>?_))
  ·have hr0:0<m.length%128:=by have:=of_decide_eq_true hb;omega
   refine wp_seq (wp_region_still_tail 9 mixed (by kernel_rfl) ?_);have e1:({ w1 with drawn:=w1.drawn+1 }:World).heap=w1.heap:=rfl;have hfd:CV w1 { w1 with drawn:=w1.drawn+1 } (fun b _=>b=B):=(CV.refl _ _).of_heap rfl rfl rfl rfl;have D2:Dg { w1 with drawn:=w1.drawn+1 } B o (hst m) x (m.length%128) N:=D1.frm ((CV.refl w1 (fun _ _=>False)).of_heap (w':= { w1 with drawn:=w1.drawn+1 }) rfl rfl rfl rfl) fun _ h=>h
   generalize ({ w1 with drawn:=w1.drawn+1 }:World)=w2 at D2 hfd ⊢;have hp2:=hp1.frm hfd;have hgw2:=Ia hG hgw1 hfd hB;refine Kv F rfl fun a F=>RX F rfl rfl fun a F=>Dq F rfl rfl rfl (ANx F.e) fun a F=>Kv F rfl fun a F=>RX F rfl rfl fun a F=>Dq F rfl rfl rfl (rR F.e) fun a F=>Dq F rfl rfl rfl (bL F.e D2.hn.1) fun a F=>
    Dq F rfl rfl rfl (AS3 F.e F.e (by omega)) fun a F=>Kv F rfl fun a F=>?_
   refine Cm F rfl (AAJ F.e F.e hp2 (fun i hi=>⟨_,by
    have:=(D2.hx.at8 (i:=m.length%128+i) (by omega)).1
    rwa [← XN] at this⟩)) fun a F=>AR F rfl fun a F=>Ae ?_
   generalize hys:xs.take (128-m.length%128)=ys at F ⊢;generalize hk:min (128-m.length%128) xs.length=k at F ⊢;have hyl:ys.length=k:=by rw[← hys,Y3];exact hk
   have hy8:∀ y∈ys,0≤y∧y≤255:=fun y hy=>hr y (by rw[← hys] at hy;exact List.mem_of_mem_take hy)
   have hyx:ys=xs.take k:=by rw[← hys, ← hk,List.take_eq_take_iff];omega
   have D3:=D2.lay (ys:=ys) (r:=m.length%128) hy8 (by omega);have hf3:CV w2 (w2.setCells B (o+8+m.length%128) (v8 ys)) (fun b _=>b=B):=Ck _ _ (CV.refl _ _) fun _ _=>.inr rfl
   have hx3:(lay x ys (m.length%128)).take (m.length%128+k)=m.drop (m.length/128*128)++ys:=by
    have hxl:=D.hx.len8;unfold lay;rw[hxm, ← YY];refine List.take_left' ?_;rw[K6,nO,hyl];omega
   have hxl3:(lay x ys (m.length%128)).length=128:=by rw[ky (by have:=D.hx.len8;omega)];exact D.hx.len8
   generalize lay x ys (m.length%128)=x3 at D3 hx3 hxl3;generalize w2.setCells B (o+8+m.length%128) (v8 ys)=w3 at D3 hf3 ⊢;have adW:=Ia hG hgw2 hf3 hB;refine BQ (AB F rfl fun a F=>Kr F rfl rfl fun a F=>Cm F rfl (rR F.e) fun a F=>Cm F rfl (bL F.e D3.hn.1) fun a F=>AB F rfl fun a F=>Cm F rfl (lW F.e F.e) fun a F=>
    Kr F rfl rfl fun a F=>Cm F rfl (rR F.e) fun a F=>LP F rfl rfl (AFE F.e F.e D3.hn) fun a F=>Ae ?_)
   have hadd:IntKind.i64.wrap (((m.length%128:Nat):Int)+((k:Nat):Int))=((m.length%128+k:Nat):Int):=by
    rw[gL (by omega) (by omega)];omega
   rw[hadd] at F ⊢;have D4:Dg (w3.setCell ⟨B,o+136,none⟩ (.int .i64 ((m.length%128+k:Nat):Int))) B o (hst m) x3 (m.length%128+k) N:=D3.setN _;have hf4:CV w3 (w3.setCell ⟨B,o+136,none⟩ (.int .i64 ((m.length%128+k:Nat):Int))) (fun b _=>b=B):=AAj (CV.refl _ _);generalize w3.setCell ⟨B,o+136,none⟩ (.int .i64 ((m.length%128+k:Nat):Int))=w4 at D4 hf4 ⊢;have acR:=Ia hG adW hf4 hB;have hf14:CV w w4 (fun b _=>b=B):=((hf1.trans hfd).trans hf3).trans hf4;have hml:(m++ys).length=m.length+k:=by rw[K6,hyl]
   refine KT (J:=fun a w'=>∃ f,Fx B o xs.length (.slice ap xs.length c) a f∧f 6= .int .i64 (k:Nat)∧St1 GC B o N (m++ys) w w') ?_ ?_
   ·refine BQ (AB F rfl fun a F=>Kr F rfl rfl fun a F=>Cm F rfl (rR F.e) fun a F=>Cm F rfl (bL F.e D4.hn.1) fun a F=>Cm F rfl (AR4 F.e rfl) fun a F=>Ae (tL F rfl (fun hb=>?_) fun hb=>?_))
    ·have acT:m.length%128+k=128:=by have:=eq_of_beq hb;omega
     have hpx:Ar false w4 (B,o+8) (List.replicate (1*128) .u8) x3:=⟨D4.hx.1,fun i k x hk hx=>(D4.hx.2 i k x hk hx).weak⟩;refine BQ (AB F rfl fun a F=>AB F rfl fun a F=>Kr F rfl rfl fun a F=>Cm F rfl (ANx F.e) fun a F=>Cm F rfl (AKS F.e) fun a F=>
      Jr F rfl (Cz rfl F.e F.e Tryz.call109) (jH (n:=1) (pb:=B) (po:=o+8) (c:=128) hG acR (G9 δ hf14.1) hB D4.hh hpx (by omega) (by omega)) fun e w5 h5=>⟨_,h5.ret,fun a F=>Ae ?_⟩)
     have hf5:CV w4 w5 (fun b _=>b=B):=h5.frm.mono fun b i _ h=>h.1
     have D5:Dg w5 B o (blk 1 (hst m) x3) x3 (m.length%128+k) N:=⟨h5.mem,D4.hx.frm h5.frm fun i _ h=>by omega,h5.frm.hasC D4.hn (by omega),h5.frm.hasC D4.hl (by omega),h5.frm.hasC D4.hs (by omega)⟩;refine reg (AB F rfl fun a F=>Kr F rfl rfl fun a F=>Cm F rfl (rR F.e) fun a F=>LP F rfl rfl (AFE F.e rfl D5.hn) fun a F=>Gv ⟨rfl,_,⟨F,rfl,rfl,rfl,rfl⟩,rfl,?_⟩);have D6:Dg (w5.setCell ⟨B,o+136,none⟩ (.int .i64 0)) B o (blk 1 (hst m) x3) x3 0 N:=D5.setN 0;have hf6:CV w5 (w5.setCell ⟨B,o+136,none⟩ (.int .i64 0)) (fun b _=>b=B):=AAj (CV.refl _ _);have hh:blk 1 (hst m) x3=hst (m++ys):=by
      rw[AGM (XD m),ACo (by omega)];rw[← hx3,acT,zco (by omega)]
     rw[hh] at D6;have hmod:(m++ys).length%128=0:=by omega
     refine⟨(hf14.trans hf5).trans hf6,Ia hG h5.gw hf6 hB,x3,by rw[hmod];exact D6,?_⟩;rw[hmod,List.drop_of_length_le (by omega)];rfl
    ·have hlt:m.length%128+k<128:=by
      have:¬ (((m.length%128+k:Nat):Int)=128):=by simpa using hb
      omega
     refine Ot ⟨rfl,_,⟨F,rfl,rfl,rfl,rfl⟩,rfl,hf14,acR,x3,?_,?_⟩
     ·rw[oh (by omega),hml,show (m.length+k)%128=m.length%128+k by omega];exact D4
     ·rw[hml,show (m.length+k)%128=m.length%128+k by omega,hx3,show (m.length+k)/128=m.length/128 by omega,List.drop_append_of_le_length (by omega)]
   ·rintro a w5 ⟨f,Fx1,h6,S5⟩
    have F:=Fx1.pin.pin (t:=6) (v:=.int .i64 (k:Nat)) (by rw[NA (by omega),NA (by omega),NA (by omega),NA (by omega)];exact h6);have hp5:=hp0.frm S5.frm;refine reg (AB F rfl fun a F=>AB F rfl fun a F=>Cm F rfl (AGK F.e F.e (by omega) hc) fun a F=>AR F rfl fun a F=>Gv ⟨rfl,_,m++ys,xs.drop k,_,?_,⟨F,rfl,rfl,rfl,rfl⟩,hp5.drop k (by omega) _ _ _ rfl,?_,S5⟩)
    ·rw[hyx,YY,List.take_append_drop]
    ·by_cases hkk:k=xs.length
     ·left;rw[hkk];exact List.drop_length
     ·right;omega
  ·have hr0:m.length%128=0:=by
    have:¬ ((0:Int)<((m.length%128:Nat):Int)):=of_decide_eq_false hb;omega
   exact Ot ⟨rfl,_,m,xs,_,rfl,⟨F,rfl,rfl,rfl,rfl⟩,hp1,.inr hr0,hf1,hgw1,x,D1,hxm⟩
 ·rintro a w2 ⟨f,m1,ys,v,hmy,Fx1,hpy,hor,S1⟩
  have F:=Fx1.pin;have hmyl:m1.length+ys.length=N:=by
   have:=QL List.length hmy;rw[K6,K6] at this;omega
  obtain⟨ap1,c1,rfl,hc1,hr1,aa9⟩:=id hpy;refine KT (J:=fun a w'=>∃ f m1 ys v,m1++ys=m++xs∧Fx B o xs.length v a f∧aX w' B v ys∧(ys= []∨m1.length%128=0)∧ys.length<128∧St1 GC B o N m1 w w') ?_ ?_
  ·refine BQ (AB F rfl fun a F=>Cm F rfl (Ug F.e) fun a F=>Cm F rfl (Wj F.e rfl) fun a F=>Ae (tL F rfl (fun hb=>?_) fun hb=>?_))
   ·have hge:128≤ys.length:=by have:=of_decide_eq_true hb;omega
    have hr0:m1.length%128=0:=hor.resolve_left (fun h=>by rw[h] at hge;simp at hge);obtain⟨b0,o0,rfl,hbB,hcell⟩:=aa9 (by omega);clear aa9;obtain⟨x2,D2,hx2⟩:=S1.dg;refine BQ (AB F rfl fun a F=>Cm F rfl (Ug F.e) fun a F=>Cm F rfl (AMu F.e rfl (by omega)) fun a F=>AR F rfl fun a F=>Ae ?_);have hpm:Ar false w2 (b0,o0) (List.replicate (ys.length/128*128) .u8) (ys.take (ys.length/128*128)):=AF8 (by rw[Y3];omega) (fun y hy=>hr1 y (List.mem_of_mem_take hy)) fun i hi=>⟨by
     rw[hcell i (by omega)];simp[List.getD,hi],fun h=>by cases h⟩
    refine BQ (AB F rfl fun a F=>AB F rfl fun a F=>AB F rfl fun a F=>Cm F rfl (AGC F.e F.e (by omega)) fun a F=>
     Jr F rfl (Cz rfl F.e F.e Tryz.call109) (jH (n:=ys.length/128) (pb:=b0) (po:=o0) (c:=c1) hG S1.gw (G9 δ S1.frm.1) hB D2.hh hpm (by omega) (by omega)) fun e w3 h3=>⟨_,h3.ret,fun a F=>Ae ?_⟩)
    have hf3:CV w2 w3 (fun b _=>b=B):=h3.frm.mono fun b i _ h=>h.1
    have hh:blk (ys.length/128) (hst m1) (ys.take (ys.length/128*128))=hst (m1++ys.take (ys.length/128*128)):=by
     rw[AGM (XD m1),AIX (q:=m1.length/128) (by omega),Y3,show min (ys.length/128*128) ys.length/128=ys.length/128 by omega]
    have D3:Dg w3 B o (hst (m1++ys.take (ys.length/128*128))) x2 (m1.length%128) N:=⟨by rw[← hh];exact h3.mem,D2.hx.frm h3.frm fun i _ h=>by omega,h3.frm.hasC D2.hn (by omega),h3.frm.hasC D2.hl (by omega),h3.frm.hasC D2.hs (by omega)⟩;have hl3:(m1++ys.take (ys.length/128*128)).length=m1.length+ys.length/128*128:=by rw[K6,Y3];omega
    refine reg (AB F rfl fun a F=>AB F rfl fun a F=>Cm F rfl (AGK F.e F.e (by omega) hc1) fun a F=>AR F rfl fun a F=>Gv ⟨rfl,_,m1++ys.take (ys.length/128*128),ys.drop (ys.length/128*128),_,?_,⟨F,rfl,rfl,rfl,rfl⟩,(hpy.frm hf3).drop _ (by omega) _ _ _ rfl,.inr (by omega),by rw[nO];omega,S1.frm.trans hf3,h3.gw,x2,?_,?_⟩)
    ·rw[YY,List.take_append_drop,hmy]
    ·rw[show (m1++ys.take (ys.length/128*128)).length%128=m1.length%128 by omega];exact D3
    ·rw[show (m1++ys.take (ys.length/128*128)).length%128=0 by omega,List.drop_of_length_le (by omega)];rfl
   ·have hlt:ys.length<128:=by have:=of_decide_eq_false hb;omega
    exact Ot ⟨rfl,_,m1,ys,_,hmy,⟨F,rfl,rfl,rfl,rfl⟩,hpy,hor,hlt,S1⟩
  ·clear F Fx1 hpy hor S1 hmy hmyl hc1 hr1 aa9
   rintro a w3 ⟨f,m2,zs,v,hmz,Fx2,hpz,hor,hlt,S2⟩
   have F:=Fx2.pin;have hmzl:m2.length+zs.length=N:=by
    have:=QL List.length hmz;rw[K6,K6] at this;omega
   obtain⟨ap2,c2,rfl,hc2,hr2,-⟩:=id hpz;refine KT (J:=fun a w'=>∃ f,Fx B o xs.length (.slice ap2 zs.length c2) a f∧St1 GC B o N (m2++zs) w w') ?_ ?_
   ·refine BQ (AB F rfl fun a F=>Cm F rfl (Ug F.e) fun a F=>Cm F rfl (AAO F.e rfl) fun a F=>Ae (tL F rfl (fun hb=>?_) fun hb=>?_))
    ·have hgt:0<zs.length:=by have:=of_decide_eq_true hb;omega
     have hr0:m2.length%128=0:=hor.resolve_left (fun h=>by rw[h] at hgt;simp at hgt);obtain⟨x3,D3,hx3⟩:=S2.dg;have D4:=D3.lay (ys:=zs) (r:=0) hr2 (by omega);have hf4:CV w3 (w3.setCells B (o+8+0) (v8 zs)) (fun b _=>b=B):=Ck _ _ (CV.refl _ _) fun _ _=>.inr rfl
     refine reg (AB F rfl fun a F=>AB F rfl fun a F=>Kr F rfl rfl fun a F=>Cm F rfl (ANx F.e) fun a F=>Cm F rfl (AKS F.e) fun a F=>AB F rfl fun a F=>
      Cm F rfl (AJv F.e F.e hpz (by omega) (fun i hi=>⟨_,(D3.hx.at8 hi).1⟩)) fun a F=>Kr F rfl rfl fun a F=>Cm F rfl (rR F.e) fun a F=>LP F rfl rfl (AFE F.e F.e D4.hn) fun a F=>Gv ⟨rfl,_,⟨F,rfl,rfl,rfl,rfl⟩,?_⟩)
     have D5:=D4.setN zs.length;have hf5:=AAj (o:=o+136) (v:=.int .i64 (zs.length:Nat)) hf4;have hh:hst (m2++zs)=hst m2:=oh (by omega);have hl5:(m2++zs).length=m2.length+zs.length:=K6;refine⟨S2.frm.trans hf5,Ia hG S2.gw hf5 hB,lay x3 zs 0,?_,?_⟩
     ·rw[hh,hl5,show (m2.length+zs.length)%128=zs.length by omega];exact D5
     ·rw[hl5,show (m2.length+zs.length)%128=zs.length by omega,show (m2.length+zs.length)/128*128=m2.length by omega,List.drop_left];unfold lay;rw[zcv,zcn,List.take_left]
    ·have h0:zs= []:=zbx (by have:=of_decide_eq_false hb;omega);refine Ot ⟨rfl,_,⟨F,rfl,rfl,rfl,rfl⟩,?_⟩;subst h0;rw[TL];exact S2
   ·rintro a w4 ⟨f,Fx3,S3⟩
    rw[hmz] at S3;refine Kh ⟨Fx3.fr.df,.tuple #[.int .i64 xs.length,.nilIface],?_,rfl,⟨?_⟩,S3.frm,S3.gw⟩
    ·have h4:=Fx3.fr.tm 4;have h5:=Fx3.fr.tm 5;rw[Fx3.f4] at h4;rw[Fx3.f5] at h5;rw[Ti] at h4 h5;simp[results,Tryz.results93,go_sem,h4,h5]
    ·obtain⟨x4,D4,hx4⟩:=S3.dg;have e:(m++xs).length=N:=by rw[K6,hM]
     refine⟨x4,?_,hx4⟩;rw[e] at D4 ⊢;exact D4
end
section
open Go
theorem Ar.app{f:Bool}{w:World}{b o:Nat}{ks js:List IntKind}{xs ys:List Int}(h:Ar f w (b,o) (ks++js) (xs++ys))(hl:ks.length=xs.length):Ar f w (b,o) ks xs∧Ar f w (b,o+ks.length) js ys:=by
 obtain⟨⟨h1,h2⟩,h3⟩:=h;rw[K6,K6] at h1;have kL:∀ {i:Nat} {k:IntKind},ks[i]? = some k→(ks++js)[i]? = some k:=fun {i k} hk=>by
  rw[gI (Pi.1 hk).1];exact hk
 have xL:∀ {i:Nat} {x:Int},xs[i]? = some x→(xs++ys)[i]? = some x:=fun {i x} hk=>by
  rw[gI (Pi.1 hk).1];exact hk
 have kR:∀ {i:Nat} {k:IntKind},js[i]? = some k→(ks++js)[ks.length+i]? = some k:=fun {i k} hk=>by
  rw[mH (by omega),Nat.add_sub_cancel_left];exact hk
 have xR:∀ {i:Nat} {x:Int},ys[i]? = some x→(xs++ys)[ks.length+i]? = some x:=fun {i x} hk=>by
  rw[mH (by omega),hl,Nat.add_sub_cancel_left];exact hk
 refine⟨⟨⟨by omega,fun i k x hk hx=>h2 i k x (kL hk) (xL hx)⟩,fun i k x hk hx=>h3 i k x (kL hk) (xL hx)⟩,⟨⟨by omega,fun i k x hk hx=>h2 _ k x (kR hk) (xR hx)⟩,fun i k x hk hx=>?_⟩⟩;have:=h3 _ k x (kR hk) (xR hx)
 rwa [← XN] at this
def dK:List IntKind:=List.replicate 8 .u64++(List.replicate 128 .u8 ++ [.i64,.u64,.i64])
theorem Dg.of_mem{w:World}{B o:Nat}{h x:List Int}{nx L:Nat}(hl:h.length=8)(hx:x.length=128)(hm:Ar true w (B,o) dK (h++(x ++ [(nx:Int),(L:Int),64]))):Dg w B o h x nx L:=by
 obtain⟨h1,h2⟩:=hm.app (by simp[hl]);obtain⟨h3,h4⟩:=h2.app (by simp[hx]);have e8:(List.replicate 8 IntKind.u64).length=8:=SX;have e128:(List.replicate 128 IntKind.u8).length=128:=SX;rw[e8] at h3;rw[e8,e128] at h4;exact⟨h1,h3,h4.2 0 .i64 _ rfl rfl,h4.2 1 .u64 _ rfl rfl,h4.2 2 .i64 _ rfl rfl⟩
theorem AHd:P9.raw QA 0 []=H0++(List.replicate 128 0 ++ [0,0,64]):=by kernel_rfl
structure AVk (GC:Nat→Nat→Option Value) (w:World) (e:Ending) (w':World):Prop where
 ret:∃ B o,e= .returned (.pointer (some ⟨B,o,none⟩))∧w.heap.size≤B∧Dig w' B o []
 frm:CV w w' (fun _ _=>False)
 gw:GW GC w'
theorem zZ{GB:Nat}{GC:Nat→Nat→Option Value}{ad:Nat→Nat×Nat}(hG:Jk GB GC ad){w:World}(ε:GW GC w)(δ:GB≤w.heap.size):Calls Tryz.prog 92 #[] w (AVk GC w):=by
 have h:=fw hG true [] [] [] w ε δ trivial trivial (fun h=>(by cases h)) rfl;refine h.mono fun e w' ⟨fb,vs,he,hp⟩=>?_
 simp only[FE.sel] at hp;have hr:=hp.ret
 match vs,hr with
 | [v],hr=>
 obtain⟨b,hb,hv⟩:=hr.1;subst hv;have hm:=hp.fresh 0 (dK,fun a=>Aw 139 (P9.raw QA 0 a)) b rfl hb;have e1:Aw 139 (P9.raw QA 0 [])=H0++(List.replicate 128 0 ++ [0,0,64]):=by
  rw[AHd];exact Au rfl
 have hm':Ar true w' (b.1,b.2) dK (H0++(List.replicate 128 0 ++ [0,0,64])):=by rw[← e1];exact hm
 refine⟨⟨b.1,b.2,he,hp.fr b (OZ hb),_,Dg.of_mem (nx:=0) (L:=0) rfl (by simp) hm',rfl⟩,hp.frm.mono fun b' o' _ hs=>?_,hp.gw⟩;obtain⟨p,hp',_⟩:=hs
 cases hp'
end
section
open Go
section
variable{ρ:Operand→Value}{d:Option Tmp}{x y:Operand}{ty:TypeId}{pos:String}{af:Array Edge}{w:World}{b o:Nat}
theorem sN{i j:Nat}(h:ρ x= .int .u64 i)(hy:ρ y= .int .u64 j)(hj:0<j):(execOp ρ ⟨d,.binOp .rem 50 x y 50,ty,pos,af,none⟩).run Tryz.prog w= .ok (.value (.int .u64 ((i%j:Nat):Int))) w:=by
 simp[execOp,go_sem,h,hy];rw[if_neg (by omega)];rfl
theorem AOB{i j:Int}(h:ρ x= .int .u64 i)(hy:ρ y= .int .u64 j):(execOp ρ ⟨d,.binOp .lss 50 x y 50,ty,pos,af,none⟩).run Tryz.prog w= .ok (.value (.bool (decide (i<j)))) w:=by
 simp[execOp,go_sem,h,hy]
theorem AEO{i j:Int}(h:ρ x= .int .u64 i)(hy:ρ y= .int .u64 j):(execOp ρ ⟨d,.binOp .sub 50 x y 50,ty,pos,af,none⟩).run Tryz.prog w= .ok (.value (.int .u64 (IntKind.u64.wrap (i-j)))) w:=by
 simp[execOp,go_sem,h,hy]
theorem APd{i:Int}(h:ρ x= .int .u64 i)(hy:ρ y= .int .u64 3):(execOp ρ ⟨d,.binOp .shl 50 x y 131,ty,pos,af,none⟩).run Tryz.prog w= .ok (.value (.int .u64 (IntKind.u64.wrap (i*8)))) w:=by
 simp[execOp,go_sem,h,hy]
theorem l7{i j:Int}(h:ρ x= .int .i64 i)(hy:ρ y= .int .i64 j):(execOp ρ ⟨d,.binOp .neq 3 x y 3,ty,pos,af,none⟩).run Tryz.prog w= .ok (.value (.bool (i != j))) w:=by
 simp[execOp,go_sem,h,hy]
theorem AVF:Tryz.zeroCells199=Array.replicate 144 (.int .u8 0):=by kernel_rfl
theorem AVg:Tryz.zeroCells135=(AZ dK (List.replicate 139 0)).toArray:=by kernel_rfl
theorem AIt:(execOp ρ ⟨d,.alloc 199,ty,pos,af,none⟩).run Tryz.prog w= .ok (.value (.pointer (some ⟨w.heap.size,0,none⟩))) (w.alloc (.cells (Array.replicate 144 (.int .u8 0)) 199)):=by
 simp[execOp,go_sem,AVF]
theorem wD:(execOp ρ ⟨d,.alloc 137,ty,pos,af,none⟩).run Tryz.prog w= .ok (.value (.pointer (some ⟨w.heap.size,0,none⟩))) (w.alloc (.cells (Array.replicate 64 (.int .u8 0)) 137)):=by
 simp[execOp,go_sem];rfl
theorem ASi:(execOp ρ ⟨d,.alloc 135,ty,pos,af,none⟩).run Tryz.prog w= .ok (.value (.pointer (some ⟨w.heap.size,0,none⟩))) (w.alloc (.cells (AZ dK (List.replicate 139 0)).toArray 135)):=by
 simp[execOp,go_sem,AVg]
theorem ASW(h:ρ x= .pointer (some ⟨b,o,none⟩))(hy:ρ y= .int .i64 0):(execOp ρ ⟨d,.indexAddr 199 x y,ty,pos,af,none⟩).run Tryz.prog w= .ok (.value (.pointer (some ⟨b,o,none⟩))) w:=by
 simp[execOp,go_sem,h,hy]
theorem Xo{k:Nat}(h:ρ x= .pointer (some ⟨b,o,none⟩))(hy:ρ y= .int .i64 k)(hk:k<8):(execOp ρ ⟨d,.indexAddr 51 x y,ty,pos,af,none⟩).run Tryz.prog w= .ok (.value (.pointer (some ⟨b,o+k,none⟩))) w:=by
 simp[execOp,go_sem,h,hy]
 intro h;omega
theorem VU{t:TypeId}{cs:List Value}(ha:∀ w,(isAgg t).run Tryz.prog w= .ok true w)(hz:∀ w,(sizeOf t).run Tryz.prog w= .ok cs.length w)(h:ρ x= .pointer (some ⟨b,o,none⟩))(hc:∀ i v,cs[i]? = some v→w.cell? ⟨b,o+i,none⟩=some v):
  (execOp ρ ⟨d,.load t x,ty,pos,af,none⟩).run Tryz.prog w= .ok (.value (.agg cs.toArray)) w:=by
 have hl:=run_loadCells_list (P:=Tryz.prog) w ⟨b,o,none⟩ cs (fun j u hu=>by rw[DZ];exact hc j u hu);simp only[execOp,h,Instr.loadAt,Instr.sureAddr,loadVar,I1,KD,IB,ha,if_true,hz,hl]
theorem Uf(b:Nat):∀ (vs:List Value) (w:World) (o:Nat),setCells w b o vs=w.setCells b o vs
 | [],_,_=>rfl
 |_v::vs,_w,o=>Uf b vs _ (o+1)
theorem QX{t:TypeId}{cs:List Value}(hz:∀ w,(sizeOf t).run Tryz.prog w= .ok cs.length w)(h:ρ x= .pointer (some ⟨b,o,none⟩))(hy:ρ y= .agg cs.toArray)(h1:∀ v∈cs,v.oneCell'=true)(hc:∀ j,j<cs.length→∃ u,Ci true w b (o+j) u):
  (execOp ρ ⟨d,.store t x y,ty,pos,af,none⟩).run Tryz.prog w= .ok .skip (w.setCells b o cs):=by
 have hst:=Ke (P:=Tryz.prog) b o cs 0 w h1 (by simpa using hc);rw[Q3,Uf] at hst;have hcs:(Value.agg cs.toArray).cells.size=cs.length:=by simp[Value.cells]
 simp only[execOp,h,hy,Instr.storeAt,Instr.sureAddr,storeVar,I1,KD,IB,hz,hcs,ne_eq,not_true,if_false];have hcl:(Value.agg cs.toArray).cells.toList=cs:=by simp[Value.cells]
 rw[hcl,hst];rfl
end
end
section
open Go
def OL(v:Int):List Int:=[56,48,40,32,24,16,8,0].map fun k=>IntKind.u8.wrap (Di .shr v k)
def nE(n:Nat)(old:List Int):List Int:=(List.range (n-8)).map fun i=>old.getD (i+8) 0
theorem AAR{old:List Int}{v:Int}:IA.raw H7 0 [old,[v]]=OL v++nE 64 old:=by kernel_rfl
theorem zR{old:List Int}{v:Int}:FY.raw F3 0 [old,[v]]=OL v++nE 56 old:=by kernel_rfl
theorem AAL{old:List Int}{v:Int}:FZ.raw F7 0 [old,[v]]=OL v++nE 48 old:=by kernel_rfl
theorem yV{old:List Int}{v:Int}:GD.raw Fs 0 [old,[v]]=OL v++nE 40 old:=by kernel_rfl
theorem xI{old:List Int}{v:Int}:Fg.raw Fa 0 [old,[v]]=OL v++nE 32 old:=by kernel_rfl
theorem yO{old:List Int}{v:Int}:Fw.raw Fv 0 [old,[v]]=OL v++nE 24 old:=by kernel_rfl
theorem AAD{old:List Int}{v:Int}:Fz.raw Fu 0 [old,[v]]=OL v++nE 16 old:=by kernel_rfl
theorem lg{old:List Int}{v:Int}:FW.raw GA 0 [old,[v]]=OL v++nE 8 old:=by kernel_rfl
structure lG (GC:Nat→Nat→Option Value) (b o:Nat) (v:Int) (w:World) (e:Ending) (w':World):Prop where
 ret:e= .returned (.tuple #[])
 mem:Ar true w' (b,o) (List.replicate 8 .u8) (OL v)
 frm:CV w w' (fun b' i=>b'=b∧o≤i∧i<o+8)
 gw:GW GC w'
theorem yf{n:Nat}{old:List Int}:(nE n old).length=n-8:=by simp[nE]
theorem Ku(v:Int):(OL v).length=8:=rfl
theorem AHp{w w':World}{b o n:Nat}{old:List Int}{v:Int}(hf:CV w w' (fun b' i=>b'=b∧o≤i∧i<o+n))(h0:Ar true w (b,o) (List.replicate n .u8) old)(h1:Ar true w' (b,o) (List.replicate n .u8) (OL v++nE n old))(h8:8≤n):CV w w' (fun b' i=>b'=b∧o≤i∧i<o+8):=by
 refine⟨hf.1,fun b' x hx=>?_,hf.2.2⟩;obtain⟨y,hy,hb⟩:=hf.2.1 b' x hx;refine⟨y,hy,?_⟩
 rcases hb with rfl|⟨c,c',e,f,rfl,rfl,h2,h3⟩
 ·exact .inl rfl
 ·refine .inr ⟨c,c',e,f,rfl,rfl,h2,fun i hi=>?_⟩
  by_cases hin:b'=b∧o≤i∧i<o+n
  ·obtain⟨rfl,hi1,hi2⟩:=hin;have hi8:o+8≤i:=by
    rcases nG i (o+8) with h|h
    ·exact absurd ⟨rfl,hi1,h⟩ hi
    ·exact h
   obtain⟨a1,-, -, -⟩:=h0.at8 (i:=i-o) (by omega);obtain⟨a2,-, -, -⟩:=h1.at8 (i:=i-o) (by omega);rw[show o+(i-o)=i by omega] at a1 a2;have e1:(OL v++nE n old).getD (i-o) 0=old.getD (i-o) 0:=by
    simp only[List.getD];rw[mH (by rw[Ku];omega),Ku];have hlt:i-o-8<n-8:=by omega
    simp[nE,hlt,List.getD,show i-o-8+8=i-o by omega]
   rw[e1] at a2;have c1:=a1.1;have c2:=a2.1;simp only[World.cell?,hx] at c1;simp only[World.cell?,hy] at c2;have:=c2.trans c1.symm
   simpa using this
  ·exact h3 i hin
section
variable{GB:Nat}{GC:Nat→Nat→Option Value}{ad:Nat→Nat×Nat}
theorem RI{f n:Nat}{i:AQ}{C:Cx}(hn:8≤n)(hok:Bp Tryz.prog GB GC f (.one (i.sum C)))(hp:i.s0.params= [.sl (List.replicate n .u8) 1 true,.int .u64])(hout:i.s0.outs= [(0,List.replicate n .u8,z1)])(aa7:i.s0.ret= [])(_hfr:i.s0.fresh= [])(hhp:(i.sum C).hp=false)(aaX:∀ old v,i.raw C 0 [old,[v]]=OL v++nE n old)
  {w:World} {b o c:Nat} {old:List Int} {v:Int} (ε:GW GC w) (δ:GB≤w.heap.size) (hB:GB≤b) (hm:Ar true w (b,o) (List.replicate n .u8) old) (hc:n≤c) (hv:JC .u64 v):Calls Tryz.prog f #[.slice (some ⟨b,o,none⟩) n c,.int .u64 v] w (lG GC b o v w):=by
 have hP:Kt GB w (i.sum C).params [.slice (some ⟨b,o,none⟩) n c,.int .u64 v] [old,[v]] [(b,o),(0,0)]:=by
  show Kt GB w i.s0.params _ _ _;rw[hp];exact⟨⟨c,by rw[SX],by rw[SX];exact hc,hm,fun _=>hB⟩,⟨v,rfl,rfl,hv⟩,trivial⟩
 have hS:G8 (i.sum C).params [(b,o),(0,0)]:=by
  show G8 i.s0.params _;rw[hp];refine⟨fun x hx=>?_,fun x hx=>(by cases hx),trivial⟩;rw[List.zip_cons_cons,List.zip_nil_left,Nc] at hx;subst hx;simp[YR,GG.reg]
 refine (hok true _ _ _ w ε δ hP hS (fun h=>by rw[show (FE.one (i.sum C)).sel true=i.sum C from rfl,hhp] at h;cases h) rfl).mono fun e w' ⟨fb,vs,he,hq⟩=>?_
 simp only[FE.sel] at hq;have eo:(i.sum C).outs= [(0,List.replicate n .u8,fun a=>Aw (List.replicate n IntKind.u8).length (i.raw C 0 a))]:=by
  show Q6 (i.raw C) 0 i.s0.outs=_;rw[hout];rfl
 have er:(i.sum C).ret= []:=by
  show KA (i.raw C) (i.s0.outs.length+i.s0.fresh.length) i.s0.ret=_;rw[aa7];rfl
 have hr:=hq.ret;rw[er] at hr;have hvs:vs= []:=by
  match vs,hr with
  | [],_=>rfl
 subst hvs;have hmem:=hq.outs;rw[eo] at hmem;have hm':=hmem _ LA;have hlen:(OL v++nE n old).length=n:=by rw[K6,Ku,yf];omega
 have e1:Aw (List.replicate n IntKind.u8).length (i.raw C 0 [old,[v]])=OL v++nE n old:=by
  rw[aaX,SX];exact Au hlen
 have hm2:Ar true w' (b,o) (List.replicate n .u8) (OL v++nE n old):=by rw[← e1];exact hm'
 have hf:=hq.frm;have hf2:CV w w' (fun b' j=>b'=b∧o≤j∧j<o+n):=hf.mono fun b' j _ hS=>by
  obtain⟨p,hp',h1,h2,h3⟩:=hS;rw[eo,Nc] at hp';subst hp';refine⟨h1,h2,?_⟩;have:(List.replicate n IntKind.u8).length=n:=SX;rw[← this];exact h3
 refine⟨he,?_,AHp hf2 hm hm2 hn,hq.gw⟩;have:=(hm2.take (n:=8) hn)
 rwa [List.take_left' (Ku v)] at this
end
end
section
open Go
section
variable{GB:Nat}{GC:Nat→Nat→Option Value}{ad:Nat→Nat×Nat}(hG:Jk GB GC ad){w:World}{b o c:Nat}{old:List Int}{v:Int}(ε:GW GC w)(δ:GB≤w.heap.size)(hB:GB≤b)(hv:JC .u64 v)
include hG ε δ hB hv
theorem AVR(hm:Ar true w (b,o) (List.replicate 64 .u8) old)(hc:64≤c):Calls Tryz.prog 155 #[.slice (some ⟨b,o,none⟩) 64 c,.int .u64 v] w (lG GC b o v w):=RI (by omega) (OV hG) rfl rfl rfl rfl rfl (fun _ _=>AAR) ε δ hB hm hc hv
theorem AUh(hm:Ar true w (b,o) (List.replicate 56 .u8) old)(hc:56≤c):Calls Tryz.prog 155 #[.slice (some ⟨b,o,none⟩) 56 c,.int .u64 v] w (lG GC b o v w):=RI (by omega) (MV hG) rfl rfl rfl rfl rfl (fun _ _=>zR) ε δ hB hm hc hv
theorem AVW(hm:Ar true w (b,o) (List.replicate 48 .u8) old)(hc:48≤c):Calls Tryz.prog 155 #[.slice (some ⟨b,o,none⟩) 48 c,.int .u64 v] w (lG GC b o v w):=RI (by omega) (Md hG) rfl rfl rfl rfl rfl (fun _ _=>AAL) ε δ hB hm hc hv
theorem AVH(hm:Ar true w (b,o) (List.replicate 40 .u8) old)(hc:40≤c):Calls Tryz.prog 155 #[.slice (some ⟨b,o,none⟩) 40 c,.int .u64 v] w (lG GC b o v w):=RI (by omega) (Mk hG) rfl rfl rfl rfl rfl (fun _ _=>yV) ε δ hB hm hc hv
theorem AWF(hm:Ar true w (b,o) (List.replicate 32 .u8) old)(hc:32≤c):Calls Tryz.prog 155 #[.slice (some ⟨b,o,none⟩) 32 c,.int .u64 v] w (lG GC b o v w):=RI (by omega) (MZ hG) rfl rfl rfl rfl rfl (fun _ _=>xI) ε δ hB hm hc hv
theorem AU0(hm:Ar true w (b,o) (List.replicate 24 .u8) old)(hc:24≤c):Calls Tryz.prog 155 #[.slice (some ⟨b,o,none⟩) 24 c,.int .u64 v] w (lG GC b o v w):=RI (by omega) (Mh hG) rfl rfl rfl rfl rfl (fun _ _=>yO) ε δ hB hm hc hv
theorem AUn(hm:Ar true w (b,o) (List.replicate 16 .u8) old)(hc:16≤c):Calls Tryz.prog 155 #[.slice (some ⟨b,o,none⟩) 16 c,.int .u64 v] w (lG GC b o v w):=RI (by omega) (Mf hG) rfl rfl rfl rfl rfl (fun _ _=>AAD) ε δ hB hm hc hv
theorem AQ5(hm:Ar true w (b,o) (List.replicate 8 .u8) old)(hc:8≤c):Calls Tryz.prog 155 #[.slice (some ⟨b,o,none⟩) 8 c,.int .u64 v] w (lG GC b o v w):=RI (by omega) (Mi hG) rfl rfl rfl rfl rfl (fun _ _=>lg) ε δ hB hm hc hv
end
def Gx(L:Nat):Nat:=if L%128<112 then 112-L%128 else 240-L%128
def gD(L:Nat):List Int:=128::(List.replicate (Gx L+7) 0++OL ((L*8:Nat):Int))
def qQ(h:List Int):List Int:=h.flatMap OL
def Kn(m:List Int):List Int:=qQ (hst (m++gD m.length))
theorem Zq(L:Nat):(gD L).length=Gx L+16:=by
 unfold gD;rw[Oq,K6,SX,Ku]
theorem Sq(L:Nat):1≤Gx L∧Gx L≤128∧(L+(Gx L+16))%128=0:=by
 unfold Gx
 split<;>omega
theorem zP(m:List Int):(m++gD m.length).length%128=0:=by
 rw[K6,Zq];exact (Sq _).2.2
theorem QR{w w':World}{b o n k:Nat}{xs:List Int}{v:Int}(h:Ar true w (b,o) (List.replicate n .u8) xs)(hf:CV w w' (fun b' i=>b'=b∧o+k≤i∧i<o+k+8))(hp:Ar true w' (b,o+k) (List.replicate 8 .u8) (OL v))(hk:k+8≤n):Ar true w' (b,o) (List.replicate n .u8) (lay xs (OL v) k):=by
 have hl:=h.len8;have h8:=Ku v;refine AF8 (by rw[ky (by omega)];exact hl) (fun z hz=>?_) fun i hi=>?_
 ·simp only[lay,iQ] at hz
  rcases hz with hz|hz|hz
  ·exact h.rng8 z (List.mem_of_mem_take hz)
  ·exact hp.rng8 z hz
  ·exact h.rng8 z (zcs hz)
 ·rw[xz (by omega)]
  split
  ·have:=(hp.at8 (i:=i-k) (by omega)).1
   rwa [show o+k+(i-k)=o+i by omega] at this
  ·exact hf.hasC (h.at8 hi).1 (fun hh=>by omega)
theorem xA{f:Bool}{w:World}{b o n k m:Nat}{xs:List Int}(h:Ar f w (b,o) (List.replicate n .u8) xs)(hk:k+m≤n):Ar f w (b,o+k) (List.replicate m .u8) ((xs.drop k).take m):=by
 have h1:=h.drop (n:=k) (by omega);exact h1.take (n:=m) (by omega)
theorem AJx(L:Nat):(lay (lay (List.replicate 144 0) [128] 0) (OL ((L*8:Nat):Int)) (Gx L+8)).take (Gx L+16)=gD L:=by
 obtain⟨h1,h2,-⟩:=Sq L;have e1:lay (List.replicate 144 (0:Int)) [128] 0=128::List.replicate 143 0:=rfl;rw[e1];unfold lay gD;have h8:=Ku ((L*8:Nat):Int);have e2:((128:Int)::List.replicate 143 0).take (Gx L+8)=128::List.replicate (Gx L+7) 0:=by
  rw[show Gx L+8=(Gx L+7)+1 by omega,List.take_succ_cons,List.take_replicate,show min (Gx L+7) 143=Gx L+7 by omega]
 rw[e2, ← YY];rw[List.take_left' (by rw[K6,Oq,SX,h8])];rfl
end
end Go.Proofs.YtloibefkijfdlaaGreatDoor
