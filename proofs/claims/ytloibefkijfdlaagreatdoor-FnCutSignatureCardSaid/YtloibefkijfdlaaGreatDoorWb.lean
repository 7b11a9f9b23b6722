/- SHA-512 in plain words: blocks, one behind the other. -/
import Derived.Test.YtloibefkijfdlaaGreatDoorHc
import Derived.Test.YtloibefkijfdlaaGreatDoorWa
import Derived.StillTail
namespace Go.Proofs.YtloibefkijfdlaaGreatDoor
section
open Go
theorem ANd:(Ri.sum AL (Ri.pre AL)).pr 0= .l λa=>BK 80 ((Ri.val AL a).getD 9 []):=rfl
theorem APU:∀k,k<8->(Ri.sum AL (Ri.pre AL)).pr (k+1)= .i λa=>d1 ((Ri.val AL a).getD k [])
 |0,_|1,_|2,_|3,_|4,_|5,_|6,_|7,_=>rfl
theorem AHs(a:List (List Int)):Ri.val AL a=K6 (Ri.step AL) 81 a:=by
 unfold JJ.val;rw[ACt]
theorem V8.aan{v:V8}{k:Nat}{x:List (List Int)}(h:k<8):(v.ls++x).getD k []=v.ls.getD k []:=by
 simp only[List.getD];rw[Zm (by simpa[V8.ls] using h)]
theorem V8.ajZ(v:V8)(x:List Int):(v.ls ++ [x]).getD 8 []=x:=rfl
theorem APK(v:V8):((List.range 8).map λk=>[d1 (v.ls.getD k [])])=v.ls:=rfl
theorem AKb{x:Int}:([x]:List Int).getD 0 0=x:=rfl
theorem ANv{v:V8}{ws bl:List Int}(h:ws.length=80):(s4 v.ls ws bl).take 9=(rV bl v 80).ls ++ [Og bl 80]:=by
 have hT:=@ASO lg.T v.a v.b v.c v.d v.e v.f v.g v.h ws bl;rw[<- Vq] at hT;have eC: [[v.a],[v.b],[v.c],[v.d],[v.e],[v.f],[v.g],[v.h],ws,bl]=v.ls ++ [ws,bl]:=rfl;rw[eC] at hT;have hA: [[v.a],[v.b],[v.c],[v.d],[v.e],[v.f],[v.g],[v.h],[0],ws,bl]=v.ls ++ [[0],ws,bl]:=rfl;simp only[hA] at hT;have hg0:gv lg.T (1000000+154) 0 (v.ls ++ [[0],ws,bl])=Og bl 80:=by
  rw[BQ rE,ANd];show BK 80 ((Ri.val _ _).getD 9 [])=_;rw[AHs,rJ h];show BK 80 (Og bl 80)=_;exact Bn (Oo _ _)
 have hgk:∀k,k<8->gv lg.T (1000000+154) (k+1) (v.ls ++ [[0],ws,bl])= [d1 ((rV bl v 80).ls.getD k [])]:=λk hk=>by
  rw[BQ rE,APU k hk];show[d1 ((Ri.val _ _).getD k [])]=_;rw[AHs,rJ h];rw[V8.aan hk]
 rw[hg0] at hT;have akK:((List.range 8).map λk=>[(gv lg.T (1000000+154) (k+1) (v.ls ++ [[0],ws,bl])).getD 0 0])=(rV bl v 80).ls:=by
  rw[Zx (g:=λk=>[d1 ((rV bl v 80).ls.getD k [])]) λk hk=>by rw[hgk k (lZ.1 hk),AKb]];exact APK _
 rw[akK] at hT;unfold s4;split
 ·rename_i r hr;rw[hr] at hT;simpa using hT
 ·rename_i hr;rw[hr] at hT;cases hT
theorem AQt(v:V8):s3 v.ls=(v.ls,v.ls):=by
 have:=@AOG v.a v.b v.c v.d v.e v.f v.g v.h;unfold s3;rw[show v.ls= [[v.a],[v.b],[v.c],[v.d],[v.e],[v.f],[v.g],[v.h]] from rfl,this]
theorem jK{k:Nat}(hk:k<8)(x y:Int):sA k [x] [y]= [KN .add x y]:=by
 have:=EH (λl=>l[k]?) (@AOH x y);simp only[Ng,List.getElem?_range hk,UA,Ai] at this;unfold sA;rw[this];rfl
theorem APy{h:List Int}(hl:h.length=8):wl h=(V8.of h).ls:=by
 match h,hl with
 | [a,b,c,d,e,f,g,i],_=>rfl
theorem AGi{h:List Int}{S:List (List Int)}{r:V8}{z:List Int}(hl:h.length=8)(hS:S.take 9=r.ls ++ [z]):
  ((List.range 8).map λk=>sA k ((V8.of h).ls.getD k []) (S.getD k []))=wl (List.zipWith (KN .add) h r.l)/\S.getD 8 []=z:=by
 have hg:∀k,k<9->S.getD k []=(r.ls ++ [z]).getD k []:=λk hk=>by
  rw[<- hS];simp only[List.getD];rw[List.getElem?_take_of_lt hk]
 refine⟨?_,(hg 8 (by omega)).trans (V8.ajZ _ _)⟩;have hk8:∀k,k<8->sA k ((V8.of h).ls.getD k []) (S.getD k [])= [KN .add (h.getD k 0) (r.l.getD k 0)]:=λk hk=>by
  rw[hg k (by omega)]
  match k,hk with
  |0,_=>exact jK (by omega) _ _
  |1,_=>exact jK (by omega) _ _
  |2,_=>exact jK (by omega) _ _
  |3,_=>exact jK (by omega) _ _
  |4,_=>exact jK (by omega) _ _
  |5,_=>exact jK (by omega) _ _
  |6,_=>exact jK (by omega) _ _
  |7,_=>exact jK (by omega) _ _
 rw[Zx λk hk=>hk8 k (lZ.1 hk)]
 match h,hl with
 | [a,b,c,d,e,f,g,i],_=>rfl
theorem APc{h ws bl:List Int}(hl:h.length=8)(hw:ws.length=80):xS (wl h) ws bl=(wl (yC h bl),Og bl 80):=by
 have h4:=ANv (v:=V8.of h) (bl:=bl) hw;unfold yC;generalize rV bl (V8.of h) 80=r at h4 ⊢;generalize Og bl 80=z at h4 ⊢;unfold xS;rw[APy hl,AQt];simp only;generalize s4 (V8.of h).ls ws bl=S at h4 ⊢;obtain⟨e1,e2⟩:=AGi hl h4;rw[e1,e2]
theorem Xq{h bl:List Int}(hl:h.length=8):(yC h bl).length=8:=by
 unfold yC;rw[List.length_zipWith,hl];rfl
theorem AAQ:∀ {n:Nat} {h ws xs:List Int},h.length=8->ws.length=80->Wg n (wl h) ws xs=wl (Qi n h xs)
 |0,h,ws,xs,_,_=>rfl
 |n+1,h,ws,xs,hl,hw=>by
  unfold Wg Qi;rw[APc hl hw];exact AAQ (Xq hl) (Oo _ _)
theorem ACW{n:Nat}{h xs:List Int}(hl:h.length=8):blk n h xs=Qi n h xs:=by
 unfold blk;rw[AAQ hl (by simp),AHD]
theorem kW:∀ {n:Nat} {h xs:List Int},h.length=8->(Qi n h xs).length=8
 |0,_h,_xs,hl=>hl
 |n+1,_h,_xs,hl=>kW (n:=n) (Xq hl)
theorem ZJ:∀ {m n:Nat} {h xs:List Int},Qi (m+n) h xs=Qi n (Qi m h xs) (xs.drop (m*128))
 |0,n,h,xs=>by simp[Qi]
 |m+1,n,h,xs=>by
  rw[show m+1+n=(m+n)+1 by omega];show Qi (m+n) (yC h (xs.take 128)) (xs.drop 128)=Qi n (Qi m (yC h (xs.take 128)) (xs.drop 128)) _;rw[ZJ,List.drop_drop]
  congr 2;omega
theorem az:∀ {n:Nat} {h xs:List Int} {k:Nat},n*128<=k->Qi n h (xs.take k)=Qi n h xs
 |0,h,xs,k,_=>rfl
 |n+1,h,xs,k,hk=>by
  show Qi n (yC h ((xs.take k).take 128)) ((xs.take k).drop 128)=Qi n (yC h (xs.take 128)) (xs.drop 128);rw[List.take_take,show min 128 k=128 by omega,List.drop_take,az (by omega)]
end
section
open Go
def H0:List Int:=[7640891576956012808,13503953896175478587,4354685564936845355,11912009170470909681,5840696475078001361,11170449401992604703,2270897969802886507,6620516959819538809]
def gf(m:List Int):List Int:=Qi (m.length/128) H0 m
theorem Vh(m:List Int):(gf m).length=8:=kW rfl
theorem ZN{n:Nat}{h m ys:List Int}(hm:n*128<=m.length):Qi n h (m++ys)=Qi n h m:=by
 rw[<- az (xs:=m++ys) (k:=m.length) hm,List.take_left]
theorem ADt{m ys:List Int}{q:Nat}(hm:m.length=q*128):gf (m++ys)=Qi (ys.length/128) (gf m) ys:=by
 unfold gf;have e1:(m++ys).length/128=q+ys.length/128:=by rw[MN,hm];omega
 rw[e1,ZJ,ZN (by omega),show m.length/128=q by omega]
 congr 1
 rw[<- hm,List.drop_left]
theorem ko{m ys:List Int}(h:m.length%128+ys.length<128):gf (m++ys)=gf m:=by
 unfold gf;rw[MN,show(m.length+ys.length)/128=m.length/128 by omega,ZN (by omega)]
theorem AC3{m ys:List Int}(h:m.length%128+ys.length=128):gf (m++ys)=Qi 1 (gf m) (m.drop (m.length/128*128)++ys):=by
 unfold gf;rw[MN,show(m.length+ys.length)/128=m.length/128+1 by omega,ZJ,ZN (by omega),List.drop_append_of_le_length (by omega)]
structure Dg (w:World) (B o:Nat) (h x:List Int) (nx L:Nat):Prop where
 hh:AQ true w (B,o) (List.replicate 8 .u64) h
 hx:AQ true w (B,o+8) (List.replicate 128 .u8) x
 hn:CY true w B (o+136) (.int .i64 nx)
 hl:CY true w B (o+137) (.int .u64 L)
 hs:CY true w B (o+138) (.int .i64 64)
theorem Dg.an{w w':World}{B o:Nat}{h x:List Int}{nx L:Nat}{S:Nat->Nat->Prop}(d:Dg w B o h x nx L)(hf:BM w w' S)(hn:∀i,¬S B i):Dg w' B o h x nx L:=
 ⟨d.hh.an hf λ_ _=>hn _,d.hx.an hf λ_ _=>hn _,hf.fp d.hn (hn _),hf.fp d.hl (hn _),hf.fp d.hs (hn _)⟩
theorem AQ.Mp{w:World}{b o o':Nat}{ks:List IntKind}{xs:List Int}{v:Value}(h:AQ true w (b,o) ks xs)(hn:o'<o\/o+ks.length<=o'):AQ true (w.setCell ⟨b,o',none⟩ v) (b,o) ks xs:=
 ⟨h.1,λi k x hk hx=>(h.2 i k x hk hx).cX (by
  have:=(OQ.1 hk).1;show ¬(b=b/\o+i=o');omega)⟩
theorem Dg.An{w:World}{B o:Nat}{h x:List Int}{nx L:Nat}(d:Dg w B o h x nx L)(k:Nat):Dg (w.setCell ⟨B,o+136,none⟩ (.int .i64 k)) B o h x k L:=
 ⟨d.hh.Mp (by simp),d.hx.Mp (by simp),d.hn.nj,d.hl.cX (by omega),d.hs.cX (by omega)⟩
theorem Dg.ajH{w:World}{B o:Nat}{h x:List Int}{nx L:Nat}(d:Dg w B o h x nx L)(k:Nat):Dg (w.setCell ⟨B,o+137,none⟩ (.int .u64 k)) B o h x nx k:=
 ⟨d.hh.Mp (by simp),d.hx.Mp (by simp),d.hn.cX (by omega),d.hl.nj,d.hs.cX (by omega)⟩
theorem Dg.lay{w:World}{B o:Nat}{h x:List Int}{nx L:Nat}(d:Dg w B o h x nx L){ys:List Int}{r:Nat}(hy:∀y∈ys,0<=y/\y<=255)(hr:r+ys.length<=128):Dg (w.setCells B (o+8+r) (v8 ys)) B o h (Go.Proofs.YtloibefkijfdlaaGreatDoor.lay x ys r) nx L:=by
 have C7:(v8 ys).length=ys.length:=by simp[v8]
 refine⟨⟨d.hh.1,λi k x hk hx=>JA (d.hh.2 i k x hk hx) (.inr (.inl ?_))⟩,Vr d.hx hy hr,JA d.hn (by omega),JA d.hl (by omega),JA d.hs (by omega)⟩;have:i<8:=by have:=(OQ.1 hk).1;simpa using this
 show o+i<o+8+r;omega
theorem tJ{w w':World}{B o:Nat}{v:Value}(h:BM w w' (λb _=>b=B)):BM w (w'.setCell ⟨B,o,none⟩ v) (λb _=>b=B):=h.setCell (.inr rfl)
structure HG (w:World) (B o:Nat) (m:List Int):Prop where
 ex:∃x,Dg w B o (gf m) x (m.length%128) m.length/\x.take (m.length%128)=m.drop (m.length/128*128)
theorem HG.an{w w':World}{B o:Nat}{m:List Int}{S:Nat->Nat->Prop}(d:HG w B o m)(hf:BM w w' S)(hn:∀i,¬S B i):HG w' B o m:=by
 obtain⟨x,h,e⟩:=d.ex;exact⟨x,h.an hf hn,e⟩
theorem YE{x:Int}(h:0<=x)(h2:x<18446744073709551616):IntKind.u64.wrap x=x:=JZ (k:=.u64) ⟨h,by show x<=18446744073709551615;omega⟩
section
variable{P:Program}{ops:Array Oper}{rest:List Oper}{a:Act}{w:World}{n:Nat}{f:Nat->Value}{K:Act->Prop}
theorem CK{o:Oper}{t:Nat}{v:Value}(F:Fr a n f)(hg:o.guard=none)(hd:o.dst=some t)(ht:Nat.blt t n=true)(h:(execOp a.eval o).run P w= .ok (.value v) w)(hn:∀a',Fr a' n (Ta f t v)->wpStill P ops w K rest a'):wpStill P ops w K (o::rest) a:=by
 unfold wpStill;rw[if_pos (by simp[Region.wanted,hg])];unfold Oper.still;rw[h,Oper.stillUpon_value,hd];exact hn _ (F.put ht v)
theorem Ee{t x:Nat}{ty:TypeId}{pos:String}{af:Array Edge}(F:Fr a n f)(ht:Nat.blt t n=true)(hn:∀a',Fr a' n (Ta f t (f x))->wpStill P ops w K rest a'):wpStill P ops w K (⟨some t,.move (.tmp x),ty,pos,af,none⟩::rest) a:=
 CK F rfl rfl ht (by simp only[execOp,F.ev (t:=x) rfl];rfl) hn
theorem JQ{t x:Nat}{p:Addr}{ty:TypeId}{pos:String}{af:Array Edge}(F:Fr a n f)(hx:f x= .pointer (some p))(ht:Nat.blt t n=true)(hn:∀a',Fr a' n (Ta f t (.pointer (some p)))->wpStill P ops w K rest a'):wpStill P ops w K (⟨some t,.nilCheck (.tmp x),ty,pos,af,none⟩::rest) a:=
 CK F rfl rfl ht (AIL (F.ev hx)) hn
end
theorem AO{P:Program}{Q:Exit->Act->World->Prop}{a:Act}{w:World}{id:Nat}{l:List Oper}{y:Code}(h:wpList P l.toArray (Exit.then (y.wp P Q) Q) l a w):(Code.seq (.region id l.toArray false) y).wp P Q a w:=wp_seq (cE h)
theorem AJ{P:Program}{ops:Array Oper}{Q:Exit->Act->World->Prop}{a:Act}{w:World}{y:Code}(h:y.wp P Q a w):wpList P ops (Exit.then (y.wp P Q) Q) [] a w:=h
theorem mX(x:BitVec 64):x &&& ~~~(127#64)=(x >>> 7) <<< 7:=by
 have e: ~~~(127#64)=(BitVec.allOnes 64) <<< 7:=by decide
 rw[e];apply BitVec.eq_of_getLsbD_eq;intro i hi;simp only[BitVec.getLsbD_and,BitVec.getLsbD_shiftLeft,BitVec.getLsbD_allOnes,BitVec.getLsbD_ushiftRight];by_cases h:i<7
 ·simp[h]
 ·have h2:i-7<64:=by omega
  simp[h,hi,h2,show 7+(i-7)=i by omega]
theorem ADL{i:Nat}(hi:i<9223372036854775808):bits .andNot .i64 (i:Int) 127=((i/128*128:Nat):Int):=by
 unfold bits;have e:(BitVec.ofInt 64 (i:Int) &&& ~~~(BitVec.ofInt 64 127)).toNat=i/128*128:=by
  rw[show BitVec.ofInt 64 127=127#64 by decide,mX];simp only[BitVec.toNat_shiftLeft,BitVec.toNat_ushiftRight,BitVec.toNat_ofInt];rw[Nat.shiftLeft_eq,Nat.shiftRight_eq_div_pow];omega
 show IntKind.i64.wrap ((BitVec.ofInt 64 (i:Int) &&& ~~~(BitVec.ofInt 64 127)).toNat:Int)=_;rw[e,JZ (k:=.i64) ⟨by show(-9223372036854775808:Int)<=_;omega,by show _<=(9223372036854775807:Int);omega⟩]
theorem AMs{ρ:Operand->Value}{d:Option Tmp}{x y:Operand}{ty:TypeId}{pos:String}{af:Array Edge}{w:World}{i:Nat}(h:ρ x= .int .i64 i)(hy:ρ y= .int .i64 127)(hi:i<9223372036854775808):(execOp ρ ⟨d,.binOp .andNot 3 x y 3,ty,pos,af,none⟩).run Tryz.prog w= .ok (.value (.int .i64 ((i/128*128:Nat):Int))) w:=by
 have:=ADL hi;simp[execOp,go_sem,h,hy];exact this
structure WrP (GC:Nat->Nat->Option Value) (B o:Nat) (m xs:List Int) (w:World) (e:Ending) (w':World):Prop where
 ret:e= .returned (.tuple #[.int .i64 xs.length,.nilIface])
 ov:HG w' B o (m++xs)
 an:BM w w' (λb _=>b=B)
 gw:GW GC w'
theorem Ig{GB:Nat}{GC:Nat->Nat->Option Value}{ad:Nat->Nat×Nat}(hG:Gw GB GC ad){w w':World}{B:Nat}(h:GW GC w)(hf:BM w w' (λb _=>b=B))(hB:GB<=B):GW GC w':=λb o v hv=>(hf.fp (f:=false) ⟨h b o v hv,λh=>(by cases h)⟩ (λ(e:b=B)=>by have:=hG.lt b o v hv;omega)).1
structure St1 (GC:Nat->Nat->Option Value) (B o N:Nat) (m1:List Int) (w0 w:World):Prop where
 an:BM w0 w (λb _=>b=B)
 gw:GW GC w
 dg:∃x,Dg w B o (gf m1) x (m1.length%128) N/\x.take (m1.length%128)=m1.drop (m1.length/128*128)
structure Fx (B o N:Nat) (v:Value) (a:Act) (f:Nat->Value):Prop where
 fr:Fr a 85 f
 f0:f 0= .pointer (some ⟨B,o,none⟩)
 f1:f 1=v
 f4:f 4= .int .i64 N
 f5:f 5= .nilIface
theorem Fx.nB{B o N:Nat}{v:Value}{a:Act}{f:Nat->Value}(h:Fx B o N v a f):Fr a 85 (Ta (Ta (Ta (Ta f 0 (.pointer (some ⟨B,o,none⟩))) 1 v) 4 (.int .i64 N)) 5 .nilIface):=
 (((h.fr.nB h.f0).nB (t:=1) (by rw[Oa (by omega)];exact h.f1)).nB (t:=4) (by rw[Oa (by omega),Oa (by omega)];exact h.f4)).nB (t:=5) (by rw[Oa (by omega),Oa (by omega),Oa (by omega)];exact h.f5)
theorem St1.heap{GC:Nat->Nat->Option Value}{B o N:Nat}{m1:List Int}{w0 w w':World}(h:St1 GC B o N m1 w0 w)(hf:BM w w' (λb _=>b=B))(hg:GW GC w'){x':List Int}(hd:Dg w' B o (gf m1) x' (m1.length%128) N)(hx:x'.take (m1.length%128)=m1.drop (m1.length/128*128)):St1 GC B o N m1 w0 w':=
 ⟨h.an.trans hf,hg,x',hd,hx⟩
theorem uO{ρ:Operand->Value}{d:Option Tmp}{x y:Operand}{ty:TypeId}{pos:String}{af:Array Edge}{w:World}{B b o k c:Nat}{v:Value}{ys:List Int}(hx:ρ x= .slice (some ⟨b,o,none⟩) k c)(hy:ρ y=v)(hp:XY w B v ys)(hd:∀i,i<k->∃u,CY true w b (o+i) u):
  (execOp ρ ⟨d,.call ⟨.builtin .copy,#[x,y],#[22,22]⟩,ty,pos,af,none⟩).run Tryz.prog w= .ok (.value (.int .i64 (min k ys.length:Nat))) (w.setCells b o (v8 (ys.take k))):=by
 obtain⟨ap,c',rfl,h2,h3,h4⟩:=hp;by_cases h0:Nat.min ys.length k=0
 ·have e1:min k ys.length=0:=by rw[Nat.min_comm];exact h0
  have e2:ys.take k= []:=I3 (by rw[Rk];exact e1);rw[e1,e2];exact AGE hx hy h0
 ·have SU:0<ys.length:=by
   rcases Nat.eq_zero_or_pos ys.length with h|h
   ·exact absurd (by rw[h];exact Nat.zero_min k) h0
   ·exact h
  obtain⟨b',o',rfl,hb,hc⟩:=h4 SU;have hl:(ys.take k).length=Nat.min ys.length k:=by rw[Rk];exact Nat.min_comm _ _
  have:=AAf (d:=d) (ty:=ty) (pos:=pos) (af:=af) (w:=w) (ys:=ys.take k) hx hy hl (λi hi=>by
   rw[Rk] at hi;rw[Cu,hc i (by omega)];simp[List.getD,show i<k by omega]) (λi hi=>by rw[Rk] at hi;exact hd i (by omega))
  rw[Rk] at this;exact this
theorem AEM{ρ:Operand->Value}{d:Option Tmp}{x y:Operand}{ty:TypeId}{pos:String}{af:Array Edge}{w:World}{B b o k c:Nat}{v:Value}{ys:List Int}(hx:ρ x= .slice (some ⟨b,o,none⟩) k c)(hy:ρ y=v)(hp:XY w B v ys)(hk:ys.length<=k)(hd:∀i,i<k->∃u,CY true w b (o+i) u):
  (execOp ρ ⟨d,.call ⟨.builtin .copy,#[x,y],#[22,22]⟩,ty,pos,af,none⟩).run Tryz.prog w= .ok (.value (.int .i64 ys.length)) (w.setCells b o (v8 ys)):=by
 have:=uO (d:=d) (ty:=ty) (pos:=pos) (af:=af) hx hy hp hd;rwa [show min k ys.length=ys.length by omega,N3 hk] at this
theorem Mg{P:Program}{Q:Exit->Act->World->Prop}{a:Act}{w:World}(h:Q .normal a w):Code.skip.wp P Q a w:=wp_skip h
theorem bI{GB:Nat}{GC:Nat->Nat->Option Value}{ad:Nat->Nat×Nat}(hG:Gw GB GC ad){w:World}{B o n pb po c:Nat}{h xs:List Int}(ε:GW GC w)(δ:GB<=w.heap.size)(hB:GB<=B)(hh:AQ true w (B,o) (List.replicate 8 .u64) h)(hp:AQ false w (pb,po) (List.replicate (n*128) .u8) xs)(hn:0<n)(hc:n*128<=c):
  Calls Tryz.prog 109 #[.pointer (some ⟨B,o,none⟩),.slice (some ⟨pb,po,none⟩) (n*128) c] w (AQd GC B o n h xs w):=by
 refine enter (args:=[.pointer (some ⟨B,o,none⟩),.slice (some ⟨pb,po,none⟩) (n*128) c]) Tryz.func109 rfl (n:=7) rfl λa F=>?_
 refine cE (AA F rfl λa F=>AA F rfl λa F=>DI F rfl (Au rfl F.e F.e Tryz.call154) (AFD hG ε δ hB hh hp hn hc) λe w5 h5=>⟨_,h5.ret,λa F=>EM ?_⟩);refine⟨F.df,.tuple #[],by simp[results,go_sem],rfl,h5.mem,h5.an,h5.gw⟩
set_option maxRecDepth 100000 in
set_option maxHeartbeats 1000000 in
theorem Eo{GB:Nat}{GC:Nat->Nat->Option Value}{ad:Nat->Nat×Nat}(hG:Gw GB GC ad){w:World}{B o:Nat}{m xs:List Int}{v:Value}(ε:GW GC w)(δ:GB<=w.heap.size)(hB:GB<=B)(hd:HG w B o m)(hp:XY w B v xs)(hlen:m.length+xs.length<1152921504606846976):
  Calls Tryz.prog 93 #[.pointer (some ⟨B,o,none⟩),v] w (WrP GC B o m xs w):=by
 obtain⟨x,D,hxm⟩:=hd.ex;have hp0:=hp;obtain⟨ap,c,rfl,hc,hr,-⟩:=hp;refine enter (args:=[.pointer (some ⟨B,o,none⟩),.slice ap xs.length c]) Tryz.func93 rfl (n:=85) rfl λa F=>?_
 refine AO (AX F rfl λa F=>AX F rfl λa F=>AJ ?_);refine AO (AA F rfl λa F=>AZ F rfl (NL F.e) λa F=>AB F rfl λa F=>AJ ?_);refine AO (AA F rfl λa F=>FI F rfl rfl λa F=>AZ F rfl (AJK F.e) λa F=>AZ F rfl (Qw F.e D.hl.1) λa F=>AA F rfl λa F=>AZ F rfl (ASm F.e) λa F=>
  AZ F rfl (nN F.e F.e) λa F=>FI F rfl rfl λa F=>AZ F rfl (AJK F.e) λa F=>K9 F rfl rfl (AHX F.e F.e D.hl) λa F=>AJ ?_)
 have hN:IntKind.u64.wrap ((m.length:Int)+IntKind.u64.wrap (xs.length:Int))=((m.length+xs.length:Nat):Int):=by
  rw[YE (x:=(xs.length:Int)) (by omega) (by omega),YE (by omega) (by omega)];omega
 rw[hN];have D1:Dg (w.setCell ⟨B,o+137,none⟩ (.int .u64 ((m.length+xs.length:Nat):Int))) B o (gf m) x (m.length%128) (m.length+xs.length):=D.ajH _;have A6:BM w (w.setCell ⟨B,o+137,none⟩ (.int .u64 ((m.length+xs.length:Nat):Int))) (λb _=>b=B):=tJ (BM.refl _ _);generalize w.setCell ⟨B,o+137,none⟩ (.int .u64 ((m.length+xs.length:Nat):Int))=w1 at D1 A6 ⊢;have AW:=hp0.an A6;have MD:=Ig hG ε A6 hB;generalize hM:m.length+xs.length=N at D1 hlen ⊢;refine Jy (J:=λa w'=>∃f m1 ys v,m1++ys=m++xs/\Fx B o xs.length v a f/\XY w' B v ys/\(ys= []\/m1.length%128=0)/\St1 GC B o N m1 w w') ?_ ?_
 ·refine AO (AA F rfl λa F=>FI F rfl rfl λa F=>AZ F rfl (ig F.e) λa F=>AZ F rfl (Yn F.e D1.hn.1) λa F=>AZ F rfl (V3 F.e rfl) λa F=>AJ (fw F rfl (λhb=>?_) λhb=>?_))
  ·have td:0<m.length%128:=by have:=of_decide_eq_true hb;omega
   refine wp_seq (wp_region_still_tail 9 mixed (by kernel_rfl) ?_);have e1:({ w1 with drawn:=w1.drawn+1 }:World).heap=w1.heap:=rfl;have Ek:BM w1 { w1 with drawn:=w1.drawn+1 } (λb _=>b=B):=(BM.refl _ _).of_heap rfl rfl rfl rfl;have D2:Dg { w1 with drawn:=w1.drawn+1 } B o (gf m) x (m.length%128) N:=D1.an ((BM.refl w1 (λ_ _=>False)).of_heap (w':= { w1 with drawn:=w1.drawn+1 }) rfl rfl rfl rfl) λ_ h=>h
   generalize ({ w1 with drawn:=w1.drawn+1 }:World)=w2 at D2 Ek ⊢;have ot:=AW.an Ek;have aal:=Ig hG MD Ek hB;refine Ee F rfl λa F=>JQ F rfl rfl λa F=>CK F rfl rfl rfl (AJm F.e) λa F=>Ee F rfl λa F=>JQ F rfl rfl λa F=>CK F rfl rfl rfl (ig F.e) λa F=>CK F rfl rfl rfl (Yn F.e D2.hn.1) λa F=>
    CK F rfl rfl rfl (ANx F.e F.e (by omega)) λa F=>Ee F rfl λa F=>?_
   refine AZ F rfl (uO F.e F.e ot (λi hi=>⟨_,by
    have:=(D2.hx.at8 (i:=m.length%128+i) (by omega)).1;rwa [<- Ve] at this⟩)) λa F=>AB F rfl λa F=>AJ ?_
   generalize hys:xs.take (128-m.length%128)=ys at F ⊢;generalize hk:min (128-m.length%128) xs.length=k at F ⊢;have SP:ys.length=k:=by rw[<- hys,Rk];exact hk
   have hy8:∀y∈ys,0<=y/\y<=255:=λy hy=>hr y (by rw[<- hys] at hy;exact List.mem_of_mem_take hy)
   have hyx:ys=xs.take k:=by rw[<- hys, <- hk,List.take_eq_take_iff];omega
   have D3:=D2.lay (ys:=ys) (r:=m.length%128) hy8 (by omega);have hf3:BM w2 (w2.setCells B (o+8+m.length%128) (v8 ys)) (λb _=>b=B):=EK _ _ (BM.refl _ _) λ_ _=>.inr rfl
   have hx3:(lay x ys (m.length%128)).take (m.length%128+k)=m.drop (m.length/128*128)++ys:=by
    have hxl:=D.hx.len8;unfold lay;rw[hxm, <- bU];refine List.take_left' ?_;rw[MN,Uj,SP];omega
   have aiL:(lay x ys (m.length%128)).length=128:=by rw[gZ (by have:=D.hx.len8;omega)];exact D.hx.len8
   generalize lay x ys (m.length%128)=x3 at D3 hx3 aiL;generalize w2.setCells B (o+8+m.length%128) (v8 ys)=w3 at D3 hf3 ⊢;have aeP:=Ig hG aal hf3 hB;refine AO (AA F rfl λa F=>FI F rfl rfl λa F=>AZ F rfl (ig F.e) λa F=>AZ F rfl (Yn F.e D3.hn.1) λa F=>AA F rfl λa F=>AZ F rfl (qH F.e F.e) λa F=>
    FI F rfl rfl λa F=>AZ F rfl (ig F.e) λa F=>K9 F rfl rfl (ABO F.e F.e D3.hn) λa F=>AJ ?_)
   have HN:IntKind.i64.wrap (((m.length%128:Nat):Int)+((k:Nat):Int))=((m.length%128+k:Nat):Int):=by
    rw[xG (by omega) (by omega)];omega
   rw[HN] at F ⊢;have D4:Dg (w3.setCell ⟨B,o+136,none⟩ (.int .i64 ((m.length%128+k:Nat):Int))) B o (gf m) x3 (m.length%128+k) N:=D3.An _;have WD:BM w3 (w3.setCell ⟨B,o+136,none⟩ (.int .i64 ((m.length%128+k:Nat):Int))) (λb _=>b=B):=tJ (BM.refl _ _);generalize w3.setCell ⟨B,o+136,none⟩ (.int .i64 ((m.length%128+k:Nat):Int))=w4 at D4 WD ⊢;have adm:=Ig hG aeP WD hB;have W7:BM w w4 (λb _=>b=B):=((A6.trans Ek).trans hf3).trans WD;have gr:(m++ys).length=m.length+k:=by rw[MN,SP]
   refine Jy (J:=λa w'=>∃f,Fx B o xs.length (.slice ap xs.length c) a f/\f 6= .int .i64 (k:Nat)/\St1 GC B o N (m++ys) w w') ?_ ?_
   ·refine AO (AA F rfl λa F=>FI F rfl rfl λa F=>AZ F rfl (ig F.e) λa F=>AZ F rfl (Yn F.e D4.hn.1) λa F=>AZ F rfl (ACo F.e rfl) λa F=>AJ (fw F rfl (λhb=>?_) λhb=>?_))
    ·have adJ:m.length%128+k=128:=by have:=eq_of_beq hb;omega
     have hpx:AQ false w4 (B,o+8) (List.replicate (1*128) .u8) x3:=⟨D4.hx.1,λi k x hk hx=>(D4.hx.2 i k x hk hx).gO⟩;refine AO (AA F rfl λa F=>AA F rfl λa F=>FI F rfl rfl λa F=>AZ F rfl (AJm F.e) λa F=>AZ F rfl (AHS F.e) λa F=>
      DI F rfl (Au rfl F.e F.e Tryz.call109) (bI (n:=1) (pb:=B) (po:=o+8) (c:=128) hG adm (z8 δ W7.1) hB D4.hh hpx (by omega) (by omega)) λe w5 h5=>⟨_,h5.ret,λa F=>AJ ?_⟩)
     have hf5:BM w4 w5 (λb _=>b=B):=h5.an.mono λb i _ h=>h.1
     have D5:Dg w5 B o (blk 1 (gf m) x3) x3 (m.length%128+k) N:=⟨h5.mem,D4.hx.an h5.an λi _ h=>by omega,h5.an.fp D4.hn (by omega),h5.an.fp D4.hl (by omega),h5.an.fp D4.hs (by omega)⟩;refine cE (AA F rfl λa F=>FI F rfl rfl λa F=>AZ F rfl (ig F.e) λa F=>K9 F rfl rfl (ABO F.e rfl D5.hn) λa F=>EM ⟨rfl,_,⟨F,rfl,rfl,rfl,rfl⟩,rfl,?_⟩);have D6:Dg (w5.setCell ⟨B,o+136,none⟩ (.int .i64 0)) B o (blk 1 (gf m) x3) x3 0 N:=D5.An 0;have hf6:BM w5 (w5.setCell ⟨B,o+136,none⟩ (.int .i64 0)) (λb _=>b=B):=tJ (BM.refl _ _);have hh:blk 1 (gf m) x3=gf (m++ys):=by
      rw[ACW (Vh m),AC3 (by omega)];rw[<- hx3,adJ,N3 (by omega)]
     rw[hh] at D6;have adM:(m++ys).length%128=0:=by omega
     refine⟨(W7.trans hf5).trans hf6,Ig hG h5.gw hf6 hB,x3,by rw[adM];exact D6,?_⟩;rw[adM,List.drop_of_length_le (by omega)];rfl
    ·have cf:m.length%128+k<128:=by
      have:¬(((m.length%128+k:Nat):Int)=128):=by simpa using hb
      omega
     refine Mg ⟨rfl,_,⟨F,rfl,rfl,rfl,rfl⟩,rfl,W7,adm,x3,?_,?_⟩
     ·rw[ko (by omega),gr,show(m.length+k)%128=m.length%128+k by omega];exact D4
     ·rw[gr,show(m.length+k)%128=m.length%128+k by omega,hx3,show(m.length+k)/128=m.length/128 by omega,List.drop_append_of_le_length (by omega)]
   ·rintro a w5 ⟨f,Fx1,h6,S5⟩;have F:=Fx1.nB.nB (t:=6) (v:=.int .i64 (k:Nat)) (by rw[Oa (by omega),Oa (by omega),Oa (by omega),Oa (by omega)];exact h6);have hp5:=hp0.an S5.an;refine cE (AA F rfl λa F=>AA F rfl λa F=>AZ F rfl (tq F.e F.e (by omega) hc) λa F=>AB F rfl λa F=>EM ⟨rfl,_,m++ys,xs.drop k,_,?_,⟨F,rfl,rfl,rfl,rfl⟩,hp5.drop k (by omega) _ _ _ rfl,?_,S5⟩)
    ·rw[hyx,bU,List.take_append_drop]
    ·by_cases AM:k=xs.length
     ·left;rw[AM];exact List.drop_length
     ·right;omega
  ·have td:m.length%128=0:=by
    have:¬((0:Int)<((m.length%128:Nat):Int)):=of_decide_eq_false hb;omega
   exact Mg ⟨rfl,_,m,xs,_,rfl,⟨F,rfl,rfl,rfl,rfl⟩,AW,.inr td,A6,MD,x,D1,hxm⟩
 ·rintro a w2 ⟨f,m1,ys,v,hmy,Fx1,hpy,hor,S1⟩;have F:=Fx1.nB;have ajq:m1.length+ys.length=N:=by
   have:=EH List.length hmy;rw[MN,MN] at this;omega
  obtain⟨ap1,c1,rfl,tS,tc,aby⟩:=id hpy;refine Jy (J:=λa w'=>∃f m1 ys v,m1++ys=m++xs/\Fx B o xs.length v a f/\XY w' B v ys/\(ys= []\/m1.length%128=0)/\ys.length<128/\St1 GC B o N m1 w w') ?_ ?_
  ·refine AO (AA F rfl λa F=>AZ F rfl (NL F.e) λa F=>AZ F rfl (Un F.e rfl) λa F=>AJ (fw F rfl (λhb=>?_) λhb=>?_))
   ·have oR:128<=ys.length:=by have:=of_decide_eq_true hb;omega
    have td:m1.length%128=0:=hor.resolve_left (λh=>by rw[h] at oR;simp at oR);obtain⟨b0,o0,rfl,hbB,cY⟩:=aby (by omega);clear aby;obtain⟨x2,D2,Rr⟩:=S1.dg;refine AO (AA F rfl λa F=>AZ F rfl (NL F.e) λa F=>AZ F rfl (AMs F.e rfl (by omega)) λa F=>AB F rfl λa F=>AJ ?_);have hpm:AQ false w2 (b0,o0) (List.replicate (ys.length/128*128) .u8) (ys.take (ys.length/128*128)):=AAq (by rw[Rk];omega) (λy hy=>tc y (List.mem_of_mem_take hy)) λi hi=>⟨by
     rw[cY i (by omega)];simp[List.getD,hi],λh=>by cases h⟩
    refine AO (AA F rfl λa F=>AA F rfl λa F=>AA F rfl λa F=>AZ F rfl (Yh F.e F.e (by omega)) λa F=>
     DI F rfl (Au rfl F.e F.e Tryz.call109) (bI (n:=ys.length/128) (pb:=b0) (po:=o0) (c:=c1) hG S1.gw (z8 δ S1.an.1) hB D2.hh hpm (by omega) (by omega)) λe w3 h3=>⟨_,h3.ret,λa F=>AJ ?_⟩)
    have hf3:BM w2 w3 (λb _=>b=B):=h3.an.mono λb i _ h=>h.1
    have hh:blk (ys.length/128) (gf m1) (ys.take (ys.length/128*128))=gf (m1++ys.take (ys.length/128*128)):=by
     rw[ACW (Vh m1),ADt (q:=m1.length/128) (by omega),Rk,show min (ys.length/128*128) ys.length/128=ys.length/128 by omega]
    have D3:Dg w3 B o (gf (m1++ys.take (ys.length/128*128))) x2 (m1.length%128) N:=⟨by rw[<- hh];exact h3.mem,D2.hx.an h3.an λi _ h=>by omega,h3.an.fp D2.hn (by omega),h3.an.fp D2.hl (by omega),h3.an.fp D2.hs (by omega)⟩;have hl3:(m1++ys.take (ys.length/128*128)).length=m1.length+ys.length/128*128:=by rw[MN,Rk];omega
    refine cE (AA F rfl λa F=>AA F rfl λa F=>AZ F rfl (tq F.e F.e (by omega) tS) λa F=>AB F rfl λa F=>EM ⟨rfl,_,m1++ys.take (ys.length/128*128),ys.drop (ys.length/128*128),_,?_,⟨F,rfl,rfl,rfl,rfl⟩,(hpy.an hf3).drop _ (by omega) _ _ _ rfl,.inr (by omega),by rw[Uj];omega,S1.an.trans hf3,h3.gw,x2,?_,?_⟩)
    ·rw[bU,List.take_append_drop,hmy]
    ·rw[show(m1++ys.take (ys.length/128*128)).length%128=m1.length%128 by omega];exact D3
    ·rw[show(m1++ys.take (ys.length/128*128)).length%128=0 by omega,List.drop_of_length_le (by omega)];rfl
   ·have cf:ys.length<128:=by have:=of_decide_eq_false hb;omega
    exact Mg ⟨rfl,_,m1,ys,_,hmy,⟨F,rfl,rfl,rfl,rfl⟩,hpy,hor,cf,S1⟩
  ·clear F Fx1 hpy hor S1 hmy ajq tS tc aby;rintro a w3 ⟨f,m2,zs,v,hmz,Fx2,hpz,hor,cf,S2⟩;have F:=Fx2.nB;have arD:m2.length+zs.length=N:=by
    have:=EH List.length hmz;rw[MN,MN] at this;omega
   obtain⟨ap2,c2,rfl,Dd,hr2,-⟩:=id hpz;refine Jy (J:=λa w'=>∃f,Fx B o xs.length (.slice ap2 zs.length c2) a f/\St1 GC B o N (m2++zs) w w') ?_ ?_
   ·refine AO (AA F rfl λa F=>AZ F rfl (NL F.e) λa F=>AZ F rfl (V3 F.e rfl) λa F=>AJ (fw F rfl (λhb=>?_) λhb=>?_))
    ·have hgt:0<zs.length:=by have:=of_decide_eq_true hb;omega
     have td:m2.length%128=0:=hor.resolve_left (λh=>by rw[h] at hgt;simp at hgt);obtain⟨x3,D3,hx3⟩:=S2.dg;have D4:=D3.lay (ys:=zs) (r:=0) hr2 (by omega);have WD:BM w3 (w3.setCells B (o+8+0) (v8 zs)) (λb _=>b=B):=EK _ _ (BM.refl _ _) λ_ _=>.inr rfl
     refine cE (AA F rfl λa F=>AA F rfl λa F=>FI F rfl rfl λa F=>AZ F rfl (AJm F.e) λa F=>AZ F rfl (AHS F.e) λa F=>AA F rfl λa F=>
      AZ F rfl (AEM F.e F.e hpz (by omega) (λi hi=>⟨_,(D3.hx.at8 hi).1⟩)) λa F=>FI F rfl rfl λa F=>AZ F rfl (ig F.e) λa F=>K9 F rfl rfl (ABO F.e F.e D4.hn) λa F=>EM ⟨rfl,_,⟨F,rfl,rfl,rfl,rfl⟩,?_⟩)
     have D5:=D4.An zs.length;have hf5:=tJ (o:=o+136) (v:=.int .i64 (zs.length:Nat)) WD;have hh:gf (m2++zs)=gf m2:=ko (by omega);have hl5:(m2++zs).length=m2.length+zs.length:=MN;refine⟨S2.an.trans hf5,Ig hG S2.gw hf5 hB,lay x3 zs 0,?_,?_⟩
     ·rw[hh,hl5,show(m2.length+zs.length)%128=zs.length by omega];exact D5
     ·rw[hl5,show(m2.length+zs.length)%128=zs.length by omega,show(m2.length+zs.length)/128*128=m2.length by omega,List.drop_left];unfold lay;rw[zcx,yN,List.take_left]
    ·have h0:zs= []:=I3 (by have:=of_decide_eq_false hb;omega);refine Mg ⟨rfl,_,⟨F,rfl,rfl,rfl,rfl⟩,?_⟩;subst h0;rw[Rw];exact S2
   ·rintro a w4 ⟨f,Fx3,S3⟩;rw[hmz] at S3;refine DC ⟨Fx3.fr.df,.tuple #[.int .i64 xs.length,.nilIface],?_,rfl,⟨?_⟩,S3.an,S3.gw⟩
    ·have h4:=Fx3.fr.tm 4;have h5:=Fx3.fr.tm 5;rw[Fx3.f4] at h4;rw[Fx3.f5] at h5;rw[Ti] at h4 h5;simp[results,Tryz.results93,go_sem,h4,h5]
    ·obtain⟨x4,D4,hx4⟩:=S3.dg;have e:(m++xs).length=N:=by rw[MN,hM]
     refine⟨x4,?_,hx4⟩;rw[e] at D4 ⊢;exact D4
end
section
open Go
theorem AQ.app{f:Bool}{w:World}{b o:Nat}{ks js:List IntKind}{xs ys:List Int}(h:AQ f w (b,o) (ks++js) (xs++ys))(hl:ks.length=xs.length):AQ f w (b,o) ks xs/\AQ f w (b,o+ks.length) js ys:=by
 obtain⟨⟨h1,h2⟩,h3⟩:=h;rw[MN,MN] at h1;have kL:∀ {i:Nat} {k:IntKind},ks[i]? = some k->(ks++js)[i]? = some k:=λ{i k} hk=>by
  rw[Zm (OQ.1 hk).1];exact hk
 have xL:∀ {i:Nat} {x:Int},xs[i]? = some x->(xs++ys)[i]? = some x:=λ{i x} hk=>by
  rw[Zm (OQ.1 hk).1];exact hk
 have kR:∀ {i:Nat} {k:IntKind},js[i]? = some k->(ks++js)[ks.length+i]? = some k:=λ{i k} hk=>by
  rw[dh (by omega),Nat.add_sub_cancel_left];exact hk
 have xR:∀ {i:Nat} {x:Int},ys[i]? = some x->(xs++ys)[ks.length+i]? = some x:=λ{i x} hk=>by
  rw[dh (by omega),hl,Nat.add_sub_cancel_left];exact hk
 refine⟨⟨⟨by omega,λi k x hk hx=>h2 i k x (kL hk) (xL hx)⟩,λi k x hk hx=>h3 i k x (kL hk) (xL hx)⟩,⟨⟨by omega,λi k x hk hx=>h2 _ k x (kR hk) (xR hx)⟩,λi k x hk hx=>?_⟩⟩;have:=h3 _ k x (kR hk) (xR hx);rwa [<- Ve] at this
def dK:List IntKind:=List.replicate 8 .u64++(List.replicate 128 .u8 ++ [.i64,.u64,.i64])
theorem Dg.cV{w:World}{B o:Nat}{h x:List Int}{nx L:Nat}(hl:h.length=8)(hx:x.length=128)(hm:AQ true w (B,o) dK (h++(x ++ [(nx:Int),(L:Int),64]))):Dg w B o h x nx L:=by
 obtain⟨h1,h2⟩:=hm.app (by simp[hl]);obtain⟨h3,h4⟩:=h2.app (by simp[hx]);have e8:(List.replicate 8 IntKind.u64).length=8:=Qs;have ZD:(List.replicate 128 IntKind.u8).length=128:=Qs;rw[e8] at h3;rw[e8,ZD] at h4;exact⟨h1,h3,h4.2 0 .i64 _ rfl rfl,h4.2 1 .u64 _ rfl rfl,h4.2 2 .i64 _ rfl rfl⟩
theorem AFs:Ou.raw Om 0 []=H0++(List.replicate 128 0 ++ [0,0,64]):=by kernel_rfl
structure ASy (GC:Nat->Nat->Option Value) (w:World) (e:Ending) (w':World):Prop where
 ret:∃B o,e= .returned (.pointer (some ⟨B,o,none⟩))/\w.heap.size<=B/\HG w' B o []
 an:BM w w' (λ_ _=>False)
 gw:GW GC w'
theorem bX{GB:Nat}{GC:Nat->Nat->Option Value}{ad:Nat->Nat×Nat}(hG:Gw GB GC ad){w:World}(ε:GW GC w)(δ:GB<=w.heap.size):Calls Tryz.prog 92 #[] w (ASy GC w):=by
 have h:=Zn hG true [] [] [] w ε δ trivial trivial (λh=>(by cases h)) rfl;refine h.mono λe w' ⟨fb,vs,he,hp⟩=>?_
 simp only[FE.ca] at hp;have hr:=hp.ret
 match vs,hr with
 | [v],hr=>
 obtain⟨b,hb,hv⟩:=hr.1;subst hv;have hm:=hp.fresh 0 (dK,λa=>BK 139 (Ou.raw Om 0 a)) b rfl hb;have e1:BK 139 (Ou.raw Om 0 [])=H0++(List.replicate 128 0 ++ [0,0,64]):=by
  rw[AFs];exact Bn rfl
 have jt:AQ true w' (b.1,b.2) dK (H0++(List.replicate 128 0 ++ [0,0,64])):=by rw[<- e1];exact hm
 refine⟨⟨b.1,b.2,he,hp.fr b (Le hb),_,Dg.cV (nx:=0) (L:=0) rfl (by simp) jt,rfl⟩,hp.an.mono λb' o' _ hs=>?_,hp.gw⟩;obtain⟨p,eN,_⟩:=hs;cases eN
end
section
open Go
section
variable{ρ:Operand->Value}{d:Option Tmp}{x y:Operand}{ty:TypeId}{pos:String}{af:Array Edge}{w:World}{b o:Nat}
theorem mY{i j:Nat}(h:ρ x= .int .u64 i)(hy:ρ y= .int .u64 j)(hj:0<j):(execOp ρ ⟨d,.binOp .rem 50 x y 50,ty,pos,af,none⟩).run Tryz.prog w= .ok (.value (.int .u64 ((i%j:Nat):Int))) w:=by
 simp[execOp,go_sem,h,hy];rw[if_neg (by omega)];rfl
theorem AIr{i j:Int}(h:ρ x= .int .u64 i)(hy:ρ y= .int .u64 j):(execOp ρ ⟨d,.binOp .lss 50 x y 50,ty,pos,af,none⟩).run Tryz.prog w= .ok (.value (.bool (decide (i<j)))) w:=by
 simp[execOp,go_sem,h,hy]
theorem zR{i j:Int}(h:ρ x= .int .u64 i)(hy:ρ y= .int .u64 j):(execOp ρ ⟨d,.binOp .sub 50 x y 50,ty,pos,af,none⟩).run Tryz.prog w= .ok (.value (.int .u64 (IntKind.u64.wrap (i-j)))) w:=by
 simp[execOp,go_sem,h,hy]
theorem ALt{i:Int}(h:ρ x= .int .u64 i)(hy:ρ y= .int .u64 3):(execOp ρ ⟨d,.binOp .shl 50 x y 131,ty,pos,af,none⟩).run Tryz.prog w= .ok (.value (.int .u64 (IntKind.u64.wrap (i*8)))) w:=by
 simp[execOp,go_sem,h,hy]
theorem OV{i j:Int}(h:ρ x= .int .i64 i)(hy:ρ y= .int .i64 j):(execOp ρ ⟨d,.binOp .neq 3 x y 3,ty,pos,af,none⟩).run Tryz.prog w= .ok (.value (.bool (i != j))) w:=by
 simp[execOp,go_sem,h,hy]
theorem ARm:Tryz.zeroCells199=Array.replicate 144 (.int .u8 0):=by kernel_rfl
theorem ASW:Tryz.zeroCells135=(Aj dK (List.replicate 139 0)).toArray:=by kernel_rfl
theorem AF1:(execOp ρ ⟨d,.alloc 199,ty,pos,af,none⟩).run Tryz.prog w= .ok (.value (.pointer (some ⟨w.heap.size,0,none⟩))) (w.alloc (.cells (Array.replicate 144 (.int .u8 0)) 199)):=by
 simp[execOp,go_sem,ARm]
theorem pG:(execOp ρ ⟨d,.alloc 137,ty,pos,af,none⟩).run Tryz.prog w= .ok (.value (.pointer (some ⟨w.heap.size,0,none⟩))) (w.alloc (.cells (Array.replicate 64 (.int .u8 0)) 137)):=by
 simp[execOp,go_sem];rfl
theorem AQp:(execOp ρ ⟨d,.alloc 135,ty,pos,af,none⟩).run Tryz.prog w= .ok (.value (.pointer (some ⟨w.heap.size,0,none⟩))) (w.alloc (.cells (Aj dK (List.replicate 139 0)).toArray 135)):=by
 simp[execOp,go_sem,ASW]
theorem AON(h:ρ x= .pointer (some ⟨b,o,none⟩))(hy:ρ y= .int .i64 0):(execOp ρ ⟨d,.indexAddr 199 x y,ty,pos,af,none⟩).run Tryz.prog w= .ok (.value (.pointer (some ⟨b,o,none⟩))) w:=by
 simp[execOp,go_sem,h,hy]
theorem Wy{k:Nat}(h:ρ x= .pointer (some ⟨b,o,none⟩))(hy:ρ y= .int .i64 k)(hk:k<8):(execOp ρ ⟨d,.indexAddr 51 x y,ty,pos,af,none⟩).run Tryz.prog w= .ok (.value (.pointer (some ⟨b,o+k,none⟩))) w:=by
 simp[execOp,go_sem,h,hy];intro h;omega
theorem Zv{t:TypeId}{cs:List Value}(ha:∀w,(isAgg t).run Tryz.prog w= .ok true w)(hz:∀w,(sizeOf t).run Tryz.prog w= .ok cs.length w)(h:ρ x= .pointer (some ⟨b,o,none⟩))(hc:∀i v,cs[i]? = some v->w.cell? ⟨b,o+i,none⟩=some v):
  (execOp ρ ⟨d,.load t x,ty,pos,af,none⟩).run Tryz.prog w= .ok (.value (.agg cs.toArray)) w:=by
 have hl:=run_loadCells_list (P:=Tryz.prog) w ⟨b,o,none⟩ cs (λj u hu=>by rw[Cu];exact hc j u hu);simp only[execOp,h,Instr.loadAt,Instr.sureAddr,loadVar,IY,KT,Hm,ha,if_true,hz,hl]
theorem QT(b:Nat):∀(vs:List Value) (w:World) (o:Nat),setCells w b o vs=w.setCells b o vs
 | [],_,_=>rfl
 |_v::vs,_w,o=>QT b vs _ (o+1)
theorem V4{t:TypeId}{cs:List Value}(hz:∀w,(sizeOf t).run Tryz.prog w= .ok cs.length w)(h:ρ x= .pointer (some ⟨b,o,none⟩))(hy:ρ y= .agg cs.toArray)(h1:∀v∈cs,v.oneCell'=true)(hc:∀j,j<cs.length->∃u,CY true w b (o+j) u):
  (execOp ρ ⟨d,.store t x y,ty,pos,af,none⟩).run Tryz.prog w= .ok .skip (w.setCells b o cs):=by
 have gf:=KE (P:=Tryz.prog) b o cs 0 w h1 (by simpa using hc);rw[P5,QT] at gf;have cS:(Value.agg cs.toArray).cells.size=cs.length:=by simp[Value.cells]
 simp only[execOp,h,hy,Instr.storeAt,Instr.sureAddr,storeVar,IY,KT,Hm,hz,cS,ne_eq,not_true,if_false];have kj:(Value.agg cs.toArray).cells.toList=cs:=by simp[Value.cells]
 rw[kj,gf];rfl
end
end
section
open Go
def Oe(v:Int):List Int:=[56,48,40,32,24,16,8,0].map λk=>IntKind.u8.wrap (KN .shr v k)
def gy(n:Nat)(c8:List Int):List Int:=(List.range (n-8)).map λi=>c8.getD (i+8) 0
theorem uV{c8:List Int}{v:Int}:HY.raw HV 0 [c8,[v]]=Oe v++gy 64 c8:=by kernel_rfl
theorem wO{c8:List Int}{v:Int}:FP.raw Fe 0 [c8,[v]]=Oe v++gy 56 c8:=by kernel_rfl
theorem um{c8:List Int}{v:Int}:Fs.raw GA 0 [c8,[v]]=Oe v++gy 48 c8:=by kernel_rfl
theorem uX{c8:List Int}{v:Int}:F9.raw Fg 0 [c8,[v]]=Oe v++gy 40 c8:=by kernel_rfl
theorem wQ{c8:List Int}{v:Int}:F8.raw Fq 0 [c8,[v]]=Oe v++gy 32 c8:=by kernel_rfl
theorem uS{c8:List Int}{v:Int}:Fb.raw Fy 0 [c8,[v]]=Oe v++gy 24 c8:=by kernel_rfl
theorem ve{c8:List Int}{v:Int}:FQ.raw FW 0 [c8,[v]]=Oe v++gy 16 c8:=by kernel_rfl
theorem di{c8:List Int}{v:Int}:Fz.raw F3 0 [c8,[v]]=Oe v++gy 8 c8:=by kernel_rfl
structure fC (GC:Nat->Nat->Option Value) (b o:Nat) (v:Int) (w:World) (e:Ending) (w':World):Prop where
 ret:e= .returned (.tuple #[])
 mem:AQ true w' (b,o) (List.replicate 8 .u8) (Oe v)
 an:BM w w' (λb' i=>b'=b/\o<=i/\i<o+8)
 gw:GW GC w'
theorem sI{n:Nat}{c8:List Int}:(gy n c8).length=n-8:=by simp[gy]
theorem Oq(v:Int):(Oe v).length=8:=rfl
theorem AFc{w w':World}{b o n:Nat}{c8:List Int}{v:Int}(hf:BM w w' (λb' i=>b'=b/\o<=i/\i<o+n))(h0:AQ true w (b,o) (List.replicate n .u8) c8)(h1:AQ true w' (b,o) (List.replicate n .u8) (Oe v++gy n c8))(h8:8<=n):BM w w' (λb' i=>b'=b/\o<=i/\i<o+8):=by
 refine⟨hf.1,λb' x hx=>?_,hf.2.2⟩;obtain⟨y,hy,hb⟩:=hf.2.1 b' x hx;refine⟨y,hy,?_⟩;rcases hb with rfl|⟨c,c',e,f,rfl,rfl,h2,h3⟩
 ·exact .inl rfl
 ·refine .inr ⟨c,c',e,f,rfl,rfl,h2,λi hi=>?_⟩;by_cases eC:b'=b/\o<=i/\i<o+n
  ·obtain⟨rfl,hi1,PA⟩:=eC;have hi8:o+8<=i:=by
    rcases nE i (o+8) with h|h
    ·exact absurd ⟨rfl,hi1,h⟩ hi
    ·exact h
   obtain⟨a1,-, -, -⟩:=h0.at8 (i:=i-o) (by omega);obtain⟨a2,-, -, -⟩:=h1.at8 (i:=i-o) (by omega);rw[show o+(i-o)=i by omega] at a1 a2;have e1:(Oe v++gy n c8).getD (i-o) 0=c8.getD (i-o) 0:=by
    simp only[List.getD];rw[dh (by rw[Oq];omega),Oq];have cf:i-o-8<n-8:=by omega
    simp[gy,cf,List.getD,show i-o-8+8=i-o by omega]
   rw[e1] at a2;have c1:=a1.1;have c2:=a2.1;simp only[World.cell?,hx] at c1;simp only[World.cell?,hy] at c2;have:=c2.trans c1.symm;simpa using this
  ·exact h3 i eC
section
variable{GB:Nat}{GC:Nat->Nat->Option Value}{ad:Nat->Nat×Nat}
theorem QH{f n:Nat}{i:Ad}{C:Cx}(hn:8<=n)(fS:Ck Tryz.prog GB GC f (.one (i.sum C)))(hp:i.s0.params= [.sl (List.replicate n .u8) 1 true,.int .u64])(ξ:i.s0.outs= [(0,List.replicate n .u8,z1)])(zv:i.s0.ret= [])(_hfr:i.s0.fresh= [])(hhp:(i.sum C).hp=false)(abj:∀c8 v,i.raw C 0 [c8,[v]]=Oe v++gy n c8)
  {w:World} {b o c:Nat} {c8:List Int} {v:Int} (ε:GW GC w) (δ:GB<=w.heap.size) (hB:GB<=b) (hm:AQ true w (b,o) (List.replicate n .u8) c8) (hc:n<=c) (hv:IU .u64 v):Calls Tryz.prog f #[.slice (some ⟨b,o,none⟩) n c,.int .u64 v] w (fC GC b o v w):=by
 have hP:KH GB w (i.sum C).params [.slice (some ⟨b,o,none⟩) n c,.int .u64 v] [c8,[v]] [(b,o),(0,0)]:=by
  show KH GB w i.s0.params _ _ _;rw[hp];exact⟨⟨c,by rw[Qs],by rw[Qs];exact hc,hm,λ_=>hB⟩,⟨v,rfl,rfl,hv⟩,trivial⟩
 have hS:Fv (i.sum C).params [(b,o),(0,0)]:=by
  show Fv i.s0.params _;rw[hp];refine⟨λx hx=>?_,λx hx=>(by cases hx),trivial⟩;rw[List.zip_cons_cons,List.zip_nil_left,NB] at hx;subst hx;simp[Rz,GD.cE]
 refine(fS true _ _ _ w ε δ hP hS (λh=>by rw[show(FE.one (i.sum C)).ca true=i.sum C from rfl,hhp] at h;cases h) rfl).mono λe w' ⟨fb,vs,he,hq⟩=>?_
 simp only[FE.ca] at hq;have eo:(i.sum C).outs= [(0,List.replicate n .u8,λa=>BK (List.replicate n IntKind.u8).length (i.raw C 0 a))]:=by
  show SC (i.raw C) 0 i.s0.outs=_;rw[ξ];rfl
 have er:(i.sum C).ret= []:=by
  show Jh (i.raw C) (i.s0.outs.length+i.s0.fresh.length) i.s0.ret=_;rw[zv];rfl
 have hr:=hq.ret;rw[er] at hr;have oE:vs= []:=by
  match vs,hr with
  | [],_=>rfl
 subst oE;have dj:=hq.outs;rw[eo] at dj;have jt:=dj _ Kh;have hlen:(Oe v++gy n c8).length=n:=by rw[MN,Oq,sI];omega
 have e1:BK (List.replicate n IntKind.u8).length (i.raw C 0 [c8,[v]])=Oe v++gy n c8:=by
  rw[abj,Qs];exact Bn hlen
 have W6:AQ true w' (b,o) (List.replicate n .u8) (Oe v++gy n c8):=by rw[<- e1];exact jt
 have hf:=hq.an;have DE:BM w w' (λb' j=>b'=b/\o<=j/\j<o+n):=hf.mono λb' j _ hS=>by
  obtain⟨p,eN,h1,h2,h3⟩:=hS;rw[eo,NB] at eN;subst eN;refine⟨h1,h2,?_⟩;have:(List.replicate n IntKind.u8).length=n:=Qs;rw[<- this];exact h3
 refine⟨he,?_,AFc DE hm W6 hn,hq.gw⟩;have:=(W6.take (n:=8) hn);rwa [List.take_left' (Oq v)] at this
end
end
section
open Go
section
variable{GB:Nat}{GC:Nat->Nat->Option Value}{ad:Nat->Nat×Nat}(hG:Gw GB GC ad){w:World}{b o c:Nat}{c8:List Int}{v:Int}(ε:GW GC w)(δ:GB<=w.heap.size)(hB:GB<=b)(hv:IU .u64 v)
include hG ε δ hB hv
theorem AST(hm:AQ true w (b,o) (List.replicate 64 .u8) c8)(hc:64<=c):Calls Tryz.prog 155 #[.slice (some ⟨b,o,none⟩) 64 c,.int .u64 v] w (fC GC b o v w):=QH (by omega) (Nf hG) rfl rfl rfl rfl rfl (λ_ _=>uV) ε δ hB hm hc hv
theorem ARZ(hm:AQ true w (b,o) (List.replicate 56 .u8) c8)(hc:56<=c):Calls Tryz.prog 155 #[.slice (some ⟨b,o,none⟩) 56 c,.int .u64 v] w (fC GC b o v w):=QH (by omega) (MH hG) rfl rfl rfl rfl rfl (λ_ _=>wO) ε δ hB hm hc hv
theorem ASQ(hm:AQ true w (b,o) (List.replicate 48 .u8) c8)(hc:48<=c):Calls Tryz.prog 155 #[.slice (some ⟨b,o,none⟩) 48 c,.int .u64 v] w (fC GC b o v w):=QH (by omega) (Lp hG) rfl rfl rfl rfl rfl (λ_ _=>um) ε δ hB hm hc hv
theorem ASB(hm:AQ true w (b,o) (List.replicate 40 .u8) c8)(hc:40<=c):Calls Tryz.prog 155 #[.slice (some ⟨b,o,none⟩) 40 c,.int .u64 v] w (fC GC b o v w):=QH (by omega) (Lj hG) rfl rfl rfl rfl rfl (λ_ _=>uX) ε δ hB hm hc hv
theorem ASu(hm:AQ true w (b,o) (List.replicate 32 .u8) c8)(hc:32<=c):Calls Tryz.prog 155 #[.slice (some ⟨b,o,none⟩) 32 c,.int .u64 v] w (fC GC b o v w):=QH (by omega) (Lm hG) rfl rfl rfl rfl rfl (λ_ _=>wQ) ε δ hB hm hc hv
theorem ASk(hm:AQ true w (b,o) (List.replicate 24 .u8) c8)(hc:24<=c):Calls Tryz.prog 155 #[.slice (some ⟨b,o,none⟩) 24 c,.int .u64 v] w (fC GC b o v w):=QH (by omega) (Li hG) rfl rfl rfl rfl rfl (λ_ _=>uS) ε δ hB hm hc hv
theorem ASe(hm:AQ true w (b,o) (List.replicate 16 .u8) c8)(hc:16<=c):Calls Tryz.prog 155 #[.slice (some ⟨b,o,none⟩) 16 c,.int .u64 v] w (fC GC b o v w):=QH (by omega) (L9 hG) rfl rfl rfl rfl rfl (λ_ _=>ve) ε δ hB hm hc hv
theorem APF(hm:AQ true w (b,o) (List.replicate 8 .u8) c8)(hc:8<=c):Calls Tryz.prog 155 #[.slice (some ⟨b,o,none⟩) 8 c,.int .u64 v] w (fC GC b o v w):=QH (by omega) (Lx hG) rfl rfl rfl rfl rfl (λ_ _=>di) ε δ hB hm hc hv
end
def KY(L:Nat):Nat:=if L%128<112 then 112-L%128 else 240-L%128
def sP(L:Nat):List Int:=128::(List.replicate (KY L+7) 0++Oe ((L*8:Nat):Int))
def qF(h:List Int):List Int:=h.flatMap Oe
def MC(m:List Int):List Int:=qF (gf (m++sP m.length))
theorem eT(L:Nat):(sP L).length=KY L+16:=by
 unfold sP;rw[Uk,MN,Qs,Oq]
theorem gW(L:Nat):1<=KY L/\KY L<=128/\(L+(KY L+16))%128=0:=by
 unfold KY;split<;>omega
theorem AFC(m:List Int):(m++sP m.length).length%128=0:=by
 rw[MN,eT];exact(gW _).2.2
theorem Ov{w w':World}{b o n k:Nat}{xs:List Int}{v:Int}(h:AQ true w (b,o) (List.replicate n .u8) xs)(hf:BM w w' (λb' i=>b'=b/\o+k<=i/\i<o+k+8))(hp:AQ true w' (b,o+k) (List.replicate 8 .u8) (Oe v))(hk:k+8<=n):AQ true w' (b,o) (List.replicate n .u8) (lay xs (Oe v) k):=by
 have hl:=h.len8;have h8:=Oq v;refine AAq (by rw[gZ (by omega)];exact hl) (λz hz=>?_) λi hi=>?_
 ·simp only[lay,jd] at hz;rcases hz with hz|hz|hz
  ·exact h.j9 z (List.mem_of_mem_take hz)
  ·exact hp.j9 z hz
  ·exact h.j9 z (LL hz)
 ·rw[uA (by omega)];split
  ·have:=(hp.at8 (i:=i-k) (by omega)).1;rwa [show o+k+(i-k)=o+i by omega] at this
  ·exact hf.fp (h.at8 hi).1 (λhh=>by omega)
theorem AED{f:Bool}{w:World}{b o n k m:Nat}{xs:List Int}(h:AQ f w (b,o) (List.replicate n .u8) xs)(hk:k+m<=n):AQ f w (b,o+k) (List.replicate m .u8) ((xs.drop k).take m):=by
 have h1:=h.drop (n:=k) (by omega);exact h1.take (n:=m) (by omega)
theorem AGL(L:Nat):(lay (lay (List.replicate 144 0) [128] 0) (Oe ((L*8:Nat):Int)) (KY L+8)).take (KY L+16)=sP L:=by
 obtain⟨h1,h2,-⟩:=gW L;have e1:lay (List.replicate 144 (0:Int)) [128] 0=128::List.replicate 143 0:=rfl;rw[e1];unfold lay sP;have h8:=Oq ((L*8:Nat):Int);have e2:((128:Int)::List.replicate 143 0).take (KY L+8)=128::List.replicate (KY L+7) 0:=by
  rw[show KY L+8=(KY L+7)+1 by omega,List.take_succ_cons,List.take_replicate,show min (KY L+7) 143=KY L+7 by omega]
 rw[e2, <- bU];rw[List.take_left' (by rw[MN,Uk,Qs,h8])];rfl
end
end Go.Proofs.YtloibefkijfdlaaGreatDoor
