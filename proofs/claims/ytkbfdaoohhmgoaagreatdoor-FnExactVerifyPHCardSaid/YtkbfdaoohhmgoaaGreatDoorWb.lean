/- SHA-512 in plain words: blocks, one behind the other. -/
import Derived.Test.YtkbfdaoohhmgoaaGreatDoorWa
import Derived.StillTail
namespace Go.Proofs.YtkbfdaoohhmgoaaGreatDoor
section
open Go
theorem ASH:(Rt.sum Aa (Rt.pre Aa)).pr 0= .l λa=>BF 80 ((Rt.val Aa a).getD 9 []):=rfl
theorem ART:∀k,k<8->(Rt.sum Aa (Rt.pre Aa)).pr (k+1)= .i λa=>d1 ((Rt.val Aa a).getD k [])
 |0,_|1,_|2,_|3,_|4,_|5,_|6,_|7,_=>rfl
theorem AKT(a:List (List Int)):Rt.val Aa a=Ht (Rt.step Aa) 81 a:=by
 unfold Ih.val;rw[ADW]
theorem V8.Wc{v:V8}{k:Nat}{x:List (List Int)}(h:k<8):(v.ls++x).getD k []=v.ls.getD k []:=by
 simp only[List.getD];rw[gZ (by simpa[V8.ls] using h)]
theorem V8.ahN(v:V8)(x:List Int):(v.ls ++ [x]).getD 8 []=x:=rfl
theorem ARA(v:V8):((List.range 8).map λk=>[d1 (v.ls.getD k [])])=v.ls:=rfl
theorem ANk{x:Int}:([x]:List Int).getD 0 0=x:=rfl
theorem ASh{v:V8}{ws bl:List Int}(h:ws.length=80):(s4 v.ls ws bl).take 9=(rV bl v 80).ls ++ [OD bl 80]:=by
 have hT:=@ATZ qw.T v.a v.b v.c v.d v.e v.f v.g v.h ws bl;rw[<- nO] at hT;have eE: [[v.a],[v.b],[v.c],[v.d],[v.e],[v.f],[v.g],[v.h],ws,bl]=v.ls ++ [ws,bl]:=rfl;rw[eE] at hT;have hA: [[v.a],[v.b],[v.c],[v.d],[v.e],[v.f],[v.g],[v.h],[0],ws,bl]=v.ls ++ [[0],ws,bl]:=rfl;simp only[hA] at hT;have hg0:gv qw.T (1000000+116) 0 (v.ls ++ [[0],ws,bl])=OD bl 80:=by
  rw[Bf xP,ASH];show BF 80 ((Rt.val _ _).getD 9 [])=_;rw[AKT,yM h];show BF 80 (OD bl 80)=_;exact Ay (Jj _ _)
 have hgk:∀k,k<8->gv qw.T (1000000+116) (k+1) (v.ls ++ [[0],ws,bl])= [d1 ((rV bl v 80).ls.getD k [])]:=λk hk=>by
  rw[Bf xP,ART k hk];show[d1 ((Rt.val _ _).getD k [])]=_;rw[AKT,yM h];rw[V8.Wc hk]
 rw[hg0] at hT;have aj7:((List.range 8).map λk=>[(gv qw.T (1000000+116) (k+1) (v.ls ++ [[0],ws,bl])).getD 0 0])=(rV bl v 80).ls:=by
  rw[fT (g:=λk=>[d1 ((rV bl v 80).ls.getD k [])]) λk hk=>by rw[hgk k (fV.1 hk),ANk]];exact ARA _
 rw[aj7] at hT;unfold s4;split
 ·rename_i r hr;rw[hr] at hT;simpa using hT
 ·rename_i hr;rw[hr] at hT;cases hT
theorem APK(v:V8):s3 v.ls=(v.ls,v.ls):=by
 have:=@AQb v.a v.b v.c v.d v.e v.f v.g v.h;unfold s3;rw[show v.ls= [[v.a],[v.b],[v.c],[v.d],[v.e],[v.f],[v.g],[v.h]] from rfl,this]
theorem lG{k:Nat}(hk:k<8)(x y:Int):sA k [x] [y]= [DR .add x y]:=by
 have:=CV (λl=>l[k]?) (@ARr x y);simp only[Ng,List.getElem?_range hk,UT,Ai] at this;unfold sA;rw[this];rfl
theorem AQ6{h:List Int}(hl:h.length=8):wl h=(V8.of h).ls:=by
 match h,hl with
 | [a,b,c,d,e,f,g,i],_=>rfl
theorem AI0{h:List Int}{S:List (List Int)}{r:V8}{z:List Int}(hl:h.length=8)(hS:S.take 9=r.ls ++ [z]):
  ((List.range 8).map λk=>sA k ((V8.of h).ls.getD k []) (S.getD k []))=wl (List.zipWith (DR .add) h r.l)/\S.getD 8 []=z:=by
 have hg:∀k,k<9->S.getD k []=(r.ls ++ [z]).getD k []:=λk hk=>by
  rw[<- hS];simp only[List.getD];rw[List.getElem?_take_of_lt hk]
 refine⟨?_,(hg 8 (by omega)).trans (V8.ahN _ _)⟩;have hk8:∀k,k<8->sA k ((V8.of h).ls.getD k []) (S.getD k [])= [DR .add (h.getD k 0) (r.l.getD k 0)]:=λk hk=>by
  rw[hg k (by omega)]
  match k,hk with
  |0,_=>exact lG (by omega) _ _
  |1,_=>exact lG (by omega) _ _
  |2,_=>exact lG (by omega) _ _
  |3,_=>exact lG (by omega) _ _
  |4,_=>exact lG (by omega) _ _
  |5,_=>exact lG (by omega) _ _
  |6,_=>exact lG (by omega) _ _
  |7,_=>exact lG (by omega) _ _
 rw[fT λk hk=>hk8 k (fV.1 hk)]
 match h,hl with
 | [a,b,c,d,e,f,g,i],_=>rfl
theorem AQW{h ws bl:List Int}(hl:h.length=8)(hw:ws.length=80):xS (wl h) ws bl=(wl (ru h bl),OD bl 80):=by
 have h4:=ASh (v:=V8.of h) (bl:=bl) hw;unfold ru;generalize rV bl (V8.of h) 80=r at h4 ⊢;generalize OD bl 80=z at h4 ⊢;unfold xS;rw[AQ6 hl,APK];simp only;generalize s4 (V8.of h).ls ws bl=S at h4 ⊢;obtain⟨e1,e2⟩:=AI0 hl h4;rw[e1,e2]
theorem kI{h bl:List Int}(hl:h.length=8):(ru h bl).length=8:=by
 unfold ru;rw[List.length_zipWith,hl];rfl
theorem AEP:∀ {n:Nat} {h ws xs:List Int},h.length=8->ws.length=80->Of n (wl h) ws xs=wl (Oz n h xs)
 |0,h,ws,xs,_,_=>rfl
 |n+1,h,ws,xs,hl,hw=>by
  unfold Of Oz;rw[AQW hl hw];exact AEP (kI hl) (Jj _ _)
theorem AEo{n:Nat}{h xs:List Int}(hl:h.length=8):blk n h xs=Oz n h xs:=by
 unfold blk;rw[AEP hl (by simp),AIq]
theorem lh:∀ {n:Nat} {h xs:List Int},h.length=8->(Oz n h xs).length=8
 |0,_h,_xs,hl=>hl
 |n+1,_h,_xs,hl=>lh (n:=n) (kI hl)
theorem ae:∀ {m n:Nat} {h xs:List Int},Oz (m+n) h xs=Oz n (Oz m h xs) (xs.drop (m*128))
 |0,n,h,xs=>by simp[Oz]
 |m+1,n,h,xs=>by
  rw[show m+1+n=(m+n)+1 by omega];show Oz (m+n) (ru h (xs.take 128)) (xs.drop 128)=Oz n (Oz m (ru h (xs.take 128)) (xs.drop 128)) _;rw[ae,List.drop_drop]
  congr 2;omega
theorem d9:∀ {n:Nat} {h xs:List Int} {k:Nat},n*128<=k->Oz n h (xs.take k)=Oz n h xs
 |0,h,xs,k,_=>rfl
 |n+1,h,xs,k,hk=>by
  show Oz n (ru h ((xs.take k).take 128)) ((xs.take k).drop 128)=Oz n (ru h (xs.take 128)) (xs.drop 128);rw[List.take_take,show min 128 k=128 by omega,List.drop_take,d9 (by omega)]
end
section
open Go
def H0:List Int:=[7640891576956012808,13503953896175478587,4354685564936845355,11912009170470909681,5840696475078001361,11170449401992604703,2270897969802886507,6620516959819538809]
def eN(m:List Int):List Int:=Oz (m.length/128) H0 m
theorem WP(m:List Int):(eN m).length=8:=lh rfl
theorem Zk{n:Nat}{h m ys:List Int}(hm:n*128<=m.length):Oz n h (m++ys)=Oz n h m:=by
 rw[<- d9 (xs:=m++ys) (k:=m.length) hm,List.take_left]
theorem AGV{m ys:List Int}{q:Nat}(hm:m.length=q*128):eN (m++ys)=Oz (ys.length/128) (eN m) ys:=by
 unfold eN;have e1:(m++ys).length/128=q+ys.length/128:=by rw[NC,hm];omega
 rw[e1,ae,Zk (by omega),show m.length/128=q by omega]
 congr 1
 rw[<- hm,List.drop_left]
theorem qO{m ys:List Int}(h:m.length%128+ys.length<128):eN (m++ys)=eN m:=by
 unfold eN;rw[NC,show(m.length+ys.length)/128=m.length/128 by omega,Zk (by omega)]
theorem AC2{m ys:List Int}(h:m.length%128+ys.length=128):eN (m++ys)=Oz 1 (eN m) (m.drop (m.length/128*128)++ys):=by
 unfold eN;rw[NC,show(m.length+ys.length)/128=m.length/128+1 by omega,ae,Zk (by omega),List.drop_append_of_le_length (by omega)]
structure Dg (w:World) (B o:Nat) (h x:List Int) (nx L:Nat):Prop where
 hh:AO true w (B,o) (List.replicate 8 .u64) h
 hx:AO true w (B,o+8) (List.replicate 128 .u8) x
 hn:CP true w B (o+136) (.int .i64 nx)
 hl:CP true w B (o+137) (.int .u64 L)
 hs:CP true w B (o+138) (.int .i64 64)
theorem Dg.an{w w':World}{B o:Nat}{h x:List Int}{nx L:Nat}{S:Nat->Nat->Prop}(d:Dg w B o h x nx L)(hf:BD w w' S)(hn:∀i,¬S B i):Dg w' B o h x nx L:=
 ⟨d.hh.an hf λ_ _=>hn _,d.hx.an hf λ_ _=>hn _,hf.fk d.hn (hn _),hf.fk d.hl (hn _),hf.fk d.hs (hn _)⟩
theorem AO.Lo{w:World}{b o o':Nat}{ks:List IntKind}{xs:List Int}{v:Value}(h:AO true w (b,o) ks xs)(hn:o'<o\/o+ks.length<=o'):AO true (w.setCell ⟨b,o',none⟩ v) (b,o) ks xs:=
 ⟨h.1,λi k x hk hx=>(h.2 i k x hk hx).cU (by
  have:=(Oa.1 hk).1;show ¬(b=b/\o+i=o');omega)⟩
theorem Dg.xf{w:World}{B o:Nat}{h x:List Int}{nx L:Nat}(d:Dg w B o h x nx L)(k:Nat):Dg (w.setCell ⟨B,o+136,none⟩ (.int .i64 k)) B o h x k L:=
 ⟨d.hh.Lo (by simp),d.hx.Lo (by simp),d.hn.lR,d.hl.cU (by omega),d.hs.cU (by omega)⟩
theorem Dg.aja{w:World}{B o:Nat}{h x:List Int}{nx L:Nat}(d:Dg w B o h x nx L)(k:Nat):Dg (w.setCell ⟨B,o+137,none⟩ (.int .u64 k)) B o h x nx k:=
 ⟨d.hh.Lo (by simp),d.hx.Lo (by simp),d.hn.cU (by omega),d.hl.lR,d.hs.cU (by omega)⟩
theorem Dg.lay{w:World}{B o:Nat}{h x:List Int}{nx L:Nat}(d:Dg w B o h x nx L){ys:List Int}{r:Nat}(hy:∀y∈ys,0<=y/\y<=255)(hr:r+ys.length<=128):Dg (w.setCells B (o+8+r) (v8 ys)) B o h (Go.Proofs.YtkbfdaoohhmgoaaGreatDoor.lay x ys r) nx L:=by
 have mC:(v8 ys).length=ys.length:=by simp[v8]
 refine⟨⟨d.hh.1,λi k x hk hx=>Gb (d.hh.2 i k x hk hx) (.inr (.inl ?_))⟩,UJ d.hx hy hr,Gb d.hn (by omega),Gb d.hl (by omega),Gb d.hs (by omega)⟩;have:i<8:=by have:=(Oa.1 hk).1;simpa using this
 show o+i<o+8+r;omega
theorem yo{w w':World}{B o:Nat}{v:Value}(h:BD w w' (λb _=>b=B)):BD w (w'.setCell ⟨B,o,none⟩ v) (λb _=>b=B):=h.setCell (.inr rfl)
structure JT (w:World) (B o:Nat) (m:List Int):Prop where
 ex:∃x,Dg w B o (eN m) x (m.length%128) m.length/\x.take (m.length%128)=m.drop (m.length/128*128)
theorem JT.an{w w':World}{B o:Nat}{m:List Int}{S:Nat->Nat->Prop}(d:JT w B o m)(hf:BD w w' S)(hn:∀i,¬S B i):JT w' B o m:=by
 obtain⟨x,h,e⟩:=d.ex;exact⟨x,h.an hf hn,e⟩
theorem bW{x:Int}(h:0<=x)(h2:x<18446744073709551616):IntKind.u64.wrap x=x:=H7 (k:=.u64) ⟨h,by show x<=18446744073709551615;omega⟩
section
variable{P:Program}{ops:Array Oper}{rest:List Oper}{a:Act}{w:World}{n:Nat}{f:Nat->Value}{K:Act->Prop}
theorem BZ{o:Oper}{t:Nat}{v:Value}(F:Fr a n f)(hg:o.guard=none)(hd:o.dst=some t)(ht:Nat.blt t n=true)(h:(execOp a.eval o).run P w= .ok (.value v) w)(hn:∀a',Fr a' n (Rw f t v)->wpStill P ops w K rest a'):wpStill P ops w K (o::rest) a:=by
 unfold wpStill;rw[if_pos (by simp[Region.wanted,hg])];unfold Oper.still;rw[h,Oper.stillUpon_value,hd];exact hn _ (F.put ht v)
theorem Dm{t x:Nat}{ty:TypeId}{pos:String}{af:Array Edge}(F:Fr a n f)(ht:Nat.blt t n=true)(hn:∀a',Fr a' n (Rw f t (f x))->wpStill P ops w K rest a'):wpStill P ops w K (⟨some t,.move (.tmp x),ty,pos,af,none⟩::rest) a:=
 BZ F rfl rfl ht (by simp only[execOp,F.ev (t:=x) rfl];rfl) hn
theorem IW{t x:Nat}{p:Addr}{ty:TypeId}{pos:String}{af:Array Edge}(F:Fr a n f)(hx:f x= .pointer (some p))(ht:Nat.blt t n=true)(hn:∀a',Fr a' n (Rw f t (.pointer (some p)))->wpStill P ops w K rest a'):wpStill P ops w K (⟨some t,.nilCheck (.tmp x),ty,pos,af,none⟩::rest) a:=
 BZ F rfl rfl ht (AKx (F.ev hx)) hn
end
theorem AP{P:Program}{Q:Exit->Act->World->Prop}{a:Act}{w:World}{id:Nat}{l:List Oper}{y:Code}(h:wpList P l.toArray (Exit.then (y.wp P Q) Q) l a w):(Code.seq (.region id l.toArray false) y).wp P Q a w:=wp_seq (cp h)
theorem AJ{P:Program}{ops:Array Oper}{Q:Exit->Act->World->Prop}{a:Act}{w:World}{y:Code}(h:y.wp P Q a w):wpList P ops (Exit.then (y.wp P Q) Q) [] a w:=h
theorem uz(x:BitVec 64):x &&& ~~~(127#64)=(x >>> 7) <<< 7:=by
 have e: ~~~(127#64)=(BitVec.allOnes 64) <<< 7:=by decide
 rw[e];apply BitVec.eq_of_getLsbD_eq;intro i hi;simp only[BitVec.getLsbD_and,BitVec.getLsbD_shiftLeft,BitVec.getLsbD_allOnes,BitVec.getLsbD_ushiftRight];by_cases h:i<7
 ·simp[h]
 ·have h2:i-7<64:=by omega
  simp[h,hi,h2,show 7+(i-7)=i by omega]
theorem AEn{i:Nat}(hi:i<9223372036854775808):bits .andNot .i64 (i:Int) 127=((i/128*128:Nat):Int):=by
 unfold bits;have e:(BitVec.ofInt 64 (i:Int) &&& ~~~(BitVec.ofInt 64 127)).toNat=i/128*128:=by
  rw[show BitVec.ofInt 64 127=127#64 by decide,uz];simp only[BitVec.toNat_shiftLeft,BitVec.toNat_ushiftRight,BitVec.toNat_ofInt];rw[Nat.shiftLeft_eq,Nat.shiftRight_eq_div_pow];omega
 show IntKind.i64.wrap ((BitVec.ofInt 64 (i:Int) &&& ~~~(BitVec.ofInt 64 127)).toNat:Int)=_;rw[e,H7 (k:=.i64) ⟨by show(-9223372036854775808:Int)<=_;omega,by show _<=(9223372036854775807:Int);omega⟩]
theorem ALV{ρ:Operand->Value}{d:Option Tmp}{x y:Operand}{ty:TypeId}{pos:String}{af:Array Edge}{w:World}{i:Nat}(h:ρ x= .int .i64 i)(hy:ρ y= .int .i64 127)(hi:i<9223372036854775808):(execOp ρ ⟨d,.binOp .andNot 3 x y 3,ty,pos,af,none⟩).run Tryz.prog w= .ok (.value (.int .i64 ((i/128*128:Nat):Int))) w:=by
 have:=AEn hi;simp[execOp,go_sem,h,hy];exact this
structure WrP (GC:Nat->Nat->Option Value) (B o:Nat) (m xs:List Int) (w:World) (e:Ending) (w':World):Prop where
 ret:e= .returned (.tuple #[.int .i64 xs.length,.nilIface])
 Cd:JT w' B o (m++xs)
 an:BD w w' (λb _=>b=B)
 gw:GW GC w'
theorem Fu{GB:Nat}{GC:Nat->Nat->Option Value}{ad:Nat->Nat×Nat}(hG:GI GB GC ad){w w':World}{B:Nat}(h:GW GC w)(hf:BD w w' (λb _=>b=B))(hB:GB<=B):GW GC w':=λb o v hv=>(hf.fk (f:=false) ⟨h b o v hv,λh=>(by cases h)⟩ (λ(e:b=B)=>by have:=hG.lt b o v hv;omega)).1
structure St1 (GC:Nat->Nat->Option Value) (B o N:Nat) (m1:List Int) (w0 w:World):Prop where
 an:BD w0 w (λb _=>b=B)
 gw:GW GC w
 dg:∃x,Dg w B o (eN m1) x (m1.length%128) N/\x.take (m1.length%128)=m1.drop (m1.length/128*128)
structure Fx (B o N:Nat) (v:Value) (a:Act) (f:Nat->Value):Prop where
 fr:Fr a 85 f
 f0:f 0= .pointer (some ⟨B,o,none⟩)
 f1:f 1=v
 f4:f 4= .int .i64 N
 f5:f 5= .nilIface
theorem Fx.wi{B o N:Nat}{v:Value}{a:Act}{f:Nat->Value}(h:Fx B o N v a f):Fr a 85 (Rw (Rw (Rw (Rw f 0 (.pointer (some ⟨B,o,none⟩))) 1 v) 4 (.int .i64 N)) 5 .nilIface):=
 (((h.fr.wi h.f0).wi (t:=1) (by rw[Kq (by omega)];exact h.f1)).wi (t:=4) (by rw[Kq (by omega),Kq (by omega)];exact h.f4)).wi (t:=5) (by rw[Kq (by omega),Kq (by omega),Kq (by omega)];exact h.f5)
theorem St1.heap{GC:Nat->Nat->Option Value}{B o N:Nat}{m1:List Int}{w0 w w':World}(h:St1 GC B o N m1 w0 w)(hf:BD w w' (λb _=>b=B))(hg:GW GC w'){x':List Int}(hd:Dg w' B o (eN m1) x' (m1.length%128) N)(hx:x'.take (m1.length%128)=m1.drop (m1.length/128*128)):St1 GC B o N m1 w0 w':=
 ⟨h.an.trans hf,hg,x',hd,hx⟩
theorem kD{ρ:Operand->Value}{d:Option Tmp}{x y:Operand}{ty:TypeId}{pos:String}{af:Array Edge}{w:World}{B b o k c:Nat}{v:Value}{ys:List Int}(hx:ρ x= .slice (some ⟨b,o,none⟩) k c)(hy:ρ y=v)(hp:bY w B v ys)(hd:∀i,i<k->∃u,CP true w b (o+i) u):
  (execOp ρ ⟨d,.call ⟨.builtin .copy,#[x,y],#[22,22]⟩,ty,pos,af,none⟩).run Tryz.prog w= .ok (.value (.int .i64 (min k ys.length:Nat))) (w.setCells b o (v8 (ys.take k))):=by
 obtain⟨ap,c',rfl,h2,h3,h4⟩:=hp;by_cases h0:Nat.min ys.length k=0
 ·have e1:min k ys.length=0:=by rw[Nat.min_comm];exact h0
  have e2:ys.take k= []:=HW (by rw[Qw];exact e1);rw[e1,e2];exact AHO hx hy h0
 ·have OS:0<ys.length:=by
   rcases Nat.eq_zero_or_pos ys.length with h|h
   ·exact absurd (by rw[h];exact Nat.zero_min k) h0
   ·exact h
  obtain⟨b',o',rfl,hb,hc⟩:=h4 OS;have hl:(ys.take k).length=Nat.min ys.length k:=by rw[Qw];exact Nat.min_comm _ _
  have:=AE9 (d:=d) (ty:=ty) (pos:=pos) (af:=af) (w:=w) (ys:=ys.take k) hx hy hl (λi hi=>by
   rw[Qw] at hi;rw[Ce,hc i (by omega)];simp[List.getD,show i<k by omega]) (λi hi=>by rw[Qw] at hi;exact hd i (by omega))
  rw[Qw] at this;exact this
theorem AIb{ρ:Operand->Value}{d:Option Tmp}{x y:Operand}{ty:TypeId}{pos:String}{af:Array Edge}{w:World}{B b o k c:Nat}{v:Value}{ys:List Int}(hx:ρ x= .slice (some ⟨b,o,none⟩) k c)(hy:ρ y=v)(hp:bY w B v ys)(hk:ys.length<=k)(hd:∀i,i<k->∃u,CP true w b (o+i) u):
  (execOp ρ ⟨d,.call ⟨.builtin .copy,#[x,y],#[22,22]⟩,ty,pos,af,none⟩).run Tryz.prog w= .ok (.value (.int .i64 ys.length)) (w.setCells b o (v8 ys)):=by
 have:=kD (d:=d) (ty:=ty) (pos:=pos) (af:=af) hx hy hp hd;rwa [show min k ys.length=ys.length by omega,NO hk] at this
theorem PW{P:Program}{Q:Exit->Act->World->Prop}{a:Act}{w:World}(h:Q .normal a w):Code.skip.wp P Q a w:=wp_skip h
theorem gm{GB:Nat}{GC:Nat->Nat->Option Value}{ad:Nat->Nat×Nat}(hG:GI GB GC ad){w:World}{B o n pb po c:Nat}{h xs:List Int}(ε:GW GC w)(δ:GB<=w.heap.size)(hB:GB<=B)(hh:AO true w (B,o) (List.replicate 8 .u64) h)(hp:AO false w (pb,po) (List.replicate (n*128) .u8) xs)(hn:0<n)(hc:n*128<=c):
  Calls Tryz.prog 80 #[.pointer (some ⟨B,o,none⟩),.slice (some ⟨pb,po,none⟩) (n*128) c] w (APJ GC B o n h xs w):=by
 refine enter (args:=[.pointer (some ⟨B,o,none⟩),.slice (some ⟨pb,po,none⟩) (n*128) c]) Tryz.func80 rfl (n:=7) rfl λa F=>?_
 refine cp (AA F rfl λa F=>AA F rfl λa F=>EG F rfl (Bg rfl F.e F.e Tryz.call116) (AHg hG ε δ hB hh hp hn hc) λe w5 h5=>⟨_,h5.ret,λa F=>CY ?_⟩);refine⟨F.df,.tuple #[],by simp[results,go_sem],rfl,h5.mem,h5.an,h5.gw⟩
set_option maxRecDepth 100000 in
set_option maxHeartbeats 1000000 in
theorem Nc{GB:Nat}{GC:Nat->Nat->Option Value}{ad:Nat->Nat×Nat}(hG:GI GB GC ad){w:World}{B o:Nat}{m xs:List Int}{v:Value}(ε:GW GC w)(δ:GB<=w.heap.size)(hB:GB<=B)(hd:JT w B o m)(hp:bY w B v xs)(hlen:m.length+xs.length<1152921504606846976):
  Calls Tryz.prog 54 #[.pointer (some ⟨B,o,none⟩),v] w (WrP GC B o m xs w):=by
 obtain⟨x,D,hxm⟩:=hd.ex;have hp0:=hp;obtain⟨ap,c,rfl,hc,hr,-⟩:=hp;refine enter (args:=[.pointer (some ⟨B,o,none⟩),.slice ap xs.length c]) Tryz.func54 rfl (n:=85) rfl λa F=>?_
 refine AP (Aj F rfl λa F=>Aj F rfl λa F=>AJ ?_);refine AP (AA F rfl λa F=>AZ F rfl (OE F.e) λa F=>AB F rfl λa F=>AJ ?_);refine AP (AA F rfl λa F=>Eu F rfl rfl λa F=>AZ F rfl (ALJ F.e) λa F=>AZ F rfl (QA F.e D.hl.1) λa F=>AA F rfl λa F=>AZ F rfl (ASe F.e) λa F=>
  AZ F rfl (sM F.e F.e) λa F=>Eu F rfl rfl λa F=>AZ F rfl (ALJ F.e) λa F=>FB F rfl rfl (AKu F.e F.e D.hl) λa F=>AJ ?_)
 have hN:IntKind.u64.wrap ((m.length:Int)+IntKind.u64.wrap (xs.length:Int))=((m.length+xs.length:Nat):Int):=by
  rw[bW (x:=(xs.length:Int)) (by omega) (by omega),bW (by omega) (by omega)];omega
 rw[hN];have D1:Dg (w.setCell ⟨B,o+137,none⟩ (.int .u64 ((m.length+xs.length:Nat):Int))) B o (eN m) x (m.length%128) (m.length+xs.length):=D.aja _;have AE:BD w (w.setCell ⟨B,o+137,none⟩ (.int .u64 ((m.length+xs.length:Nat):Int))) (λb _=>b=B):=yo (BD.refl _ _);generalize w.setCell ⟨B,o+137,none⟩ (.int .u64 ((m.length+xs.length:Nat):Int))=w1 at D1 AE ⊢;have zE:=hp0.an AE;have qT:=Fu hG ε AE hB;generalize hM:m.length+xs.length=N at D1 hlen ⊢;refine GM (J:=λa w'=>∃f m1 ys v,m1++ys=m++xs/\Fx B o xs.length v a f/\bY w' B v ys/\(ys= []\/m1.length%128=0)/\St1 GC B o N m1 w w') ?_ ?_
 ·refine AP (AA F rfl λa F=>Eu F rfl rfl λa F=>AZ F rfl (mH F.e) λa F=>AZ F rfl (bJ F.e D1.hn.1) λa F=>AZ F rfl (xg F.e rfl) λa F=>AJ (ry F rfl (λhb=>?_) λhb=>?_))
  ·have ud:0<m.length%128:=by have:=of_decide_eq_true hb;omega
   refine wp_seq (wp_region_still_tail 9 mixed (by kernel_rfl) ?_);have e1:({ w1 with drawn:=w1.drawn+1 }:World).heap=w1.heap:=rfl;have vq:BD w1 { w1 with drawn:=w1.drawn+1 } (λb _=>b=B):=(BD.refl _ _).of_heap rfl rfl rfl rfl;have D2:Dg { w1 with drawn:=w1.drawn+1 } B o (eN m) x (m.length%128) N:=D1.an ((BD.refl w1 (λ_ _=>False)).of_heap (w':= { w1 with drawn:=w1.drawn+1 }) rfl rfl rfl rfl) λ_ h=>h
   generalize ({ w1 with drawn:=w1.drawn+1 }:World)=w2 at D2 vq ⊢;have oY:=zE.an vq;have Xs:=Fu hG qT vq hB;refine Dm F rfl λa F=>IW F rfl rfl λa F=>BZ F rfl rfl rfl (AMp F.e) λa F=>Dm F rfl λa F=>IW F rfl rfl λa F=>BZ F rfl rfl rfl (mH F.e) λa F=>BZ F rfl rfl rfl (bJ F.e D2.hn.1) λa F=>
    BZ F rfl rfl rfl (AQZ F.e F.e (by omega)) λa F=>Dm F rfl λa F=>?_
   refine AZ F rfl (kD F.e F.e oY (λi hi=>⟨_,by
    have:=(D2.hx.at8 (i:=m.length%128+i) (by omega)).1;rwa [<- WZ] at this⟩)) λa F=>AB F rfl λa F=>AJ ?_
   generalize hys:xs.take (128-m.length%128)=ys at F ⊢;generalize hk:min (128-m.length%128) xs.length=k at F ⊢;have Ss:ys.length=k:=by rw[<- hys,Qw];exact hk
   have hy8:∀y∈ys,0<=y/\y<=255:=λy hy=>hr y (by rw[<- hys] at hy;exact List.mem_of_mem_take hy)
   have hyx:ys=xs.take k:=by rw[<- hys, <- hk,List.take_eq_take_iff];omega
   have D3:=D2.lay (ys:=ys) (r:=m.length%128) hy8 (by omega);have hf3:BD w2 (w2.setCells B (o+8+m.length%128) (v8 ys)) (λb _=>b=B):=BG _ _ (BD.refl _ _) λ_ _=>.inr rfl
   have hx3:(lay x ys (m.length%128)).take (m.length%128+k)=m.drop (m.length/128*128)++ys:=by
    have hxl:=D.hx.len8;unfold lay;rw[hxm, <- Yt];refine List.take_left' ?_;rw[NC,VK,Ss];omega
   have akv:(lay x ys (m.length%128)).length=128:=by rw[ik (by have:=D.hx.len8;omega)];exact D.hx.len8
   generalize lay x ys (m.length%128)=x3 at D3 hx3 akv;generalize w2.setCells B (o+8+m.length%128) (v8 ys)=w3 at D3 hf3 ⊢;have afh:=Fu hG Xs hf3 hB;refine AP (AA F rfl λa F=>Eu F rfl rfl λa F=>AZ F rfl (mH F.e) λa F=>AZ F rfl (bJ F.e D3.hn.1) λa F=>AA F rfl λa F=>AZ F rfl (XK F.e F.e) λa F=>
    Eu F rfl rfl λa F=>AZ F rfl (mH F.e) λa F=>FB F rfl rfl (ABl F.e F.e D3.hn) λa F=>AJ ?_)
   have Ft:IntKind.i64.wrap (((m.length%128:Nat):Int)+((k:Nat):Int))=((m.length%128+k:Nat):Int):=by
    rw[YB (by omega) (by omega)];omega
   rw[Ft] at F ⊢;have D4:Dg (w3.setCell ⟨B,o+136,none⟩ (.int .i64 ((m.length%128+k:Nat):Int))) B o (eN m) x3 (m.length%128+k) N:=D3.xf _;have hf4:BD w3 (w3.setCell ⟨B,o+136,none⟩ (.int .i64 ((m.length%128+k:Nat):Int))) (λb _=>b=B):=yo (BD.refl _ _);generalize w3.setCell ⟨B,o+136,none⟩ (.int .i64 ((m.length%128+k:Nat):Int))=w4 at D4 hf4 ⊢;have acQ:=Fu hG afh hf4 hB;have aav:BD w w4 (λb _=>b=B):=((AE.trans vq).trans hf3).trans hf4;have wv:(m++ys).length=m.length+k:=by rw[NC,Ss]
   refine GM (J:=λa w'=>∃f,Fx B o xs.length (.slice ap xs.length c) a f/\f 6= .int .i64 (k:Nat)/\St1 GC B o N (m++ys) w w') ?_ ?_
   ·refine AP (AA F rfl λa F=>Eu F rfl rfl λa F=>AZ F rfl (mH F.e) λa F=>AZ F rfl (bJ F.e D4.hn.1) λa F=>AZ F rfl (ABy F.e rfl) λa F=>AJ (ry F rfl (λhb=>?_) λhb=>?_))
    ·have acL:m.length%128+k=128:=by have:=eq_of_beq hb;omega
     have hpx:AO false w4 (B,o+8) (List.replicate (1*128) .u8) x3:=⟨D4.hx.1,λi k x hk hx=>(D4.hx.2 i k x hk hx).xT⟩;refine AP (AA F rfl λa F=>AA F rfl λa F=>Eu F rfl rfl λa F=>AZ F rfl (AMp F.e) λa F=>AZ F rfl (AKa F.e) λa F=>
      EG F rfl (Bg rfl F.e F.e Tryz.call80) (gm (n:=1) (pb:=B) (po:=o+8) (c:=128) hG acQ (EX δ aav.1) hB D4.hh hpx (by omega) (by omega)) λe w5 h5=>⟨_,h5.ret,λa F=>AJ ?_⟩)
     have hf5:BD w4 w5 (λb _=>b=B):=h5.an.mono λb i _ h=>h.1
     have D5:Dg w5 B o (blk 1 (eN m) x3) x3 (m.length%128+k) N:=⟨h5.mem,D4.hx.an h5.an λi _ h=>by omega,h5.an.fk D4.hn (by omega),h5.an.fk D4.hl (by omega),h5.an.fk D4.hs (by omega)⟩;refine cp (AA F rfl λa F=>Eu F rfl rfl λa F=>AZ F rfl (mH F.e) λa F=>FB F rfl rfl (ABl F.e rfl D5.hn) λa F=>CY ⟨rfl,_,⟨F,rfl,rfl,rfl,rfl⟩,rfl,?_⟩);have D6:Dg (w5.setCell ⟨B,o+136,none⟩ (.int .i64 0)) B o (blk 1 (eN m) x3) x3 0 N:=D5.xf 0;have hf6:BD w5 (w5.setCell ⟨B,o+136,none⟩ (.int .i64 0)) (λb _=>b=B):=yo (BD.refl _ _);have hh:blk 1 (eN m) x3=eN (m++ys):=by
      rw[AEo (WP m),AC2 (by omega)];rw[<- hx3,acL,NO (by omega)]
     rw[hh] at D6;have aay:(m++ys).length%128=0:=by omega
     refine⟨(aav.trans hf5).trans hf6,Fu hG h5.gw hf6 hB,x3,by rw[aay];exact D6,?_⟩;rw[aay,List.drop_of_length_le (by omega)];rfl
    ·have bj:m.length%128+k<128:=by
      have:¬(((m.length%128+k:Nat):Int)=128):=by simpa using hb
      omega
     refine PW ⟨rfl,_,⟨F,rfl,rfl,rfl,rfl⟩,rfl,aav,acQ,x3,?_,?_⟩
     ·rw[qO (by omega),wv,show(m.length+k)%128=m.length%128+k by omega];exact D4
     ·rw[wv,show(m.length+k)%128=m.length%128+k by omega,hx3,show(m.length+k)/128=m.length/128 by omega,List.drop_append_of_le_length (by omega)]
   ·rintro a w5 ⟨f,Fx1,h6,S5⟩;have F:=Fx1.wi.wi (t:=6) (v:=.int .i64 (k:Nat)) (by rw[Kq (by omega),Kq (by omega),Kq (by omega),Kq (by omega)];exact h6);have hp5:=hp0.an S5.an;refine cp (AA F rfl λa F=>AA F rfl λa F=>AZ F rfl (zb F.e F.e (by omega) hc) λa F=>AB F rfl λa F=>CY ⟨rfl,_,m++ys,xs.drop k,_,?_,⟨F,rfl,rfl,rfl,rfl⟩,hp5.drop k (by omega) _ _ _ rfl,?_,S5⟩)
    ·rw[hyx,Yt,List.take_append_drop]
    ·by_cases Ax:k=xs.length
     ·left;rw[Ax];exact List.drop_length
     ·right;omega
  ·have ud:m.length%128=0:=by
    have:¬((0:Int)<((m.length%128:Nat):Int)):=of_decide_eq_false hb;omega
   exact PW ⟨rfl,_,m,xs,_,rfl,⟨F,rfl,rfl,rfl,rfl⟩,zE,.inr ud,AE,qT,x,D1,hxm⟩
 ·rintro a w2 ⟨f,m1,ys,v,hmy,Fx1,hpy,hor,S1⟩;have F:=Fx1.wi;have aj9:m1.length+ys.length=N:=by
   have:=CV List.length hmy;rw[NC,NC] at this;omega
  obtain⟨ap1,c1,rfl,hc1,sd,abg⟩:=id hpy;refine GM (J:=λa w'=>∃f m1 ys v,m1++ys=m++xs/\Fx B o xs.length v a f/\bY w' B v ys/\(ys= []\/m1.length%128=0)/\ys.length<128/\St1 GC B o N m1 w w') ?_ ?_
  ·refine AP (AA F rfl λa F=>AZ F rfl (OE F.e) λa F=>AZ F rfl (Np F.e rfl) λa F=>AJ (ry F rfl (λhb=>?_) λhb=>?_))
   ·have lE:128<=ys.length:=by have:=of_decide_eq_true hb;omega
    have ud:m1.length%128=0:=hor.resolve_left (λh=>by rw[h] at lE;simp at lE);obtain⟨b0,o0,rfl,hbB,cR⟩:=abg (by omega);clear abg;obtain⟨x2,D2,RT⟩:=S1.dg;refine AP (AA F rfl λa F=>AZ F rfl (OE F.e) λa F=>AZ F rfl (ALV F.e rfl (by omega)) λa F=>AB F rfl λa F=>AJ ?_);have hpm:AO false w2 (b0,o0) (List.replicate (ys.length/128*128) .u8) (ys.take (ys.length/128*128)):=AJe (by rw[Qw];omega) (λy hy=>sd y (List.mem_of_mem_take hy)) λi hi=>⟨by
     rw[cR i (by omega)];simp[List.getD,hi],λh=>by cases h⟩
    refine AP (AA F rfl λa F=>AA F rfl λa F=>AA F rfl λa F=>AZ F rfl (gL F.e F.e (by omega)) λa F=>
     EG F rfl (Bg rfl F.e F.e Tryz.call80) (gm (n:=ys.length/128) (pb:=b0) (po:=o0) (c:=c1) hG S1.gw (EX δ S1.an.1) hB D2.hh hpm (by omega) (by omega)) λe w3 h3=>⟨_,h3.ret,λa F=>AJ ?_⟩)
    have hf3:BD w2 w3 (λb _=>b=B):=h3.an.mono λb i _ h=>h.1
    have hh:blk (ys.length/128) (eN m1) (ys.take (ys.length/128*128))=eN (m1++ys.take (ys.length/128*128)):=by
     rw[AEo (WP m1),AGV (q:=m1.length/128) (by omega),Qw,show min (ys.length/128*128) ys.length/128=ys.length/128 by omega]
    have D3:Dg w3 B o (eN (m1++ys.take (ys.length/128*128))) x2 (m1.length%128) N:=⟨by rw[<- hh];exact h3.mem,D2.hx.an h3.an λi _ h=>by omega,h3.an.fk D2.hn (by omega),h3.an.fk D2.hl (by omega),h3.an.fk D2.hs (by omega)⟩;have hl3:(m1++ys.take (ys.length/128*128)).length=m1.length+ys.length/128*128:=by rw[NC,Qw];omega
    refine cp (AA F rfl λa F=>AA F rfl λa F=>AZ F rfl (zb F.e F.e (by omega) hc1) λa F=>AB F rfl λa F=>CY ⟨rfl,_,m1++ys.take (ys.length/128*128),ys.drop (ys.length/128*128),_,?_,⟨F,rfl,rfl,rfl,rfl⟩,(hpy.an hf3).drop _ (by omega) _ _ _ rfl,.inr (by omega),by rw[VK];omega,S1.an.trans hf3,h3.gw,x2,?_,?_⟩)
    ·rw[Yt,List.take_append_drop,hmy]
    ·rw[show(m1++ys.take (ys.length/128*128)).length%128=m1.length%128 by omega];exact D3
    ·rw[show(m1++ys.take (ys.length/128*128)).length%128=0 by omega,List.drop_of_length_le (by omega)];rfl
   ·have bj:ys.length<128:=by have:=of_decide_eq_false hb;omega
    exact PW ⟨rfl,_,m1,ys,_,hmy,⟨F,rfl,rfl,rfl,rfl⟩,hpy,hor,bj,S1⟩
  ·clear F Fx1 hpy hor S1 hmy aj9 hc1 sd abg;rintro a w3 ⟨f,m2,zs,v,hmz,Fx2,hpz,hor,bj,S2⟩;have F:=Fx2.wi;have atM:m2.length+zs.length=N:=by
    have:=CV List.length hmz;rw[NC,NC] at this;omega
   obtain⟨ap2,c2,rfl,hc2,Tr,-⟩:=id hpz;refine GM (J:=λa w'=>∃f,Fx B o xs.length (.slice ap2 zs.length c2) a f/\St1 GC B o N (m2++zs) w w') ?_ ?_
   ·refine AP (AA F rfl λa F=>AZ F rfl (OE F.e) λa F=>AZ F rfl (xg F.e rfl) λa F=>AJ (ry F rfl (λhb=>?_) λhb=>?_))
    ·have hgt:0<zs.length:=by have:=of_decide_eq_true hb;omega
     have ud:m2.length%128=0:=hor.resolve_left (λh=>by rw[h] at hgt;simp at hgt);obtain⟨x3,D3,hx3⟩:=S2.dg;have D4:=D3.lay (ys:=zs) (r:=0) Tr (by omega);have hf4:BD w3 (w3.setCells B (o+8+0) (v8 zs)) (λb _=>b=B):=BG _ _ (BD.refl _ _) λ_ _=>.inr rfl
     refine cp (AA F rfl λa F=>AA F rfl λa F=>Eu F rfl rfl λa F=>AZ F rfl (AMp F.e) λa F=>AZ F rfl (AKa F.e) λa F=>AA F rfl λa F=>
      AZ F rfl (AIb F.e F.e hpz (by omega) (λi hi=>⟨_,(D3.hx.at8 hi).1⟩)) λa F=>Eu F rfl rfl λa F=>AZ F rfl (mH F.e) λa F=>FB F rfl rfl (ABl F.e F.e D4.hn) λa F=>CY ⟨rfl,_,⟨F,rfl,rfl,rfl,rfl⟩,?_⟩)
     have D5:=D4.xf zs.length;have hf5:=yo (o:=o+136) (v:=.int .i64 (zs.length:Nat)) hf4;have hh:eN (m2++zs)=eN m2:=qO (by omega);have hl5:(m2++zs).length=m2.length+zs.length:=NC;refine⟨S2.an.trans hf5,Fu hG S2.gw hf5 hB,lay x3 zs 0,?_,?_⟩
     ·rw[hh,hl5,show(m2.length+zs.length)%128=zs.length by omega];exact D5
     ·rw[hl5,show(m2.length+zs.length)%128=zs.length by omega,show(m2.length+zs.length)/128*128=m2.length by omega,List.drop_left];unfold lay;rw[zcv,MA,List.take_left]
    ·have h0:zs= []:=HW (by have:=of_decide_eq_false hb;omega);refine PW ⟨rfl,_,⟨F,rfl,rfl,rfl,rfl⟩,?_⟩;subst h0;rw[RD];exact S2
   ·rintro a w4 ⟨f,Fx3,S3⟩;rw[hmz] at S3;refine Cn ⟨Fx3.fr.df,.tuple #[.int .i64 xs.length,.nilIface],?_,rfl,⟨?_⟩,S3.an,S3.gw⟩
    ·have h4:=Fx3.fr.tm 4;have h5:=Fx3.fr.tm 5;rw[Fx3.f4] at h4;rw[Fx3.f5] at h5;rw[YJ] at h4 h5;simp[results,Tryz.results54,go_sem,h4,h5]
    ·obtain⟨x4,D4,hx4⟩:=S3.dg;have e:(m++xs).length=N:=by rw[NC,hM]
     refine⟨x4,?_,hx4⟩;rw[e] at D4 ⊢;exact D4
end
section
open Go
theorem AO.app{f:Bool}{w:World}{b o:Nat}{ks js:List IntKind}{xs ys:List Int}(h:AO f w (b,o) (ks++js) (xs++ys))(hl:ks.length=xs.length):AO f w (b,o) ks xs/\AO f w (b,o+ks.length) js ys:=by
 obtain⟨⟨h1,h2⟩,h3⟩:=h;rw[NC,NC] at h1;have kL:∀ {i:Nat} {k:IntKind},ks[i]? = some k->(ks++js)[i]? = some k:=λ{i k} hk=>by
  rw[gZ (Oa.1 hk).1];exact hk
 have xL:∀ {i:Nat} {x:Int},xs[i]? = some x->(xs++ys)[i]? = some x:=λ{i x} hk=>by
  rw[gZ (Oa.1 hk).1];exact hk
 have kR:∀ {i:Nat} {k:IntKind},js[i]? = some k->(ks++js)[ks.length+i]? = some k:=λ{i k} hk=>by
  rw[fQ (by omega),Nat.add_sub_cancel_left];exact hk
 have xR:∀ {i:Nat} {x:Int},ys[i]? = some x->(xs++ys)[ks.length+i]? = some x:=λ{i x} hk=>by
  rw[fQ (by omega),hl,Nat.add_sub_cancel_left];exact hk
 refine⟨⟨⟨by omega,λi k x hk hx=>h2 i k x (kL hk) (xL hx)⟩,λi k x hk hx=>h3 i k x (kL hk) (xL hx)⟩,⟨⟨by omega,λi k x hk hx=>h2 _ k x (kR hk) (xR hx)⟩,λi k x hk hx=>?_⟩⟩;have:=h3 _ k x (kR hk) (xR hx);rwa [<- WZ] at this
def dK:List IntKind:=List.replicate 8 .u64++(List.replicate 128 .u8 ++ [.i64,.u64,.i64])
theorem Dg.iz{w:World}{B o:Nat}{h x:List Int}{nx L:Nat}(hl:h.length=8)(hx:x.length=128)(hm:AO true w (B,o) dK (h++(x ++ [(nx:Int),(L:Int),64]))):Dg w B o h x nx L:=by
 obtain⟨h1,h2⟩:=hm.app (by simp[hl]);obtain⟨h3,h4⟩:=h2.app (by simp[hx]);have e8:(List.replicate 8 IntKind.u64).length=8:=Rp;have Wg:(List.replicate 128 IntKind.u8).length=128:=Rp;rw[e8] at h3;rw[e8,Wg] at h4;exact⟨h1,h3,h4.2 0 .i64 _ rfl rfl,h4.2 1 .u64 _ rfl rfl,h4.2 2 .i64 _ rfl rfl⟩
theorem AHv:Om.raw PG 0 []=H0++(List.replicate 128 0 ++ [0,0,64]):=by kernel_rfl
structure AS7 (GC:Nat->Nat->Option Value) (w:World) (e:Ending) (w':World):Prop where
 ret:∃B o,e= .returned (.pointer (some ⟨B,o,none⟩))/\w.heap.size<=B/\JT w' B o []
 an:BD w w' (λ_ _=>False)
 gw:GW GC w'
theorem AHn{GB:Nat}{GC:Nat->Nat->Option Value}{ad:Nat->Nat×Nat}(hG:GI GB GC ad){w:World}(ε:GW GC w)(δ:GB<=w.heap.size):Calls Tryz.prog 53 #[] w (AS7 GC w):=by
 have h:=dC hG true [] [] [] w ε δ trivial trivial (λh=>(by cases h)) rfl;refine h.mono λe w' ⟨fb,vs,he,hp⟩=>?_
 simp only[FE.cf] at hp;have hr:=hp.ret
 match vs,hr with
 | [v],hr=>
 obtain⟨b,hb,hv⟩:=hr.1;subst hv;have hm:=hp.fresh 0 (dK,λa=>BF 139 (Om.raw PG 0 a)) b rfl hb;have e1:BF 139 (Om.raw PG 0 [])=H0++(List.replicate 128 0 ++ [0,0,64]):=by
  rw[AHv];exact Ay rfl
 have gO:AO true w' (b.1,b.2) dK (H0++(List.replicate 128 0 ++ [0,0,64])):=by rw[<- e1];exact hm
 refine⟨⟨b.1,b.2,he,hp.fr b (MB hb),_,Dg.iz (nx:=0) (L:=0) rfl (by simp) gO,rfl⟩,hp.an.mono λb' o' _ hs=>?_,hp.gw⟩;obtain⟨p,eA,_⟩:=hs;cases eA
end
section
open Go
section
variable{ρ:Operand->Value}{d:Option Tmp}{x y:Operand}{ty:TypeId}{pos:String}{af:Array Edge}{w:World}{b o:Nat}
theorem vL{i j:Nat}(h:ρ x= .int .u64 i)(hy:ρ y= .int .u64 j)(hj:0<j):(execOp ρ ⟨d,.binOp .rem 38 x y 38,ty,pos,af,none⟩).run Tryz.prog w= .ok (.value (.int .u64 ((i%j:Nat):Int))) w:=by
 simp[execOp,go_sem,h,hy];rw[if_neg (by omega)];rfl
theorem ALw{i j:Int}(h:ρ x= .int .u64 i)(hy:ρ y= .int .u64 j):(execOp ρ ⟨d,.binOp .lss 38 x y 38,ty,pos,af,none⟩).run Tryz.prog w= .ok (.value (.bool (decide (i<j)))) w:=by
 simp[execOp,go_sem,h,hy]
theorem ADp{i j:Int}(h:ρ x= .int .u64 i)(hy:ρ y= .int .u64 j):(execOp ρ ⟨d,.binOp .sub 38 x y 38,ty,pos,af,none⟩).run Tryz.prog w= .ok (.value (.int .u64 (IntKind.u64.wrap (i-j)))) w:=by
 simp[execOp,go_sem,h,hy]
theorem ANb{i:Int}(h:ρ x= .int .u64 i)(hy:ρ y= .int .u64 3):(execOp ρ ⟨d,.binOp .shl 38 x y 107,ty,pos,af,none⟩).run Tryz.prog w= .ok (.value (.int .u64 (IntKind.u64.wrap (i*8)))) w:=by
 simp[execOp,go_sem,h,hy]
theorem Qd{i j:Int}(h:ρ x= .int .i64 i)(hy:ρ y= .int .i64 j):(execOp ρ ⟨d,.binOp .neq 3 x y 3,ty,pos,af,none⟩).run Tryz.prog w= .ok (.value (.bool (i != j))) w:=by
 simp[execOp,go_sem,h,hy]
theorem ATg:Tryz.zeroCells173=Array.replicate 144 (.int .u8 0):=by kernel_rfl
theorem ATU:Tryz.zeroCells115=(AL dK (List.replicate 139 0)).toArray:=by kernel_rfl
theorem AIj:(execOp ρ ⟨d,.alloc 173,ty,pos,af,none⟩).run Tryz.prog w= .ok (.value (.pointer (some ⟨w.heap.size,0,none⟩))) (w.alloc (.cells (Array.replicate 144 (.int .u8 0)) 173)):=by
 simp[execOp,go_sem,ATg]
theorem sw:(execOp ρ ⟨d,.alloc 117,ty,pos,af,none⟩).run Tryz.prog w= .ok (.value (.pointer (some ⟨w.heap.size,0,none⟩))) (w.alloc (.cells (Array.replicate 64 (.int .u8 0)) 117)):=by
 simp[execOp,go_sem];rfl
theorem AQy:(execOp ρ ⟨d,.alloc 115,ty,pos,af,none⟩).run Tryz.prog w= .ok (.value (.pointer (some ⟨w.heap.size,0,none⟩))) (w.alloc (.cells (AL dK (List.replicate 139 0)).toArray 115)):=by
 simp[execOp,go_sem,ATU]
theorem ASG(h:ρ x= .pointer (some ⟨b,o,none⟩))(hy:ρ y= .int .i64 0):(execOp ρ ⟨d,.indexAddr 173 x y,ty,pos,af,none⟩).run Tryz.prog w= .ok (.value (.pointer (some ⟨b,o,none⟩))) w:=by
 simp[execOp,go_sem,h,hy]
theorem WN{k:Nat}(h:ρ x= .pointer (some ⟨b,o,none⟩))(hy:ρ y= .int .i64 k)(hk:k<8):(execOp ρ ⟨d,.indexAddr 39 x y,ty,pos,af,none⟩).run Tryz.prog w= .ok (.value (.pointer (some ⟨b,o+k,none⟩))) w:=by
 simp[execOp,go_sem,h,hy];intro h;omega
theorem OL{t:TypeId}{cs:List Value}(ha:∀w,(isAgg t).run Tryz.prog w= .ok true w)(hz:∀w,(sizeOf t).run Tryz.prog w= .ok cs.length w)(h:ρ x= .pointer (some ⟨b,o,none⟩))(hc:∀i v,cs[i]? = some v->w.cell? ⟨b,o+i,none⟩=some v):
  (execOp ρ ⟨d,.load t x,ty,pos,af,none⟩).run Tryz.prog w= .ok (.value (.agg cs.toArray)) w:=by
 have hl:=run_loadCells_list (P:=Tryz.prog) w ⟨b,o,none⟩ cs (λj u hu=>by rw[Ce];exact hc j u hu);simp only[execOp,h,Instr.loadAt,Instr.sureAddr,loadVar,Gi,I4,Fb,ha,if_true,hz,hl]
theorem QG(b:Nat):∀(vs:List Value) (w:World) (o:Nat),setCells w b o vs=w.setCells b o vs
 | [],_,_=>rfl
 |_v::vs,_w,o=>QG b vs _ (o+1)
theorem Kb{t:TypeId}{cs:List Value}(hz:∀w,(sizeOf t).run Tryz.prog w= .ok cs.length w)(h:ρ x= .pointer (some ⟨b,o,none⟩))(hy:ρ y= .agg cs.toArray)(h1:∀v∈cs,v.oneCell'=true)(hc:∀j,j<cs.length->∃u,CP true w b (o+j) u):
  (execOp ρ ⟨d,.store t x y,ty,pos,af,none⟩).run Tryz.prog w= .ok .skip (w.setCells b o cs):=by
 have eN:=JS (P:=Tryz.prog) b o cs 0 w h1 (by simpa using hc);rw[QO,QG] at eN;have cS:(Value.agg cs.toArray).cells.size=cs.length:=by simp[Value.cells]
 simp only[execOp,h,hy,Instr.storeAt,Instr.sureAddr,storeVar,Gi,I4,Fb,hz,cS,ne_eq,not_true,if_false];have kx:(Value.agg cs.toArray).cells.toList=cs:=by simp[Value.cells]
 rw[kx,eN];rfl
end
end
section
open Go
def Ra(v:Int):List Int:=[56,48,40,32,24,16,8,0].map λk=>IntKind.u8.wrap (DR .shr v k)
def qj(n:Nat)(dc:List Int):List Int:=(List.range (n-8)).map λi=>dc.getD (i+8) 0
theorem AHx{dc:List Int}{v:Int}:OG.raw Nr 0 [dc,[v]]=Ra v++qj 64 dc:=by kernel_rfl
theorem AGO{dc:List Int}{v:Int}:Lf.raw La 0 [dc,[v]]=Ra v++qj 56 dc:=by kernel_rfl
theorem AH1{dc:List Int}{v:Int}:Ll.raw Lp 0 [dc,[v]]=Ra v++qj 48 dc:=by kernel_rfl
theorem AJG{dc:List Int}{v:Int}:Lv.raw Lx 0 [dc,[v]]=Ra v++qj 40 dc:=by kernel_rfl
theorem AJR{dc:List Int}{v:Int}:Lb.raw Lj 0 [dc,[v]]=Ra v++qj 32 dc:=by kernel_rfl
theorem AGd{dc:List Int}{v:Int}:L8.raw Lm 0 [dc,[v]]=Ra v++qj 24 dc:=by kernel_rfl
theorem AIB{dc:List Int}{v:Int}:Lt.raw Le 0 [dc,[v]]=Ra v++qj 16 dc:=by kernel_rfl
theorem AHE{dc:List Int}{v:Int}:L9.raw Lg 0 [dc,[v]]=Ra v++qj 8 dc:=by kernel_rfl
structure iT (GC:Nat->Nat->Option Value) (b o:Nat) (v:Int) (w:World) (e:Ending) (w':World):Prop where
 ret:e= .returned (.tuple #[])
 mem:AO true w' (b,o) (List.replicate 8 .u8) (Ra v)
 an:BD w w' (λb' i=>b'=b/\o<=i/\i<o+8)
 gw:GW GC w'
theorem AIv{n:Nat}{dc:List Int}:(qj n dc).length=n-8:=by simp[qj]
theorem LA(v:Int):(Ra v).length=8:=rfl
theorem AHu{w w':World}{b o n:Nat}{dc:List Int}{v:Int}(hf:BD w w' (λb' i=>b'=b/\o<=i/\i<o+n))(h0:AO true w (b,o) (List.replicate n .u8) dc)(h1:AO true w' (b,o) (List.replicate n .u8) (Ra v++qj n dc))(h8:8<=n):BD w w' (λb' i=>b'=b/\o<=i/\i<o+8):=by
 refine⟨hf.1,λb' x hx=>?_,hf.2.2⟩;obtain⟨y,hy,hb⟩:=hf.2.1 b' x hx;refine⟨y,hy,?_⟩;rcases hb with rfl|⟨c,c',e,f,rfl,rfl,h2,h3⟩
 ·exact .inl rfl
 ·refine .inr ⟨c,c',e,f,rfl,rfl,h2,λi hi=>?_⟩;by_cases eE:b'=b/\o<=i/\i<o+n
  ·obtain⟨rfl,Wr,K1⟩:=eE;have hi8:o+8<=i:=by
    rcases kz i (o+8) with h|h
    ·exact absurd ⟨rfl,Wr,h⟩ hi
    ·exact h
   obtain⟨a1,-, -, -⟩:=h0.at8 (i:=i-o) (by omega);obtain⟨a2,-, -, -⟩:=h1.at8 (i:=i-o) (by omega);rw[show o+(i-o)=i by omega] at a1 a2;have e1:(Ra v++qj n dc).getD (i-o) 0=dc.getD (i-o) 0:=by
    simp only[List.getD];rw[fQ (by rw[LA];omega),LA];have bj:i-o-8<n-8:=by omega
    simp[qj,bj,List.getD,show i-o-8+8=i-o by omega]
   rw[e1] at a2;have c1:=a1.1;have c2:=a2.1;simp only[World.cell?,hx] at c1;simp only[World.cell?,hy] at c2;have:=c2.trans c1.symm;simpa using this
  ·exact h3 i eE
section
variable{GB:Nat}{GC:Nat->Nat->Option Value}{ad:Nat->Nat×Nat}
theorem QC{f n:Nat}{i:Ac}{C:Cx}(hn:8<=n)(eM:Bv Tryz.prog GB GC f (.one (i.sum C)))(hp:i.s0.params= [.sl (List.replicate n .u8) 1 true,.int .u64])(cY:i.s0.outs= [(0,List.replicate n .u8,z1)])(vf:i.s0.ret= [])(_hfr:i.s0.fresh= [])(hhp:(i.sum C).hp=false)(aa6:∀dc v,i.raw C 0 [dc,[v]]=Ra v++qj n dc)
  {w:World} {b o c:Nat} {dc:List Int} {v:Int} (ε:GW GC w) (δ:GB<=w.heap.size) (hB:GB<=b) (hm:AO true w (b,o) (List.replicate n .u8) dc) (hc:n<=c) (hv:IJ .u64 v):Calls Tryz.prog f #[.slice (some ⟨b,o,none⟩) n c,.int .u64 v] w (iT GC b o v w):=by
 have hP:Jg GB w (i.sum C).params [.slice (some ⟨b,o,none⟩) n c,.int .u64 v] [dc,[v]] [(b,o),(0,0)]:=by
  show Jg GB w i.s0.params _ _ _;rw[hp];exact⟨⟨c,by rw[Rp],by rw[Rp];exact hc,hm,λ_=>hB⟩,⟨v,rfl,rfl,hv⟩,trivial⟩
 have hS:Ep (i.sum C).params [(b,o),(0,0)]:=by
  show Ep i.s0.params _;rw[hp];refine⟨λx hx=>?_,λx hx=>(by cases hx),trivial⟩;rw[List.zip_cons_cons,List.zip_nil_left,NU] at hx;subst hx;simp[U9,Et.cp]
 refine(eM true _ _ _ w ε δ hP hS (λh=>by rw[show(FE.one (i.sum C)).cf true=i.sum C from rfl,hhp] at h;cases h) rfl).mono λe w' ⟨fb,vs,he,hq⟩=>?_
 simp only[FE.cf] at hq;have eo:(i.sum C).outs= [(0,List.replicate n .u8,λa=>BF (List.replicate n IntKind.u8).length (i.raw C 0 a))]:=by
  show QE (i.raw C) 0 i.s0.outs=_;rw[cY];rfl
 have er:(i.sum C).ret= []:=by
  show I8 (i.raw C) (i.s0.outs.length+i.s0.fresh.length) i.s0.ret=_;rw[vf];rfl
 have hr:=hq.ret;rw[er] at hr;have n8:vs= []:=by
  match vs,hr with
  | [],_=>rfl
 subst n8;have de:=hq.outs;rw[eo] at de;have gO:=de _ Jv;have hlen:(Ra v++qj n dc).length=n:=by rw[NC,LA,AIv];omega
 have e1:BF (List.replicate n IntKind.u8).length (i.raw C 0 [dc,[v]])=Ra v++qj n dc:=by
  rw[aa6,Rp];exact Ay hlen
 have Wa:AO true w' (b,o) (List.replicate n .u8) (Ra v++qj n dc):=by rw[<- e1];exact gO
 have hf:=hq.an;have zd:BD w w' (λb' j=>b'=b/\o<=j/\j<o+n):=hf.mono λb' j _ hS=>by
  obtain⟨p,eA,h1,h2,h3⟩:=hS;rw[eo,NU] at eA;subst eA;refine⟨h1,h2,?_⟩;have:(List.replicate n IntKind.u8).length=n:=Rp;rw[<- this];exact h3
 refine⟨he,?_,AHu zd hm Wa hn,hq.gw⟩;have:=(Wa.take (n:=8) hn);rwa [List.take_left' (LA v)] at this
end
end
section
open Go
section
variable{GB:Nat}{GC:Nat->Nat->Option Value}{ad:Nat->Nat×Nat}(hG:GI GB GC ad){w:World}{b o c:Nat}{dc:List Int}{v:Int}(ε:GW GC w)(δ:GB<=w.heap.size)(hB:GB<=b)(hv:IJ .u64 v)
include hG ε δ hB hv
theorem AUN(hm:AO true w (b,o) (List.replicate 64 .u8) dc)(hc:64<=c):Calls Tryz.prog 117 #[.slice (some ⟨b,o,none⟩) 64 c,.int .u64 v] w (iT GC b o v w):=QC (by omega) (Sg hG) rfl rfl rfl rfl rfl (λ_ _=>AHx) ε δ hB hm hc hv
theorem ATv(hm:AO true w (b,o) (List.replicate 56 .u8) dc)(hc:56<=c):Calls Tryz.prog 117 #[.slice (some ⟨b,o,none⟩) 56 c,.int .u64 v] w (iT GC b o v w):=QC (by omega) (Qj hG) rfl rfl rfl rfl rfl (λ_ _=>AGO) ε δ hB hm hc hv
theorem ATI(hm:AO true w (b,o) (List.replicate 48 .u8) dc)(hc:48<=c):Calls Tryz.prog 117 #[.slice (some ⟨b,o,none⟩) 48 c,.int .u64 v] w (iT GC b o v w):=QC (by omega) (Qk hG) rfl rfl rfl rfl rfl (λ_ _=>AH1) ε δ hB hm hc hv
theorem ATP(hm:AO true w (b,o) (List.replicate 40 .u8) dc)(hc:40<=c):Calls Tryz.prog 117 #[.slice (some ⟨b,o,none⟩) 40 c,.int .u64 v] w (iT GC b o v w):=QC (by omega) (Qh hG) rfl rfl rfl rfl rfl (λ_ _=>AJG) ε δ hB hm hc hv
theorem AUU(hm:AO true w (b,o) (List.replicate 32 .u8) dc)(hc:32<=c):Calls Tryz.prog 117 #[.slice (some ⟨b,o,none⟩) 32 c,.int .u64 v] w (iT GC b o v w):=QC (by omega) (QT hG) rfl rfl rfl rfl rfl (λ_ _=>AJR) ε δ hB hm hc hv
theorem ATW(hm:AO true w (b,o) (List.replicate 24 .u8) dc)(hc:24<=c):Calls Tryz.prog 117 #[.slice (some ⟨b,o,none⟩) 24 c,.int .u64 v] w (iT GC b o v w):=QC (by omega) (QZ hG) rfl rfl rfl rfl rfl (λ_ _=>AGd) ε δ hB hm hc hv
theorem ATd(hm:AO true w (b,o) (List.replicate 16 .u8) dc)(hc:16<=c):Calls Tryz.prog 117 #[.slice (some ⟨b,o,none⟩) 16 c,.int .u64 v] w (iT GC b o v w):=QC (by omega) (QU hG) rfl rfl rfl rfl rfl (λ_ _=>AIB) ε δ hB hm hc hv
theorem AQT(hm:AO true w (b,o) (List.replicate 8 .u8) dc)(hc:8<=c):Calls Tryz.prog 117 #[.slice (some ⟨b,o,none⟩) 8 c,.int .u64 v] w (iT GC b o v w):=QC (by omega) (QX hG) rfl rfl rfl rfl rfl (λ_ _=>AHE) ε δ hB hm hc hv
end
def Fh(L:Nat):Nat:=if L%128<112 then 112-L%128 else 240-L%128
def tQ(L:Nat):List Int:=128::(List.replicate (Fh L+7) 0++Ra ((L*8:Nat):Int))
def ACv(h:List Int):List Int:=h.flatMap Ra
def Qt(m:List Int):List Int:=ACv (eN (m++tQ m.length))
theorem Yo(L:Nat):(tQ L).length=Fh L+16:=by
 unfold tQ;rw[NY,NC,Rp,LA]
theorem RZ(L:Nat):1<=Fh L/\Fh L<=128/\(L+(Fh L+16))%128=0:=by
 unfold Fh;split<;>omega
theorem yj(m:List Int):(m++tQ m.length).length%128=0:=by
 rw[NC,Yo];exact(RZ _).2.2
theorem Ox{w w':World}{b o n k:Nat}{xs:List Int}{v:Int}(h:AO true w (b,o) (List.replicate n .u8) xs)(hf:BD w w' (λb' i=>b'=b/\o+k<=i/\i<o+k+8))(hp:AO true w' (b,o+k) (List.replicate 8 .u8) (Ra v))(hk:k+8<=n):AO true w' (b,o) (List.replicate n .u8) (lay xs (Ra v) k):=by
 have hl:=h.len8;have h8:=LA v;refine AJe (by rw[ik (by omega)];exact hl) (λz hz=>?_) λi hi=>?_
 ·simp only[lay,qM] at hz;rcases hz with hz|hz|hz
  ·exact h.jz z (List.mem_of_mem_take hz)
  ·exact hp.jz z hz
  ·exact h.jz z (HK hz)
 ·rw[yF (by omega)];split
  ·have:=(hp.at8 (i:=i-k) (by omega)).1;rwa [show o+k+(i-k)=o+i by omega] at this
  ·exact hf.fk (h.at8 hi).1 (λhh=>by omega)
theorem za{f:Bool}{w:World}{b o n k m:Nat}{xs:List Int}(h:AO f w (b,o) (List.replicate n .u8) xs)(hk:k+m<=n):AO f w (b,o+k) (List.replicate m .u8) ((xs.drop k).take m):=by
 have h1:=h.drop (n:=k) (by omega);exact h1.take (n:=m) (by omega)
theorem AG0(L:Nat):(lay (lay (List.replicate 144 0) [128] 0) (Ra ((L*8:Nat):Int)) (Fh L+8)).take (Fh L+16)=tQ L:=by
 obtain⟨h1,h2,-⟩:=RZ L;have e1:lay (List.replicate 144 (0:Int)) [128] 0=128::List.replicate 143 0:=rfl;rw[e1];unfold lay tQ;have h8:=LA ((L*8:Nat):Int);have e2:((128:Int)::List.replicate 143 0).take (Fh L+8)=128::List.replicate (Fh L+7) 0:=by
  rw[show Fh L+8=(Fh L+7)+1 by omega,List.take_succ_cons,List.take_replicate,show min (Fh L+7) 143=Fh L+7 by omega]
 rw[e2, <- Yt];rw[List.take_left' (by rw[NC,NY,Rp,h8])];rfl
end
end Go.Proofs.YtkbfdaoohhmgoaaGreatDoor
