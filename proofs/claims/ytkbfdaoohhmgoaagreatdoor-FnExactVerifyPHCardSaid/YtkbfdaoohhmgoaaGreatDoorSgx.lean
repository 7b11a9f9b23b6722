/- signWithDom: the pieces that the executor walks. -/
import Derived.Test.YtkbfdaoohhmgoaaGreatDoorWc
namespace Go.Proofs.YtkbfdaoohhmgoaaGreatDoor
noncomputable section
open Go
def U4:List IntKind:=List.replicate 4 .u64
def C28:Cx:=F7 [(62,.one CO)] []
def C29:Cx:=F7 [(129,.one CW)] []
end
noncomputable section
open Go
section
variable{GB:Nat}{GC:Nat->Nat->Option Value}{ad:Nat->Nat×Nat}(hG:GI GB GC ad)
include hG
omit hG in
theorem ATj{C:Cx}(h1:C.loops= [])(h2:C.inl= [])(c:Code)(E:En)(_:E.P=Tryz.prog)(h:E.C=C)(_:E.GB=GB)(_:E.GC=GC):Ip E c/\∀f j,lk f C.inl=some j->Ip E j.c:=
 ⟨Ip.of_nil (by rw[h];exact h1) _,λf j hj=>by rw[h2] at hj;cases hj⟩
end
def KB:List Int:=[0,0,0,0]
theorem AHQ:F8.raw Fz 0 []= [0,0,0,0]:=by kernel_rfl
theorem AQA:lk 62 C28.T=some (.one CO):=by kernel_rfl
theorem AJ6:lk 129 C29.T=some (.one CW):=by kernel_rfl
def pbF(p:List Int):List Int:=gv C28.T 62 0 [p]
def sbF(s:List Int):List Int:=gv C29.T 129 0 [s]
section
variable{GB:Nat}{GC:Nat->Nat->Option Value}{ad:Nat->Nat×Nat}
theorem AF8{a a':Act}{n:Nat}{f:Nat->Value}(_F:Fr a n f)(hs:a'.tmps.size=n)(hd:a'.defers= []):Fr a' n (λt=>a'.tmps.getD t undef):=⟨hs,hd,λ_=>rfl⟩
end
end
section
open Go
theorem Oo{f:Nat}{s:Az}{ins:List (List Int)}(h:NB [(f,.one s)] f ins):s.pre ins:=by
 obtain⟨s',h1,h2⟩:=h.pre;have:lk f [(f,FE.one s)]=some (.one s):=by simp[lk]
 rw[this,Ai] at h1;subst h1;exact h2
theorem Ec{f:Nat}{s:Az}:lk f [(f,FE.one s)]=some (.one s):=by simp[lk]
noncomputable def suF(x:List Int):List Int:=gv [(57,.one Ba)] 57 0 [KB,x]
def dh:List Int:=List.replicate 20 0
theorem AMW{ins:List (List Int)}{v0 v1:Value}{fb:List (Nat×Nat)}{vs:List Value}(h:yJ ins [v0,v1] fb [.cF 0,.ej] vs):vs= [v0,.nilIface]:=by
 match vs,h with
 | [a,b],h=>
  have h1:some v0=some a:=h.1;have h2:b= .nilIface:=h.2.1;rw[<- WT h1,h2]
theorem APq:Ba.pr 0= .l λa=>BF 4 (BV.raw Ad 0 a):=rfl
theorem Hf{ks js:List IntKind}{g g':Nat}{wr wr':Bool}{b c:Nat×Nat}(h:b.1≠c.1):U9 (.mem ks g wr) (.mem js g' wr') b c:=λ_=>.inr (.inl h)
theorem APh:CO.pr 0= .l λa=>BF 32 (Ar.raw AX 0 a):=rfl
structure ARw (GC:Nat->Nat->Option Value) (b o:Nat) (ks:List IntKind) (l:List Int) (v:Value) (w:World) (e:Ending) (w':World):Prop where
 ret:e= .returned v
 mem:AO true w' (b,o) ks l
 an:BD w w' (λb' _=>b'=b)
 gw:GW GC w'
section
variable{GB:Nat}{GC:Nat->Nat->Option Value}{ad:Nat->Nat×Nat}(hG:GI GB GC ad){w:World}(ε:GW GC w)(δ:GB<=w.heap.size)
structure ATh (GC:Nat->Nat->Option Value) (w:World) (e:Ending) (w':World):Prop where
 ret:∃B o,e= .returned (.pointer (some ⟨B,o,none⟩))/\w.heap.size<=B/\AO true w' (B,o) U4 KB
 an:BD w w' (λ_ _=>False)
 gw:GW GC w'
include hG ε δ
theorem zZ:Calls Tryz.prog 56 #[] w (ATh GC w):=by
 have h:=Pv hG true [] [] [] w ε δ trivial trivial (λh=>(by cases h)) rfl;refine h.mono λe w' ⟨fb,vs,he,hp⟩=>?_
 simp only[FE.cf] at hp;have hr:=hp.ret
 match vs,hr with
 | [v],hr=>
 obtain⟨b,hb,hv⟩:=hr.1;subst hv;have hm:=hp.fresh 0 (U4,λa=>BF 4 (F8.raw Fz 0 a)) b rfl hb;have gO:AO true w' (b.1,b.2) U4 KB:=by rw[show KB=BF 4 (F8.raw Fz 0 []) from((CV (BF 4) AHQ).trans rfl).symm];exact hm
 refine⟨⟨b.1,b.2,he,hp.fr b (MB hb),gO⟩,hp.an.mono λb' o' _ hs=>?_,hp.gw⟩;obtain⟨p,eA,_⟩:=hs;cases eA
theorem jH{f:Nat}{s:Az}{ks:List IntKind}{F:PF}{v0 v1:Value}{p0 p1:Et}{x0 x1:List Int}{b0 b1:Nat×Nat}{r:List Pq}{rv:List Value}(eM:Bv Tryz.prog GB GC f (.one s))(hp:s.params= [p0,p1])(cY:s.outs= [(0,ks,F)])(vf:s.ret=r)(h0:PM GB w p0 v0 x0 b0)(h1:PM GB w p1 v1 x1 b1)(ju:U9 p0 p1 b0 b1)(MY:s.pre [x0,x1])
  (RE:∀fb vs,yJ [x0,x1] [v0,v1] fb r vs->vs=rv):Calls Tryz.prog f #[v0,v1] w (ARw GC b0.1 b0.2 ks (F [x0,x1]) (Od rv) w):=by
 have _:=hG;have hP:Jg GB w (FE.cf (.one s) true).params [v0,v1] [x0,x1] [b0,b1]:=by
  show Jg GB w s.params _ _ _;rw[hp];exact⟨h0,h1,trivial⟩
 have hS:Ep (FE.cf (.one s) true).params [b0,b1]:=by
  show Ep s.params _;rw[hp];refine⟨λx hx=>?_,λx hx=>(by cases hx),trivial⟩;rw[List.zip_cons_cons,List.zip_nil_left,NU] at hx;subst hx;exact ju
 refine(eM true [v0,v1] [x0,x1] [b0,b1] w ε δ hP hS (λ_=>MY) rfl).mono λe w' ⟨fb,vs,he,hq⟩=>?_
 simp only[FE.cf] at hq;have hr:=hq.ret;rw[vf] at hr;have hv:=RE fb vs hr;subst hv;have hm:=hq.outs;rw[cY] at hm;refine⟨he,hm _ Jv,hq.an.mono λb i _ hS=>?_,hq.gw⟩;obtain⟨p,eA,e1,-, -⟩:=hS;rw[cY,NU] at eA;subst eA;exact e1
theorem AOS{bs os bx ox c:Nat}{x:List Int}(ms:AO true w (bs,os) U4 KB)(ph:GB<=bs)(mx:AO false w (bx,ox) (List.replicate 64 .u8) x)(hc:64<=c)(cj:bs≠bx):
  Calls Tryz.prog 57 #[.pointer (some ⟨bs,os,none⟩),.slice (some ⟨bx,ox,none⟩) 64 c] w (ARw GC bs os U4 (suF x) (.tuple #[.pointer (some ⟨bs,os,none⟩),.nilIface]) w):=by
 have h:=jH hG ε δ (rv:=[.pointer (some ⟨bs,os,none⟩),.nilIface]) (Jt hG) rfl rfl rfl (b0:=(bs,os)) (b1:=(bx,ox)) (x0:=KB) (x1:=x) ⟨rfl,ms,λ_=>ph⟩ ⟨c,rfl,hc,mx,λh=>(by cases h)⟩ (λ_=>.inr (.inl cj)) (Oo (ARP Ec KB x mx.jz mx.len8).1) (λfb vs h=>AMW h);have e:suF x=BF 4 (BV.raw Ad 0 [KB,x]):=by
  unfold suF;rw[Bf Ec,APq];rfl
 rw[e];exact h
structure PbP (GC:Nat->Nat->Option Value) (l:List Int) (w:World) (e:Ending) (w':World):Prop where
 ret:∃B o,e= .returned (.slice (some ⟨B,o,none⟩) 32 32)/\w.heap.size<=B/\AO true w' (B,o) (List.replicate 32 .u8) l
 an:BD w w' (λ_ _=>False)
 gw:GW GC w'
theorem ALk{bp op:Nat}{p:List Int}{P:Ma.Pt}(mp:AO false w (bp,op) (List.replicate 20 .u64) p)(hp:R3 P p):Calls Tryz.prog 62 #[.pointer (some ⟨bp,op,none⟩)] w (PbP GC (pbF p) w):=by
 have h:=Ov hG true [.pointer (some ⟨bp,op,none⟩)] [p] [(bp,op)] w ε δ ⟨⟨rfl,mp,λh=>(by cases h)⟩,trivial⟩ ⟨λ_ h=>(by cases h),trivial⟩ (λ_=>Oo (AH5 Ec hp)) rfl;refine h.mono λe w' ⟨fb,vs,he,hq⟩=>?_
 simp only[FE.cf] at hq;have hr:=hq.ret
 match vs,hr with
 | [v],hr=>
 obtain⟨b,hb,hv⟩:=hr.1;subst hv;have hm:=hq.fresh 0 (List.replicate 32 .u8,λa=>BF 32 (Ar.raw AX 0 a)) b rfl hb;have e1:pbF p=BF 32 (Ar.raw AX 0 [p]):=by
  unfold pbF;rw[Bf (s:=CO) AQA,APh];rfl
 refine⟨⟨b.1,b.2,he,hq.fr b (MB hb),by rw[e1];exact hm⟩,hq.an.mono λb' o' _ hs=>?_,hq.gw⟩;obtain⟨p,eA,_⟩:=hs;cases eA
end
end
section
open Go
section
variable{ρ:Operand->Value}{d:Option Tmp}{x y:Operand}{ty:TypeId}{pos:String}{af:Array Edge}{w:World}{b o:Nat}
theorem AMS{s t:ByteArray}(h:ρ x= .string s)(hy:ρ y= .string t):(execOp ρ ⟨d,.binOp .neq 9 x y 9,ty,pos,af,none⟩).run Tryz.prog w= .ok (.value (.bool (!(s.toList == t.toList)))) w:=by
 simp[execOp,go_sem,h,hy]
theorem jF{s:ByteArray}(h:ρ x= .string s):(execOp ρ ⟨d,.call ⟨.builtin .len,#[x],#[9]⟩,ty,pos,af,none⟩).run Tryz.prog w= .ok (.value (.int .i64 s.size)) w:=by
 simp[go_sem,h]
theorem APs{i:Int}(h:ρ x= .int .i64 i):(execOp ρ ⟨d,.convert 3 5 x,ty,pos,af,none⟩).run Tryz.prog w= .ok (.value (.int .u8 (IntKind.u8.wrap i))) w:=by
 simp[execOp,go_sem,h]
theorem ow{i:Int}(h:ρ x= .int .u8 i):(execOp ρ ⟨d,.buildSlice 22 1 #[(0,x)],ty,pos,af,none⟩).run Tryz.prog w= .ok (.value (.slice (some ⟨w.heap.size,0,none⟩) 1 1)) (w.alloc (.cells #[.int .u8 i] 5)):=by
 simp[execOp,go_sem,h]
theorem ARq:IntKind.i64.wrap 64=64:=by decide
theorem AUa:IntKind.i64.wrap 0=0:=by decide
theorem AT6:Tryz.t5.bytes=1:=by kernel_rfl
theorem AUC(h:ρ x= .int .i64 0)(hy:ρ y= .int .i64 64):(execOp ρ ⟨d,.makeSlice 22 x y,ty,pos,af,none⟩).run Tryz.prog w= .ok (.value (.slice (some ⟨w.heap.size,0,none⟩) 0 64)) (w.alloc (.cells (Array.replicate 64 (.int .u8 0)) 5)):=by
 simp[execOp,go_sem,h,hy,Instr.makeSlice,ARq,AUa,AT6];rfl
theorem Ik{u v:Value}(h:ρ x= .tuple #[u,v]):(execOp ρ ⟨d,.extract x 0,ty,pos,af,none⟩).run Tryz.prog w= .ok (.value u) w:=by
 simp[execOp,go_sem,h]
theorem FZ{u v:Value}(h:ρ x= .tuple #[u,v]):(execOp ρ ⟨d,.extract x 1,ty,pos,af,none⟩).run Tryz.prog w= .ok (.value v) w:=by
 simp[execOp,go_sem,h]
theorem ZT(h:ρ x= .nilIface)(hy:ρ (.const .nilIface)= .nilIface):(execOp ρ ⟨d,.binOp .neq 33 x (.const .nilIface) 33,ty,pos,af,none⟩).run Tryz.prog w= .ok (.value (.bool false)) w:=by
 simp[execOp,go_sem,h,hy]
 trace_state
theorem z20:(#[.int .u64 0,.int .u64 0,.int .u64 0,.int .u64 0,.int .u64 0,.int .u64 0,.int .u64 0,.int .u64 0,.int .u64 0,.int .u64 0,.int .u64 0,.int .u64 0,.int .u64 0,.int .u64 0,.int .u64 0,.int .u64 0,.int .u64 0,.int .u64 0,.int .u64 0,.int .u64 0]:Array Value)=(AL (List.replicate 20 .u64) dh).toArray:=rfl
theorem ACT:(execOp ρ ⟨d,.build 62 #[],ty,pos,af,none⟩).run Tryz.prog w= .ok (.value (.agg (AL (List.replicate 20 .u64) dh).toArray)) w:=by
 rw[<- z20];simp[execOp,go_sem]
theorem AEH{cs:Array Value}(h:ρ x= .agg cs):(execOp ρ ⟨d,.box 62 x,ty,pos,af,none⟩).run Tryz.prog w= .ok (.value (.pointer (some ⟨w.heap.size,0,none⟩))) (w.alloc (.cells cs 62)):=by
 simp[execOp,go_sem,h]
theorem wC(hx:ρ x= .pointer (some ⟨b,o,none⟩)):(execOp ρ ⟨d,.slice 45 x none none none,ty,pos,af,none⟩).run Tryz.prog w= .ok (.value (.slice (some ⟨b,o,none⟩) 32 32)) w:=by
 have hu:=run_underlying (w:=w) Tryz.underlying45;simp only[execOp,hx,Option.map_none,Instr.sliceAt,Gi,hu,Fb];simp[Instr.sliceBounds,Instr.sureAddr,go_sem]
end
end
section
open Go
def TC(s:ByteArray):List Int:=s.data.toList.map λb=>(b.toNat:Int)
theorem MZ(s:ByteArray):(TC s).length=s.size:=by simp[TC]
theorem pU(s:ByteArray):∀x∈TC s,0<=x/\x<=255:=λx hx=>by
 obtain⟨b,_,rfl⟩:=Us.1 hx;have:=b.toNat_lt;omega
def Px(p c:ByteArray):List Int:=if p.toList == ([]:List UInt8) then[] else([]++TC p ++ [IntKind.u8.wrap (c.size:Int)])++TC c
def Ku(w:World)(v:Value)(xs:List Int):Prop:=∃(ap:Option Addr) (c:Nat),v= .slice ap xs.length c/\xs.length<=c/\(∀x∈xs,0<=x/\x<=255)/\(0<xs.length->∃b o,ap=some ⟨b,o,none⟩/\b<w.heap.size/\∀i,i<xs.length->w.cell? ⟨b,o+i,none⟩=some (.int .u8 (xs.getD i 0)))
theorem Ku.psl{w w':World}{B:Nat}{v:Value}{xs:List Int}(h:Ku w v xs)(hf:BD w w' (λ_ _=>False))(hB:w.heap.size<=B):bY w' B v xs:=by
 obtain⟨ap,c,h1,h2,h3,h4⟩:=h;refine⟨ap,c,h1,h2,h3,λh0=>?_⟩;obtain⟨b,o,e,hb,hc⟩:=h4 h0;exact⟨b,o,e,by omega,λi hi=>(hf.fk (f:=false) ⟨hc i hi,λh=>(by cases h)⟩ (λh=>h)).1⟩
theorem bY.iz{f:Bool}{w:World}{B b o n c:Nat}{xs:List Int}(h:AO f w (b,o) (List.replicate n .u8) xs)(hc:n<=c)(hb:b≠B):bY w B (.slice (some ⟨b,o,none⟩) n c) xs:=
 ⟨_,c,by rw[h.len8],by rw[h.len8];exact hc,h.jz,λ_=>⟨b,o,rfl,hb,λi hi=>(h.at8 (by rw[h.len8] at hi;exact hi)).1.1⟩⟩
section
variable{ρ:Operand->Value}{d:Option Tmp}{x:Operand}{ty:TypeId}{pos:String}{af:Array Edge}{w:World}
def sW(w:World)(s:ByteArray):World:=w.drew.alloc (.cells (bytesRow s (grownCap w s.size 0 5)) 5 ((bytesRow s (grownCap w s.size 0 5)).size,(bytesRow s (grownCap w s.size 0 5)).size+1))
theorem AKI{s:ByteArray}(h:ρ x= .string s):(execOp ρ ⟨d,.convert 9 22 x,ty,pos,af,none⟩).run Tryz.prog w= .ok (.value (.slice (some ⟨w.heap.size,0,none⟩) s.size (grownCap w s.size 0 5))) (sW w s):=by
 have hr:=run_bytes_of_string (P:=Tryz.prog) w 9 22 5 s Tryz.underlying9 Tryz.underlying22 Tryz.underlying5;simp only[execOp,h,Gi,hr,Fb];rfl
theorem Tg(w:World)(s:ByteArray):BD w (sW w s) (λ_ _=>False):=(BD.refl w _).push (o:=.cells (bytesRow s (grownCap w s.size 0 5)) 5 ((bytesRow s (grownCap w s.size 0 5)).size,(bytesRow s (grownCap w s.size 0 5)).size+1)) rfl rfl rfl rfl
theorem ADn{w:World}{s:ByteArray}{B:Nat}(hB:B<w.heap.size):bY (sW w s) B (.slice (some ⟨w.heap.size,0,none⟩) s.size (grownCap w s.size 0 5)) (TC s):=by
 refine⟨_,grownCap w s.size 0 5,by rw[MZ],by rw[MZ];exact grownCap_ge w s.size 0 _,pU s,λ_=>⟨w.heap.size,0,rfl,by omega,λi hi=>?_⟩⟩;rw[MZ] at hi;have ID:i<s.data.size:=hi;have hb:=bytesRow_at s (grownCap w s.size 0 5) i ID;have hh:(sW w s).heap[w.heap.size]? = some (.cells (bytesRow s (grownCap w s.size 0 5)) 5 ((bytesRow s (grownCap w s.size 0 5)).size,(bytesRow s (grownCap w s.size 0 5)).size+1)):=Array.getElem?_push_size;unfold World.cell?;simp only[hh,KN,hb,Option.isSome_none,Qo,if_false];simp only[TC,List.getD,Ng,Array.getElem?_toList,Array.getElem?_eq_getElem ID];rfl
end
theorem AGp{w:World}{i:Int}{B:Nat}(hB:B<w.heap.size)(hi:0<=i/\i<=255):bY (w.alloc (.cells #[.int .u8 i] 5)) B (.slice (some ⟨w.heap.size,0,none⟩) 1 1) [i]:=by
 refine⟨_,1,rfl,by simp,λx hx=>by rw[NU] at hx;rw[hx];exact hi,λ_=>⟨w.heap.size,0,rfl,by omega,λj hj=>?_⟩⟩;have hj:j=0:=by simpa using hj
 subst hj;have hh:(w.alloc (.cells #[.int .u8 i] 5)).heap[w.heap.size]? = some (.cells #[.int .u8 i] 5):=Array.getElem?_push_size;unfold World.cell?;simp only[hh];rfl
theorem u8w(i:Int):0<=IntKind.u8.wrap i/\IntKind.u8.wrap i<=255:=by
 rw[JZ (k:=.u8) rfl];show 0<=i%256/\i%256<=255;omega
end
section
open Go
theorem Ut{w w1 w2:World}{S:Nat->Nat->Prop}(h:BD w w1 (λ_ _=>False))(hf:BD w1 w2 S)(hS:∀b i,S b i->w.heap.size<=b):BD w w2 (λ_ _=>False):=h.trans' hf λb i hb hs=>by have:=hS b i hs;omega
theorem AA8{GB:Nat}{GC:Nat->Nat->Option Value}{ad:Nat->Nat×Nat}(_hG:GI GB GC ad){w w':World}(h:GW GC w)(hf:BD w w' (λ_ _=>False)):GW GC w':=λb o v hv=>(hf.fk (f:=false) ⟨h b o v hv,λh=>(by cases h)⟩ (λh=>h)).1
theorem iw:(⟨#[]⟩:ByteArray).toList= []:=by
 unfold ByteArray.toList ByteArray.toList.loop;rfl
end
end Go.Proofs.YtkbfdaoohhmgoaaGreatDoor
