/- The symbolic executor, part 12: any one operation. -/
import Derived.Test.YtloibefkijfdlaaGreatDoorSa
import Derived.Laws.BytesString
import Derived.Laws.Append
import Derived.LoopN
import Derived.Tactics
import Derived.Laws.Sem
namespace Go.Proofs.YtloibefkijfdlaaGreatDoor
section
open Go
section
variable{st:St}{V:Vl}{a:Act}
theorem Sv.pA(h:Sv st V a):∀ {xs:List Operand} {vs:List SV},pA st xs=some vs->xs.map a.eval=vs.map (·.den V)/\∀v∈vs,v.ok V/\v.lt st.nv (Dh st.rg)=true
 | [],vs,hx=>by
  simp only[Go.Proofs.YtloibefkijfdlaaGreatDoor.pA,Ai] at hx;subst hx;exact⟨rfl,λv h=>by cases h⟩
 | x::xs,vs,hx=>by
  unfold Go.Proofs.YtloibefkijfdlaaGreatDoor.pA at hx;split at hx
  ·rename_i v ws h1 h2;simp only[Ai] at hx;subst hx;obtain⟨g1,g2,g3⟩:=h.cN h1;obtain⟨g4,g5⟩:=h.pA h2;refine⟨by simp[g1,g4],λu hu=>?_⟩;rcases IR.1 hu with rfl|hu
   ·exact⟨g2,g3⟩
   ·exact g5 u hu
  ·cases hx
end
theorem aY{P:Program}{ρ:Operand->Value}(hρ:∀f,ρ (.func f)= .func (.func f) #[] #[])(dst:Option Tmp)(f:Nat)(args:Array Operand)(iv:Array TypeId)(ty:TypeId)(pos:String)(after:Array Edge)(g:Option (Nat×Bool))(w:World):
  (execOp ρ ⟨dst,.call ⟨.value (.func f),args,iv⟩,ty,pos,after,g⟩).run P w=(callFunc f (args.map ρ)).run P w:=by
 simp only[execOp,resolve,hρ,Deferred.ofValue,IY,KT,Hm,invoke,Array.empty_append,Array.append_empty]
theorem VX{P:Program}{ρ:Operand->Value}(dst:Option Tmp)(b:Builtin)(args:Array Operand)(iv:Array TypeId)(ty:TypeId)(pos:String)(after:Array Edge)(g:Option (Nat×Bool))(w:World):
  ∃cs,(execOp ρ ⟨dst,.call ⟨.builtin b,args,iv⟩,ty,pos,after,g⟩).run P w=(builtin b iv ty cs (args.map ρ)).run P w:=
 ⟨_,by simp only[execOp,resolve,IY,KT,Hm,invoke];rfl⟩
theorem ZG(z:List Value)(hz:0<z.length):∀n,(List.range (n*z.length)).map (λi=>z.getD (i%z.length) default)=WQ n z
 |0=>by simp[WQ]
 | n+1=>by
  rw[show(n+1)*z.length=z.length+n*z.length by rw[Nat.add_mul];omega,List.range_add,List.map_append,WQ]
  congr 1
  ·apply List.ext_getElem?;intro i;by_cases hi:i<z.length
   ·rw[Ng,List.getElem?_range hi];simp[Nat.mod_eq_of_lt hi,JC hi]
   ·rw[List.getElem?_eq_none (by simp;omega),List.getElem?_eq_none (by omega)]
  ·rw[<- ZG z hz n,List.map_map];apply Zx;intro i _;simp
theorem Y2(z:Array Value)(hz:0<z.size)(n:Nat):(Array.range (n*z.size)).map (λi=>z[i%z.size]!)=(WQ n z.toList).toArray:=by
 apply Array.ext';rw[<- ZG z.toList (by simpa using hz) n];simp only[Array.toList_map,Array.toList_range,Array.length_toList];apply Zx;intro i _;simp[List.getD,getElem!_def];cases z[i%z.size]? <;> rfl
theorem ZM{α β:Type}(f:α->β)(l:List α):∀n,(WQ n l).map f=WQ n (l.map f)
 |0=>rfl
 |n+1=>by simp[WQ,ZM f l n]
theorem YN{α:Type}{x:α}{l:List α}:∀ {n:Nat},x∈WQ n l->x∈l
 |0,h=>by cases h
 |n+1,h=>by
  rcases jd.1 h with h|h
  ·exact h
  ·exact YN h
theorem Gu{P:Program}{o:Oper}{a:Act}{w w':World}{next:Act->World->Prop}{Q:Exit->Act->World->Prop}{v:Value}(h:(execOp a.eval o).run P w= .ok (.value v) w')(hn:next (a.put o.dst v) w'):
  o.wp P a w next Q:=by
 unfold Oper.wp;rw[h];exact hn
section
variable{E:En}(hE:P7 E){st:St}{V:Vl}{a:Act}{w:World}{bv:Nat}(hm:Oi E st.rg V w)(hs:Xl bv st.rg)(hT:Sv st V a)(tn:st.nv<=bv)
include hE hm hs hT tn
theorem VV{l:Nat}{cs:List LV}{v:LV}{m:ZV}{nb:Nat}(h:ng bv st.rg l cs v=some m)(fS:∀c∈cs,c.ok V)(elem:Nat):
  ∃w' V',(newRow elem (cs.map (·.den V)).toArray).run E.P w= .ok ⟨w.heap.size,0,none⟩ w'/\Vb E st V nb bv m.rg m.er V' w'/\V'.ν l=(w.heap.size,0)/\m.o= .val (IB v):=by
 have _:=tn;unfold ng at h;split at h
 ·rename_i rg pS;simp only[Ai] at h;subst h;obtain⟨w',h1,h2,h3,h4⟩:=AJT hE hm hs hT.ln (nb:=nb) pS fS elem;exact⟨w',_,h1,h2,h3,rfl⟩
 ·cases h
omit hE hm hs hT tn in
theorem kI(C:Cx)(st:St)(vs:List SV)(f:Nat)(hf:f<10000):∀(n k:Nat),k%10000=f->k+10000*n<1000000->ow C st vs n k%10000=f/\ow C st vs n k<1000000
 |0,k,h,hl=>⟨h,by simp only[ow];omega⟩
 | n+1,k,h,hl=>by
  unfold ow;split
  ·split
   ·exact⟨h,by omega⟩
   ·exact kI C st vs f hf n (k+10000) (by omega) (by omega)
  ·exact⟨h,by omega⟩
omit hE hm hs hT tn in
theorem mi{rg:List Rg}{r:Option NY}{m:ZV}(h:ACf rg r=some m):∃o,r=some o/\m=⟨o,rg,false⟩:=by
 cases r with
 |none=>cases h
 |some o=>simp only[ACf,Ai] at h;exact⟨o,rfl,h.symm⟩
omit hE hm hs hT tn in
theorem AC0{op:BinOp}{A B:IZ}{nb:Nat}{o:NY}(h:zq op A B nb=some o)(hd:Ix E.C.T V o.ds):
  (op= .eql\/op= .neq)/\o.v.den V= .bool (cond (match op with | .eql=>true|_=>false) (A.den V.ρ == B.den V.ρ) (!(A.den V.ρ == B.den V.ρ)))/\o.v.ok V/\o.ln= []:=by
 unfold zq at h;split at h
 ·simp only[Ai] at h;subst h;have h1:=hd _ Kh;simp only[GG.den,Na.den,NE,Uf,Ru,X7] at h1;refine⟨.inl rfl,?_,trivial,rfl⟩;simp only[IB,SV.aE,TV.aq,LV.cg,X.den,h1,Ru,dW,cond_true]
 ·simp only[Ai] at h;subst h;have h1:=hd _ Kh;have h2:=hd _ (Lv _ Kh);simp only[GG.den,Na.den,NE,Uf,Ru,X7,IZ.gS,X.den] at h1 h2;refine⟨.inr rfl,?_,trivial,rfl⟩;simp only[IB,SV.aE,TV.aq,LV.cg,X.den,h2,h1,Ru,dW,cond_false,d1];cases (A.den V.ρ == B.den V.ρ)<;>rfl
 ·cases h
theorem lU {o:Oper} {ca:Bool} {nb lb:Nat} {m:ZV} (h:Mk E.C o ca nb lb bv st=some m) (hd:Ix E.C.T V m.o.ds) (ho:ObH E.C.T V m.o.ob)
  (kf:∀f args iv vs fe as,o.op= .call ⟨.value (.func f),args,iv⟩->pA st args.toList=some vs->lk f E.C.T=some fe->Oj st (fe.ca ca).params vs=some as->fe.oe (as.1.map (·.den V.ρ))=ca)
  (pB:m.er=false\/(Xl nb st.rg/\st.nv<=nb)) {next:Act->World->Prop} {Q:Exit->Act->World->Prop}
  (K:∀V' w',Vb E st V nb bv m.rg m.er V' w'->m.o.v.ok V'->next (a.put o.dst (m.o.v.den V')) w'):o.wp E.P a w next Q:=by
 have hW:∀r,QE E.C o nb st=some r->some (ZV.mk r st.rg false)=some m->o.wp E.P a w next Q:=λr hr he=>by
  simp only[Ai] at he;subst he;obtain⟨h1,h2,-⟩:=jh hE.tt hT hr hd ho;exact Gu (h1 w) (K V w (.same hm hs) h2)
 obtain⟨dst,op,type,pos,after,guard⟩:=o;cases op
 case load t x=>
  simp only[Mk] at h;split at h
  ·rename_i v hx;split at h
   ·rename_i r hr;simp only[Ai] at h;subst h;obtain⟨h1,h2,-⟩:=hT.cN hx;obtain⟨h3,h4⟩:=Yb hE hm hT.ln hr h2 hd;refine Gu (v:=r.v.den V) (w':=w) ?_ (K V w (.same hm hs) h4);have oY:a.eval x=v.den V:=h1;simp only[execOp,oY,IY,h3,Hm,KT]
   ·cases h
  ·cases h
 case store t x y=>
  simp only[Mk] at h;split at h
  ·rename_i v u hx hy;obtain⟨h1,h2,-⟩:=hT.cN hx;obtain⟨h3,h4,-⟩:=hT.cN hy;obtain⟨w',h5,h6,h7⟩:=wm hE hm hs hT.ln h h2 h4 hd;have oY:a.eval x=v.den V:=h1;have xo:a.eval y=u.den V:=h3;have hr:(execOp a.eval ⟨dst,.store t x y,type,pos,after,guard⟩).run E.P w= .ok .skip w':=by
    simp only[execOp,oY,xo,IY,h5,Hm,KT]
   have hk:=K V w' h6 (by rw[h7];exact λt h=>by cases h);rw[h7] at hk;unfold Oper.wp;rw[hr];exact hk
  ·cases h
 case alloc t=>
  simp only[Mk] at h;split at h
  ·rename_i d n9;obtain⟨z,hz,hzl⟩:=TD.jj (hE.tt t d n9) w;obtain⟨zE,xl⟩:=TY hzl V st.nv (Dh st.rg);obtain⟨w',V',h1,h2,h3,h4⟩:=VV hE hm hs hT tn (nb:=nb) h (λc hc=>(xl c hc).1) t;have hzc:(d.zero.map (·.den V)).toArray=z.cells:=by rw[zE]
   rw[hzc] at h1;refine Gu (v:=.pointer (some ⟨w.heap.size,0,none⟩)) (w':=w') ?_ ?_
   ·simp only[execOp,Instr.alloc,IY,hz,Hm,newVar,h1,KT]
   ·have:=K V' w' h2 (by rw[h4];trivial);rw[h4] at this;simpa only[NY.val,IB,SV.aE,TV.aq,LV.cx,h3,P5] using this
  ·cases h
 case box t x=>
  simp only[Mk] at h;split at h
  ·rename_i v hx;obtain⟨h1,h2,-⟩:=hT.cN hx;obtain⟨w',V',h3,h4,h5,h6⟩:=VV hE hm hs hT tn (nb:=nb) h (TV.rK h2) t;have oY:a.eval x=v.den V:=h1;have hc:(v.cells.map (·.den V)).toArray=(v.den V).cells:=by rw[<- TV.oT h2]
   rw[hc] at h3;refine Gu (v:=.pointer (some ⟨w.heap.size,0,none⟩)) (w':=w') ?_ ?_
   ·simp only[execOp,oY,Instr.box,newVar,IY,h3,Hm,KT]
   ·have:=K V' w' h4 (by rw[h6];trivial);rw[h6] at this;simpa only[NY.val,IB,SV.aE,TV.aq,LV.cx,h5,P5] using this
  ·cases h
 case buildSlice t n ps=>
  simp only[Mk] at h;split at h
  ·rename_i e sz rL ag zz vs n9 oE;split at h
   ·rename_i d qt;cases hb:(Nat.ble (n*d.size) 16777216&&Nat.blt 0 (n*d.size)&&Nat.beq d.zero.length d.size) with
    | false=>
     rw[hb] at h;simp only[cond_false] at h;cases Lz:Nat.beq n 0 with
     |false=>rw[Lz] at h;simp at h
     | true=>
      rw[Lz] at h;simp only[cond_true] at h;have hn:=CR Lz;subst hn;split at h
      ·obtain⟨AW,ot⟩:=hT.parts oE;have CD:(ps.map λ(p:Nat×Operand)=>(p.1,a.eval p.2)).toList= []:=by
        rw[Array.toList_map];exact AW
       have eA:=TD.c9 (hE.tt e d qt) w;obtain⟨desc,hu,hk⟩:=TD.bj (hE.tt _ _ n9) rfl;have:=TK.eE hk;subst this;obtain⟨w',V',g1,g2,g3,g4⟩:=VV hE hm hs hT tn (nb:=nb) h (λc hc=>by cases hc) e;have g1':(newRow e #[]).run E.P w= .ok ⟨w.heap.size,0,none⟩ w':=g1;refine Gu (v:=.slice (some ⟨w.heap.size,0,none⟩) 0 0) (w':=w') ?_ ?_
       ·simp only[execOp,Instr.buildSlice,IY,hu,Hm,eA];rw[if_neg (by simp),if_pos (by simp)];simp only[IY,Hm,KT];rw[CD];have hr:(Array.range (0*d.size))= #[]:=by simp
        simp only[hr,Instr.fill,List.map_toArray,Uf,IY,g1',Hm,KT]
       ·have:=K V' w' g2 (by rw[g4];simp only[NY.val,IB,SV.ok,TV.ok,LV.ok,CX.den,X.den];omega);rw[g4] at this;simpa only[NY.val,IB,SV.aE,TV.aq,LV.cI,g3,P5,CX.eW,X.be,SN,Nat.sub_zero,Int.toNat_zero] using this
      ·cases h
    | true=>
     rw[hb] at h;simp only[cond_true] at h;simp only[Bl] at hb;have tG:=MQ hb.1.1;have fx:=D7 hb.1.2;have P1:=CR hb.2;split at h
     ·rename_i cs cS;obtain⟨z,hz,hzl⟩:=TD.jj (hE.tt e d qt) w;obtain⟨zE,xl⟩:=TY hzl V st.nv (Dh st.rg);obtain⟨AW,ot⟩:=hT.parts oE;have CD:(ps.map λ(p:Nat×Operand)=>(p.1,a.eval p.2)).toList=vs.map λp=>(p.1,p.2.den V):=by
       rw[Array.toList_map];exact AW
      have eA:=TD.c9 (hE.tt e d qt) w;have gf:Jl E.C e=some d.size:=by simp only[Jl,qt]
      obtain⟨h3,h4⟩:=Vd (C:=E.C) (k:=.arr n e) (V:=V) (place:=λi=>some (i*d.size,d.size)) (λi p hp=>by
       simp only[YM,gf] at hp;exact hp) cS (λc hc=>(xl c (YN hc)).1) (λp hp=>(ot p hp).1)
      obtain⟨desc,hu,hk⟩:=TD.bj (hE.tt _ _ n9) rfl;have:=TK.eE hk;subst this;obtain⟨w',V',g1,g2,g3,g4⟩:=VV hE hm hs hT tn (nb:=nb) h h4 e;have hzs:z.cells.size=d.size:=by rw[<- Array.length_toList, <- zE,Tg,P1]
      have G0:0<d.size:=by
       cases sL:d.size with
       |zero=>rw[sL] at fx;simp at fx
       |succ k=>omega
      have hzr:(Array.range (n*d.size)).map (λi=>z.cells[i%z.cells.size]!)=((WQ n d.zero).map (·.den V)).toArray:=by
       rw[ZM,zE, <- hzs];exact Y2 z.cells (by omega) n
      refine Gu (v:=.slice (some ⟨w.heap.size,0,none⟩) n n) (w':=w') ?_ ?_
      ·simp only[execOp,Instr.buildSlice,IY,hu,Hm,eA];rw[if_neg (by omega),if_neg (by omega)];simp only[IY,hz,Hm,KT,hzr];rw[show(ps.map λx=>match x with|(i,x)=>(i,a.eval x)).toList=vs.map λp=>(p.1,p.2.den V) from CD];simp only[h3,IY,g1,Hm,KT]
      ·have:=K V' w' g2 (by rw[g4];simp only[NY.val,IB,SV.ok,TV.ok,LV.ok,CX.den,X.den];omega);rw[g4] at this;simpa only[NY.val,IB,SV.aE,TV.aq,LV.cI,g3,P5,CX.eW,X.be,SN,Nat.sub_zero] using this
     ·cases h
   ·cases h
  ·cases h
 case makeSlice t x y=>
  simp only[Mk] at h;split at h
  ·rename_i e sz rL ag zz n c n9 hn hc;split at h
   ·rename_i d qt;cases hb:(Nat.ble n c&&Nat.ble c 65536&&Nat.ble (d.bytes*c) 281474976710656&&Nat.blt 0 (c*d.size)&&Nat.beq d.zero.length d.size) with
    |false=>rw[hb] at h;simp at h
    | true=>
     rw[hb] at h;simp only[cond_true] at h;simp only[Bl] at hb;have tG:=MQ hb.1.1.1.1;have fx:=MQ hb.1.1.1.2;have P1:=MQ hb.1.1.2;have hb4:=D7 hb.1.2;have hb5:=CR hb.2;obtain⟨z,hz,hzl⟩:=TD.jj (hE.tt e d qt) w;obtain⟨zE,xl⟩:=TY hzl V st.nv (Dh st.rg);obtain⟨desc,hu,hk⟩:=TD.bj (hE.tt _ _ n9) rfl;have:=TK.eE hk;subst this;obtain⟨w',V',g1,g2,g3,g4⟩:=VV hE hm hs hT tn (nb:=nb) h (λc' i6=>(xl c' (YN i6)).1) e;obtain⟨kn,hxn⟩:=hT.lO hn;obtain⟨kc,hxc⟩:=hT.lO hc;have eA:=TD.c9 (hE.tt e d qt) w;obtain⟨acd,ii,zz',q1,q2,q3,q4,q5,q6,q7,q8⟩:=TD.jx (hE.tt e d qt);have hti:(typeInfo e).run E.P w= .ok ii w:=by simp[typeInfo,q2]
     have hzs:z.cells.size=d.size:=by rw[<- Array.length_toList, <- zE,Tg,hb5]
     have G0:0<d.size:=by
      cases sL:d.size with
      |zero=>rw[sL] at hb4;simp at hb4
      |succ k=>omega
     have hzr:(Array.range (c*d.size)).map (λi=>z.cells[i%z.cells.size]!)=((WQ c d.zero).map (·.den V)).toArray:=by
      rw[ZM,zE, <- hzs];exact Y2 z.cells (by omega) c
     have pe:∀j:Nat,j<=65536->IntKind.i64.wrap (j:Int)=j:=λj hj=>by
      simp[IntKind.wrap,IntKind.bits,IntKind.signed];omega
     have hbc:((d.bytes:Int)*(c:Int))<=281474976710656:=by
      rw[<- Int.natCast_mul];omega
     refine Gu (v:=.slice (some ⟨w.heap.size,0,none⟩) n c) (w':=w') ?_ ?_
     ·simp only[execOp,hxn,hxc,Instr.makeSlice,IY,hu,Hm,asInt,asIntOf,KT,hti,q8,pe n (by omega),pe c fx];rw[if_neg (by
       simp only[Bool.or_eq_true,decide_eq_true_eq,not_or,Int.not_lt];refine⟨⟨⟨by omega,by omega⟩,by omega⟩,by omega⟩)]
      simp only[IY,run_askRoom,Hm,eA,SN];rw[if_neg (by omega)];simp only[IY,hz,Hm,KT,hzr,g1]
     ·have:=K V' w' g2 (by rw[g4];simp only[NY.val,IB,SV.ok,TV.ok,LV.ok,CX.den,X.den];omega);rw[g4] at this;simpa only[NY.val,IB,SV.aE,TV.aq,LV.cI,g3,P5,CX.eW,X.be,SN,Nat.sub_zero] using this
   ·cases h
  ·cases h
 case call c=>
  obtain⟨callee,args,iv⟩:=c;cases callee with
  |invoke r s=> 
   simp only[Mk,QE] at h;cases h
  | value f=>
   cases f with
   | func f=>
    simp only[Mk,AIX] at h;split at h
    ·cases h
    rename_i vs oE;obtain⟨e1,e2⟩:=hT.pA oE;have fg:args.map a.eval=(vs.map (·.den V)).toArray:=by
     apply Array.ext';rw[Array.toList_map,e1]
    have cW:=λw=>aY (P:=E.P) (ρ:=a.eval) (λ_=>rfl) dst f args iv type pos after guard w
    cases AN:Nat.beq f E.C.Kp with
    | true=>
     have hf:=CR AN;rw[AN] at h;simp only[cond_true] at h;split at h
     ·rename_i x y z;simp only[Ai] at h;subst h;have ox:=(e2 _ Kh).1;have oy:=(e2 _ (Lv _ Kh)).1;have oz:=ho _ (NB.2 rfl);simp only[JU.den] at oz;have h4:=hd _ (NB.2 rfl);simp only[GG.den,Na.den,NE,Uf,IZ.gS,Ru,X7,d1] at h4;have hr:=hE.Kp (x.den V.ρ) (y.den V.ρ) (z.den V.ρ) w ox.1 oy.1 oz;have Rr:x.den V.ρ<=18446744073709551615:=ox.2;have hy2:y.den V.ρ<=18446744073709551615:=oy.2;have iS:0<=x.den V.ρ:=ox.1;have ZS:0<=y.den V.ρ:=oy.1;have v0:X.den V.ρ (.v nb 0)=(x.den V.ρ+y.den V.ρ+z.den V.ρ)%18446744073709551616:=by
       show(V.ρ nb).getD 0 0=_;rw[h4];rfl
      have v1:X.den V.ρ (.v nb 1)=(x.den V.ρ+y.den V.ρ+z.den V.ρ)/18446744073709551616:=by
       have v2:X.den V.ρ (.v nb 1)=if x.den V.ρ+y.den V.ρ+z.den V.ρ<18446744073709551616 then 0 else 1:=by
        show(V.ρ nb).getD 1 0=_;rw[h4];rfl
       rw[v2];split<;>omega
      refine Gu (w':=w) ?_ (K V w (.same hm hs) ?_)
      ·rw[cW,fg,hf];simp only[NE,Uf,SV.aE,SV.ux,TV.aq,LV.cQ,v0,v1];exact hr
      ·intro t ht;simp only[IR,List.not_mem_nil,or_false] at ht;rcases ht with rfl|rfl
       ·simp only[TV.ok,LV.ok,v0,IU,IntKind.min,IntKind.max,IntKind.bits,IntKind.signed];simp;omega
       ·simp only[TV.ok,LV.ok,v1,IU,IntKind.min,IntKind.max,IntKind.bits,IntKind.signed];simp;omega
     ·cases h
    |false=>
    rw[AN] at h;simp only[cond_false] at h;cases hs64:Nat.beq f E.C.Kf with
    | true=>
     have hf:=CR hs64;rw[hs64] at h;simp only[cond_true] at h;split at h
     ·rename_i x y z;simp only[Ai] at h;subst h;have ox:=(e2 _ Kh).1;have oy:=(e2 _ (Lv _ Kh)).1;have oz:=ho _ (NB.2 rfl);simp only[JU.den] at oz;have h4:=hd _ (NB.2 rfl);simp only[GG.den,Na.den,NE,Uf,IZ.gS,Ru,X7,d1] at h4;have Rr:x.den V.ρ<=18446744073709551615:=ox.2;have hy2:y.den V.ρ<=18446744073709551615:=oy.2;have iS:0<=x.den V.ρ:=ox.1;have ZS:0<=y.den V.ρ:=oy.1;have hr:=hE.Kf (x.den V.ρ) (y.den V.ρ) (z.den V.ρ) w ox.1 oy.1 oz (by omega);have v0:X.den V.ρ (.v nb 0)=(x.den V.ρ+18446744073709551616-y.den V.ρ-z.den V.ρ)%18446744073709551616:=by
       show(V.ρ nb).getD 0 0=_;rw[h4];rfl
      have v1:X.den V.ρ (.v nb 1)=if x.den V.ρ<y.den V.ρ+z.den V.ρ then 1 else 0:=by
       show(V.ρ nb).getD 1 0=_;rw[h4];rfl
      refine Gu (w':=w) ?_ (K V w (.same hm hs) ?_)
      ·rw[cW,fg,hf];simp only[NE,Uf,SV.aE,SV.ux,TV.aq,LV.cQ,v0,v1];exact hr
      ·intro t ht;simp only[IR,List.not_mem_nil,or_false] at ht;rcases ht with rfl|rfl
       ·simp only[TV.ok,LV.ok,v0,IU,IntKind.min,IntKind.max,IntKind.bits,IntKind.signed];simp;omega
       ·simp only[TV.ok,LV.ok,v1,IU,IntKind.min,IntKind.max,IntKind.bits,IntKind.signed];simp;split<;>omega
     ·cases h
    |false=>
    rw[hs64] at h;simp only[cond_false] at h;cases cf:Nat.blt f 10000 with
    |false=>rw[cf] at h;simp at h
    |true=>
    rw[cf] at h;simp only[Bool.not_true,cond_false] at h;have adC:=D7 cf;obtain⟨hkm,hkl⟩:=kI E.C st vs f adC 20 f (Nat.mod_eq_of_lt adC) (by omega);generalize hk:ow E.C st vs 20 f=k at h hkm hkl;cases hkb:(Nat.beq k f||(ca&&AIY (lk k E.C.T))) with
    |false=>rw[hkb] at h;cases h
    |true=>
    rw[hkb,cond_true] at h;split at h
    ·cases h
    rename_i r hr;simp only[Ai] at h;subst h;obtain⟨fe,as,bs,g1,g2,g3,g4,g5,g6⟩:=jR hE hm hs hT.ln hr (λv hv=>⟨(e2 v hv).1,SV.bh tn (λ_ h=>h) (e2 v hv).2⟩)
     (pB.imp id λh=>⟨h.1,λv hv=>SV.bh h.2 (λ_ h=>h) (e2 v hv).2⟩) hd ho
    have aj3:fe.oe (as.1.map (·.den V.ρ))=ca:=by
     by_cases hkf:k=f
     ·subst hkf;exact kf k args iv vs fe as rfl oE g1 g2
     ·have At:Nat.beq k f=false:=by cases hh:Nat.beq k f with|false=>rfl|true=>exact absurd (CR hh) hkf
      rw[At,Bool.false_or,Bl,g1] at hkb;rw[hkb.1];cases fe with
      |one s=>rfl
      |two c s1 s2=>cases hkb.2
    have DH:=(hE.tb k fe g1).1 hkl;rw[hkm] at DH;have hGw:E.GB<=w.heap.size:=z8 hE.gb hm.an.1;have mL:=DH ca (vs.map (·.den V)) (as.1.map (·.den V.ρ)) bs w hm.gw hGw g3 g4 g5 aj3;have hen:=hE.en k (vs.map (·.den V)).toArray w ⟨fe,g1⟩ hkl (by rw[hkm];intro e;rw[e,Nat.beq_refl] at AN;cases AN) (by rw[hkm];intro e;rw[e,Nat.beq_refl] at hs64;cases hs64);rw[hkm] at hen;unfold Oper.wp;rw[cW,fg,hen];refine mL.mono ?_;rintro e w' ⟨fb,eK,rfl,hP⟩;obtain⟨V',k1,k2,k3⟩:=g6 fb eK w' hP;have Wc:(Qe r.vs).den V'=PZ eK/\(Qe r.vs).ok V':=by
     rw[<- k2];cases hrv:r.vs with
     |nil=>exact⟨rfl,λt h=>by cases h⟩
     |cons t ts=>
      rw[hrv] at k3;cases ts with
      |nil=>exact⟨rfl,k3 t Kh⟩
      |cons t' ts'=>exact⟨rfl,k3⟩
    show next (a.put dst (PZ eK)) w';rw[<- Wc.1];exact K V' w' k1 Wc.2
   |tmp t=>simp only[Mk,QE] at h;cases h
   |const v=>simp only[Mk,QE] at h;cases h
   |global g=>simp only[Mk,QE] at h;cases h
  | builtin b=>
   by_cases hcp:b= .copy
   ·subst hcp;simp only[Mk] at h;split at h
    ·rename_i t x y SZ kB hy0;split at h
     ·rename_i e sz rL ag zz l o n c d l' o' n' c' d' n9 hx hy;split at h
      ·rename_i aco;cases At:Nat.ble n 65536 with
       |false=>rw[At] at h;cases h
       |true=>
       rw[At,cond_true] at h;have aeB:=MQ At;split at h
       ·rename_i cs cS;split at h
        ·rename_i rg pS;simp only[Ai] at h;subst h;obtain⟨h1,h2,-⟩:=hT.cN hx;have h3:=hT.den hy;have pN:=hm.read cS;obtain⟨hlen,-⟩:=GN cS;obtain⟨w1,w2⟩:=Um hE hm hs hT.ln (nb:=nb) pS (λc hc=>by
          obtain⟨i,hi,rfl⟩:=dX hc;exact(pN i _ (JC hi)).2)
         obtain⟨desc,hu,hk⟩:=TD.bj (hE.tt _ _ n9) rfl;have:=TK.eE hk;subst this;obtain⟨J0,cW⟩:=VX (P:=E.P) (ρ:=a.eval) dst .copy args iv type pos after guard w;have iS:(args.map a.eval)[0]? = some (a.eval x):=by rw[Array.getElem?_map,kB];rfl
         have ZS:(args.map a.eval)[1]? = some (a.eval y):=by rw[Array.getElem?_map,hy0];rfl
         have Wr:=run_loadCells_list (P:=E.P) w ⟨(V.ν l').1,(V.ν l').2+o',none⟩ (cs.map (·.den V)) (λj u hu=>by
          rw[Ng,Vu] at hu;obtain⟨c,hc,rfl⟩:=hu;rw[Cu];exact(pN j c hc).1)
         rw[Tg,hlen] at Wr;refine Gu (w':=setCells w (V.ν l).1 ((V.ν l).2+o) (cs.map (·.den V))) ?_ (K V _ w2 ?_)
         ·rw[cW];simp only[builtin,Builtin.copy_,SZ,iS,ZS,h1,h3,SV.aE,TV.aq,LV.cI,IY,hu,Hm,Builtin.lenOf,KT,Hq hE.tt aco,Builtin.firstCells,Nat.mul_one];rw[show Nat.min n' n=min n' n from rfl,Wr];simp only[Hm];rw[w1];rfl
         ·refine Yo.1 ?_;have h1:min n' n<=65536:=z8 (Nat.min_le_right _ _) aeB;simp only[Yl,IntKind.min,IntKind.max,IntKind.bits,IntKind.signed,Bl,decide_eq_true_eq,X.be];omega
        ·cases h
       ·cases h
      ·cases h
     ·cases h
    ·cases h
   ·by_cases hap:b= .append
    ·subst hap;simp only[Mk] at h;split at h
     ·rename_i t t' x y SZ ht1 kB hy0;split at h
      ·rename_i e sz rL ag zz e' sz' ac1 ag' zz' l o n c d l' o' n' c' d' n9 aes hx hy;split at h
       ·rename_i aco;cases F2:Nat.ble (n+n') (c-d) with
        |false=>
         rw[F2] at h;cases h
        |true=>
        rw[F2,cond_true] at h;have OS:=MQ F2;cases At:Nat.blt 0 n' with
        |false=>rw[At] at h;cases h
        |true=>
        rw[At,cond_true] at h;have So:=D7 At;split at h
        ·rename_i cs cS;split at h
         ·rename_i rg pS;simp only[Ai] at h;subst h;obtain⟨h1,h2,-⟩:=hT.cN hx;have h3:=hT.den hy;have pN:=hm.read cS;obtain⟨hlen,-⟩:=GN cS;obtain⟨w1,w2⟩:=Um hE hm hs hT.ln (nb:=nb) pS (λc hc=>by
           obtain⟨i,hi,rfl⟩:=dX hc;exact(pN i _ (JC hi)).2)
          obtain⟨desc,hu,hk⟩:=TD.bj (hE.tt _ _ n9) rfl;have:=TK.eE hk;subst this;obtain⟨acd,HU,gE⟩:=TD.bj (hE.tt _ _ aes) rfl;have:=TK.eE gE;subst this;obtain⟨J0,cW⟩:=VX (P:=E.P) (ρ:=a.eval) dst .append args iv type pos after guard w;have iS:(args.map a.eval)[0]? = some (a.eval x):=by rw[Array.getElem?_map,kB];rfl
          have ZS:(args.map a.eval)[1]? = some (a.eval y):=by rw[Array.getElem?_map,hy0];rfl
          have Wr:=run_loadCells_list (P:=E.P) w ⟨(V.ν l').1,(V.ν l').2+o',none⟩ (cs.map (·.den V)) (λj u hu=>by
           rw[Ng,Vu] at hu;obtain⟨c,hc,rfl⟩:=hu;rw[Cu];exact(pN j c hc).1)
          rw[Tg,hlen] at Wr;refine Gu (w':=setCells w (V.ν l).1 ((V.ν l).2+(o+n)) (cs.map (·.den V))) ?_ (K V _ w2 ?_)
          ·rw[cW];have FA:((X.lit (Int.ofNat c)).den V.ρ).toNat-d=c-d:=rfl;simp only[builtin,Builtin.append_,SZ,ht1,iS,ZS,h1,h3,SV.aE,TV.aq,LV.cI,CX.eW,IY,hu,HU,Hm,Builtin.lenOf,KT,Hq hE.tt aco,Builtin.firstCells,Nat.mul_one,FA,if_pos OS,RD,if_false,Bool.not_false,if_true];rw[Wr];simp only[Hm,Cu];rw[Ve,w1];rfl
          ·show((n+n'+d:Nat):Int)<=(CX.n (X.lit (Int.ofNat c))).den V;rw[CX.eW,X.be];show((n+n'+d:Nat):Int)<=(c:Int);omega
         ·cases h
        ·cases h
       ·cases h
      ·cases h
     ·cases h
    ·have gf:Mk E.C ⟨dst,.call ⟨.builtin b,args,iv⟩,type,pos,after,guard⟩ ca nb lb bv st=(match QE E.C ⟨dst,.call ⟨.builtin b,args,iv⟩,type,pos,after,guard⟩ nb st with
       |some r=>some ⟨r,st.rg,false⟩
       |none=>none):=by
      cases b<;>first|rfl|exact absurd rfl hcp|exact absurd rfl hap
     rw[gf] at h;split at h
     ·rename_i r hr;exact hW r hr h
     ·cases h
 case binOp op xt x y ty=>
  simp only[Mk] at h;split at h
  ·rename_i cs vl hx hy;unfold eqM at h;split at h
   ·rename_i ks k1 x1 k2 x2 hks tS Dd;cases hb:(KZ ks k1&&KZ ks k2) with
    |false=>rw[hb] at h;cases h
    |true=>
    rw[hb,cond_true] at h;simp only[Bl] at hb;obtain⟨r,hr,rfl⟩:=mi h;obtain⟨g1,g2,g3,g4⟩:=AC0 (E:=E) (V:=V) hr hd;obtain⟨h1,h2,-⟩:=hT.cN hx;obtain⟨h3,h4,-⟩:=hT.cN hy;obtain⟨e1,-, -⟩:=Mi (V:=V) tS hb.1;obtain⟨e2,-, -⟩:=Mi (V:=V) Dd hb.2;obtain⟨f1,f2⟩:=hE.eq xt ks hks _ _ (Np (V:=V) tS hb.1 h2) (Np (V:=V) Dd hb.2 h4) op x y w;rw[Hr hT.ln,Hr hT.ln] at g2;refine Gu (v:=r.v.den V) (w':=w) ?_ (K V w (.same hm hs) g3);simp only[execOp,h1,h3,SV.aE,TV.r7,e1,e2,IY,f1,Hm,g2];rcases g1 with rfl|rfl
    ·simp only[binOp,IY,f2,Hm,KT,cond_true]
    ·simp only[binOp,IY,f2,Hm,KT,cond_false]
   ·cases h
  ·split at h
   ·rename_i r hr;exact hW r hr h
   ·cases h
 all_goals
  simp only[Mk] at h;split at h
  ·rename_i r hr;exact hW r hr h
  ·cases h
end
end
section
open Go
def JW(nv:Nat)(ρ ρ':Br):Prop:=∀i,i<nv->ρ' i=ρ i
theorem JW.refl(nv:Nat)(ρ:Br):JW nv ρ ρ:=λ_ _=>rfl
theorem JW.trans{a b:Nat}{ρ ρ' ρ'':Br}(h:JW a ρ ρ')(h':JW b ρ' ρ'')(hab:a<=b):JW a ρ ρ'':=
 λi hi=>(h' i (by omega)).trans (h i hi)
theorem X.cj{nv:Nat}{ρ ρ':Br}(h:JW nv ρ ρ'){x:X}(hx:x.lt nv=true):x.den ρ'=x.den ρ:=by
 cases x with
 |lit n=>rfl
 |v i k=>simp only[X.den];rw[h i (D7 hx)]
theorem IZ.cj{nv:Nat}{ρ ρ':Br}(h:JW nv ρ ρ'){x:IZ}(hx:x.lt nv=true):x.den ρ'=x.den ρ:=by
 cases x with
 |vec j=>exact h j (D7 hx)
 |xs l=>
  simp only[IZ.den];exact Zx λx eV=>X.cj h (Mx.1 hx x eV)
theorem oS.cj{nv:Nat}{ρ ρ':Br}(h:JW nv ρ ρ'){l:List IZ}(hx:l.all (·.lt nv)=true):l.map (·.den ρ')=l.map (·.den ρ):=
 Zx λx eV=>IZ.cj h (Mx.1 hx x eV)
theorem GG.cj{T:Tb}{nv:Nat}{ρ ρ':Br}(h:JW nv ρ ρ'){d:GG}(hd:d.lt nv=true):d.den T ρ'=d.den T ρ:=by
 unfold GG.den;rw[oS.cj h hd]
theorem JU.cj{T:Tb}{nv:Nat}{ρ ρ':Br}(h:JW nv ρ ρ'){ob:List JU}(ho:Jm nv ob=true):∀q∈ob,(q.den T ρ'↔q.den T ρ):=by
 induction ob with
 |nil=>intro q hq;cases hq
 | cons q r ih=>
  intro q' xj;have hq:(q.den T ρ'↔q.den T ρ)/\Jm nv r=true:=by
   cases q with
   |jn x n=>simp only[Jm,Bl] at ho;refine⟨?_,ho.2⟩;simp only[JU.den];rw[X.cj h ho.1]
   |vq x=>simp only[Jm,Bl] at ho;refine⟨?_,ho.2⟩;simp only[JU.den];rw[X.cj h ho.1]
   |vn x=>simp only[Jm,Bl] at ho;refine⟨?_,ho.2⟩;simp only[JU.den];rw[X.cj h ho.1]
   |nz x=>simp only[Jm,Bl] at ho;refine⟨?_,ho.2⟩;simp only[JU.den];rw[X.cj h ho.1]
   |zr x=>simp only[Jm,Bl] at ho;refine⟨?_,ho.2⟩;simp only[JU.den];rw[X.cj h ho.1]
   |pre f as=>simp only[Jm,Bl] at ho;refine⟨?_,ho.2⟩;simp only[JU.den];rw[oS.cj h ho.1]
  rcases IR.1 xj with rfl|xj
  ·exact hq.1
  ·exact ih hq.2 q' xj
def Tp(T:Tb)(ρ:Br)(ds:List (Nat×GG)):Prop:=∀p∈ds,ρ p.1=p.2.den T ρ
theorem Y4{hi:Nat}:∀ {ds:List (Nat×GG)} {lo:Nat},GL lo hi ds=true->∀p∈ds,lo<=p.1/\p.1<hi/\p.2.lt p.1=true
 | [],_,_,p,hp=>by cases hp
 | (n,d)::r,lo,h,p,hp=>by
  simp only[GL,Bl] at h;have h1:=MQ h.1.1.1;have h2:=D7 h.1.1.2;rcases IR.1 hp with rfl|hp
  ·exact⟨h1,h2,h.1.2⟩
  ·obtain⟨g1,g2,g3⟩:=Y4 h.2 p hp;exact⟨by omega,g2,g3⟩
theorem GG.bh{a b:Nat}(hab:a<=b){d:GG}(h:d.lt a=true):d.lt b=true:=by
 unfold GG.lt at *
 rw[Mx] at *
 intro x hx;have:=h x hx;cases x with
 |vec j=>have:=D7 this;simp only[IZ.lt,Nat.blt];exact vM (by omega)
 |xs l=>
  simp only[IZ.lt,Mx] at this ⊢;exact λy hy=>X.bh hab (this y hy)
theorem Tp.agE{T:Tb}{lo hi:Nat}{ρ ρ':Br}{ds:List (Nat×GG)}(h:GL lo hi ds=true)(ha:JW hi ρ ρ')(hd:Tp T ρ ds):Tp T ρ' ds:=λp hp=>by
 obtain⟨_,g2,g3⟩:=Y4 h p hp;rw[ha p.1 g2,GG.cj (nv:=hi) ha (GG.bh (by omega) g3)];exact hd p hp
theorem VP(T:Tb){hi:Nat}:∀ {ds:List (Nat×GG)} {lo:Nat} (ρ:Br),GL lo hi ds=true->∃ ρ',JW lo ρ ρ'/\Tp T ρ' ds
 | [],_,ρ,_=>⟨ρ,JW.refl _ _,λp hp=>by cases hp⟩
 |(n,d)::r,lo,ρ,h=>by
  simp only[GL,Bl] at h;have h1:=MQ h.1.1.1;obtain⟨ρ',g1,g2⟩:=VP T (λi=>if i=n then d.den T ρ else ρ i) h.2;have ha:JW n ρ ρ':=λi hi=>by rw[g1 i (by omega)];simp;intro e;omega
  refine⟨ρ',λi hi=>ha i (by omega),λp hp=>?_⟩;rcases IR.1 hp with rfl|hp
  ·rw[g1 n (by omega),GG.cj ha h.1.2];simp
  ·exact g2 p hp
theorem IZ.Gk{ln:List (Nat×Nat)}{ρ:Br}(hl:∀p∈ln,(ρ p.1).length=p.2){a:IZ}{n:Nat}(h:a.len ln=some n):(a.den ρ).length=n:=by
 cases a with
 |vec j=>exact hl _ (Ni h)
 |xs l=>simp only[IZ.len,Ai] at h;simp[IZ.den,h]
theorem bD{ln:List (Nat×Nat)}{ρ:Br}(hl:∀p∈ln,(ρ p.1).length=p.2):∀ {as:List IZ} {ps:List GD},Uc ln as ps=true->(as.map (·.den ρ)).map List.length=ps.map GD.len
 | [],[],_=>rfl
 | [],_::_,h=>by simp[Uc] at h
 |_::_,[],h=>by simp[Uc] at h
 | a::as,p::ps,h=>by
  simp only[Uc,Bl] at h;obtain⟨h1,h2⟩:=h;cases ha:a.len ln with
  |none=>rw[ha] at h1;cases h1
  |some n=>
   rw[ha] at h1;have:=IZ.Gk hl ha;simp only[NE,bD hl h2,this,CR h1]
theorem getD_some{α:Type}{l:List α}{i:Nat}{x d:α}(h:l[i]? = some x):l.getD i d=x:=by simp[List.getD,h]
theorem ADz{s:BH}{ins:List (List Int)}(hL:PH s)(hi:ins.map List.length=s.params.map GD.len){o k:Nat}(h:s.lens[o]? = some (some k)):((s.pr o).den ins).length=k:=by
 obtain⟨h1,h2,h3⟩:=hL ins hi;unfold BH.lens at h;unfold BH.pr;by_cases c1:o<s.outs.length
 ·have ho:=JC c1;rw[getD_some (wI ho)];rw[bU,Zm (by simpa using c1),Ng,ho] at h;simp only[UA,Ai] at h;rw[<- h];exact h1 _ (lY c1)
 ·by_cases c2:o<s.outs.length+s.fresh.length
  ·have cf:o-s.outs.length<s.fresh.length:=by omega
   have ho:=JC cf;have hp:=aJ ho;rw[show s.outs.length+(o-s.outs.length)=o by omega] at hp;rw[getD_some hp];rw[bU,dh (by simp;omega),Zm (by simp;omega),Tg,Ng,ho] at h;simp only[UA,Ai] at h;rw[<- h];exact h2 _ (lY cf)
  ·rw[dh (by simp;omega)] at h;simp only[MN,Tg] at h;rw[Ng,Vu] at h;obtain⟨r,hr,hk⟩:=h;have hp:=vv hr;rw[show s.outs.length+s.fresh.length+(o-(s.outs.length+s.fresh.length))=o by omega] at hp;rw[getD_some hp];cases r<;>simp only[Pw.len,Ai,reduceCtorEq] at hk
   rename_i ks f;rw[<- hk];exact h3 ks f (Le hr)
theorem zt{T:Tb}{ln:List (Nat×Nat)}{ρ:Br}(hT:∀f fe,lk f T=some fe->∀b,PH (fe.ca b))(hl:∀p∈ln,(ρ p.1).length=p.2){d:GG}{k:Nat}
  (h:ABE T ln d=some k):(d.den T ρ).length=k:=by
 obtain⟨op,args⟩:=d;unfold ABE at h;simp only at h;split at h
 ·simp only[Ai] at h;subst h;rfl
 ·simp only[Ai] at h;subst h;rfl
 ·split at h
  ·have:=IZ.Gk hl h;simp only[GG.den,Na.den,NE,Ru,List.length_set];exact this
  ·cases h
 ·rename_i f b o;split at h
  ·rename_i fe hf;cases hb:Uc ln args (fe.ca b).params with
   |false=>rw[hb] at h;cases h
   | true=>
    rw[hb,cond_true] at h;split at h
    ·rename_i r hr;subst h;have:=ADz (hT f fe hf b) (bD hl hb) hr;simp only[GG.den,Na.den,hf];exact this
    ·cases h
  ·cases h
 ·cases h
theorem Qy{T:Tb}{ρ:Br}(hT:∀f fe,lk f T=some fe->∀b,PH (fe.ca b)):∀ {ds:List (Nat×GG)} {ln:List (Nat×Nat)},(∀p∈ln,(ρ p.1).length=p.2)->Tp T ρ ds->
  ∀p∈J5 T ln ds,(ρ p.1).length=p.2
 | [],ln,hl,_=>hl
 | (n,d)::r,ln,hl,hd=>by
  have qt:Tp T ρ r:=λp hp=>hd p (Lv _ hp)
  unfold J5;split
  ·rename_i k hk;refine Qy hT (λp hp=>?_) qt;rcases IR.1 hp with rfl|hp
   ·rw[hd (n,d) Kh];exact zt hT hl hk
   ·exact hl p hp
  ·exact Qy hT hl qt
theorem Q8{T:Tb}{hi:Nat}:∀ {ds:List (Nat×GG)} {ln:List (Nat×Nat)} {lo:Nat},GL lo hi ds=true->(∀p∈ln,p.1<hi)->∀p∈J5 T ln ds,p.1<hi
 | [],ln,_,_,hl=>hl
 | (n,d)::r,ln,lo,h,hl=>by
  simp only[GL,Bl] at h;unfold J5;split
  ·refine Q8 h.2 (λp hp=>?_);rcases IR.1 hp with rfl|hp
   ·exact D7 h.1.1.2
   ·exact hl p hp
  ·exact Q8 h.2 hl
def Bz.fk(T:Tb):Bz->Br->Prop
 | .leaf _ _,_=>True
 | .fz ds ob t,ρ=>Tp T ρ ds->(∀q∈ob,q.den T ρ)/\t.fk T ρ
 | .br x t f,ρ=>(x.den ρ≠0->t.fk T ρ)/\(x.den ρ=0->f.fk T ρ)
 | .j8 f as t e,ρ=>match lk f T with
  |some fe=>(fe.oe (as.map (·.den ρ))=true->t.fk T ρ)/\(fe.oe (as.map (·.den ρ))=false->e.fk T ρ)
  |none=>False
 | .dc t k,ρ=>t.fk T ρ/\k.fk T ρ
 | .bad _,_=>False
def Bz.Holds(T:Tb)(Φ:Br->Ex->St->Prop):Bz->Br->Prop
 | .leaf e st,ρ=>Φ ρ e st
 | .fz ds ob t,ρ=>Tp T ρ ds->(∀q∈ob,q.den T ρ)/\t.Holds T Φ ρ
 | .br x t f,ρ=>(x.den ρ≠0->t.Holds T Φ ρ)/\(x.den ρ=0->f.Holds T Φ ρ)
 | .j8 f as t e,ρ=>match lk f T with
  |some fe=>(fe.oe (as.map (·.den ρ))=true->t.Holds T Φ ρ)/\(fe.oe (as.map (·.den ρ))=false->e.Holds T Φ ρ)
  |none=>False
 | .dc t k,ρ=>t.fk T ρ/\k.Holds T Φ ρ
 | .bad _,_=>False
theorem Nq{T:Tb}{Φ:Br->Ex->St->Prop}{x:X}{t f:Bz}{ρ:Br}(h:(ABW x t f).Holds T Φ ρ):(x.den ρ≠0->t.Holds T Φ ρ)/\(x.den ρ=0->f.Holds T Φ ρ):=by
 unfold ABW at h;split at h
 ·have:=h (λp hp=>by cases hp);have hx:=this.1 _ (NB.2 rfl);exact⟨λhn=>absurd hx hn,λ_=>this.2⟩
 ·have:=h (λp hp=>by cases hp);have hx:=this.1 _ (NB.2 rfl);exact⟨λ_=>this.2,λhn=>absurd hn hx⟩
 ·exact h
theorem Mf{T:Tb}{p:Ex->St->Bool}{ρ:Br}:∀ {t:Bz},t.sy p=true->t.fk T ρ->t.Holds T (λ_ e st=>p e st=true) ρ
 | .leaf e st,hp,h=>hp
 | .fz ds ob t,hp,h=>λhd=>⟨(h hd).1,Mf (t:=t) hp (h hd).2⟩
 | .br x t f,hp,h=>by
  simp only[Bz.sy,Bl] at hp;exact⟨λhx=>Mf hp.1 (h.1 hx),λhx=>Mf hp.2 (h.2 hx)⟩
 | .j8 f as t e,hp,h=>by
  simp only[Bz.sy,Bl] at hp;unfold Bz.fk at h;unfold Bz.Holds;split at h
  ·exact⟨λhx=>Mf hp.1 (h.1 hx),λhx=>Mf hp.2 (h.2 hx)⟩
  ·exact h.elim
 | .dc t k,hp,h=>⟨h.1,Mf (t:=k) hp h.2⟩
 | .bad _,_,h=>h.elim
def Bz.cv(T:Tb)(Φ:Br->Ex->St->Prop)(nv:Nat)(ρ:Br)(t:Bz):Prop:=∀ ρ',JW nv ρ ρ'->t.Holds T Φ ρ'
structure Gz (E:En) (st:St) (V:Vl) (a:Act) (w:World):Prop where
 s:Sat E st V a w
 ll:∀p∈st.ln,p.1<st.nv
 kp:∀p∈E.I,ED p.1 (Dh st.rg)=true/\V.ν p.1=p.2
 ks:∀i,i<E.sn->V.σ i=E.σ0 i
 ns:E.sn<=st.nv
theorem Ag.yy{nv:Nat}{ids:List Nat}{V:Vl}{ρ':Br}(h:JW nv V.ρ ρ'):Ag nv ids V { V with ρ:=ρ' }:=⟨h,λ_ _=>rfl,λ_ _=>rfl⟩
theorem Sat.env{E:En}{st:St}{V:Vl}{a:Act}{w:World}(h:Gz E st V a w){ρ':Br}(ha:JW st.nv V.ρ ρ'):Gz E st { V with ρ:=ρ' } a w where
 s := {
  m:=h.s.m.ag (Ag.yy ha) h.s.nF
  nF:=h.s.nF
  t := {
   tm:=λt v hv=>by
    obtain⟨h1,h2,h3⟩:=h.s.t.tm t v hv;exact⟨by rw[SV.cr (Ag.yy ha) h3];exact h1,SV.ff (Ag.yy ha) h3 h2,h3⟩
   gl:=h.s.t.gl
   ln:=λp hp=>by
    show(ρ' p.1).length=p.2;rw[ha p.1 (h.ll p hp)];exact h.s.t.ln p hp }
  nt:=h.s.nt
  df:=h.s.df }
 ll:=h.ll
 kp:=h.kp
 ks:=h.ks
 ns:=h.ns
theorem QZ{st:St}{t:Nat}{v:SV}{u:Nat}:St.look { st with lc:=(t,v)::st.lc } u=if t=u then some v else st.look u:=by
 simp only[St.look,lk];cases hb:Nat.beq t u with
 |true=>have:=CR hb;simp[this]
 |false=>
  have cq:t≠u:=λe=>by rw[e,Nat.beq_refl] at hb;cases hb
  simp[cq]
theorem VU{a:Act}{t u:Nat}{v:Value}(h:t<a.tmps.size):(a.put (some t) v).tmps.getD u undef=if t=u then v else a.tmps.getD u undef:=by
 simp only[Act.put,Ti];by_cases e:t=u
 ·subst e;simp[h]
 ·simp[Array.getElem?_setIfInBounds_ne e,e]
theorem OM{a:Act}{d:Option Nat}{v:Value}:(a.put d v).tmps.size=a.tmps.size:=by cases d<;>simp[Act.put]
theorem SQ{a:Act}{d:Option Nat}{v:Value}:(a.put d v).defers=a.defers:=by cases d<;>rfl
theorem Gz.put{E:En}{st:St}{V V':Vl}{a:Act}{w w':World}{nb bv:Nat}{rg:List Rg}{er:Bool}{ln:List (Nat×Nat)}{nv nl:Nat}{d:Option Nat}{v:SV}{cH:St}
  (h:Gz E st V a w) (hr:Vb E st V nb bv rg er V' w') (At:er=false\/st.nv<=nb) (mC:bv<=nv) (tn:st.nv<=nv) (hl:∀p∈ln,(V'.ρ p.1).length=p.2) (hll:∀p∈ln,p.1<nv) (hv:v.ok V')
  (hp:St.put { st with rg:=rg,ln:=ln,nv:=nv,nl:=nl } d v=some cH):Gz E cH V' (a.put d (v.den V')) w':=by
 have gk:Ag st.nv (Dh st.rg) V V':=⟨λi _=>by rw[hr.ρ],λi hi=>hr.σ i (by rcases At with h|h;exact .inr h;exact .inl (by omega)),λl hl=>(hr.ν l hl).1⟩;have r6:∀l,ED l (Dh st.rg)=true->ED l (Dh rg)=true:=λl hl=>(hr.ν l hl).2
 have adV:Xl nv rg:=λr cL lv oA=>LV.bh mC (λ_ h=>h) (hr.nF r cL lv oA)
 have hold:∀t u,st.look t=some u->a.tmps.getD t undef=u.den V'/\u.ok V'/\u.lt nv (Dh rg)=true:=λt u hu=>by
  obtain⟨h1,h2,h3⟩:=h.s.t.tm t u hu;exact⟨by rw[SV.cr gk h3];exact h1,SV.ff gk h3 h2,SV.bh tn r6 h3⟩
 have lR:∀g l,lk g st.gl=some l->V'.ν l=(g,0)/\ED l (Dh rg)=true:=λg l hg=>by
  obtain⟨h1,h2⟩:=h.s.t.gl g l hg;exact⟨by rw[gk.2.2 l h2];exact h1,r6 l h2⟩
 have B2:∀p∈E.I,ED p.1 (Dh rg)=true/\V'.ν p.1=p.2:=λp hp=>by
  obtain⟨k1,k2⟩:=h.kp p hp;exact⟨r6 _ k1,by rw[gk.2.2 _ k1];exact k2⟩
 have hks:∀i,i<E.sn->V'.σ i=E.σ0 i:=λi hi=>by rw[gk.2.1 i (iH hi h.ns)];exact h.ks i hi
 have hns:E.sn<=nv:=z8 h.ns tn;cases d with
 |none=>
  simp only[St.put,Ai] at hp;subst hp;exact⟨⟨hr.mok,adV,⟨λt u hu=>hold t u hu,lR,hl⟩,h.s.nt,h.s.df⟩,hll,B2,hks,hns⟩
 | some t=>
  unfold St.put at hp;simp only at hp;cases hb:(Nat.blt t st.nt&&v.lt nv (Dh rg)) with
  |false=>rw[hb] at hp;cases hp
  | true=>
   rw[hb,cond_true,Ai] at hp;subst hp;simp only[Bl] at hb;have cf:t<a.tmps.size:=by rw[h.s.nt];exact D7 hb.1
   refine⟨⟨hr.mok,adV,⟨λu x hu=>?_,lR,hl⟩,by rw[OM];exact h.s.nt,by rw[SQ];exact h.s.df⟩,hll,B2,hks,hns⟩;have HU:(if t=u then some v else st.look u)=some x:=by
    rw[<- hu];exact(QZ (st:= { st with rg:=rg,ln:=ln,nv:=nv,nl:=nl })).symm
   rw[VU cf];by_cases e:t=u
   ·rw[if_pos e] at HU ⊢;cases HU;exact⟨rfl,hv,hb.2⟩
   ·rw[if_neg e] at HU ⊢;exact hold u x HU
theorem Gz.skip{E:En}{st cH:St}{V:Vl}{a:Act}{w:World}{d:Option Nat}(h:Gz E st V a w)(hp:st.put d (.pn [])=some cH):Gz E cH V (a.put d undef) w:=by
 have:=Gz.put (E:=E) (er:=false) (v:=.pn []) (nb:=0) (bv:=st.nv) (ln:=st.ln) (nv:=st.nv) (nl:=st.nl) (cH:=cH) (d:=d) h (Vb.same h.s.m h.s.nF) (.inl rfl) (KA _) (KA _)
  h.s.t.ln h.ll (λt ht=>by cases ht) hp
 exact this
theorem lI{α:Type}(t u:Nat):∀l:List (Nat×α),u≠t->lk u (rmv t l)=lk u l
 | [],_=>rfl
 | (k,v)::r,h=>by
  unfold rmv;cases hb:Nat.beq k t with
  |true=>
   have:=CR hb;subst this;have cq:Nat.beq k u=false:=by cases hh:Nat.beq k u with|false=>rfl|true=>exact absurd (CR hh).symm h
   simp only[cond_true,lk,cq,cond_false]
  |false=>simp only[cond_false,lk,lI t u r h]
theorem YF(u:Nat):∀(lc tm:List (Nat×SV)),lk u (Go.Proofs.YtloibefkijfdlaaGreatDoor.flush lc tm)=(match lk u lc with|some v=>some v|none=>lk u tm)
 | [],tm=>rfl
 | (t,v)::r,tm=>by
  simp only[Go.Proofs.YtloibefkijfdlaaGreatDoor.flush,lk];cases hb:Nat.beq t u with
  |true=>rfl
  |false=>
   have cq:u≠t:=λe=>by rw[e,Nat.beq_refl] at hb;cases hb
   simp only[cond_false];rw[lI t u _ cq,YF u r tm]
theorem St.we(st:St)(u:Nat):st.flush.look u=st.look u:=by
 simp only[St.look,St.flush,lk,YF u st.lc st.tm];cases lk u st.lc<;>rfl
theorem Gz.flush{E:En}{st:St}{V:Vl}{a:Act}{w:World}(h:Gz E st V a w):Gz E st.flush V a w:=
 ⟨⟨h.s.m,h.s.nF,⟨λt v hv=>h.s.t.tm t v (by rw[<- hv];exact(St.we st t).symm),h.s.t.gl,h.s.t.ln⟩,h.s.nt,h.s.df⟩,h.ll,h.kp,h.ks,h.ns⟩
def Nxt(E:En)(Φ:Br->Ex->St->Prop)(κ:St->Bz)(K:Act->World->Prop):Prop:=
 ∀st V a w,Gz E st V a w->(κ st).cv E.C.T Φ st.nv V.ρ->K a w
theorem rY{E:En}(hE:P7 E){Φ:Br->Ex->St->Prop}{o:Oper}{ca:Bool}{st:St}{κ:St->Bz}{V:Vl}{a:Act}{w:World}(hS:Gz E st V a w)
  (hT:(jP E.C o ca st κ).cv E.C.T Φ st.nv V.ρ)
  (kf:∀f args iv vs fe as,o.op= .call ⟨.value (.func f),args,iv⟩->pA st args.toList=some vs->lk f E.C.T=some fe->Oj st (fe.ca ca).params vs=some as->(fe.oe (as.1.map (·.den V.ρ))=ca/\as.1.all (·.lt st.nv)=true)\/∀x,fe.oe x=ca)
  {K:Act->World->Prop} {Q:Exit->Act->World->Prop} (hK:Nxt E Φ κ K):o.wp E.P a w K Q:=by
 unfold jP at hT;split at hT
 ·exact(hT V.ρ (JW.refl _ _)).elim
 rename_i m hm;split at hT
 ·exact(hT V.ρ (JW.refl _ _)).elim
 rename_i cH hp;have key:∃ ρ1,JW st.nv V.ρ ρ1/\Tp E.C.T ρ1 m.o.ds/\(∀q∈m.o.ob,q.den E.C.T ρ1)/\(κ cH).cv E.C.T Φ (st.nv+16) ρ1/\(∀p∈J5 E.C.T st.ln m.o.ds,p.1<st.nv+16):=by
  have oR:∀p∈st.ln,p.1<st.nv+16:=λp hp=>by have:=hS.ll p hp;omega
  by_cases iz:m.o.ds= []/\m.o.ob= []
  ·rw[iz.1,iz.2] at hT;simp only at hT;rw[iz.1,iz.2];exact⟨V.ρ,JW.refl _ _,λp hp=>(by cases hp),λq hq=>(by cases hq),fun ρ' h=>hT ρ' (λi hi=>h i (by omega)),oR⟩
  ·have wq:(bif GL st.nv (st.nv+16) m.o.ds&&Jm (st.nv+16) m.o.ob then Bz.fz m.o.ds m.o.ob (κ cH) else .bad 3).cv E.C.T Φ st.nv V.ρ:=by
    revert hT;cases sL:m.o.ds with
    |nil=>
     cases qu:m.o.ob with
     |nil=>exact absurd ⟨sL,qu⟩ iz
     |cons q r=>exact id
    |cons p r=>exact id
   cases hb:(GL st.nv (st.nv+16) m.o.ds&&Jm (st.nv+16) m.o.ob) with
   |false=>rw[hb] at wq;exact(wq V.ρ (JW.refl _ _)).elim
   |true=>
    rw[hb,cond_true] at wq;simp only[Bl] at hb;obtain⟨ρ1,g1,g2⟩:=VP E.C.T V.ρ hb.1;have h1:=wq ρ1 g1 g2;refine⟨ρ1,g1,g2,h1.1,fun ρ' h=>?_,Q8 hb.1 oR⟩;exact(wq ρ' (g1.trans h (by omega)) (g2.agE hb.1 h)).2
 obtain⟨ρ1,g1,g2,g3,g4,g5⟩:=key;have qS:=Sat.env hS g1;have hTb:∀f fe,lk f E.C.T=some fe->∀b,PH (fe.ca b):=λf fe h=>(hE.tb f fe h).2
 have hln:=Qy (ρ:=ρ1) hTb qS.s.t.ln g2;refine lU hE qS.s.m (bv:=st.nv+16) (λr hr lv oA=>LV.bh (by omega) (λ_ h=>h) (qS.s.nF r hr lv oA)) qS.s.t (by omega) hm g2 g3 ?_ ?_ ?_
 ·intro f args iv vs fe as h1 h2 h3 h4;rcases kf f args iv vs fe as h1 h2 h3 h4 with⟨k1,k2⟩|k
  ·rw[oS.cj g1 k2];exact k1
  ·exact k _
 ·exact .inr ⟨qS.s.nF,KA _⟩
 ·intro V' w' hr hv;have hρ:V'.ρ=ρ1:=hr.ρ;have N0:=Gz.put qS hr (.inr (KA _)) (KA _) (by omega) (by rw[hρ];exact hln) g5 hv hp;refine hK cH V' _ w' N0 ?_;have akW:cH.nv=st.nv+16:=by
   cases hd:o.dst with
   |none=>rw[hd] at hp;simp only[St.put,Ai] at hp;subst hp;rfl
   |some t=>
    rw[hd] at hp;unfold St.put at hp;simp only at hp;cases hb:(Nat.blt t st.nt&&m.o.v.lt (st.nv+16) (Dh m.rg)) with
    |false=>rw[hb] at hp;cases hp
    |true=>rw[hb,cond_true,Ai] at hp;subst hp;rfl
  rw[akW,hρ];exact g4
def Ub(a:Act):ResultVar->Sem Value
 | .tmp t=>pure (a.tmps.getD t undef)
 | .cell b t=>do loadVar t (<- asAddr (a.tmps.getD b undef))
section
variable{E:En}(hE:P7 E){st:St}{V:Vl}{a:Act}{w:World}(gh:st.lc= [])(hS:Gz E st V a w)
include hE gh hS
theorem zx{r:ResultVar}{v:TV}(h:uH E.C st r=some v):
  (Ub a r).run E.P w= .ok (v.den V) w/\v.ok V:=by
 cases r with
 | tmp t=>
  simp only[uH] at h;split at h
  ·rename_i u hu;simp only[Ai] at h;subst h;obtain⟨h1,h2,-⟩:=hS.s.t.tm t _ (by simp only[St.look,gh,lk];exact hu);simp only[Ub,KT,h1];exact⟨rfl,h2⟩
  ·cases h
 | cell b t=>
  simp only[uH] at h;split at h
  ·rename_i l o hu;obtain⟨h1,h2,-⟩:=hS.s.t.tm b _ (by simp only[St.look,gh,lk];exact hu);split at h
   ·rename_i v' ln hl;simp only[Ai] at h;subst h;have jt:Oi E st.rg V w:=hS.s.m;obtain⟨k1,k2⟩:=Yb hE jt (λp hp=>hS.s.t.ln p hp) hl h2 (λp hp=>by cases hp);refine⟨?_,k2⟩;simp only[Ub,h1,SV.aE,TV.aq,LV.cx] at k1 ⊢;exact k1
   ·cases h
  ·cases h
theorem Wm:∀ {rs:List ResultVar} {vs:List TV},SG E.C st rs=some vs->
  (rs.mapM (Ub a)).run E.P w= .ok (vs.map (·.den V)) w/\∀v∈vs,v.ok V
 | [],vs,h=>by
  simp only[SG,Ai] at h;subst h;exact⟨rfl,λv hv=>(by cases hv)⟩
 | r::rs,vs,h=>by
  unfold SG at h;split at h
  ·rename_i v vs' h1 h2;simp only[Ai] at h;subst h;obtain⟨k1,k2⟩:=zx hE gh hS h1;obtain⟨g1,g2⟩:=Wm h2;refine⟨?_,λu hu=>?_⟩
   ·rw[List.mapM_cons];simp only[IY,k1,Hm,g1,KT,NE]
   ·rcases IR.1 hu with rfl|hu
    ·exact k2
    ·exact g2 u hu
  ·cases h
end
inductive ExR:Ex->Exit->Prop where
 |normal:ExR .normal .normal
 |exit (id:Nat):ExR (.exit id) (.exit id)
 |ret:ExR .ret .ret
def AQA(E:En)(Φ:Br->Ex->St->Prop)(e:Exit)(a:Act)(w:World):Prop:=
 ∃ex st V,ExR ex e/\st.lc= []/\Gz E st V a w/\∀ ρ',JW st.nv V.ρ ρ'->Φ ρ' ex st
end
section
open Go
section
variable{E:En}(hE:P7 E){Φ:Br->Ex->St->Prop}
include hE
theorem Yd{C:Cx}{o:Oper}(h:Y7 C o=none){f:Nat}{args:Array Operand}{iv:Array TypeId}{fe:FE}(ho:o.op= .call ⟨.value (.func f),args,iv⟩)(hf:lk f C.T=some fe):∀x,fe.oe x=true:=by
 have _:=hE;unfold Y7 at h;rw[ho] at h;simp only[hf] at h;cases fe with
 |one s=>exact λ_=>rfl
 |two c s1 s2=>cases h
omit hE in
theorem pJ{C:Cx}{o:Oper}{f:Nat}(h:Y7 C o=some f):∃args iv fe,o.op= .call ⟨.value (.func f),args,iv⟩/\lk f C.T=some fe:=by
 unfold Y7 at h;split at h
 ·rename_i g args iv ho;split at h
  ·rename_i c s1 s2 hf;simp only[Ai] at h;subst h;exact⟨_,_,_,ho,hf⟩
  ·cases h
 ·cases h
theorem AP6 {o:Oper} {st:St} {κ:St->Bz} {V:Vl} {a:Act} {w:World} (hS:Gz E st V a w)
  (hT:(zo E.C o st κ).cv E.C.T Φ st.nv V.ρ)
  {K:Act->World->Prop} {Q:Exit->Act->World->Prop} (hK:Nxt E Φ κ K):o.wp E.P a w K Q:=by
 unfold zo at hT;cases h2:Y7 E.C o with
 |none=>
  rw[h2] at hT;exact rY hE hS hT (λf args iv vs fe as h _ hf _=>.inr (Yd hE h2 h hf)) hK
 | some f=>
  rw[h2] at hT;simp only at hT;split at hT
  ·rename_i as has;cases hb:as.all (·.lt st.nv) with
   |false=>rw[hb] at hT;exact(hT V.ρ (JW.refl _ _)).elim
   | true=>
    rw[hb,cond_true] at hT;obtain⟨args,iv,fe,ho,hf⟩:=pJ h2;unfold vZ at has;rw[ho] at has;simp only[hf] at has;split at has
    ·rename_i vs fe' oE DH;cases DH;split at has
     ·rename_i Mb ms bs ms' hA hB;cases hq:Oc IZ.beq Mb bs with
      |false=>rw[hq] at has;cases has
      | true=>
       rw[hq,cond_true,Ai] at has;have hab:=Gy (λ_ _=>IZ.beq_eq) hq;subst hab;subst has;have kf:∀b,fe.oe (Mb.map (·.den V.ρ))=b->(jP E.C o b st κ).cv E.C.T Φ st.nv V.ρ->o.wp E.P a w K Q:=λb hc hH=>
        rY hE hS hH (λf1 agr aid vs1 fe1 as1 ho1 ac6 A6 hA1=>by
         rw[ho] at ho1;cases ho1;rw[oE] at ac6;cases ac6;rw[hf] at A6;cases A6;cases b with
         |true=>rw[hA] at hA1;cases hA1;exact .inl ⟨hc,hb⟩
         |false=>rw[hB] at hA1;cases hA1;exact .inl ⟨hc,hb⟩) hK
       have hH:∀ ρ',JW st.nv V.ρ ρ'->(fe.oe (Mb.map (·.den V.ρ))=true->(jP E.C o true st κ).Holds E.C.T Φ ρ')/\(fe.oe (Mb.map (·.den V.ρ))=false->(jP E.C o false st κ).Holds E.C.T Φ ρ'):=fun ρ' hρ=>by
        have:=hT ρ' hρ;unfold Bz.Holds at this;rw[hf] at this;simp only[oS.cj hρ hb] at this;exact this
       cases hc:fe.oe (Mb.map (·.den V.ρ)) with
       |true=>exact kf true hc (fun ρ' hρ=>(hH ρ' hρ).1 hc)
       |false=>exact kf false hc (fun ρ' hρ=>(hH ρ' hρ).2 hc)
     ·cases has
    ·cases has
  ·exact(hT V.ρ (JW.refl _ _)).elim
def sM(E:En)(run:Code->St->Bz):Prop:=
 ∀(I:List (Nat×(Nat×Nat))) (sn:Nat) (σ0:Nat->Value) (Φ:Br->Ex->St->Prop) (f:Nat) (i:IF) (st:St) (V:Vl) (a:Act) (w:World),lk f E.C.inl=some i->st.lc= []->
  Gz { E with I:=I,sn:=sn,σ0:=σ0 } st V a w->(run i.c st).cv E.C.T Φ st.nv V.ρ->i.c.wp E.P (AQA { E with I:=I,sn:=sn,σ0:=σ0 } Φ) a w
def jZ(E:En):Prop:=∀f i,lk f E.C.inl=some i->(∀args w,(callFunc f args).run E.P w= .ok (.enter f args) w)/\∃fn,E.P.funcs[f]? = some fn/\fn.body=some i.c/\fn.ntmps=i.nt/\fn.results.toList=i.cF
omit hE in
theorem MX{T:Tb}{k:Ex->St->Bz}{ρ:Br}:∀ {t:Bz},(t.bind k).Holds T Φ ρ->t.Holds T (fun ρ ex st=>(k ex st).Holds T Φ ρ) ρ
 | .leaf e st,h=>h
 | .fz ds ob t,h=>λhd=>⟨(h hd).1,MX (h hd).2⟩
 | .br x t f,h=>⟨λhx=>MX (h.1 hx),λhx=>MX (h.2 hx)⟩
 | .j8 f as t e,h=>by
  unfold Bz.bind Bz.Holds at h;unfold Bz.Holds;split at h
  ·exact⟨λhx=>MX (h.1 hx),λhx=>MX (h.2 hx)⟩
  ·exact h.elim
 | .dc t k,h=>⟨h.1,MX h.2⟩
 | .bad _,h=>h.elim
omit hE in
theorem Js{T:Tb}{Φ':Br->Ex->St->Prop}{ρ:Br}(h:∀ex st,Φ ρ ex st->Φ' ρ ex st):∀ {t:Bz},t.Holds T Φ ρ->t.Holds T Φ' ρ
 | .leaf e st,ht=>h e st ht
 | .fz ds ob t,ht=>λhd=>⟨(ht hd).1,Js h (ht hd).2⟩
 | .br x t f,ht=>⟨λhx=>Js h (ht.1 hx),λhx=>Js h (ht.2 hx)⟩
 | .j8 f as t e,ht=>by
  unfold Bz.Holds at ht ⊢;split at ht
  ·exact⟨λhx=>Js h (ht.1 hx),λhx=>Js h (ht.2 hx)⟩
  ·exact ht.elim
 | .dc t k,ht=>⟨ht.1,Js h ht.2⟩
 | .bad _,ht=>ht.elim
omit hE in
theorem Yk{V:Vl}:∀ {vs:List SV} {i t:Nat} {v:SV},lk t (Sc i vs)=some v->∃j,t=i+j/\vs[j]? = some v
 | [],i,t,v,h=>by simp[Sc,lk] at h
 | u::vs,i,t,v,h=>by
  simp only[Sc,lk] at h;cases hb:Nat.beq i t with
  |true=>
   rw[hb,cond_true,Ai] at h;have:=CR hb;exact⟨0,by omega,by simp[h]⟩
  |false=>
   rw[hb,cond_false] at h;obtain⟨j,h1,h2⟩:=Yk (V:=V) h;exact⟨j+1,by omega,by simpa using h2⟩
omit hE in
theorem wH{fn:Func}{a:Act}{P:Program}{w:World}{V:Vl}{vs:List TV}(h:(fn.results.toList.mapM (Ub a)).run P w= .ok (vs.map (·.den V)) w):(results fn a.tmps).run P w= .ok (PZ (vs.map (·.den V))) w:=by
 have aad:results fn a.tmps=(do
   let vs <- fn.results.mapM (Ub a)
   pure (if h:vs.size=1 then vs[0] else .tuple vs)):=by
  unfold results
  congr 1
 rw[aad,Array.mapM_eq_mapM_toList];simp only[map_eq_pure_bind,bind_assoc,pure_bind,IY,h,Hm,KT];cases vs with
 |nil=>rfl
 |cons v vs=>
  cases vs with
  |nil=>rfl
  |cons u vs=>rfl
omit hE in
theorem nH{V:Vl}{vs:List TV}(h:∀v∈vs,v.ok V):(Qe vs).den V=PZ (vs.map (·.den V))/\(Qe vs).ok V:=by
 cases vs with
 |nil=>exact⟨rfl,λt h=>by cases h⟩
 |cons t ts=>
  cases ts with
  |nil=>exact⟨rfl,h t Kh⟩
  |cons t' ts'=>exact⟨rfl,h⟩
theorem AAx {run:Code->St->Bz} (hR:sM E run) (hI:jZ E) {o:Oper} {f:Nat} {i:IF} {args:List Operand} {st:St} {κ:St->Bz} {V:Vl} {a:Act} {w:World} (hS:Gz E st V a w) (hi:AAN E.C o=some (f,i,args))
  (hT:(ACe E.C run i args o.dst st κ).cv E.C.T Φ st.nv V.ρ) {K:Act->World->Prop} {Q:Exit->Act->World->Prop} (hK:Nxt E Φ κ K):o.wp E.P a w K Q:=by
 unfold AAN at hi;split at hi
 ·rename_i f' ab3 iv hop;split at hi
  ·rename_i i' hl;simp only[Ai,Prod.mk.injEq] at hi;obtain⟨rfl,rfl,rfl⟩:=hi;obtain⟨hen,fn,hf,hb,hn,hr⟩:=hI _ _ hl;unfold ACe at hT;split at hT
   ·exact(hT V.ρ (JW.refl _ _)).elim
   rename_i vs oE;cases hle:Nat.ble vs.length i'.nt with
   |false=>rw[hle] at hT;exact(hT V.ρ (JW.refl _ _)).elim
   |true=>
   rw[hle,cond_true] at hT;have aip:=MQ hle;obtain⟨e1,e2⟩:=hS.s.t.pA oE;have fg:ab3.map a.eval=(vs.map (·.den V)).toArray:=by
    apply Array.ext';rw[Array.toList_map,e1]
   obtain⟨dst,op,type,pos,after,guard⟩:=o;simp only at hop;subst hop;unfold Oper.wp;rw[aY (P:=E.P) (ρ:=a.eval) (λ_=>rfl) dst f' ab3 iv type pos after guard w,fg,hen];refine calls_of_wp hf hb ?_;rw[hn];have mj:Gz { E with I:=st.rg.map λr=>(r.id,V.ν r.id),sn:=st.nv,σ0:=V.σ } { st with lc:=[],tm:=Sc 0 vs,nt:=i'.nt } V ⟨(vs.map (·.den V)).toArray++Array.replicate (i'.nt-(vs.map (·.den V)).toArray.size) undef,[]⟩ w:=by
    refine⟨⟨⟨hS.s.m.pH,hS.s.m.one,hS.s.m.sep,hS.s.m.sY,hS.s.m.an,hS.s.m.gw⟩,hS.s.nF,⟨λt v hv=>?_,hS.s.t.gl,hS.s.t.ln⟩,?_,rfl⟩,hS.ll,λp hp=>?_,λ_ _=>rfl,KA _⟩
    ·have n8:lk t (Sc 0 vs)=some v:=hv;obtain⟨j,h1,h2⟩:=Yk (V:=V) n8;rw[Km] at h1;subst h1;have hj:=(OQ.1 h2).1;obtain⟨h3,h4⟩:=e2 v (Le h2);refine⟨?_,h3,h4⟩;rw[Ti,Array.getElem?_append_left (by simpa using hj)];simp[h2]
    ·simp only[Array.size_append,Array.size_replicate,List.size_toArray,Tg];omega
    ·obtain⟨r,cL,rfl⟩:=UT.1 hp;exact⟨GY cL,rfl⟩
   simp only at hT;cases hchk:(AIG i'.cF&&(run i'.c { st with lc:=[],tm:=Sc 0 vs,nt:=i'.nt }).sy (vO st.rg)) with
   | true=>
    rw[hchk,cond_true] at hT;simp only[Bl] at hchk;split at hT
    ·exact(hT V.ρ (JW.refl _ _)).elim
    rename_i yq hp;have cW:=hR _ _ _ (fun ρ ex cH=>JW st.nv V.ρ ρ/\vO st.rg ex cH=true) _ _ _ _ _ _ hl rfl mj (fun ρ' hρ=>Js (λex cH h=>⟨hρ,h⟩) (Mf hchk.2 (hT ρ' hρ).1));refine wp_mono cW ?_;rintro e a' w' ⟨ex,cH,V',hx,gh,eM,hΦ⟩;obtain⟨zj,nh⟩:=hΦ V'.ρ (JW.refl _ _);have pS:(match ex with | .exit _=>False|_=>True)/\cH.rg=st.rg:=by
     unfold vO at nh;split at nh
     ·cases nh
     ·rename_i cq;refine⟨?_,Gy (λ_ _=>Rg.beq_eq) nh⟩;cases ex<;>first|trivial|exact absurd rfl (cq _)
    have B2:∀l,ED l (Dh st.rg)=true->V'.ν l=V.ν l:=λl pT=>by
     obtain⟨r,cL,rfl⟩:=OE.1 pT;exact(eM.kp (r.id,V.ν r.id) (UT.2 ⟨r,cL,rfl⟩)).2
    have gk:Ag st.nv (Dh st.rg) V V':=⟨zj,λj hj=>eM.ks j hj,B2⟩;have key:a'.defers= []/\∃v,(results fn a'.tmps).run E.P w'= .ok v w'/\K (a.put dst v) w':=by
     refine⟨eM.s.df,.tuple #[],?_,?_⟩
     ·have td:fn.results.toList= []:=by
       rw[hr];cases hrv:i'.cF with
       |nil=>rfl
       |cons x xs=>rw[hrv] at hchk;cases hchk.1
      have:=wH (fn:=fn) (a:=a') (P:=E.P) (w:=w') (V:=V') (vs:=[]) (by rw[td];rfl);exact this
     ·have jt:=eM.s.m;rw[pS.2] at jt;have EV:Gz E st V' a w':=by
       refine⟨⟨⟨jt.pH,jt.one,jt.sep,jt.sY,jt.an,jt.gw⟩,hS.s.nF,⟨λt v hv=>?_,λg l hg=>?_,λp hp=>?_⟩,hS.s.nt,hS.s.df⟩,hS.ll,λp hp=>?_,λj hj=>?_,hS.ns⟩
       ·obtain⟨h1,h2,h3⟩:=hS.s.t.tm t v hv;exact⟨by rw[SV.cr gk h3];exact h1,SV.ff gk h3 h2,h3⟩
       ·obtain⟨h1,h2⟩:=hS.s.t.gl g l hg;exact⟨by rw[B2 l h2];exact h1,h2⟩
       ·rw[zj _ (hS.ll p hp)];exact hS.s.t.ln p hp
       ·obtain⟨k1,k2⟩:=hS.kp p hp;exact⟨k1,by rw[B2 _ k1];exact k2⟩
       ·rw[eM.ks j (iH hj hS.ns)];exact hS.ks j hj
      have ot:St.put { st with rg:=st.rg,ln:=st.ln,nv:=st.nv,nl:=st.nl } dst (.pn [])=some yq:=hp;have N0:=Gz.put (E:=E) (nb:=0) (er:=false) (bv:=st.nv) (v:=.pn []) EV (Vb.same EV.s.m EV.s.nF) (.inl rfl) (KA _) (KA _) EV.s.t.ln EV.ll (λt ht=>by cases ht) ot;refine hK yq V' _ w' N0 ?_;have:yq.nv=st.nv:=by
       cases dst with
       |none=>simp only[St.put,Ai] at hp;subst hp;rfl
       |some t=>
        unfold St.put at hp;simp only at hp;cases xp:(Nat.blt t st.nt&&SV.lt st.nv (Dh st.rg) (.pn [])) with
        |false=>rw[xp] at hp;cases hp
        |true=>rw[xp,cond_true,Ai] at hp;subst hp;rfl
      rw[this];exact fun ρ' h=>(hT ρ' (zj.trans h (KA _))).2
    cases hx with
    |normal=>exact key
    |exit id=>exact pS.1.elim
    |ret=>exact key
   |false=>
   rw[hchk,cond_false] at hT;have cW:=hR _ _ _ (fun ρ ex cH=>JW st.nv V.ρ ρ/\(match ex with
    | .exit _=>Bz.bad 41
    | _=>(match SG E.C cH i'.cF with
     |none=>.bad 42
     |some P0=>(match St.put { cH with lc:=st.lc,tm:=st.tm,nt:=st.nt } dst (Qe P0) with
      |none=>.bad 43
      |some yq=>κ yq))).Holds E.C.T Φ ρ) _ _ _ _ _ _ hl rfl mj (fun ρ' hρ=>Js (λex cH h=>⟨hρ,h⟩) (MX (hT ρ' hρ)))
   refine wp_mono cW ?_;rintro e a' w' ⟨ex,cH,V',hx,gh,eM,hΦ⟩;have zj:=(hΦ V'.ρ (JW.refl _ _)).1;have hns:st.nv<=cH.nv:=eM.ns;have B2:∀l,ED l (Dh st.rg)=true->ED l (Dh cH.rg)=true/\V'.ν l=V.ν l:=λl pT=>by
    obtain⟨r,cL,rfl⟩:=OE.1 pT;exact eM.kp (r.id,V.ν r.id) (UT.2 ⟨r,cL,rfl⟩)
   have gk:Ag st.nv (Dh st.rg) V V':=⟨zj,λj hj=>eM.ks j hj,λl pT=>(B2 l pT).2⟩;have key:(∀ ρ',JW cH.nv V'.ρ ρ'->(match SG E.C cH i'.cF with
     |none=>Bz.bad 42
     |some P0=>(match St.put { cH with lc:=st.lc,tm:=st.tm,nt:=st.nt } dst (Qe P0) with
      |none=>.bad 43
      |some yq=>κ yq)).Holds E.C.T Φ ρ')->a'.defers= []/\∃v,(results fn a'.tmps).run E.P w'= .ok v w'/\K (a.put dst v) w':=λhH=>by
    refine⟨eM.s.df,?_⟩;split at hH
    ·exact(hH V'.ρ (JW.refl _ _)).elim
    rename_i P0 htv;split at hH
    ·exact(hH V'.ρ (JW.refl _ _)).elim
    rename_i yq hp;have hE':P7 { E with I:=st.rg.map λr=>(r.id,V.ν r.id),sn:=st.nv,σ0:=V.σ }:=⟨hE.tt,hE.gc,hE.gb,hE.tb,hE.mx,hE.Kp,hE.Kf,hE.en,hE.eq⟩;obtain⟨r1,r2⟩:=Wm hE' gh eM htv;rw[<- hr] at r1;obtain⟨q1,q2⟩:=nH r2;refine⟨_,wH r1,?_⟩;rw[<- q1];have EV:Gz E { cH with lc:=st.lc,tm:=st.tm,nt:=st.nt } V' a w':=by
     refine⟨⟨⟨eM.s.m.pH,eM.s.m.one,eM.s.m.sep,eM.s.m.sY,eM.s.m.an,eM.s.m.gw⟩,eM.s.nF,⟨λt v hv=>?_,eM.s.t.gl,eM.s.t.ln⟩,hS.s.nt,hS.s.df⟩,eM.ll,λp hp=>?_,λj hj=>?_,z8 hS.ns hns⟩
     ·obtain⟨h1,h2,h3⟩:=hS.s.t.tm t v hv;exact⟨by rw[SV.cr gk h3];exact h1,SV.ff gk h3 h2,SV.bh hns (λl pT=>(B2 l pT).1) h3⟩
     ·obtain⟨k1,k2⟩:=hS.kp p hp;exact⟨(B2 _ k1).1,by rw[(B2 _ k1).2];exact k2⟩
     ·rw[eM.ks j (iH hj hS.ns)];exact hS.ks j hj
    have ot:St.put { ({ cH with lc:=st.lc,tm:=st.tm,nt:=st.nt }:St) with rg:=cH.rg,ln:=cH.ln,nv:=cH.nv,nl:=cH.nl } dst (Qe P0)=some yq:=hp;have N0:=Gz.put (E:=E) (nb:=0) (er:=false) (bv:=cH.nv) EV (Vb.same EV.s.m EV.s.nF) (.inl rfl) (KA _) (KA _) EV.s.t.ln EV.ll q2 ot;refine hK yq V' _ w' N0 ?_;have:yq.nv=cH.nv:=by
     cases dst with
     |none=>simp only[St.put,Ai] at hp;subst hp;rfl
     |some t=>
      unfold St.put at hp;simp only at hp;cases xp:(Nat.blt t st.nt&&(Qe P0).lt cH.nv (Dh cH.rg)) with
      |false=>rw[xp] at hp;cases hp
      |true=>rw[xp,cond_true,Ai] at hp;subst hp;rfl
    rw[this];exact hH
   cases hx with
   |normal=>exact key fun ρ' h=>(hΦ ρ' h).2
   |exit id=>exact((hΦ V'.ρ (JW.refl _ _)).2).elim
   |ret=>exact key fun ρ' h=>(hΦ ρ' h).2
  ·cases hi
 ·cases hi
theorem Uz{run:Code->St->Bz}(hR:sM E run)(hI:jZ E){o:Oper}{st:St}{κ:St->Bz}{V:Vl}{a:Act}{w:World}(hS:Gz E st V a w)(hT:(AC7 E.C run o st κ).cv E.C.T Φ st.nv V.ρ)
  {K:Act->World->Prop} {Q:Exit->Act->World->Prop} (hK:Nxt E Φ κ K):o.wp E.P a w K Q:=by
 unfold AC7 at hT;split at hT
 ·rename_i f i args h;exact AAx hE hR hI hS h hT hK
 ·exact AP6 hE hS hT hK
def ADw(E:En)(Φ:Br->Ex->St->Prop)(κ:St->Bz)(K:Act->World->Prop):Prop:=
 ∀st V a w,st.lc= []->Gz E st V a w->(κ st).cv E.C.T Φ st.nv V.ρ->K a w
omit hE in
theorem Z0{st:St}{V:Vl}{a:Act}{w:World}(hS:Gz E st V a w){t:Nat}{x:X}(h:st.look t=some (.t (.l (.bool x)))):
  a.tmps[t]? = some (.bool (x.den V.ρ != 0))/\x.lt st.nv=true:=by
 obtain⟨h1,-,h3⟩:=hS.s.t.tm t _ h;refine⟨?_,h3⟩;simp only[SV.aE,TV.aq,LV.cg] at h1;by_cases cf:t<a.tmps.size
 ·rw[Array.getElem?_eq_getElem cf];simp[Array.getD,cf] at h1;rw[h1]
 ·simp[Array.getD,cf,undef] at h1
omit hE in
theorem XN{ops:Array Oper}{o g:Oper}{j t:Nat}{want:Bool}{tmps:Array Value}{b:Bool}(hg:o.guard=some (j,want))(hj:ops[j]? = some g)(hd:g.dst=some t)(ht:tmps[t]? = some (.bool b)):
  Region.wanted o (yielded ops tmps)=(b == want):=by
 unfold Region.wanted;rw[hg];have hy:yielded ops tmps j=some b:=by
  unfold yielded;rw[hj];simp only[Option.bind_some,hd,ht]
 simp only[hy];rfl
omit hE in
theorem Gz.tw{st:St}{V:Vl}{a:Act}{w:World}(h:Gz E st V a w){t:Nat}{x:X}{n:Int}(hl:st.look t=some (.t (.l (.bool x))))(hx:(x.den V.ρ != 0)=(n != 0)):Gz E (st.tw t n) V a w:=by
 refine⟨⟨h.s.m,h.s.nF,⟨λu v hv=>?_,h.s.t.gl,h.s.t.ln⟩,h.s.nt,h.s.df⟩,h.ll,h.kp,h.ks,h.ns⟩;have n8:(if t=u then some (SV.t (.l (.bool (.lit n)))) else st.look u)=some v:=by rw[<- hv];exact QZ.symm
 by_cases e:t=u
 ·subst e;rw[if_pos rfl] at n8;cases n8;obtain⟨h1,-, -⟩:=h.s.t.tm t _ hl;exact⟨by rw[h1];simp only[SV.aE,TV.aq,LV.cg,X.be,hx],trivial,rfl⟩
 ·rw[if_neg e] at n8;exact h.s.t.tm u v n8
theorem Zz {run:Code->St->Bz} (hR:sM E run) (hI:jZ E) {ops:Array Oper} {κ:St->Bz} {Q:Exit->Act->World->Prop} (hκ:ADw E Φ κ (Q .normal)):∀(l:List Oper) (st:St) (V:Vl) (a:Act) (w:World),Gz E st V a w->
  (Sb E.C run ops κ l st).cv E.C.T Φ st.nv V.ρ->wpList E.P ops Q l a w
 | [],st,V,a,w,hS,hT=>hκ st.flush V a w rfl hS.flush hT
 | o :: r,st,V,a,w,hS,hT=>by
  have hN:Nxt E Φ (Sb E.C run ops κ r) (wpList E.P ops Q r):=λcH V' a' w' h1 h2=>Zz hR hI hκ r cH V' a' w' h1 h2
  refine wpList_step λK hK=>?_
  have hN':Nxt E Φ (Sb E.C run ops κ r) K:=λcH V' a' w' h1 h2=>hK _ _ (hN cH V' a' w' h1 h2)
  have Fl:∀st,Gz E st V a w->(match st.put o.dst (.pn []) with
   |some cH=>Sb E.C run ops κ r cH
   |none=>.bad 5).cv E.C.T Φ st.nv V.ρ->K (a.put o.dst undef) w:=λst hS hH=>by
   split at hH
   ·rename_i cH hp;have eM:=hS.skip hp;refine hN' cH V _ w eM ?_;have:cH.nv=st.nv:=by
     cases hd:o.dst with
     |none=>rw[hd] at hp;simp only[St.put,Ai] at hp;subst hp;rfl
     |some t=>
      rw[hd] at hp;unfold St.put at hp;simp only at hp;cases hb:(Nat.blt t st.nt&&SV.lt st.nv (Dh st.rg) (.pn [])) with
      |false=>rw[hb] at hp;cases hp
      |true=>rw[hb,cond_true,Ai] at hp;subst hp;rfl
    rw[this];exact hH
   ·exact(hH V.ρ (JW.refl _ _)).elim
  unfold Sb at hT;simp only at hT;cases hg:o.guard with
  |none=>
   rw[hg] at hT;rw[if_pos (by simp[Region.wanted,hg])];exact Uz hE hR hI hS hT hN'
  | some p=>
   obtain⟨j,want⟩:=p;rw[hg] at hT;simp only at hT;split at hT
   ·rename_i g hj;split at hT
    ·rename_i t hd;split at hT
     ·rename_i n hl;obtain⟨h1,-⟩:=Z0 hS hl;rw[XN hg hj hd h1];have hbe:(X.den V.ρ (.lit n) != 0)= !(Iw n 0):=by
       rw[X.be];cases hb:Iw n 0 with
       |true=>rw[Mr hb];rfl
       |false=>simpa using O9 hb
      rw[hbe];cases hb:Iw n 0<;>cases want<;>rw[hb] at hT<;>simp at hT ⊢ <;> first|exact Uz hE hR hI hS hT hN'|exact Fl st hS hT
     ·rename_i x _ hl;obtain⟨h1,h2⟩:=Z0 hS hl;rw[XN hg hj hd h1];cases want with
      | true=>
       simp only[cond_true] at hT;by_cases hx:x.den V.ρ=0
       ·rw[if_neg (by simp[hx])];exact Fl _ (hS.tw (n:=0) hl (by simp[hx])) fun ρ' hρ=>(Nq (hT ρ' hρ)).2 (by rw[X.cj hρ h2];exact hx)
       ·rw[if_pos (by simp[hx])];exact Uz hE hR hI (hS.tw (n:=1) hl (by simp[hx])) (fun ρ' hρ=>(Nq (hT ρ' hρ)).1 (by rw[X.cj hρ h2];exact hx)) hN'
      | false=>
       simp only[cond_false] at hT;by_cases hx:x.den V.ρ=0
       ·rw[if_pos (by simp[hx])];exact Uz hE hR hI (hS.tw (n:=0) hl (by simp[hx])) (fun ρ' hρ=>(Nq (hT ρ' hρ)).2 (by rw[X.cj hρ h2];exact hx)) hN'
       ·rw[if_neg (by simp[hx])];exact Fl _ (hS.tw (n:=1) hl (by simp[hx])) fun ρ' hρ=>(Nq (hT ρ' hρ)).1 (by rw[X.cj hρ h2];exact hx)
     ·exact(hT V.ρ (JW.refl _ _)).elim
    ·exact(hT V.ρ (JW.refl _ _)).elim
   ·exact(hT V.ρ (JW.refl _ _)).elim
end
end
section
open Go
section
variable{P:Program}{ops:Array Oper}{Q:Exit->Act->World->Prop}{md:Region.Mode}{Inv:World->Prop}
def wpI(P:Program)(md:Region.Mode)(ops:Array Oper)(Q:Exit->Act->World->Prop)(Inv:World->Prop):Nat->Array Bool->Act->World->Prop
 |0,θ,a,w=>Inv w/\Region.ready md ops θ= []/\Q .normal a w
 |fuel+1,θ,a,w=>Inv w/\(Region.ready md ops θ= []->Q .normal a w)/\
  ∀i∈Region.ready md ops θ,wpOp P ops Q i (wpI P md ops Q Inv fuel (θ.setIfInBounds i true)) a w
theorem Xv{n:Nat}{θ:Array Bool}{a:Act}{w:World}(h:wpI P md ops Q Inv n θ a w):Inv w:=by
 cases n<;>exact h.1
theorem rX:∀(n:Nat) (θ:Array Bool) (a:Act) (w:World),wpI P md ops Q Inv n θ a w->wpAny P md ops Q n θ a w
 |0,_,_,_,h=>h.2
 |n+1,_listed,_a,_w,h=>⟨h.2.1,λi hi=>wpOp_mono (λa' w' h'=>rX n _ a' w' h') (h.2.2 i hi)⟩
def Ny(P:Program)(Inv:World->Prop)(o:Oper)(v:Value)(a:Act):Prop:=∀w,Inv w->(execOp a.eval o).run P w= .ok (.value v) w
theorem Ny.wpOp{i:Nat}{o:Oper}{v:Value}{a:Act}(hi:ops[i]? = some o)(hg:o.guard=none)(hy:Ny P Inv o v a){K:Act->World->Prop}{w:World}(hI:Inv w)(h:K (a.put o.dst v) w):
  wpOp P ops Q i K a w:=by
 unfold Go.wpOp;simp only[hi,Region.wanted,hg,if_true];refine .inl ?_;simp only[Oper.wp,hy w hI,Oper.upon];exact h
theorem yP{j:Nat}{oi oj:Oper}{v:Value}(hj:ops[j]? = some oj)(hap:oi.apart ops oj=true)
  (hsi:∀cs b,oi.op ≠ .select cs b) (hsj:∀cs b,oj.op ≠ .select cs b)
  (hQ:∀c a w,Q (.panic c) (a.put oi.dst v) w->Q (.panic c) a w) {K:Act->World->Prop} {a:Act} {w:World}
  (hy:Ny P Inv oi v a) (h:wpOp P ops Q j K (a.put oi.dst v) w):
  wpOp P ops Q j (λa' w'=>Ny P Inv oi v a'/\K (a'.put oi.dst v) w') a w:=by
 obtain⟨h1,h2,h3⟩:=Oper.apart_spec hap;have cT:∀(a:Act),Ny P Inv oi v a->∀u,Ny P Inv oi v (a.put oj.dst u):=λa hy u w hI=>by
  rw[execOp_put oi hsi a oj.dst u h3];exact hy w hI
 have acr:∀d,Ny P Inv oi v { a with defers:=d::a.defers }:=λd=>hy
 unfold wpOp at *
 simp only[hj] at *
 rw[wanted_put oj a oi.dst v h1] at h;split
 ·rename_i hw;simp only[hw,if_true] at h;rcases h with h|⟨US,acE⟩
  case inr=>exact .inr ⟨by unfold Oper.asks at *;rw[execOp_put oj hsj a oi.dst v h1] at US;exact US,acE⟩
  refine .inl ?_;unfold Oper.wp at *
  rw[execOp_put oj hsj a oi.dst v h1] at h;generalize (execOp a.eval oj).run P w=r at *
  cases r with
  | ok n w'=>
   cases n<;>simp only[Oper.upon] at h ⊢
   case value u=>exact⟨cT a hy u,by rw[<- Act.put_comm a v u h2];exact h⟩
   case skip=>exact⟨cT a hy _,by rw[<- Act.put_comm a v undef h2];exact h⟩
   case defer d=>
    refine⟨cT _ (acr d) _,?_⟩;rw[<- Act.put_comm _ v undef h2, <- Act.put_defers];exact h
   case enter f args=>
    refine Calls.mono h λe w'' he=>?_
    cases e with
    |returned u=>exact⟨cT a hy u,by rw[<- Act.put_comm a v u h2];exact he⟩
    |panicked c=>exact hQ _ _ _ he
    |outgrown=>exact he
   case row row args=>exact Rows.mono h λu w'' he=>⟨cT a hy u,by rw[<- Act.put_comm a v u h2];exact he⟩
  |halt x w'=>
   cases x<;>simp only[Oper.upon] at h ⊢
   case panic u=>exact hQ _ _ _ h
 ·rename_i hw;simp only[hw] at h;exact⟨cT a hy _,by rw[<- Act.put_comm a v undef h2];exact h⟩
theorem ww{i:Nat}{oi:Oper}{v:Value}(hi:ops[i]? = some oi)(hgi:oi.guard=none)(kf:∀(j:Nat) (o:Oper) cs b,ops[j]? = some o->o.op ≠ .select cs b)
  (hQ:∀c a w,Q (.panic c) (a.put oi.dst v) w->Q (.panic c) a w):
  ∀(fuel:Nat) (θ:Array Bool) (a:Act) (w:World),
   (∀j oj,ops[j]? = some oj->j≠i->θ.getD j true=false->(∀e∈oj.after,Region.binds md e=true->e.on≠i)->oi.apart ops oj=true)->
   i∈Region.ready md ops θ->Ny P Inv oi v a->
   wpI P md ops Q Inv fuel (θ.setIfInBounds i true) (a.put oi.dst v) w->wpI P md ops Q Inv (fuel+1) θ a w:=by
 intro fuel
 induction fuel with
 | zero=>
  intro θ a w _ hr hy H;refine⟨Xv H,λh=>(by rw[h] at hr;cases hr),λj hj=>?_⟩;by_cases hji:j=i
  ·subst hji;exact hy.wpOp hi hgi (Xv H) H
  ·have:=ready_mono hj hji;rw[H.2.1] at this;cases this
 | succ fuel ih=>
  intro θ a w ab0 hr hy H;refine⟨Xv H,λh=>(by rw[h] at hr;cases hr),λj hj=>?_⟩;by_cases hji:j=i
  ·subst hji;exact hy.wpOp hi hgi (Xv H) H
  ·have h1:=H.2.2 j (ready_mono hj hji);obtain⟨adr,oj,hoj,ir⟩:=mem_ready.1 hj;have aio:∀e∈oj.after,Region.binds md e=true->e.on≠i:=λe he hb heq=>by
    have h1:=ir e he hb;have h0:=(mem_ready.1 hr).1;rw[heq] at h1;rcases nE i θ.size with h'|h'
    ·simp[h'] at h0 h1;rw[h0] at h1;cases h1
    ·simp[ut h'] at h1
   have h2:=yP hoj (ab0 j oj hoj hji adr aio) (λcs b=>kf i oi cs b hi) (λcs b=>kf j oj cs b hoj) hQ hy h1;have aaZ:∀k ok,ops[k]? = some ok->k≠i->(θ.setIfInBounds j true).getD k true=false->
     (∀e∈ok.after,Region.binds md e=true->e.on≠i)->oi.apart ops ok=true:=λk ok hk hki hun iz=>by
    refine ab0 k ok hk hki ?_ iz;by_cases hjk:j=k
    ·subst hjk;exact adr
    ·rw[getD_set_ne true hjk] at hun;exact hun
   refine wpOp_mono (λa' w' h3=>ih (θ.setIfInBounds j true) a' w' aaZ (ready_mono hr (Ne.symm hji)) h3.1 ?_) h2;rw[Array.setIfInBounds_comm _ _ hji];exact h3.2
end
theorem St.r8{st cH:St}{d:Option Nat}{v:SV}(h:st.put d v=some cH):cH= { st with lc:=cH.lc }:=by
 cases d with
 |none=>simp only[St.put,Ai] at h;subst h;rfl
 |some t=>
  unfold St.put at h;simp only at h;cases hb:(Nat.blt t st.nt&&v.lt st.nv (Dh st.rg)) with
  |false=>rw[hb] at h;cases h
  |true=>rw[hb,cond_true,Ai] at h;subst h;rfl
theorem bG{rg:List Rg}:∀ {kp:List Rg},ACV rg kp=true->∀r∈kp,r∈rg
 | [],_,r,hr=>by cases hr
 | r0::rs,h,r,hr=>by
  simp only[ACV,Bl] at h;rcases IR.1 hr with rfl|hr
  ·cases hf:gF r.id rg with
   |none=>rw[hf] at h;cases h.1
   |some r'=>
    rw[hf] at h;have:=Rg.beq_eq h.1;rw[this];exact(KD hf).1
  ·exact bG h.2 r hr
theorem Oi.sub{E:En}{nv:Nat}{rg Qu kp:List Rg}{V V0 V':Vl}{w w0:World}(h0:Oi E Qu V0 w0)(hs:Xl nv Qu)(mc:∀r∈kp,r∈Qu)(wi:Ag nv (Dh Qu) V0 V')(hk:∀r∈kp,r∈rg)
  (hm:Oi E rg V w) (ha:Ag nv (Dh Qu) V V'):Oi E kp V' w where
 pH r hr:=by
  intro i c hc;obtain⟨v,h1,h2⟩:=hm.pH r (hk r hr) i c hc;rw[ha.2.2 r.id (GY (mc r hr))];refine⟨v,h1,λlv e=>?_⟩;subst e;obtain⟨h3,h4⟩:=h2 lv rfl;have hl:=hs r (mc r hr) lv (Le hc);exact⟨by rw[LV.cr ha hl];exact h3,LV.ff ha hl h4⟩
 one r hr r' cL h:=h0.one r (mc r hr) r' (mc r' cL) h
 sep r hr r' cL hw cq:=by
  have:=h0.sep r (mc r hr) r' (mc r' cL) hw cq;unfold qO at *
  rw[wi.2.2 r.id (GY (mc r hr)),wi.2.2 r'.id (GY (mc r' cL))];exact this
 sY r hr hw:=by
  have:=h0.sY r (mc r hr) hw;rw[wi.2.2 r.id (GY (mc r hr))];exact this
 an:=hm.an
 gw:=hm.gw
def DS.st(s:DS)(st:St):St:= { st with lc:=s.lc,rg:=s.rg }
structure qV (E:En) (Qu kp:List Rg) (fY:St) (V1:Vl) (s:DS) (V:Vl) (a:Act) (w:World):Prop where
 sat:Gz E (s.st fY) V a w
 ρ:V.ρ=V1.ρ
 σ:V.σ=V1.σ
 ν:∀l,ED l (Dh Qu)=true->V.ν l=V1.ν l/\ED l (Dh s.rg)=true
 kp:∀r∈kp,r∈s.rg
section
variable{E:En}(hE:P7 E){fY:St}{V1:Vl}{Qu kp:List Rg}{w0:World}{ops:Array Oper}{fj:List Rf}{nv nl:Nat}
 (h0:Oi E Qu V1 w0) (yp:Xl fY.nv Qu) (mc:∀r∈kp,r∈Qu)
 (hd:Tp E.C.T V1.ρ (fj.flatMap (·.ds))) (ho:∀q∈fj.flatMap (·.ob),q.den E.C.T V1.ρ)
include hE h0 yp mc hd ho
omit hE hd ho in
theorem qV.inv{s:DS}{V:Vl}{a:Act}{w:World}(h:qV E Qu kp fY V1 s V a w):Oi E kp V1 w:=
 Oi.sub h0 yp mc (Ag.refl _ _ _) h.kp h.sat.s.m ⟨λi _=>by rw[h.ρ],λi _=>by rw[h.σ],λl hl=>((h.ν l hl).1).symm⟩
omit hE hd ho in
theorem qV.aej{s:DS}{V:Vl}{a:Act}{w w':World}(h:qV E Qu kp fY V1 s V a w)(hI:Oi E kp V1 w'):Oi E kp V w':=
 Oi.sub h0 yp mc ⟨λi _=>by rw[h.ρ],λi _=>by rw[h.σ],λl hl=>(h.ν l hl).1⟩ (λ_ h=>h) hI ⟨λi _=>by rw[h.ρ],λi _=>by rw[h.σ],λl hl=>(h.ν l hl).1⟩
theorem AB9 {o:Oper} {rf:Rf} {i:Nat} (MY:rf∈fj) {s s':DS} {V:Vl} {a:Act} {w:World} (hD:qV E Qu kp fY V1 s V a w) (_hnl:nv+16*i+16<=fY.nv)
  (h:Sd E.C o rf i nv nl fY.nv kp fY false s=some s') {K:Act->World->Prop} {Q:Exit->Act->World->Prop} (hK:∀V' a' w',qV E Qu kp fY V1 s' V' a' w'->K a' w'):o.wp E.P a w K Q:=by
 have _:=h0;have _:=yp;have _:=mc;unfold Sd at h;simp only at h;split at h
 ·cases h
 rename_i h2;simp only[cond_false] at h;split at h
 ·cases h
 rename_i m hm;split at hm
 ·rename_i m' jt;cases hb:(ACV m'.rg kp && !m'.er) with
  |false=>rw[hb] at hm;cases hm
  | true=>
   rw[hb,cond_true,Ai] at hm;subst hm;simp only[Bl,Bool.not_eq_true'] at hb;cases hc:(Ut m'.o.ds rf.ds&&Oc JU.beq m'.o.ob rf.ob) with
   |false=>rw[hc] at h;cases h
   | true=>
    rw[hc,cond_true] at h;simp only[Bl] at hc;have e1:=Yg hc.1;have e2:=Gy (λ_ _=>JU.beq_eq) hc.2;split at h
    ·rename_i rh hp;simp only[Ai] at h;subst h;have hρ:=hD.ρ;refine lU hE hD.sat.s.m (bv:=fY.nv) hD.sat.s.nF hD.sat.s.t (KA _) jt ?_ ?_ ?_ (.inl hb.2) ?_
     ·intro p eN;rw[hρ];rw[e1] at eN;exact hd p (List.mem_flatMap.2 ⟨rf,MY,eN⟩)
     ·intro q hq;rw[hρ];rw[e2] at hq;exact ho q (List.mem_flatMap.2 ⟨rf,MY,hq⟩)
     ·intro f args iv vs fe as k1 _ k3 _;exact Yd hE h2 k1 k3 _
     ·intro V' w' hr hv;rw[hb.2] at hr;have ot:St.put { (s.st fY) with rg:=m'.rg,ln:=(s.st fY).ln,nv:=fY.nv,nl:=fY.nl } o.dst m'.o.v=some rh:=hp;have hS:=Gz.put (E:=E) hD.sat hr (.inl rfl) (KA _) (KA _) (by rw[hr.ρ];exact hD.sat.s.t.ln) hD.sat.ll hv ot;have vh:=St.r8 ot;have pS:rh.rg=m'.rg:=by rw[vh]
      refine hK V' _ w' ⟨?_,by rw[hr.ρ,hρ],?_,?_,?_⟩
      ·have:(DS.st ⟨s.ls.setIfInBounds i true,rh.lc,rh.rg⟩ fY)=rh:=by
        rw[vh];rfl
       rw[this];exact hS
      ·rw[<- hD.σ];funext j;exact hr.σ j (.inr rfl)
      ·intro l hl;obtain⟨k1,k2⟩:=hD.ν l hl;obtain⟨k3,k4⟩:=hr.ν l k2;exact⟨by rw[k3,k1],by rw[pS];exact k4⟩
      ·intro r cL;rw[pS];exact bG hb.1 r cL
    ·cases h
 ·cases hm
theorem xK{o:Oper}{rf:Rf}{i:Nat}(MY:rf∈fj){s s':DS}{V:Vl}{a:Act}{w:World}(hD:qV E Qu kp fY V1 s V a w)
  (h:Sd E.C o rf i nv nl fY.nv kp fY true s=some s'):
  ∃v,Ny E.P (Oi E kp V1) o v a/\qV E Qu kp fY V1 s' V (a.put o.dst v) w:=by
 unfold Sd at h;simp only at h;split at h
 ·cases h
 rename_i h2;simp only[cond_true] at h;split at h
 ·cases h
 rename_i m hm;split at hm
 ·rename_i r hr;simp only[Ai] at hm;subst hm;simp only at h;cases hc:(Ut r.ds rf.ds&&Oc JU.beq r.ob rf.ob) with
  |false=>rw[hc] at h;cases h
  | true=>
   rw[hc,cond_true] at h;simp only[Bl] at hc;have e1:=Yg hc.1;have e2:=Gy (λ_ _=>JU.beq_eq) hc.2;have hρ:=hD.ρ;have sL:Ix E.C.T V r.ds:=λp eN=>by
    rw[hρ];rw[e1] at eN;exact hd p (List.mem_flatMap.2 ⟨rf,MY,eN⟩)
   have qu:ObH E.C.T V r.ob:=λq hq=>by
    rw[hρ];rw[e2] at hq;exact ho q (List.mem_flatMap.2 ⟨rf,MY,hq⟩)
   have hy:Ny E.P (Oi E kp V1) o (r.v.den V) a/\r.v.ok V:=by
    unfold AHc at hr;split at hr
    ·rename_i t x hop;split at hr
     ·rename_i v hx;obtain⟨k1,k2,-⟩:=hD.sat.s.t.cN (st:=s.st fY) hx;have acH:∀w',Oi E kp V w'->(Instr.loadAt t (v.den V)).run E.P w'= .ok (r.v.den V) w'/\r.v.ok V:=λw' hI=>
       Yb (st:= { (s.st fY) with rg:=kp }) hE hI hD.sat.s.t.ln hr k2 sL
      refine⟨λw' hI=>?_,(acH w (hD.aej h0 yp mc (hD.inv h0 yp mc))).2⟩;have:=(acH w' (hD.aej h0 yp mc hI)).1;obtain⟨dst,op,type,pos,after,guard⟩:=o;simp only at hop;subst hop;have oY:a.eval x=v.den V:=k1;simp only[execOp,oY,IY,this,Hm,KT]
     ·cases hr
    ·obtain⟨k1,k2,-⟩:=jh hE.tt hD.sat.s.t hr sL qu;exact⟨λw' _=>k1 w',k2⟩
   split at h
   ·rename_i rh hp;simp only[Ai] at h;subst h;have ot:St.put { (s.st fY) with rg:=(s.st fY).rg,ln:=(s.st fY).ln,nv:=fY.nv,nl:=fY.nl } o.dst r.v=some rh:=hp;have hS:=Gz.put (E:=E) (nb:=0) (er:=false) hD.sat (Vb.same hD.sat.s.m hD.sat.s.nF) (.inl rfl) (KA _) (KA _) hD.sat.s.t.ln hD.sat.ll hy.2 ot;have vh:=St.r8 ot;have pS:rh.rg=s.rg:=by rw[vh];rfl
    refine⟨_,hy.1,⟨?_,hρ,hD.σ,λl hl=>?_,λr' cL=>?_⟩⟩
    ·have:(DS.st ⟨s.ls.setIfInBounds i true,rh.lc,rh.rg⟩ fY)=rh:=by
      rw[vh];rfl
     rw[this];exact hS
    ·obtain⟨k1,k2⟩:=hD.ν l hl;exact⟨k1,by rw[pS];exact k2⟩
    ·rw[pS];exact hD.kp r' cL
   ·cases h
 ·cases hm
end
end
section
open Go
theorem l5{a b:Bool}(h:dP a b=true):a=b:=by cases a<;>cases b<;>first|rfl|cases h
theorem UE{new:List (Nat×SV)}:∀ {c8:List (Nat×SV)},Vv new c8=true->∀t v,(t,v)∈c8->lk t new=some v
 | [],_,t,v,h=>by cases h
 | (t0,v0)::r,hh,t,v,h=>by
  simp only[Vv,Bl] at hh;rcases IR.1 h with e|h
  ·simp only[Prod.mk.injEq] at e;obtain⟨e1,e2⟩:=e;subst e1;subst e2;cases hl:lk t new with
   |none=>rw[hl] at hh;cases hh.1
   |some u=>rw[hl] at hh;rw[SV.beq_eq hh.1]
  ·exact UE hh.2 t v h
theorem AAX{a b:List (Nat×SV)}(h1:Vv a b=true)(h2:Vv b a=true)(t:Nat):lk t a=lk t b:=by
 cases hb:lk t b with
 |some v=>exact UE h1 t v (Ni hb)
 |none=>
  cases ha:lk t a with
  |none=>rfl
  |some u=>have:=UE h2 t u (Ni ha);rw[hb] at this;cases this
structure Fm (s e:DS):Prop where
 ls:e.ls=s.ls
 lc:∀t,lk t e.lc=lk t s.lc
 rg:e.rg=s.rg
theorem Fm.refl(s:DS):Fm s s:=⟨rfl,λ_=>rfl,rfl⟩
theorem Fm.trans{a b c:DS}(h:Fm a b)(h':Fm b c):Fm a c:=⟨h'.ls.trans h.ls,λt=>(h'.lc t).trans (h.lc t),h'.rg.trans h.rg⟩
theorem qV.eq{E:En}{Qu kp:List Rg}{fY:St}{V1:Vl}{s e:DS}{V:Vl}{a:Act}{w:World}(h:Fm s e)(hD:qV E Qu kp fY V1 s V a w):qV E Qu kp fY V1 e V a w:=by
 obtain⟨els,elc,erg⟩:=e;obtain⟨h1,h2,h3⟩:=h;simp only at h1 h2 h3;subst h1;subst h3;refine⟨⟨⟨hD.sat.s.m,hD.sat.s.nF,⟨λt v hv=>hD.sat.s.t.tm t v ?_,hD.sat.s.t.gl,hD.sat.s.t.ln⟩,hD.sat.s.nt,hD.sat.s.df⟩,hD.sat.ll,hD.sat.kp,hD.sat.ks,hD.sat.ns⟩,hD.ρ,hD.σ,hD.ν,hD.kp⟩;simp only[St.look,DS.st] at hv ⊢;rw[<- h2 t];exact hv
theorem bK{s:DS}:∀ {L L':List DS},ACM s L=some L'->(∃e∈L',Fm s e)/\∀e∈L,e∈L'
 | [],L',h=>by
  simp only[ACM,Ai] at h;subst h;exact⟨⟨s,Kh,Fm.refl s⟩,λe he=>by cases he⟩
 | e::r,L',h=>by
  unfold ACM at h;cases hb:Oc dP e.ls.toList s.ls.toList with
  | true=>
   rw[hb,cond_true] at h;cases hc:(Vv s.lc e.lc&&Vv e.lc s.lc&&Oc Rg.beq s.rg e.rg) with
   |false=>rw[hc] at h;cases h
   |true=>
    rw[hc,cond_true,Ai] at h;subst h;simp only[Bl] at hc;have e1:=Gy (λ_ _=>l5) hb;have e2:=Gy (λ_ _=>Rg.beq_eq) hc.2;refine⟨⟨e,Kh,⟨Array.ext' e1,λt=>(AAX hc.1.1 hc.1.2 t).symm,e2.symm⟩⟩,λx hx=>hx⟩
  | false=>
   rw[hb,cond_false] at h;split at h
   ·rename_i r' hr;simp only[Ai] at h;subst h;obtain⟨⟨x,hx,hxe⟩,h2⟩:=bK hr;refine⟨⟨x,Lv _ hx,hxe⟩,λy hy=>?_⟩;rcases IR.1 hy with rfl|hy
    ·exact Kh
    ·exact Lv _ (h2 y hy)
   ·cases h
theorem VQ:∀ {ss L L':List DS},VA ss L=some L'->(∀s∈ss,∃e∈L',Fm s e)/\∀e∈L,e∈L'
 | [],L,L',h=>by
  simp only[VA,Ai] at h;subst h;exact⟨λs hs=>(by cases hs),λe he=>he⟩
 | s::r,L,L',h=>by
  unfold VA at h;split at h
  ·rename_i L1 h1;obtain⟨⟨x,hx,hxe⟩,h2⟩:=bK h1;obtain⟨h3,h4⟩:=VQ h;refine⟨λy hy=>?_,λe he=>h4 e (h2 e he)⟩;rcases IR.1 hy with rfl|hy
   ·exact⟨x,h4 x hx,hxe⟩
   ·exact h3 y hy
  ·cases h
theorem Ww{C:Cx}{ops:Array Oper}{fj:List Rf}{nv nl bv:Nat}{kp:List Rg}{st:St}:∀ {L acc L':List DS},ZY C ops fj nv nl bv kp st L acc=some L'->
  (∀s∈L,∃ss,ACg C ops fj nv nl bv kp st s=some ss/\∀s'∈ss,∃e∈L',Fm s' e)/\∀e∈acc,e∈L'
 | [],acc,L',h=>by
  simp only[ZY,Ai] at h;subst h;exact⟨λs hs=>(by cases hs),λe he=>he⟩
 | s :: r,acc,L',h=>by
  unfold ZY at h;split at h
  ·rename_i ss HS;split at h
   ·rename_i adv ha;obtain⟨h1,h2⟩:=VQ ha;obtain⟨h3,h4⟩:=Ww h;refine⟨λx hx=>?_,λe he=>h4 e (h2 e he)⟩;rcases IR.1 hx with rfl|hx
    ·refine⟨ss,HS,λs' Ks=>?_⟩;obtain⟨e,he,hee⟩:=h1 s' Ks;exact⟨e,h4 e he,hee⟩
    ·exact h3 x hx
   ·cases h
  ·cases h
theorem YU{C:Cx}{ops:Array Oper}{fj:List Rf}{nv nl bv:Nat}{kp:List Rg}{st:St}{s s':DS}:∀ {R:List Nat},aX C ops fj nv nl bv kp st s R=some s'->
  ∃i∈R,∃o rf,ops[i]? = some o/\fj[i]? = some rf/\Sd C o rf i nv nl bv kp st true s=some s'/\Region.free .any ops s.ls i=true
 | [],h=>by cases h
 | i :: r,h=>by
  unfold aX at h;have hr:aX C ops fj nv nl bv kp st s r=some s'->∃j∈i::r,∃o rf,ops[j]? = some o/\fj[j]? = some rf/\Sd C o rf j nv nl bv kp st true s=some s'/\Region.free .any ops s.ls j=true:=λh=>by
   obtain⟨j,hj,hh⟩:=YU h;exact⟨j,Lv _ hj,hh⟩
  split at h
  ·rename_i o rf ho MY;split at h
   ·rename_i s1 hs1;cases hf:Region.free .any ops s.ls i with
    |false=>rw[hf] at h;exact hr h
    |true=>
     rw[hf,cond_true,Ai] at h;subst h;exact⟨i,Kh,o,rf,ho,MY,hs1,hf⟩
   ·exact hr h
  ·cases h
theorem aI{C:Cx}{ops:Array Oper}{fj:List Rf}{nv nl bv:Nat}{kp:List Rg}{st:St}{s:DS}:∀ {R:List Nat} {ss:List DS},AEE C ops fj nv nl bv kp st s R=some ss->
  ∀i∈R,∃o rf s',ops[i]? = some o/\fj[i]? = some rf/\Sd C o rf i nv nl bv kp st false s=some s'/\s'∈ss
 | [],ss,h,i,hi=>by cases hi
 | i :: r,ss,h,j,hj=>by
  unfold AEE at h;split at h
  ·rename_i o rf ho MY;split at h
   ·rename_i s1 ss1 h1 h2;simp only[Ai] at h;subst h;rcases IR.1 hj with rfl|hj
    ·exact⟨o,rf,s1,ho,MY,h1,Kh⟩
    ·obtain⟨o',rf',s',k1,k2,k3,k4⟩:=aI h2 j hj;exact⟨o',rf',s',k1,k2,k3,Lv _ k4⟩
   ·cases h
  ·cases h
theorem j6{C:Cx}{o:Oper}{rf:Rf}{i nv nl bv:Nat}{kp:List Rg}{st:St}{b:Bool}{s s':DS}(h:Sd C o rf i nv nl bv kp st b s=some s'):s'.ls=s.ls.setIfInBounds i true:=by
 unfold Sd at h;simp only at h;split at h
 ·cases h
 split at h
 ·cases h
 rename_i m hm;cases hc:(Ut m.o.ds rf.ds&&Oc JU.beq m.o.ob rf.ob) with
 |false=>rw[hc] at h;cases h
 | true=>
  rw[hc,cond_true] at h;split at h
  ·simp only[Ai] at h;subst h;rfl
  ·cases h
def QN(Qn:Act->World->Prop):Exit->Act->World->Prop
 | .normal,a,w=>Qn a w
 |_,_,_=>False
section
variable{E:En}(hE:P7 E){fY:St}{V1:Vl}{Qu kp:List Rg}{w0:World}{ops:Array Oper}{fj:List Rf}{nv nl:Nat}
 (h0:Oi E Qu V1 w0) (yp:Xl fY.nv Qu) (mc:∀r∈kp,r∈Qu)
 (hd:Tp E.C.T V1.ρ (fj.flatMap (·.ds))) (ho:∀q∈fj.flatMap (·.ob),q.den E.C.T V1.ρ)
 (hg:∀o∈ops,o.guard=none) (kf:Region.noSelect ops=true) (tn:nv+16*ops.size<=fY.nv)
include hE h0 yp mc hd ho hg kf tn
theorem qy{Qn:Act->World->Prop}{sf:DS}(hQ:∀V a w,qV E Qu kp fY V1 sf V a w->Qn a w):∀(n:Nat) (L:List DS),xe E.C ops fj nv nl fY.nv kp fY n L=some sf->
  ∀s∈L,∀V a w,qV E Qu kp fY V1 s V a w->wpI E.P .any ops (QN Qn) (Oi E kp V1) n s.ls a w
 | 0,L,h,s,hs,V,a,w,hD=>by
  cases L with
  |nil=>cases hs
  | cons s0 r=>
   cases r with
   |cons s1 r=>simp only[xe] at h;cases h
   | nil=>
    simp only[xe] at h;cases hb:(Region.ready .any ops s0.ls).isEmpty with
    |false=>rw[hb] at h;cases h
    |true=>
     rw[hb,cond_true,Ai] at h;subst h;have:s=s0:=by simpa using hs
     subst this;exact⟨hD.inv h0 yp mc,by simpa using hb,hQ V a w hD⟩
 | n+1,L,h,s,hs,V,a,w,hD=>by
  unfold xe at h;split at h
  ·rename_i L' hL;obtain⟨h1,-⟩:=Ww hL;obtain⟨ss,HS,hse⟩:=h1 s hs;have ih:=qy hQ n L' h;have next:∀s'∈ss,∀V' a' w',qV E Qu kp fY V1 s' V' a' w'->wpI E.P .any ops (QN Qn) (Oi E kp V1) n s'.ls a' w':=λs' Ks V' a' w' hD'=>by
    obtain⟨e,he,hee⟩:=hse s' Ks;have:=ih e he V' a' w' (hD'.eq hee);rw[hee.ls] at this;exact this
   unfold ACg at HS;simp only at HS;split at HS
   ·cases HS
   rename_i cq;split at HS
   ·rename_i s' hf;simp only[Ai] at HS;subst HS;obtain⟨i,hi,o,rf,k1,k2,k3,k4⟩:=YU hf;obtain⟨v,hy,hD'⟩:=xK hE h0 yp mc hd ho (Le k2) hD k3;have dj:o∈ops:=Array.mem_of_getElem? k1;refine ww k1 (hg o dj) (Region.noSelect_spec kf) (λc a' w' h=>h) n s.ls a w (Region.free_spec k1 k4) hi hy ?_;have:=next s' Kh V _ w hD';rw[j6 k3] at this;exact this
   ·refine⟨hD.inv h0 yp mc,λh=>absurd h cq,λi hi=>?_⟩;obtain⟨o,rf,s',k1,k2,k3,k4⟩:=aI HS i hi;have dj:o∈ops:=Array.mem_of_getElem? k1;have cf:i<ops.size:=(Array.getElem?_eq_some_iff.1 k1).1;unfold Go.wpOp;simp only[k1,Region.wanted,hg o dj,if_true];refine .inl (AB9 hE h0 yp mc hd ho (Le k2) hD (by omega) k3 λV' a' w' hD'=>?_);have:=next s' k4 V' a' w' hD';rw[j6 k3] at this;exact this
  ·cases h
end
theorem Yc{C:Cx}{bv:Nat}:∀ {l:List Oper} {nv nl:Nat} {st:St} {fj:List Rf},AFS C nv nl bv l st=some fj->∀o∈l,o.guard=none
 | [],_,_,_,_,_,o,ho=>by cases ho
 | o :: r,nv,nl,st,fj,h,o',ho'=>by
  unfold AFS at h;split at h
  ·rename_i m hg hm;split at h
   ·rename_i cH hp;split at h
    ·rename_i rs hr;rcases IR.1 ho' with rfl|ho'
     ·exact hg
     ·exact Yc hr o' ho'
    ·cases h
   ·cases h
  ·cases h
theorem Oi.of_heap{E:En}{rg:List Rg}{V:Vl}{w w':World}(h:Oi E rg V w)(e:w'.heap=w.heap)(e1:w'.os=w.os)(e2:w'.output=w.output)(e3:w'.tape=w.tape):Oi E rg V w' where
 pH r hr i c hc:=by
  obtain⟨v,h1,h2⟩:=h.pH r hr i c hc;exact⟨v,h1.of_heap e,h2⟩
 one:=h.one
 sep:=h.sep
 sY:=h.sY
 an:=h.an.of_heap e e1 e2 e3
 gw b o v hb:=by
  have:=h.gw b o v hb;simp only[World.cell?] at this ⊢;rw[e];exact this
theorem Gz.of_heap{E:En}{st:St}{V:Vl}{a:Act}{w w':World}(h:Gz E st V a w)(e:w'.heap=w.heap)(e1:w'.os=w.os)(e2:w'.output=w.output)(e3:w'.tape=w.tape):Gz E st V a w':=
 ⟨⟨h.s.m.of_heap e e1 e2 e3,h.s.nF,h.s.t,h.s.nt,h.s.df⟩,h.ll,h.kp,h.ks,h.ns⟩
theorem oN{E:En}(hE:P7 E){Φ:Br->Ex->St->Prop}{ops:Array Oper}{κ:St->Bz}{Q:Exit->Act->World->Prop}(hκ:ADw E Φ κ (Q .normal)){id:Nat}{st:St}{V:Vl}{a:Act}{w:World}(gh:st.lc= [])
  (hS:Gz E st V a w) (hT:(cz E.C ops st κ).cv E.C.T Φ st.nv V.ρ):(Code.region id ops true).wp E.P Q a w:=by
 unfold cz at hT;simp only at hT;cases kf:Region.noSelect ops with
 |false=>rw[kf] at hT;exact(hT V.ρ (JW.refl _ _)).elim
 |true=>
 rw[kf] at hT;simp only[Bool.not_true,cond_false] at hT;split at hT
 ·exact(hT V.ρ (JW.refl _ _)).elim
 rename_i fj afT;split at hT
 ·exact(hT V.ρ (JW.refl _ _)).elim
 rename_i sf cW;generalize sL:fj.flatMap (·.ds)=ds at hT cW;generalize qu:fj.flatMap (·.ob)=ob at hT cW;generalize B2:ALG st.rg fj=kp at hT cW;have mc:∀r∈kp,r∈st.rg:=λr hr=>by
  rw[<- B2] at hr;unfold ALG at hr;split at hr
  ·cases hr
  ·exact(List.mem_filter.1 hr).1
 have mC:st.nv<=st.nv+16*ops.size:=by omega
 generalize vh:St.flush { st with lc:=sf.lc,rg:=sf.rg,ln:=J5 E.C.T st.ln ds,nv:=st.nv+16*ops.size,nl:=st.nl+16*ops.size }=rh at hT;have key:∃ ρ1,JW st.nv V.ρ ρ1/\Tp E.C.T ρ1 ds/\(∀q∈ob,q.den E.C.T ρ1)/\(κ rh).cv E.C.T Φ (st.nv+16*ops.size) ρ1/\(∀p∈J5 E.C.T st.ln ds,p.1<st.nv+16*ops.size):=by
  have oR:∀p∈st.ln,p.1<st.nv+16*ops.size:=λp hp=>by have:=hS.ll p hp;omega
  by_cases iz:ds= []/\ob= []
  ·rw[iz.1,iz.2] at hT;simp only at hT;rw[iz.1,iz.2];exact⟨V.ρ,JW.refl _ _,λp hp=>(by cases hp),λq hq=>(by cases hq),fun ρ' h=>hT ρ' (λi hi=>h i (by omega)),oR⟩
  ·have wq:(bif GL st.nv (st.nv+16*ops.size) ds&&Jm (st.nv+16*ops.size) ob then Bz.fz ds ob (κ rh) else .bad 13).cv E.C.T Φ st.nv V.ρ:=by
    revert hT;cases ds with
    |nil=>
     cases ob with
     |nil=>exact absurd ⟨rfl,rfl⟩ iz
     |cons q r=>exact λh=>h
    |cons p r=>exact λh=>h
   cases hb:(GL st.nv (st.nv+16*ops.size) ds&&Jm (st.nv+16*ops.size) ob) with
   |false=>rw[hb] at wq;exact(wq V.ρ (JW.refl _ _)).elim
   |true=>
    rw[hb,cond_true] at wq;simp only[Bl] at hb;obtain⟨ρ1,g1,g2⟩:=VP E.C.T V.ρ hb.1;have h1:=wq ρ1 g1 g2;refine⟨ρ1,g1,g2,h1.1,fun ρ' h=>?_,Q8 hb.1 oR⟩;exact(wq ρ' (g1.trans h mC) (g2.agE hb.1 h)).2
 obtain⟨ρ1,g1,g2,g3,g4,g5⟩:=key;have qS:=(Sat.env hS g1).of_heap (w':= { w with drawn:=w.drawn+1 }) rfl rfl rfl rfl;have hTb:∀f fe,lk f E.C.T=some fe->∀b,PH (fe.ca b):=λf fe h=>(hE.tb f fe h).2
 have hln:=Qy (ρ:=ρ1) hTb qS.s.t.ln g2;have hp0:St.put { st with rg:=st.rg,ln:=J5 E.C.T st.ln ds,nv:=st.nv+16*ops.size,nl:=st.nl+16*ops.size } none (.pn [])=some { st with ln:=J5 E.C.T st.ln ds,nv:=st.nv+16*ops.size,nl:=st.nl+16*ops.size }:=rfl;have N0:=Gz.put (E:=E) (nb:=0) (er:=false) (v:=.pn []) qS (Vb.same qS.s.m qS.s.nF) (.inl rfl) mC mC hln g5 (λt ht=>(by cases ht)) hp0;rw[<- sL] at g2;rw[<- qu] at g3;have hD0:qV E st.rg kp { st with ln:=J5 E.C.T st.ln ds,nv:=st.nv+16*ops.size,nl:=st.nl+16*ops.size } { V with ρ:=ρ1 } ⟨Array.replicate ops.size false,[],st.rg⟩ { V with ρ:=ρ1 } a { w with drawn:=w.drawn+1 }:=by
  refine⟨?_,rfl,rfl,λl hl=>⟨rfl,hl⟩,mc⟩;have:(DS.st ⟨Array.replicate ops.size false,[],st.rg⟩ { st with ln:=J5 E.C.T st.ln ds,nv:=st.nv+16*ops.size,nl:=st.nl+16*ops.size })= { st with ln:=J5 E.C.T st.ln ds,nv:=st.nv+16*ops.size,nl:=st.nl+16*ops.size }:=by
   simp only[DS.st];rw[gh]
  rw[this];exact N0
 refine wp_mono (wp_region_any hE.mx (rX _ _ _ _ (qy hE N0.s.m (nv:=st.nv) (nl:=st.nl) (fj:=fj) N0.s.nF mc g2 g3 (λo ho=>Yc afT o (by simpa using ho)) kf (KA _) (Qn:=Q .normal) ?_ ops.size _ cW _ (NB.2 rfl) _ _ _ hD0))) ?_
 ·intro V' a' w' hD;refine hκ rh V' a' w' (by rw[<- vh];rfl) ?_ ?_
  ·rw[<- vh];exact Gz.flush hD.sat
  ·have:rh.nv=st.nv+16*ops.size:=by rw[<- vh];rfl
   rw[this,hD.ρ];exact g4
 ·intro e a' w' h;cases e<;>first|exact h|exact h.elim
end
section
open Go
def ZC(E:En)(d:LD)(id:Nat)(body:Code):Prop:=
 ∀(fe:FE),lk d.xT E.C.T=some fe->∀(a:Act) (w:World) (ins:List (List Int)) (bs:List (Nat×Nat)),GW E.GC w->E.GB<=w.heap.size->
  KH E.GB w (fe.ca true).params (d.ps.map λt=>a.tmps.getD t undef) ins bs->Fv (fe.ca true).params bs->((fe.ca true).hp=true->(fe.ca true).pre ins)->a.defers= []->a.tmps.size=d.nt->
  (Code.block id body).wp E.P (λe a' w'=>e= .normal/\∃fb eK,Yv E.GC (fe.ca true) (d.ps.map λt=>a.tmps.getD t undef) ins bs w fb eK w'/\a'.tmps.size=a.tmps.size/\a'.defers= []/\
   (∀t,ED t d.cl=false->t ∉ d.ss->a'.tmps.getD t undef=a.tmps.getD t undef)/\∀(i t:Nat) (v:Value),d.ss[i]? = some t->eK[i]? = some v->a'.tmps.getD t undef=v) a w
theorem PU{st:St}{V:Vl}{a:Act}{w:World}{E:En}(hS:Gz E st V a w):∀ {ts:List Nat} {vs:List SV},looks st ts=some vs->
  (ts.map λt=>a.tmps.getD t undef)=vs.map (·.den V)/\∀v∈vs,v.ok V/\v.lt st.nv (Dh st.rg)=true
 | [],vs,h=>by
  simp only[looks,Ai] at h;subst h;exact⟨rfl,λv hv=>(by cases hv)⟩
 | t::r,vs,h=>by
  unfold looks at h;split at h
  ·rename_i v vs' h1 h2;simp only[Ai] at h;subst h;obtain⟨k1,k2,k3⟩:=hS.s.t.tm t v h1;obtain⟨g1,g2⟩:=PU hS h2;refine⟨by simp only[NE,k1,g1],λu hu=>?_⟩;rcases IR.1 hu with rfl|hu
   ·exact⟨k2,k3⟩
   ·exact g2 u hu
  ·cases h
theorem aZ:∀ {ts:List Nat} {vs:List TV} {st cH:St},mO st ts vs=some cH->cH= { st with lc:=cH.lc }/\ts.length=vs.length/\
  (∀u x,cH.look u=some x->(∃(i:Nat) (tv:TV),ts[i]? = some u/\vs[i]? = some tv/\x= .t tv)\/(u ∉ ts/\st.look u=some x))/\(∀v∈vs,(SV.t v).lt st.nv (Dh st.rg)=true)
 | [],[],st,cH,h=>by
  simp only[mO,Ai] at h;subst h;exact⟨rfl,rfl,λu x hx=>.inr ⟨by simp,hx⟩,λv hv=>(by cases hv)⟩
 | [],_::_,st,cH,h=>by simp[mO] at h
 |_::_,[],st,cH,h=>by simp[mO] at h
 | t :: ts,v::vs,st,cH,h=>by
  unfold mO at h;split at h
  ·rename_i fY h1;obtain⟨g1,g2,g3,g4⟩:=aZ h;have e1:=St.r8 h1;unfold St.put at h1;simp only at h1;cases hb:(Nat.blt t st.nt&&SV.lt st.nv (Dh st.rg) (.t v)) with
   |false=>rw[hb] at h1;cases h1
   | true=>
    rw[hb,cond_true,Ai] at h1;simp only[Bl] at hb;refine⟨by rw[g1,e1],by simp[g2],λu x hx=>?_,λv' n8=>?_⟩
    ·rcases g3 u x hx with⟨i,tv,k1,k2,k3⟩|⟨k1,k2⟩
     ·exact .inl ⟨i+1,tv,by simpa using k1,by simpa using k2,k3⟩
     ·rw[<- h1,QZ] at k2;by_cases e:t=u
      ·rw[if_pos e,Ai] at k2;exact .inl ⟨0,v,by simp[e],by simp,k2.symm⟩
      ·rw[if_neg e] at k2;exact .inr ⟨by simp[k1,Ne.symm e],k2⟩
    ·rcases IR.1 n8 with rfl|n8
     ·exact hb.2
     ·have:=g4 v' n8;rw[e1] at this;exact this
  ·cases h
theorem WI(ts:List Nat)(u:Nat):∀(tm:List (Nat×SV)) (x:SV),lk u (AFR ts tm)=some x->lk u tm=some x/\ED u ts=false
 | [],x,h=>by simp[AFR,lk] at h
 | (k,v)::r,x,h=>by
  unfold AFR at h;rw[List.filter_cons] at h;split at h
  ·rename_i hk;simp only[lk] at h ⊢;cases hb:Nat.beq k u with
   |true=>
    rw[hb] at h;have:=CR hb;subst this;refine⟨h,by simpa using hk⟩
   |false=>
    rw[hb] at h;exact WI ts u r x h
  ·rename_i hk;obtain⟨h1,h2⟩:=WI ts u r x h;refine⟨?_,h2⟩;simp only[lk];cases hb:Nat.beq k u with
   |true=>
    have:=CR hb;subst this;simp[h2] at hk
   |false=>exact h1
section
variable{E:En}(hE:P7 E){Φ:Br->Ex->St->Prop}
include hE
theorem pK{d:LD}{id:Nat}{body:Code}(hL:ZC E d id body)(_hone:∀fe,lk d.xT E.C.T=some fe->∀x,fe.oe x=true){κ:St->Bz}{Q:Exit->Act->World->Prop}(hκ:ADw E Φ κ (Q .normal)){st:St}{V:Vl}{a:Act}{w:World}(gh:st.lc= [])
  (hS:Gz E st V a w) (hT:(cZ E.C d st κ).cv E.C.T Φ st.nv V.ρ):(Code.block id body).wp E.P Q a w:=by
 unfold cZ at hT;cases hbn:Nat.beq st.nt d.nt with
 |false=>rw[hbn] at hT;exact(hT V.ρ (JW.refl _ _)).elim
 |true=>
 rw[hbn] at hT;simp only[Bool.not_true,cond_false] at hT;have aeX:=CR hbn;split at hT
 ·exact(hT V.ρ (JW.refl _ _)).elim
 rename_i vs oE;split at hT
 ·exact(hT V.ρ (JW.refl _ _)).elim
 rename_i r hr;split at hT
 ·exact(hT V.ρ (JW.refl _ _)).elim
 rename_i cH hp;have key:∃ ρ1,JW st.nv V.ρ ρ1/\Tp E.C.T ρ1 r.ds/\(∀q∈r.ob,q.den E.C.T ρ1)/\(κ cH.flush).cv E.C.T Φ (st.nv+16) ρ1/\(∀p∈J5 E.C.T st.ln r.ds,p.1<st.nv+16):=by
  have oR:∀p∈st.ln,p.1<st.nv+16:=λp hp=>by have:=hS.ll p hp;omega
  by_cases iz:r.ds= []/\r.ob= []
  ·rw[iz.1,iz.2] at hT;simp only at hT;rw[iz.1,iz.2];exact⟨V.ρ,JW.refl _ _,λp hp=>(by cases hp),λq hq=>(by cases hq),fun ρ' h=>hT ρ' (λi hi=>h i (by omega)),oR⟩
  ·have wq:(bif GL st.nv (st.nv+16) r.ds&&Jm (st.nv+16) r.ob then Bz.fz r.ds r.ob (κ cH.flush) else .bad 23).cv E.C.T Φ st.nv V.ρ:=by
    revert hT;cases sL:r.ds with
    |nil=>
     cases qu:r.ob with
     |nil=>exact absurd ⟨sL,qu⟩ iz
     |cons q r=>exact λh=>h
    |cons p r=>exact λh=>h
   cases hb:(GL st.nv (st.nv+16) r.ds&&Jm (st.nv+16) r.ob) with
   |false=>rw[hb] at wq;exact(wq V.ρ (JW.refl _ _)).elim
   |true=>
    rw[hb,cond_true] at wq;simp only[Bl] at hb;obtain⟨ρ1,g1,g2⟩:=VP E.C.T V.ρ hb.1;have h1:=wq ρ1 g1 g2;refine⟨ρ1,g1,g2,h1.1,fun ρ' h=>?_,Q8 hb.1 oR⟩;exact(wq ρ' (g1.trans h (by omega)) (g2.agE hb.1 h)).2
 obtain⟨ρ1,g1,g2,g3,g4,g5⟩:=key;have qS:=Sat.env hS g1;have hTb:∀f fe,lk f E.C.T=some fe->∀b,PH (fe.ca b):=λf fe h=>(hE.tb f fe h).2
 have hln:=Qy (ρ:=ρ1) hTb qS.s.t.ln g2;obtain⟨q1,q2⟩:=PU qS oE;obtain⟨fe,as,bs,c1,c2,c3,c4,c5,c6⟩:=jR hE qS.s.m (bv:=st.nv+16) (λr hr lv oA=>LV.bh (by omega) (λ_ h=>h) (qS.s.nF r hr lv oA)) qS.s.t.ln hr
  (λv hv=>⟨(q2 v hv).1,SV.bh (by omega) (λ_ h=>h) (q2 v hv).2⟩) (.inr ⟨qS.s.nF,λv hv=>(q2 v hv).2⟩) g2 g3
 have hGw:E.GB<=w.heap.size:=z8 hE.gb qS.s.m.an.1;rw[<- q1] at c3;refine wp_mono (hL fe c1 a w _ bs qS.s.m.gw hGw c3 c4 c5 qS.s.df (qS.s.nt.trans aeX)) ?_;rintro e a' w' ⟨rfl,fb,eK,hP,eA,qq,hold,acL⟩;rw[q1] at hP;obtain⟨V',cL,k2,k3⟩:=c6 fb eK w' hP;have gk:Ag st.nv (Dh st.rg) { V with ρ:=ρ1 } V':=⟨λi _=>by rw[cL.ρ],λi hi=>cL.σ i (.inl hi),λl hl=>(cL.ν l hl).1⟩;have r6:∀l,ED l (Dh st.rg)=true->ED l (Dh r.rg)=true:=λl hl=>(cL.ν l hl).2
 obtain⟨p1,p2,p3,p4⟩:=aZ hp;have As:cH.nt=st.nt:=by rw[p1]
 have pS:cH.rg=r.rg:=by rw[p1]
 have tn:cH.nv=st.nv+16:=by rw[p1]
 have eM:Gz E cH V' a' w':=by
  refine⟨⟨by rw[pS];exact cL.mok,by rw[pS,tn];exact cL.nF,⟨λu x hx=>?_,λg l hg=>?_,by rw[p1,cL.ρ];exact hln⟩,by rw[eA,As];exact hS.s.nt,qq⟩,by rw[p1];exact g5,λp eN=>by
   obtain⟨k1,k2⟩:=hS.kp p eN;rw[pS];exact⟨r6 _ k1,by rw[gk.2.2 _ k1];exact k2⟩,λi hi=>by rw[gk.2.1 i (iH hi hS.ns)];exact hS.ks i hi,by rw[tn];have:=hS.ns;omega⟩
  ·rw[pS,tn];rcases p3 u x hx with⟨i,tv,i1,i2,rfl⟩|⟨i1,i2⟩
   ·refine⟨acL i u _ i1 ?_,k3 tv (Le i2),p4 tv (Le i2)⟩;rw[<- k2,Ng,i2];rfl
   ·simp only[St.look,lk] at i2;obtain⟨j1,j2⟩:=WI _ _ _ _ i2;obtain⟨h1,h2,h3⟩:=qS.s.t.tm u x (by simp only[St.look,gh,lk];exact j1);rw[hold u j2 i1];exact⟨by rw[SV.cr gk h3];exact h1,SV.ff gk h3 h2,SV.bh (by omega) r6 h3⟩
  ·have hg':lk g st.gl=some l:=by rw[p1] at hg;exact hg
   obtain⟨h1,h2⟩:=qS.s.t.gl g l hg';rw[pS];exact⟨by rw[gk.2.2 l h2];exact h1,r6 l h2⟩
 refine hκ cH.flush V' a' w' rfl eM.flush ?_;have:cH.flush.nv=st.nv+16:=tn;rw[this,cL.ρ];exact g4
end
def XI(P:Program)(n:Nat)(c:Code)(Q:Exit->Act->World->Prop)(a:Act)(w:World):Prop:=
 match c with
 | .loop b=>Code.rounds P b Q n a w
 |c=>c.wp P Q a w
def QK(E:En)(Φ:Br->Ex->St->Prop):List (K×Nat)->Exit->Act->World->Prop
 | []=>AQA E Φ
 |(.code c,n)::k=>Exit.then (XI E.P n c (QK E Φ k)) (QK E Φ k)
 |(.blk id,_)::k=>Exit.inBlock id (QK E Φ k)
theorem VN{P:Program}{c:Code}{Q:Exit->Act->World->Prop}:∀ {n:Nat} {a:Act} {w:World},Code.rounds P c Q n a w->Code.rounds P c Q (n+1) a w
 |0,_,_,h=>h.elim
 |n+1,a,w,h=>by
  rw[rounds_succ] at h ⊢;refine wp_mono h λe a' w' h'=>?_
  cases e<;>first|exact h'|exact VN h'
theorem kE{P:Program}{c:Code}{Q:Exit->Act->World->Prop}{n m:Nat}{a:Act}{w:World}(hnm:n<=m)(h:Code.rounds P c Q n a w):Code.rounds P c Q m a w:=by
 induction hnm with
 |refl=>exact h
 |step _ ih=>exact VN ih
theorem nM{P:Program}{n m:Nat}{c:Code}{Q:Exit->Act->World->Prop}{a:Act}{w:World}(hnm:n<=m)(h:XI P n c Q a w):XI P m c Q a w:=by
 cases c<;>first|exact h|exact kE hnm h
theorem KI{P:Program}{n:Nat}{c:Code}{Q:Exit->Act->World->Prop}{a:Act}{w:World}(h:XI P n c Q a w):c.wp P Q a w:=by
 cases c<;>first|exact h|exact wp_loop_rounds n h
def J9(E:En):Code->Prop
 | .seq a b=>J9 E a/\J9 E b
 | .cond _ t e=>J9 E t/\J9 E e
 | .block id body=>J9 E body/\∀d,lk id E.C.loops=some d->ZC E d id body/\∀fe,lk d.xT E.C.T=some fe->∀x,fe.oe x=true
 | .loop body=>J9 E body
 |_=>True
theorem J9.of_nil{E:En}(h:E.C.loops= []):∀c,J9 E c
 | .seq a b=>⟨J9.of_nil h a,J9.of_nil h b⟩
 | .cond _ t e=>⟨J9.of_nil h t,J9.of_nil h e⟩
 | .block id body=>⟨J9.of_nil h body,λd hd=>by rw[h] at hd;cases hd⟩
 | .loop body=>J9.of_nil h body
 | .skip=>trivial
 | .region .. => trivial
 | .exit _=>trivial
 | .ret=>trivial
 | .goto _=>trivial
 | .label _=>trivial
 | .scope _=>trivial
 | .rangeFunc .. => trivial
 | .refuse _=>trivial
def MI(i:Nat):Code->List Code
 | .seq a b=>MI i a++MI i b
 | .cond _ t e=>MI i t++MI i e
 | .block id body=>(bif Nat.beq id i then[body] else[])++MI i body
 | .loop body=>MI i body
 |_=>[]
theorem J9.eS{E:En}:∀(c:Code),(∀id d,lk id E.C.loops=some d->(∀body∈MI id c,ZC E d id body)/\∀fe,lk d.xT E.C.T=some fe->∀x,fe.oe x=true)->J9 E c
 | .seq a b,h=>⟨J9.eS a λid d hd=>⟨λx hx=>(h id d hd).1 x (List.mem_append_left _ hx),(h id d hd).2⟩,J9.eS b λid d hd=>⟨λx hx=>(h id d hd).1 x (iB _ hx),(h id d hd).2⟩⟩
 | .cond _ a b,h=>⟨J9.eS a λid d hd=>⟨λx hx=>(h id d hd).1 x (List.mem_append_left _ hx),(h id d hd).2⟩,J9.eS b λid d hd=>⟨λx hx=>(h id d hd).1 x (iB _ hx),(h id d hd).2⟩⟩
 | .block id body,h=>⟨J9.eS body λid' d hd=>⟨λx hx=>(h id' d hd).1 x (iB _ hx),(h id' d hd).2⟩,λd hd=>⟨(h id d hd).1 body (List.mem_append_left _ (by rw[Nat.beq_refl];exact NB.2 rfl)),(h id d hd).2⟩⟩
 | .loop body,h=>J9.eS body h
 | .skip,_=>trivial
 | .region .., _=>trivial
 | .exit _,_=>trivial
 | .ret,_=>trivial
 | .goto _,_=>trivial
 | .label _,_=>trivial
 | .scope _,_=>trivial
 | .rangeFunc .., _=>trivial
 | .refuse _,_=>trivial
def qC(E:En):List (K×Nat)->Prop
 | []=>True
 |(.code c,_)::k=>J9 E c/\qC E k
 |(.blk _,_)::k=>qC E k
section
variable{E:En}(hE:P7 E){Φ:Br->Ex->St->Prop}
def AMu(C:Cx)(n:Nat)(k:List K)(st:St):Bz:=match AMD k with
 |none=>.leaf .normal st
 |some (c,k')=>OT C n k' c st
theorem nW{n:Nat} (ih:∀(ks:List (K×Nat)) (c:Code) (st:St) (V:Vl) (a:Act) (w:World),(∀x∈ks,n<=x.2)->qC E ks->J9 E c->st.lc= []->Gz E st V a w->
  (OT E.C n (ks.map (·.1)) c st).cv E.C.T Φ st.nv V.ρ->XI E.P n c (QK E Φ ks) a w):
  ∀(ks:List (K×Nat)) (st:St) (V:Vl) (a:Act) (w:World),(∀x∈ks,n<=x.2)->qC E ks->st.lc= []->Gz E st V a w->(AMu E.C n (ks.map (·.1)) st).cv E.C.T Φ st.nv V.ρ->QK E Φ ks .normal a w
 | [],st,V,a,w,_,_,gh,hS,hT=>⟨.normal,st,V,.normal,gh,hS,fun ρ' h=>hT ρ' h⟩
 |(.code c,m)::k,st,V,a,w,hk,hC,gh,hS,hT=>by
  show XI E.P m c (QK E Φ k) a w;exact nM (hk _ Kh) (ih k c st V a w (λx hx=>hk x (Lv _ hx)) hC.2 hC.1 gh hS hT)
 |(.blk id,m)::k,st,V,a,w,hk,hC,gh,hS,hT=>nW ih k st V a w (λx hx=>hk x (Lv _ hx)) hC gh hS hT
theorem gM{n:Nat} (ih:∀(ks:List (K×Nat)) (c:Code) (st:St) (V:Vl) (a:Act) (w:World),(∀x∈ks,n<=x.2)->qC E ks->J9 E c->st.lc= []->Gz E st V a w->
  (OT E.C n (ks.map (·.1)) c st).cv E.C.T Φ st.nv V.ρ->XI E.P n c (QK E Φ ks) a w) (id:Nat):
  ∀(ks:List (K×Nat)) (st:St) (V:Vl) (a:Act) (w:World),(∀x∈ks,n<=x.2)->qC E ks->st.lc= []->Gz E st V a w->(match lC id (ks.map λ(x:K×Nat)=>x.1) with
   |none=>Bz.leaf (.exit id) st
   |some k'=>AMu E.C n k' st).cv E.C.T Φ st.nv V.ρ->QK E Φ ks (.exit id) a w
 | [],st,V,a,w,_,_,gh,hS,hT=>⟨.exit id,st,V,.exit id,gh,hS,fun ρ' h=>hT ρ' h⟩
 |(.code c,m)::k,st,V,a,w,hk,hC,gh,hS,hT=>gM ih id k st V a w (λx hx=>hk x (Lv _ hx)) hC.2 gh hS hT
 | (.blk j,m)::k,st,V,a,w,hk,hC,gh,hS,hT=>by
  show(if id=j then QK E Φ k .normal a w else QK E Φ k (.exit id) a w);simp only[NE,lC] at hT;by_cases e:id=j
  ·subst e;rw[if_pos rfl];rw[Nat.beq_refl] at hT;exact nW ih k st V a w (λx hx=>hk x (Lv _ hx)) hC gh hS hT
  ·rw[if_neg e];have hb:Nat.beq j id=false:=by cases hh:Nat.beq j id with|false=>rfl|true=>exact absurd (CR hh).symm e
   rw[hb] at hT;exact gM ih id k st V a w (λx hx=>hk x (Lv _ hx)) hC gh hS hT
theorem qY{st:St}{V:Vl}{a:Act}{w:World}(gh:st.lc= [])(hS:Gz E st V a w)(hT:(Bz.leaf .ret st).cv E.C.T Φ st.nv V.ρ):∀ks:List (K×Nat),QK E Φ ks .ret a w
 | []=>⟨.ret,st,V,.ret,gh,hS,fun ρ' h=>hT ρ' h⟩
 |(.code _,_)::k=>qY gh hS hT k
 |(.blk _,_)::k=>qY gh hS hT k
end
abbrev Ev (E:En) (I:List (Nat×(Nat×Nat))) (sn:Nat) (σ0:Nat->Value):En:= { E with I:=I,sn:=sn,σ0:=σ0 }
theorem P7.ev{E:En}(hE:P7 E)(I:List (Nat×(Nat×Nat)))(sn:Nat)(σ0:Nat->Value):P7 (Ev E I sn σ0):=⟨hE.tt,hE.gc,hE.gb,hE.tb,hE.mx,hE.Kp,hE.Kf,hE.en,hE.eq⟩
theorem J9.ev{E:En}{I:List (Nat×(Nat×Nat))}{sn:Nat}{σ0:Nat->Value}:∀ {c:Code},J9 E c->J9 (Ev E I sn σ0) c
 | .seq _ _,h=>⟨J9.ev h.1,J9.ev h.2⟩
 | .cond _ _ _,h=>⟨J9.ev h.1,J9.ev h.2⟩
 | .block _ _,h=>⟨J9.ev h.1,h.2⟩
 | .loop _,h=>by unfold J9 at h ⊢;exact J9.ev h
 | .skip,_=>trivial
 | .region .., _=>trivial
 | .exit _,_=>trivial
 | .ret,_=>trivial
 | .goto _,_=>trivial
 | .label _,_=>trivial
 | .scope _,_=>trivial
 | .rangeFunc .., _=>trivial
 | .refuse _,_=>trivial
theorem Xi{E0:En}(DO:P7 E0)(hI0:jZ E0)(hCI:∀f i,lk f E0.C.inl=some i->J9 E0 i.c):∀(n:Nat) (I:List (Nat×(Nat×Nat))) (sn:Nat) (σ0:Nat->Value) (Φ:Br->Ex->St->Prop) (ks:List (K×Nat)) (c:Code) (st:St) (V:Vl) (a:Act) (w:World),(∀x∈ks,n<=x.2)->qC (Ev E0 I sn σ0) ks->J9 (Ev E0 I sn σ0) c->st.lc= []->Gz (Ev E0 I sn σ0) st V a w->
  (OT E0.C n (ks.map (·.1)) c st).cv E0.C.T Φ st.nv V.ρ->XI E0.P n c (QK (Ev E0 I sn σ0) Φ ks) a w
 |0,_,_,_,_,_,_,_,V,_,_,_,_,_,_,_,hT=>(hT V.ρ (JW.refl _ _)).elim
 | n + 1,I,sn,σ0,Φ,ks,c,st,V,a,w,hk,hC,hc,gh,hS,hT=>by
  have ih0:=Xi DO hI0 hCI n;have hE:=DO.ev I sn σ0;have hI:jZ (Ev E0 I sn σ0):=hI0;have hR:sM (Ev E0 I sn σ0) (OT E0.C n []):=λI2 sn2 σ2 Φ2 f i rh V2 a2 w2 hl h1 h2 h3=>
   KI (ih0 I2 sn2 σ2 Φ2 [] i.c rh V2 a2 w2 (λx hx=>by cases hx) trivial (J9.ev (hCI f i hl)) h1 h2 h3)
  have ih:=ih0 I sn σ0 Φ;clear ih0;revert hE hI hR ih hS hT hC hc;generalize hEE:Ev E0 I sn σ0=E;have e1:E0.C=E.C:=by rw[<- hEE]
  have e2:E0.P=E.P:=by rw[<- hEE]
  rw[e1,e2];intro hC hc hS hT hE hI hR ih;have gE:∀x∈ks,n<=x.2:=λx hx=>by have:=hk x hx;omega
  have yW:ADw E Φ (AMu E.C n (ks.map (·.1))) (QK E Φ ks .normal):=λcH V' a' w' h1 h2 h3=>nW (λks c st V a w h1 h2 h3 h4 h5 h6=>ih ks c st V a w h1 h2 h3 h4 h5 h6) ks cH V' a' w' gE hC h1 h2 h3
  have bad:∀ {k:Nat} {G:Prop},(Bz.bad k).cv E.C.T Φ st.nv V.ρ->G:=λh=>(h V.ρ (JW.refl _ _)).elim
  cases c with
  |skip=>exact wp_skip (yW st V a w gh hS hT)
  |region id ops draw=>
   cases draw with
   |true=>exact oN hE yW gh hS hT
   |false=>exact wp_region_list (Zz hE hR hI yW ops.toList st V a w hS hT)
  | seq x y=>
   refine wp_seq (wp_mono (KI (ih ((.code y,n)::ks) x st V a w (λz hz=>?_) ⟨hc.2,hC⟩ hc.1 gh hS hT)) λe a' w' hq=>?_)
   ·rcases IR.1 hz with h|hz
    ·rw[h];exact KA _
    ·exact gE z hz
   ·cases e<;>first|exact KI hq|exact hq
  | cond x t e=>
   simp only[OT] at hT;split at hT
   ·rename_i m hx;obtain⟨h1,-, -⟩:=hS.s.t.cN hx;cases hb:Iw m 0 with
    |true=>
     rw[hb] at hT;refine wp_cond_false ?_ (KI (ih ks e st V a w gE hC hc.2 gh hS hT));rw[h1];simp only[SV.aE,TV.aq,LV.cg,X.be,Mr hb];rfl
    |false=>
     rw[hb] at hT;refine wp_cond_true ?_ (KI (ih ks t st V a w gE hC hc.1 gh hS hT));rw[h1];simp only[SV.aE,TV.aq,LV.cg,X.be];have:=O9 hb;simp[this]
   ·rename_i y _ hx;obtain⟨h1,-,h3⟩:=hS.s.t.cN hx;have xo:y.lt st.nv=true:=h3;by_cases hy:y.den V.ρ=0
    ·refine wp_cond_false ?_ (KI (ih ks e st V a w gE hC hc.2 gh hS (fun ρ' hρ=>(Nq (hT ρ' hρ)).2 (by rw[X.cj hρ xo];exact hy))));rw[h1];simp only[SV.aE,TV.aq,LV.cg,hy];rfl
    ·refine wp_cond_true ?_ (KI (ih ks t st V a w gE hC hc.1 gh hS (fun ρ' hρ=>(Nq (hT ρ' hρ)).1 (by rw[X.cj hρ xo];exact hy))));rw[h1];simp[SV.aE,TV.aq,LV.cg,hy]
   ·exact bad hT
  | block id body=>
   simp only[OT] at hT;split at hT
   ·rename_i d hd;obtain⟨k1,k2⟩:=hc.2 d hd;exact pK hE k1 k2 yW gh hS hT
   ·exact wp_block (KI (ih ((.blk id,n)::ks) body st V a w (λz hz=>by
     rcases IR.1 hz with rfl|hz
     ·exact KA _
     ·exact gE z hz) hC hc.1 gh hS hT))
  | loop body=>
   show Code.rounds E.P body (QK E Φ ks) (n+1) a w;rw[rounds_succ];have:=KI (ih ((.code (.loop body),n)::ks) body st V a w (λz hz=>by
    rcases IR.1 hz with rfl|hz
    ·exact KA _
    ·exact gE z hz) ⟨hc,hC⟩ hc gh hS hT)
   exact this
  |exit id=>exact wp_exit (gM ih id ks st V a w gE hC gh hS hT)
  |ret=>exact wp_ret (qY gh hS hT ks)
  |goto l=>exact bad hT
  |label l=>exact bad hT
  |scope c=>exact bad hT
  |rangeFunc f p x y=>exact bad hT
  |refuse s=>exact bad hT
end
section
open Go
def GQ(np i:Nat):GD->SV
 | .int k=>.t (.l (.int k (.v i 0)))
 | .bool=>.t (.l (.bool (.v i 0)))
 | .mem _ _ _=>.t (.l (.ptr i 0))
 | .agg ks=>.t (.a (I8 i ks))
 | .sl ks _ _=>.t (.l (.sl i 0 ks.length (.n (.v (np+i) 0)) 0))
 | .fy ks _ _=>.t (.l (.fy i 0 ks.length i))
def HT(np:Nat):Nat->List GD->List (Nat×SV)
 |_,[]=>[]
 |i,p::ps=>(i,GQ np i p)::HT np (i+1) ps
def Qu:Nat->List GD->List Rg
 |_,[]=>[]
 |i,.mem ks g wr::ps=>⟨i,g,wr,(I8 i ks).map some⟩::Qu (i+1) ps
 |i,.sl ks g wr::ps=>⟨i,g,wr,(I8 i ks).map some⟩::Qu (i+1) ps
 |i,.fy ks g wr::ps=>⟨i,g,wr,(I8 i ks).map some⟩::Qu (i+1) ps
 |i,_::ps=>Qu (i+1) ps
def ln0:Nat->List GD->List (Nat×Nat)
 |_,[]=>[]
 |i,p::ps=>(i,p.len)::ln0 (i+1) ps
abbrev fQ:=List (Nat×List LV)
def EC(ad:Nat->Nat×Nat)(n:Nat):Nat×Nat:=if n<1000000 then(n,0) else ad (n-1000000)
def SD:Nat->fQ->List (Nat×Nat)
 |_,[]=>[]
 |i,(g,_)::r=>bif Nat.blt g 1000000 then(g,i)::SD (i+1) r else SD (i+1) r
def JT:Nat->fQ->List Rg
 |_,[]=>[]
 |i,(_,cs)::r=>⟨i,0,false,cs.map some⟩::JT (i+1) r
def ZZ(ps:List GD)(cA:fQ)(nt:Nat):St:=
 ⟨[],HT ps.length 0 ps,Qu 0 ps++JT 500 cA,SD 500 cA,ln0 0 ps,nt,2*ps.length,1000⟩
def XD(m:Nat):LV->Bool
 | .ptr l _=>Nat.ble 500 l&&Nat.blt l (500+m)
 | .int k (.lit n)=>Yl k n
 | .bool (.lit _)=>true
 | .nil=>true
 | .C6=>true
 | .eg=>true
 |_=>false
def gν(ad:Nat->Nat×Nat)(cA:fQ)(l:Nat):Nat×Nat:=EC ad (cA.getD (l-500) (0,[])).1
def v0(ad:Nat->Nat×Nat)(np:Nat)(args:List Value)(ins:List (List Int))(bs:List (Nat×Nat))(cA:fQ):Vl where
 ρ i:=if i<np then ins.getD i [] else[((AHM (args.getD (i-np) undef):Nat):Int)]
 ν i:=if i<500 then bs.getD i (0,0) else gν ad cA i
 σ i:=args.getD i undef
def i0(bs:List (Nat×Nat)):Nat->List GD->List (Nat×(Nat×Nat))
 |_,[]=>[]
 |i,.mem _ _ _::ps=>(i,bs.getD i (0,0))::i0 bs (i+1) ps
 |i,.sl _ _ _::ps=>(i,bs.getD i (0,0))::i0 bs (i+1) ps
 |i,.fy _ _ _::ps=>(i,bs.getD i (0,0))::i0 bs (i+1) ps
 |i,_::ps=>i0 bs (i+1) ps
theorem QM{GB:Nat}{w:World}:∀ {ps:List GD} {vs:List Value} {xs:List (List Int)} {bs:List (Nat×Nat)},KH GB w ps vs xs bs->∀(i:Nat) (p:GD),ps[i]? = some p->
  ∃v x b,vs[i]? = some v/\xs[i]? = some x/\bs[i]? = some b/\PM GB w p v x b
 | [],[],[],[],_,i,p,h=>by simp at h
 |p::ps,v::vs,x::xs,b::bs,h,0,q,hq=>by
  simp only[Ul,Ai] at hq;subst hq;exact⟨v,x,b,rfl,rfl,rfl,h.1⟩
 |p::ps,v::vs,x::xs,b::bs,h,i+1,q,hq=>by
  obtain⟨v',x',b',h1,h2,h3,h4⟩:=QM h.2 i q (by simpa using hq);exact⟨v',x',b',by simpa using h1,by simpa using h2,by simpa using h3,h4⟩
theorem Wu:∀ {ps:List GD} {bs:List (Nat×Nat)},Fv ps bs->∀(i j:Nat) (p q:GD) (b c:Nat×Nat),ps[i]? = some p->ps[j]? = some q->bs[i]? = some b->bs[j]? = some c->i<j->Rz p q b c
 | [],_,_,i,j,p,q,b,c,h,_,_,_,_=>by simp at h
 |_::_,[],_,i,j,p,q,b,c,_,_,h,_,_=>by simp at h
 | p0::ps,b0::bs,h,i,j,p,q,b,c,hp,hq,hb,hc,vr=>by
  cases j with
  |zero=>omega
  | succ j=>
   cases i with
   |zero=>
    simp only[Ul,Ai] at hp hb;subst hp;subst hb;simp only[yl] at hq hc;refine h.1 (q,c) ?_;rw[List.mem_iff_getElem?];exact⟨j,by rw[List.getElem?_zip_eq_some];exact⟨hq,hc⟩⟩
   |succ i=>exact Wu h.2 i j p q b c (by simpa using hp) (by simpa using hq) (by simpa using hb) (by simpa using hc) (by omega)
theorem dM{np:Nat}:∀ {ps:List GD} {i t:Nat} {v:SV},lk t (HT np i ps)=some v->∃j p,t=i+j/\ps[j]? = some p/\v=GQ np t p
 | [],i,t,v,h=>by simp[HT,lk] at h
 | p::ps,i,t,v,h=>by
  simp only[HT,lk] at h;cases hb:Nat.beq i t with
  |true=>
   rw[hb,cond_true,Ai] at h;have:=CR hb;subst this;exact⟨0,p,rfl,rfl,h.symm⟩
  |false=>
   rw[hb,cond_false] at h;obtain⟨j,q,h1,h2,h3⟩:=dM h;exact⟨j+1,q,by omega,by simpa using h2,h3⟩
theorem dO:∀ {ps:List GD} {i:Nat} {x:Nat×Nat},x∈ln0 i ps->∃j p,x.1=i+j/\ps[j]? = some p/\x.2=p.len
 | [],i,x,h=>by cases h
 | p::ps,i,x,h=>by
  rcases IR.1 h with rfl|h
  ·exact⟨0,p,rfl,rfl,rfl⟩
  ·obtain⟨j,q,h1,h2,h3⟩:=dO h;exact⟨j+1,q,by omega,by simpa using h2,h3⟩
theorem QA:∀ {ps:List GD} {i:Nat} {r:Rg},r∈Qu i ps->∃j p ks,r.id=i+j/\ps[j]? = some p/\p.cE=some (r.gi,r.wr,ks)/\p.len=ks/\∃kl,kl.length=ks/\r.cs=(I8 r.id kl).map some/\
   (p= .mem kl r.gi r.wr\/p= .sl kl r.gi r.wr\/p= .fy kl r.gi r.wr)
 | [],i,r,h=>by cases h
 | .mem ks g wr::ps,i,r,h=>by
  rcases IR.1 h with rfl|h
  ·exact⟨0,_,_,rfl,rfl,rfl,rfl,ks,rfl,rfl,.inl rfl⟩
  ·obtain⟨j,q,φ,h1,h2,h3⟩:=QA h;exact⟨j+1,q,φ,by omega,by simpa using h2,h3⟩
 | .sl ks g wr::ps,i,r,h=>by
  rcases IR.1 h with rfl|h
  ·exact⟨0,_,_,rfl,rfl,rfl,rfl,ks,rfl,rfl,.inr (.inl rfl)⟩
  ·obtain⟨j,q,φ,h1,h2,h3⟩:=QA h;exact⟨j+1,q,φ,by omega,by simpa using h2,h3⟩
 | .fy ks g wr::ps,i,r,h=>by
  rcases IR.1 h with rfl|h
  ·exact⟨0,_,_,rfl,rfl,rfl,rfl,ks,rfl,rfl,.inr (.inr rfl)⟩
  ·obtain⟨j,q,φ,h1,h2,h3⟩:=QA h;exact⟨j+1,q,φ,by omega,by simpa using h2,h3⟩
 | .int _::ps,i,r,h=>by
  obtain⟨j,q,φ,h1,h2,h3⟩:=QA (i:=i+1) h;exact⟨j+1,q,φ,by omega,by simpa using h2,h3⟩
 | .bool::ps,i,r,h=>by
  obtain⟨j,q,φ,h1,h2,h3⟩:=QA (i:=i+1) h;exact⟨j+1,q,φ,by omega,by simpa using h2,h3⟩
 | .agg _::ps,i,r,h=>by
  obtain⟨j,q,φ,h1,h2,h3⟩:=QA (i:=i+1) h;exact⟨j+1,q,φ,by omega,by simpa using h2,h3⟩
theorem vT:∀ {ps:List GD} {i j:Nat} {p:GD},ps[j]? = some p->p.cE≠none->∃r∈Qu i ps,r.id=i+j
 | [],i,j,p,h,_=>by simp at h
 |q::ps,i,0,p,h,hn=>by
  simp only[Ul,Ai] at h;subst h;cases q<;>first|exact absurd rfl hn|exact⟨_,Kh,rfl⟩
 |q::ps,i,j+1,p,h,hn=>by
  obtain⟨r,hr,he⟩:=vT (i:=i+1) (j:=j) (by simpa using h) hn;refine⟨r,?_,by omega⟩;cases q<;>first|exact hr|exact Lv _ hr
theorem eB:∀ {cA:fQ} {i:Nat} {r:Rg},r∈JT i cA->∃j g cs,r.id=i+j/\cA[j]? = some (g,cs)/\r=⟨r.id,0,false,cs.map some⟩
 | [],i,r,h=>by cases h
 | (g,cs)::cA,i,r,h=>by
  rcases IR.1 h with rfl|h
  ·exact⟨0,g,cs,rfl,rfl,rfl⟩
  ·obtain⟨j,g',vl,h1,h2,h3⟩:=eB h;exact⟨j+1,g',vl,by omega,by simpa using h2,h3⟩
theorem bu:∀ {cA:fQ} {i j:Nat} {x:Nat×List LV},cA[j]? = some x->∃r∈JT i cA,r.id=i+j
 | [],i,j,x,h=>by simp at h
 |(g,cs)::cA,i,0,x,h=>⟨_,Kh,rfl⟩
 |(g,cs)::cA,i,j+1,x,h=>by
  obtain⟨r,hr,he⟩:=bu (i:=i+1) (j:=j) (by simpa using h);exact⟨r,Lv _ hr,by omega⟩
theorem r9:∀ {cA:fQ} {i g l:Nat},lk g (SD i cA)=some l->∃j cs,l=i+j/\cA[j]? = some (g,cs)/\g<1000000
 | [],i,g,l,h=>by simp[SD,lk] at h
 | (g0,cs)::cA,i,g,l,h=>by
  have next:lk g (SD (i+1) cA)=some l->∃j vl,l=i+j/\((g0,cs)::cA)[j]? = some (g,vl)/\g<1000000:=λh=>by
   obtain⟨j,vl,h1,h2,h3⟩:=r9 h;exact⟨j+1,vl,by omega,by simpa using h2,h3⟩
  unfold SD at h;cases hm:Nat.blt g0 1000000 with
  |false=>rw[hm,cond_false] at h;exact next h
  | true=>
   rw[hm,cond_true] at h;simp only[lk] at h;cases hb:Nat.beq g0 g with
   |true=>
    rw[hb,cond_true,Ai] at h;have:=CR hb;subst this;exact⟨0,cs,by omega,rfl,D7 hm⟩
   |false=>rw[hb,cond_false] at h;exact next h
theorem UL{bs:List (Nat×Nat)}:∀ {ps:List GD} {i:Nat} {x:Nat×(Nat×Nat)},x∈i0 bs i ps->∃j p,x.1=i+j/\ps[j]? = some p/\p.cE≠none/\x.2=bs.getD x.1 (0,0)
 | [],i,x,h=>by cases h
 | .mem ks g wr::ps,i,x,h=>by
  rcases IR.1 h with rfl|h
  ·exact⟨0,_,rfl,rfl,by simp[GD.cE],rfl⟩
  ·obtain⟨j,q,h1,h2,h3⟩:=UL h;exact⟨j+1,q,by omega,by simpa using h2,h3⟩
 | .sl ks g wr::ps,i,x,h=>by
  rcases IR.1 h with rfl|h
  ·exact⟨0,_,rfl,rfl,by simp[GD.cE],rfl⟩
  ·obtain⟨j,q,h1,h2,h3⟩:=UL h;exact⟨j+1,q,by omega,by simpa using h2,h3⟩
 | .fy ks g wr::ps,i,x,h=>by
  rcases IR.1 h with rfl|h
  ·exact⟨0,_,rfl,rfl,by simp[GD.cE],rfl⟩
  ·obtain⟨j,q,h1,h2,h3⟩:=UL h;exact⟨j+1,q,by omega,by simpa using h2,h3⟩
 | .int _::ps,i,x,h=>by
  obtain⟨j,q,h1,h2,h3⟩:=UL (i:=i+1) h;exact⟨j+1,q,by omega,by simpa using h2,h3⟩
 | .bool::ps,i,x,h=>by
  obtain⟨j,q,h1,h2,h3⟩:=UL (i:=i+1) h;exact⟨j+1,q,by omega,by simpa using h2,h3⟩
 | .agg _::ps,i,x,h=>by
  obtain⟨j,q,h1,h2,h3⟩:=UL (i:=i+1) h;exact⟨j+1,q,by omega,by simpa using h2,h3⟩
theorem WP{bs:List (Nat×Nat)}:∀ {ps:List GD} {i j:Nat} {p:GD},ps[j]? = some p->p.cE≠none->(i+j,bs.getD (i+j) (0,0))∈i0 bs i ps
 | [],i,j,p,h,_=>by simp at h
 |q::ps,i,0,p,h,hn=>by
  simp only[Ul,Ai] at h;subst h;cases q<;>first|exact absurd rfl hn|exact Kh
 |q::ps,i,j+1,p,h,hn=>by
  have:=WP (bs:=bs) (i:=i+1) (j:=j) (by simpa using h) hn;rw[show i+1+j=i+(j+1) by omega] at this;cases q<;>first|exact this|exact Lv _ this
def NP(outs:List (Nat×List IntKind×PF)):Nat->List GD->Bool
 |_,[]=>true
 |i,p::ps=>(match p.cE with
  |some (_,true,n)=>outs.any λo=>Nat.beq o.1 i&&Nat.beq o.2.1.length n
  |_=>true)&&NP outs (i+1) ps
theorem Yu{outs:List (Nat×List IntKind×PF)}:∀ {ps:List GD} {i j:Nat} {p:GD} {g n:Nat},NP outs i ps=true->ps[j]? = some p->p.cE=some (g,true,n)->∃o∈outs,o.1=i+j/\o.2.1.length=n
 | [],i,j,p,g,n,_,h,_=>by simp at h
 |q::ps,i,0,p,g,n,hw,h,hn=>by
  simp only[Ul,Ai] at h;subst h;simp only[NP,hn,Bl,List.any_eq_true] at hw;obtain⟨o,ho,h1,h2⟩:=hw.1;exact⟨o,ho,by have:=CR h1;omega,CR h2⟩
 |q::ps,i,j+1,p,g,n,hw,h,hn=>by
  simp only[NP,Bl] at hw;obtain⟨o,ho,h1,h2⟩:=Yu hw.2 (by simpa using h) hn;exact⟨o,ho,by omega,h2⟩
def gV(ad:Nat->Nat×Nat)(cA:fQ):Vl:=⟨λ_=>[],gν ad cA,λ_=>undef⟩
def Ty(GC:Nat->Nat->Option Value)(ad:Nat->Nat×Nat)(cA:fQ):Prop:=∀x∈cA,∀(i:Nat) (lv:LV),x.2[i]? = some lv->XD cA.length lv=true/\GC (EC ad x.1).1 ((EC ad x.1).2+i)=some (lv.den (gV ad cA))
end
section
open Go
theorem Gx{α:Type}{l:List α}{i:Nat}{x d:α}(h:l[i]? = some x):l.getD i d=x:=by simp[List.getD,h]
theorem Z5{m:Nat}{lv:LV}(h:XD m lv=true)(V:Vl)(nv:Nat)(ids:List Nat)(hid:∀l,500<=l->l<500+m->ED l ids=true):lv.ok V/\lv.lt nv ids=true:=by
 cases lv with
 |int k x=>cases x with
  |lit n=>simp only[XD] at h;exact⟨Yo.1 h,rfl⟩
  |v i j=>cases h
 |bool x=>cases x with
  |lit n=>exact⟨trivial,rfl⟩
  |v i j=>cases h
 |nil=>exact⟨trivial,rfl⟩
 |C6=>exact⟨trivial,rfl⟩
 |eg=>exact⟨trivial,rfl⟩
 |ptr l o=>
  simp only[XD,Bl] at h;exact⟨trivial,hid l (MQ h.1) (D7 h.2)⟩
 |sl l o n c d=>cases h
 |se l o s c d a=>cases h
 |str xs=>cases h
 |val v=>cases h
 |Hx i=>cases h
 |err i=>cases h
 |pd l o n s x=>cases h
 |fy l o n i=>cases h
theorem pO{m:Nat}{lv:LV}(h:XD m lv=true){V V':Vl}(hν:∀l,500<=l->V.ν l=V'.ν l):lv.den V=lv.den V':=by
 cases lv with
 |int k x=>cases x with
  |lit n=>rfl
  |v i j=>cases h
 |bool x=>cases x with
  |lit n=>rfl
  |v i j=>cases h
 |ptr l o=>
  simp only[XD,Bl] at h;simp only[LV.den,hν l (MQ h.1)]
 |sl l o n c d=>cases h
 |se l o s c d a=>cases h
 |str xs=>cases h
 |val v=>cases h
 |Hx i=>cases h
 |err i=>cases h
 |pd l o n s x=>cases h
 |fy l o n i=>cases h
 |nil=>rfl
 |C6=>rfl
 |eg=>rfl
theorem WL{a b:Nat}(h:a<b):Nat.blt a b=true:=vM h
section
variable{P:Program}{C:Cx}{GB:Nat}{GC:Nat->Nat->Option Value}{s:BH}{cA:fQ}{args:List Value}{ins:List (List Int)}{bs:List (Nat×Nat)}{w:World}{nt:Nat}{ad:Nat->Nat×Nat}
 (Ly:∀b o v,GC b o=some v->b<GB) (ε:GW GC w) (δ:GB<=w.heap.size) (hP:KH GB w s.params args ins bs) (hS:Fv s.params bs) (pe:NP s.outs 0 s.params=true) (lR:Ty GC ad cA)
 (me:∀x∈cA,(EC ad x.1).1<GB) (As:s.params.length<=nt) (iu:s.params.length<=500)
include Ly ε δ hP hS pe lR me As iu
def e0(P:Program)(C:Cx)(GB:Nat)(GC:Nat->Nat->Option Value)(s:BH)(args:List Value)(bs:List (Nat×Nat))(w:World):En:=⟨P,C,w,Wj s bs,GB,GC,i0 bs 0 s.params,s.params.length,λi=>args.getD i undef⟩
theorem dS:Gz (e0 P C GB GC s args bs w) (ZZ s.params cA nt) (v0 ad s.params.length args ins bs cA) ⟨args.toArray++Array.replicate (nt-args.length) undef,[]⟩ w:=by
 have _:=Ly;have _:=δ;obtain⟨l1,l2,l3⟩:=SX hP;have hρ:∀i,i<s.params.length->(v0 ad s.params.length args ins bs cA).ρ i=ins.getD i []:=λi hi=>by simp[v0,hi]
 have hν:∀i,i<s.params.length->(v0 ad s.params.length args ins bs cA).ν i=bs.getD i (0,0):=λi hi=>by simp[v0,show i<500 by omega]
 have hνg:∀(j:Nat) (x:Nat×List LV),cA[j]? = some x->(v0 ad s.params.length args ins bs cA).ν (500+j)=EC ad x.1:=λj x hx=>by
  simp only[v0,gν];rw[if_neg (by omega),show 500+j-500=j by omega,Gx hx]
 have hlen:∀(i:Nat) (p:GD),s.params[i]? = some p->i<s.params.length:=λi p h=>(OQ.1 h).1
 have hR:∀r∈Qu 0 s.params,∃p kl b x,s.params[r.id]? = some p/\bs[r.id]? = some b/\ins[r.id]? = some x/\r.cs=(I8 r.id kl).map some/\p.cE=some (r.gi,r.wr,kl.length)/\AQ r.wr w b kl x/\(r.wr=true->GB<=b.1)/\
   (v0 ad s.params.length args ins bs cA).ν r.id=b/\(v0 ad s.params.length args ins bs cA).ρ r.id=x/\r.id<s.params.length:=λr hr=>by
  obtain⟨j,p,ks,h1,h2,h3,h4,kl,h5,h6,h7⟩:=QA hr;rw[Km] at h1;subst h1;obtain⟨v,x,b,q1,q2,q3,q4⟩:=QM hP _ p h2;have cf:=hlen _ _ h2;refine⟨p,kl,b,x,h2,q3,q2,h6,by rw[h3,h5],?_,?_,by rw[hν _ cf,Gx q3],by rw[hρ _ cf,Gx q2],cf⟩
  ·rcases h7 with rfl|rfl|rfl
   ·exact q4.2.1
   ·obtain⟨c,-, -,k,-⟩:=q4;exact k
   ·obtain⟨m,c,-, -,k,-⟩:=q4;exact k
  ·rcases h7 with rfl|rfl|rfl
   ·exact q4.2.2
   ·obtain⟨c,-, -, -,k⟩:=q4;exact k
   ·obtain⟨m,c,-, -, -,k⟩:=q4;exact k
 have hG:∀r∈JT 500 cA,∃j g cs,r.id=500+j/\cA[j]? = some (g,cs)/\r.wr=false/\r.cs=cs.map some/\(v0 ad s.params.length args ins bs cA).ν r.id=EC ad g/\(EC ad g).1<GB:=λr hr=>by
  obtain⟨j,g,cs,h1,h2,h3⟩:=eB hr;refine⟨j,g,cs,h1,h2,by rw[h3],by rw[h3],by rw[h1,hνg j _ h2],me _ (Le h2)⟩
 have dj:∀r,r∈(ZZ s.params cA nt).rg->r∈Qu 0 s.params\/r∈JT 500 cA:=λr hr=>jd.1 hr
 have aaS:∀(ps:List GD) (i:Nat) (r r':Rg),r∈Qu i ps->r'∈Qu i ps->r.id=r'.id->r=r':=by
  intro ps
  induction ps with
  |nil=>intro i r r' h;cases h
  | cons p ps ih=>
   intro i r r' h h' he;have oR:∀q∈Qu (i+1) ps,i<q.id:=λq hq=>by
    obtain⟨j,_,_,k,_⟩:=QA hq;omega
   cases p<;>simp only[Qu,IR] at h h'
   case mem ks g wr=>
    rcases h with rfl|h<;>rcases h' with rfl|h'
    ·rfl
    ·have:=oR _ h';simp at he;omega
    ·have:=oR _ h;simp at he;omega
    ·exact ih _ r r' h h' he
   case sl ks g wr=>
    rcases h with rfl|h<;>rcases h' with rfl|h'
    ·rfl
    ·have:=oR _ h';simp at he;omega
    ·have:=oR _ h;simp at he;omega
    ·exact ih _ r r' h h' he
   case fy ks g wr=>
    rcases h with rfl|h<;>rcases h' with rfl|h'
    ·rfl
    ·have:=oR _ h';simp at he;omega
    ·have:=oR _ h;simp at he;omega
    ·exact ih _ r r' h h' he
   all_goals exact ih _ r r' h h' he
 have ah7:∀(gl:fQ) (i:Nat) (r r':Rg),r∈JT i gl->r'∈JT i gl->r.id=r'.id->r=r':=by
  intro gl
  induction gl with
  |nil=>intro i r r' h;cases h
  | cons p ps ih=>
   intro i r r' h h' he;obtain⟨g,cs⟩:=p;have oR:∀q∈JT (i+1) ps,i<q.id:=λq hq=>by
    obtain⟨j,_,_,k,_⟩:=eB hq;omega
   simp only[JT,IR] at h h';rcases h with rfl|h<;>rcases h' with rfl|h'
   ·rfl
   ·have:=oR _ h';simp at he;omega
   ·have:=oR _ h;simp at he;omega
   ·exact ih _ r r' h h' he
 have eA:args.toArray.size=s.params.length:=by simpa using l1
 have htm:∀(i:Nat) (v:Value),args[i]? = some v->(args.toArray++Array.replicate (nt-args.length) undef).getD i undef=v:=λi v hv=>by
  have hi:=(OQ.1 hv).1;rw[Ti,Array.getElem?_append_left (by simpa using hi)];simp[hv]
 have OR:∀(i:Nat) (p:GD),s.params[i]? = some p->p.cE≠none->ED i (Dh (ZZ s.params cA nt).rg)=true:=λi p hp hn=>by
  obtain⟨r,hr,he⟩:=vT (i:=0) hp hn;rw[Km] at he;exact OE.2 ⟨r,List.mem_append_left _ hr,he⟩
 have acM:∀l,500<=l->l<500+cA.length->ED l (Dh (ZZ s.params cA nt).rg)=true:=λl h1 h2=>by
  have hj:l-500<cA.length:=by omega
  obtain⟨r,hr,he⟩:=bu (i:=500) (JC hj);exact OE.2 ⟨r,iB _ hr,by omega⟩
 refine⟨⟨⟨?_,?_,?_,?_,BM.refl _ _,ε⟩,?_,⟨?_,?_,?_⟩,?_,rfl⟩,?_,?_,λ_ _=>rfl,show s.params.length<=2*s.params.length by omega⟩
 ·intro r hr i c hc;rcases dj r hr with hr|hr
  ·obtain⟨p,kl,b,x,h1,h2,h3,h4,h5,h6,h7,h8,h9,lE⟩:=hR r hr;rw[h4,Ng,Vu] at hc;obtain⟨lv,e1,rfl⟩:=hc;obtain⟨k,e2,rfl⟩:=PE e1;have hi:i<kl.length:=(OQ.1 e2).1;have sX:x[i]? = some (x[i]'(by have:=h6.1.1;omega)):=JC _;rw[h8];refine⟨_,h6.2 i k _ e2 sX,λlv e=>?_⟩;cases e;have hd:X.den (v0 ad s.params.length args ins bs cA).ρ (.v r.id i)=x[i]'(by have:=h6.1.1;omega):=by
    show((v0 ad s.params.length args ins bs cA).ρ r.id).getD i 0=_;rw[h9,Gx sX]
   refine⟨by simp only[LV.den,hd],?_⟩;simp only[LV.ok,hd];exact h6.1.2 i k _ e2 sX
  ·obtain⟨j,g,cs,h1,h2,h3,h4,h5,h6⟩:=hG r hr;rw[h4,Ng,Vu] at hc;obtain⟨lv,e1,rfl⟩:=hc;obtain⟨k1,k2⟩:=lR _ (Le h2) i lv e1;rw[h5,h3];have nh:lv.den (gV ad cA)=lv.den (v0 ad s.params.length args ins bs cA):=pO k1 λl hl=>by
    simp only[gV,v0];rw[if_neg (by omega)]
   refine⟨lv.den (v0 ad s.params.length args ins bs cA),⟨?_,λh=>by cases h⟩,λlv' e=>?_⟩
   ·rw[<- nh];exact ε _ _ _ k2
   ·cases e;exact⟨rfl,(Z5 k1 _ 0 _ acM).1⟩
 ·intro r hr r' cL he;rcases dj r hr with hr|hr<;>rcases dj r' cL with cL|cL
  ·exact aaS _ _ r r' hr cL he
  ·obtain⟨j,_,_,k,_⟩:=hG r' cL;obtain⟨_,_,_,_,_,_,_,_,_,_,_,_,_,k'⟩:=hR r hr;omega
  ·obtain⟨j,_,_,k,_⟩:=hG r hr;obtain⟨_,_,_,_,_,_,_,_,_,_,_,_,_,k'⟩:=hR r' cL;omega
  ·exact ah7 _ _ r r' hr cL he
 ·intro r hr r' cL hw cq;rcases dj r hr with hr|hr
  ·obtain⟨p,kl,b,x,h1,h2,h3,h4,h5,h6,h7,h8,h9,lE⟩:=hR r hr;rcases dj r' cL with cL|cL
   ·obtain⟨p',kl',b',x',oY,CM,xo,DG,My,h6',P4,h8',Nd,ahG⟩:=hR r' cL;unfold qO;rw[h8,h8',h4,DG];simp only[Tg,I8,List.length_zipIdx];rcases Nat.lt_or_gt_of_ne cq with cf|cf
    ·have:=Wu hS _ _ p p' b b' h1 oY h2 CM cf;unfold Rz at this;rw[h5,My] at this;rcases this (.inl hw) with⟨q1,q2,q3,q4⟩|q
     ·exact .inl ⟨q1,q2,q3,q4⟩
     ·exact .inr q
    ·have:=Wu hS _ _ p' p b' b oY h1 CM h2 cf;unfold Rz at this;rw[h5,My] at this;rcases this (.inr hw) with⟨q1,q2,q3,q4⟩|q
     ·exact .inl ⟨q1.symm,by rw[<- q1];exact q2,q3.symm,q4.symm⟩
     ·right;unfold ZQ at *;omega
   ·obtain⟨j,g,cs,k1,k2,k3,k4,k5,k6⟩:=hG r' cL
    right
    rw[h8,k5];have:=h7 hw;unfold ZQ
    left
    show b.1≠(EC ad g).1;omega
  ·obtain⟨j,g,cs,k1,k2,k3,k4,k5,k6⟩:=hG r hr;rw[k3] at hw;cases hw
 ·intro r hr hw;rcases dj r hr with hr|hr
  ·obtain⟨p,kl,b,x,h1,h2,h3,h4,h5,h6,h7,h8,h9,lE⟩:=hR r hr;rw[h8];refine⟨h7 hw,λi hi=>.inr ?_⟩;rw[hw] at h5;obtain⟨o,ho,e1,e2⟩:=Yu pe h1 h5;rw[Km] at e1;refine⟨o,ho,?_,?_,?_⟩
   ·rw[e1,Gx h2]
   ·rw[e1,Gx h2];show b.2<=b.2+i;omega
   ·rw[e1,Gx h2,e2];have:i<kl.length:=by rw[h4] at hi;simpa[I8] using hi
    show b.2+i<b.2+kl.length;omega
  ·obtain⟨j,g,cs,k1,k2,k3,k4,k5,k6⟩:=hG r hr;rw[k3] at hw;cases hw
 ·intro r hr lv oA;rcases dj r hr with hr|hr
  ·obtain⟨p,kl,b,x,h1,h2,h3,h4,h5,h6,h7,h8,h9,lE⟩:=hR r hr;rw[h4] at oA;simp only[UT,Ai,exists_eq_right] at oA;obtain⟨i,hi,rfl⟩:=dX oA;obtain⟨k,e2,e3⟩:=PE (JC hi);rw[e3];show Nat.blt r.id (2*s.params.length)=true;exact WL (by omega)
  ·obtain⟨j,g,cs,k1,k2,k3,k4,k5,k6⟩:=hG r hr;rw[k4] at oA;simp only[UT,Ai,exists_eq_right] at oA;obtain⟨i,hi,rfl⟩:=dX oA;exact(Z5 (lR _ (Le k2) i _ (JC hi)).1 ⟨λ_=>[],λ_=>(0,0),λ_=>undef⟩ _ _ acM).2
 ·intro t v hv;have n8:lk t (HT s.params.length 0 s.params)=some v:=hv;obtain⟨j,p,h1,h2,h3⟩:=dM n8;rw[Km] at h1;subst h1;obtain⟨u,x,b,q1,q2,q3,q4⟩:=QM hP _ p h2;have cf:=hlen _ _ h2;rw[htm _ _ q1];have hd0:(v0 ad s.params.length args ins bs cA).ρ t=x:=by rw[hρ _ cf,Gx q2]
  have Lz:(v0 ad s.params.length args ins bs cA).ν t=b:=by rw[hν _ cf,Gx q3]
  have fx:Nat.blt t (2*s.params.length)=true:=WL (by omega);subst h3;cases p with
  |int k=>
   obtain⟨y,rfl,rfl,hy⟩:=q4;have hX:X.den (v0 ad s.params.length args ins bs cA).ρ (.v t 0)=y:=by show((v0 ad s.params.length args ins bs cA).ρ t).getD 0 0=_;rw[hd0];rfl
   exact⟨by simp only[GQ,SV.aE,TV.aq,LV.cQ,hX],by simp only[GQ,SV.ok,TV.ok,LV.ok,hX];exact hy,fx⟩
  |bool=>
   obtain⟨y,rfl,rfl⟩:=q4;have hX:X.den (v0 ad s.params.length args ins bs cA).ρ (.v t 0)=y:=by show((v0 ad s.params.length args ins bs cA).ρ t).getD 0 0=_;rw[hd0];rfl
   exact⟨by simp only[GQ,SV.aE,TV.aq,LV.cg,hX],trivial,fx⟩
  |mem ks g wr=>
   obtain⟨rfl,q5,q6⟩:=q4;exact⟨by simp only[GQ,SV.aE,TV.aq,LV.cx,Lz,P5],trivial,OR _ _ h2 (by simp[GD.cE])⟩
  | agg ks=>
   obtain⟨q5,rfl⟩:=q4;refine⟨?_,?_,?_⟩
   ·simp only[GQ,SV.aE,TV.r7];rw[Sk hd0 q5.1]
   ·exact Wi hd0 q5
   ·simp only[GQ,SV.lt,TV.lt,Mx];intro c hc;obtain⟨i,hi,rfl⟩:=dX hc;obtain⟨k,e2,e3⟩:=PE (JC hi);rw[e3];exact fx
  | sl ks g wr=>
   obtain⟨c,rfl,q5,q6,q7⟩:=q4;have hX:X.den (v0 ad s.params.length args ins bs cA).ρ (.v (s.params.length+t) 0)=(c:Int):=by
    show((v0 ad s.params.length args ins bs cA).ρ (s.params.length+t)).getD 0 0=_;simp only[v0];rw[if_neg (by omega),show s.params.length+t-s.params.length=t by omega,Gx q1];rfl
   refine⟨?_,?_,?_⟩
   ·simp only[GQ,SV.aE,TV.aq,LV.cI,Lz,CX.eW,hX,P5,Nat.sub_zero,SN]
   ·simp only[GQ,SV.ok,TV.ok,LV.ok,CX.eW,hX];omega
   ·simp only[GQ,SV.lt,TV.lt,LV.lt,Bl];exact⟨OR _ _ h2 (by simp[GD.cE]),WL (show s.params.length+t<2*s.params.length by omega)⟩
  | fy ks g wr=>
   obtain⟨m,c,q4,q5,q6,q7⟩:=q4;refine⟨?_,?_,?_⟩
   ·simp only[GQ,SV.aE,TV.aq,LV.den];show u=args.getD t undef;rw[Gx q1]
   ·simp only[GQ,SV.ok,TV.ok,LV.ok];refine⟨m,c,?_,q5⟩;show args.getD t undef=_;rw[Gx q1,q4,Lz];rfl
   ·simp only[GQ,SV.lt,TV.lt,LV.lt,Bl];exact⟨OR _ _ h2 (by simp[GD.cE]),WL (show t<2*s.params.length by omega)⟩
 ·intro g l hg;have hg':lk g (SD 500 cA)=some l:=hg;obtain⟨j,cs,rfl,h2,h3⟩:=r9 hg';refine⟨by rw[hνg j _ h2,EC,if_pos h3],?_⟩;obtain⟨r,hr,he⟩:=bu (i:=500) h2;exact OE.2 ⟨r,iB _ hr,he⟩
 ·intro x hx;have eV:x∈ln0 0 s.params:=hx;obtain⟨j,p,h1,h2,h3⟩:=dO eV;rw[Km] at h1;obtain⟨u,y,b,q1,q2,q3,q4⟩:=QM hP _ p h2;rw[h3,h1,hρ _ (hlen _ _ h2),Gx q2];cases p with
  |int k=>obtain⟨y,rfl,rfl,hy⟩:=q4;rfl
  |bool=>obtain⟨y,rfl,rfl⟩:=q4;rfl
  |mem ks g wr=>exact q4.2.1.1.1
  |agg ks=>exact q4.1.1
  |sl ks g wr=>obtain⟨c,-, -,k,-⟩:=q4;exact k.1.1
  |fy ks g wr=>obtain⟨m,c,-, -,k,-⟩:=q4;exact k.1.1
 ·simp only[Array.size_append,Array.size_replicate,List.size_toArray];show args.length+(nt-args.length)=nt;omega
 ·intro x hx;have eV:x∈ln0 0 s.params:=hx;obtain⟨j,p,h1,h2,h3⟩:=dO eV;have:=hlen _ _ h2;show x.1<2*s.params.length;omega
 ·intro x hx;have eV:x∈i0 bs 0 s.params:=hx;obtain⟨j,p,h1,h2,h3,h4⟩:=UL eV;rw[Km] at h1;refine⟨by rw[h1];exact OR _ _ h2 h3,?_⟩;rw[h4,h1,hν _ (hlen _ _ h2)]
end
end
section
open Go
abbrev Rt:=List (List X×PF)
def Ry(ρ:Br)(ins:List (List Int)):Rt->Prop
 | []=>True
 |(xs,f)::r=>xs.map (·.den ρ)=f ins/\Ry ρ ins r
def RZ(tm:List (Nat×SV))(fr:List Nat):Pw->TV->Option Rt
 | .int k f,.l (.int k' x)=>bif pu k k' then some [([x],λa=>[f a])] else none
 | .bool f,.l (.bool x)=>some [([x],λa=>[f a])]
 | .cy i,.l v=>(match lk i tm with
  |some (.t (.l u))=>bif u.beq v then some [] else none
  |_=>none)
 | .i7 j,.l (.ptr l o)=>(match fr[j]? with
  |some l'=>bif Nat.beq l l'&&Nat.beq o 0 then some [] else none
  |none=>none)
 | .agg ks f,.a cs=>(match Jz cs with
  |some (φ,xs)=>bif KZ ks φ then some [(xs,f)] else none
  |none=>none)
 | .nil,.l .nil=>some []
 | .eg,.l .eg=>some []
 | .ya j n c,.l (.sl l o n' (.n (.lit (.ofNat c'))) d)=>(match fr[j]? with
  |some l'=>bif Nat.beq l l'&&Nat.beq o 0&&Nat.beq n n'&&Nat.beq c c'&&Nat.beq d 0 then some [] else none
  |none=>none)
 | .err,.l (.err _)=>some []
 | .On j n,.l (.sl l o n' _ _)=>(match fr[j]? with
  |some l'=>bif Nat.beq l l'&&Nat.beq o 0&&Nat.beq n n' then some [] else none
  |none=>none)
 | .slP i n c,.l (.sl l o n' (.n (.lit (.ofNat c'))) d)=>(match lk i tm with
  |some (.t (.l (.ptr l' o')))=>bif Nat.beq l' l&&Nat.beq o' o&&Nat.beq n n'&&Nat.beq c c'&&Nat.beq d 0 then some [] else none
  |_=>none)
 |_,_=>none
def Oh(tm:List (Nat×SV))(fr:List Nat):List Pw->List TV->Option Rt
 | [],[]=>some []
 |r::rs,v::vs=>match RZ tm fr r v,Oh tm fr rs vs with
  |some e,some es=>some (e++es)
  |_,_=>none
 |_,_=>none
def fI(j:Nat):List Pw->List TV->Option Nat
 | .i7 i::rs,.l (.ptr l _)::vs=>bif Nat.beq i j then some l else fI j rs vs
 | .ya i _ _::rs,.l (.sl l _ _ _ _)::vs=>bif Nat.beq i j then some l else fI j rs vs
 | .On i _::rs,.l (.sl l _ _ _ _)::vs=>bif Nat.beq i j then some l else fI j rs vs
 |_::rs,_::vs=>fI j rs vs
 |_,_=>none
def iN(rs:List Pw)(vs:List TV):Nat->Nat->Option (List Nat)
 |0,_=>some []
 |n+1,j=>match fI j rs vs,iN rs vs n (j+1) with
  |some l,some ls=>some (l::ls)
  |_,_=>none
def TA(rg:List Rg)(l:Nat)(ks:List IntKind):Option (List X):=
 match gF l rg with
 | some r=>bif r.wr then(match Kc rg l 0 ks.length with
  |some cs=>(match Jz cs with
   |some (φ,xs)=>bif KZ ks φ then some xs else none
   |none=>none)
  |none=>none) else none
 |none=>none
def kK(ps:List GD)(i:Nat):Bool:=match ps[i]? with
 |some p=>p.cE.isSome
 |none=>false
def eX(ps:List GD)(rg:List Rg):List (Nat×List IntKind×PF)->Option Rt
 | []=>some []
 |(i,ks,f)::r=>match TA rg i ks,eX ps rg r with
  |some xs,some es=>bif kK ps i then some ((xs,f)::es) else none
  |_,_=>none
def frC(rg:List Rg)(np l:Nat)(ls:List Nat)(n:Nat):Bool:=Nat.ble np l && !(ED l ls)&&Nat.blt 0 n&&(match gF l rg with
   |some g=>Nat.beq g.gi 0&&Nat.beq g.cs.length n
   |none=>false)
def Nn(rg:List Rg)(np:Nat):List Nat->List (List IntKind×PF)->Option Rt
 | [],[]=>some []
 |l::ls,(ks,f)::r=>bif frC rg np l ls ks.length then(match TA rg l ks,Nn rg np ls r with
  |some xs,some es=>some ((xs,f)::es)
  |_,_=>none) else none
 |_,_=>none
def Ml(C:Cx)(s:BH)(cF:List ResultVar)(st:St):Option Rt:=
 match SG C st cF with
 |none=>none
 | some vs=>match iN s.ret vs s.fresh.length 0 with
  |none=>none
  |some fr=>match eX s.params st.rg s.outs,Nn st.rg s.params.length fr s.fresh,Oh (HT s.params.length 0 s.params) fr s.ret vs with
   |some e1,some e2,some e3=>some (e1++e2++e3)
   |_,_,_=>none
def sZ(C:Cx)(s:BH)(cF:List ResultVar)(ins:List (List Int))(ρ:Br)(ex:Ex)(st:St):Prop:=
 match ex with
 | .exit _=>False
 |_=>match Ml C s cF st with
  |some es=>Ry ρ ins es
  |none=>False
theorem Mm{ρ:Br}{ins:List (List Int)}:∀ {a b:Rt},Ry ρ ins (a++b)↔Ry ρ ins a/\Ry ρ ins b
 | [],b=>⟨λh=>⟨trivial,h⟩,λh=>h.2⟩
 |(xs,f)::a,b=>by
  show(_/\Ry ρ ins (a++b))↔(_/\Ry ρ ins a)/\_;rw[Mm,and_assoc]
theorem Gp{l:Nat}:∀ {is:List Nat},ED l is=true↔l∈is
 | []=>by simp[ED]
 | i::r=>by
  simp only[ED,Bool.or_eq_true,IR,Gp (is:=r)];constructor
  ·rintro(h|h)
   ·exact .inl (CR h).symm
   ·exact .inr h
  ·rintro(h|h)
   ·subst h;exact .inl (Nat.beq_refl _)
   ·exact .inr h
end
section
open Go
theorem WF{E:En}{rg:List Rg}{V:Vl}{w:World}(hm:Oi E rg V w){l:Nat}{ks:List IntKind}{xs:List X}(h:TA rg l ks=some xs):
  ∃r∈rg,r.id=l/\r.wr=true/\gF l rg=some r/\ks.length<=r.cs.length/\AQ true w (V.ν l) ks (xs.map (·.den V.ρ)):=by
 unfold TA at h;split at h
 ·rename_i r hr;cases hw:r.wr with
  |false=>rw[hw] at h;cases h
  | true=>
   rw[hw,cond_true] at h;split at h
   ·rename_i cs cS;split at h
    ·rename_i φ xs' hx;cases hk:KZ ks φ with
     |false=>rw[hk] at h;cases h
     | true=>
      rw[hk,cond_true,Ai] at h;subst h;obtain⟨hl,r',cL,hid,hle,cY⟩:=GN cS;obtain⟨dj,afc⟩:=KD hr;have:r'=r:=hm.one r' cL r dj (by rw[hid,afc]);subst this;obtain⟨k1,k2,k3⟩:=Mi (V:=V) hx hk;have fS:∀c∈cs,c.ok V:=λc hc=>by
       obtain⟨i,hi,rfl⟩:=dX hc;exact(hm.read cS i _ (JC hi)).2
      refine⟨r',dj,hid,hw,hr,by omega,Np hx hk fS,λi k x hki sX=>?_⟩;have hv:(cs.map (·.den V))[i]? = some (.int k x):=by
       rw[k1];unfold Aj;rw[List.getElem?_zipWith,hki,sX]
      rw[Ng,Vu] at hv;obtain⟨c,hc,FA⟩:=hv;obtain⟨v,g1,g2⟩:=hm.pH r' cL (0+i) (some c) (cY i c hc);rw[hw,hid,Km] at g1;rw[<- FA, <- (g2 c rfl).1];exact g1
    ·cases h
   ·cases h
 ·cases h
theorem wN{ps:List GD}{rg:List Rg}{ρ:Br}{ins:List (List Int)}:∀ {outs:List (Nat×List IntKind×PF)} {es:Rt},eX ps rg outs=some es->Ry ρ ins es->
  ∀p∈outs,kK ps p.1=true/\∃xs,TA rg p.1 p.2.1=some xs/\xs.map (·.den ρ)=p.2.2 ins
 | [],es,_,_,p,hp=>by cases hp
 | (i,ks,f)::r,es,h,he,p,hp=>by
  unfold eX at h;split at h
  ·rename_i xs es' h1 h2;cases hb:kK ps i with
   |false=>rw[hb] at h;cases h
   |true=>
    rw[hb,cond_true,Ai] at h;subst h;rcases IR.1 hp with rfl|hp
    ·exact⟨hb,xs,h1,he.1⟩
    ·exact wN h2 he.2 p hp
  ·cases h
theorem ae{rg:List Rg}{np:Nat}{ρ:Br}{ins:List (List Int)}:∀ {ls:List Nat} {fr:List (List IntKind×PF)} {es:Rt},Nn rg np ls fr=some es->Ry ρ ins es->
  ls.length=fr.length/\(∀(j:Nat) (l:Nat) (p:List IntKind×PF),ls[j]? = some l->fr[j]? = some p->np<=l/\0<p.1.length/\(∃g,gF l rg=some g/\g.gi=0/\g.cs.length=p.1.length)/\∃xs,TA rg l p.1=some xs/\xs.map (·.den ρ)=p.2 ins)/\
  (∀(i j:Nat) (l m:Nat),ls[i]? = some l->ls[j]? = some m->i<j->l≠m)
 | [],[],es,_,_=>⟨rfl,λj l p h=>by simp at h,λi j l m h=>by simp at h⟩
 | [],_::_,es,h,_=>by simp[Nn] at h
 |_::_,[],es,h,_=>by simp[Nn] at h
 | l :: ls,(ks,f)::r,es,h,he=>by
  unfold Nn at h;generalize hc:frC rg np l ls ks.length=c at h;cases c with
  |false=>cases h
  | true=>
   rw[cond_true] at h;simp only[frC,Bl,Bool.not_eq_true'] at hc;split at h
   ·rename_i xs es' h1 h2;simp only[Ai] at h;subst h;obtain⟨g1,g2,g3⟩:=ae h2 he.2;refine⟨by simp[g1],λj l' p hl hp=>?_,λi j l' m hl hm vr=>?_⟩
    ·cases j with
     | zero=>
      simp only[Ul,Ai] at hl hp;subst hl;subst hp;refine⟨MQ hc.1.1.1,D7 hc.1.2,?_,xs,h1,he.1⟩;cases hg:gF l rg with
      |none=>rw[hg] at hc;cases hc.2
      |some g=>
       rw[hg] at hc;have h4:=hc.2;simp only[Bl] at h4;exact⟨g,rfl,CR h4.1,CR h4.2⟩
     |succ j=>exact g2 j l' p (by simpa using hl) (by simpa using hp)
    ·cases j with
     |zero=>omega
     | succ j=>
      cases i with
      |zero=>
       simp only[Ul,Ai] at hl;subst hl;simp only[yl] at hm;intro e;subst e;have:=Gp.2 (Le hm);rw[this] at hc;cases hc.1.1.2
      |succ i=>exact g3 i j l' m (by simpa using hl) (by simpa using hm) (by omega)
   ·cases h
theorem AEG{tm:List (Nat×SV)}{fr:List Nat}{V:Vl}{ins:List (List Int)}{args:List Value}(htm:∀i u,lk i tm=some (.t (.l u))->args[i]? = some (u.den V)){r:Pw}{v:TV}{es:Rt}(h:RZ tm fr r v=some es)(he:Ry V.ρ ins es)(hv:v.ok V):
  RV r ins args (fr.map V.ν) (v.den V):=by
 unfold RZ at h;split at h
 ·rename_i k f k' x;cases hk:pu k k' with
  |false=>rw[hk] at h;cases h
  |true=>
   rw[hk,cond_true,Ai] at h;subst h;have:=NK hk;subst this;have h1:=he.1;simp only[NE,Uf,List.cons.injEq,and_true] at h1;simp only[RV,TV.aq,LV.cQ];rw[<- h1];exact⟨rfl,hv⟩
 ·rename_i f x;simp only[Ai] at h;subst h;have h1:=he.1;simp only[NE,Uf,List.cons.injEq,and_true] at h1;simp only[RV,TV.aq,LV.cg];rw[<- h1]
 ·rename_i i v;split at h
  ·rename_i u hu;cases hb:u.beq v with
   |false=>rw[hb] at h;cases h
   |true=>
    have:=LV.beq_eq hb;subst this;exact htm i u hu
  ·cases h
 ·rename_i j l o;split at h
  ·rename_i l' hl;cases hb:(Nat.beq l l'&&Nat.beq o 0) with
   |false=>rw[hb] at h;cases h
   |true=>
    simp only[Bl] at hb;have e1:=CR hb.1;have e2:=CR hb.2;subst e1;subst e2;exact⟨V.ν l,by rw[Ng,hl];rfl,by simp only[TV.aq,LV.cx,P5]⟩
  ·cases h
 ·rename_i ks f cs;split at h
  ·rename_i φ xs hx;cases hk:KZ ks φ with
   |false=>rw[hk] at h;cases h
   |true=>
    rw[hk,cond_true,Ai] at h;subst h;have h1:=he.1;obtain⟨k1,k2,k3⟩:=Mi (V:=V) hx hk;have h2:=Np (V:=V) hx hk hv;simp only[RV,TV.r7];rw[<- h1,k1];exact⟨h2,rfl⟩
  ·cases h
 ·rfl
 ·rfl
 ·rename_i j n c l o n' c' d;split at h
  ·rename_i l' hl;cases hb:(Nat.beq l l'&&Nat.beq o 0&&Nat.beq n n'&&Nat.beq c c'&&Nat.beq d 0) with
   |false=>rw[hb] at h;cases h
   |true=>
    simp only[Bl] at hb;have e1:=CR hb.1.1.1.1;have e2:=CR hb.1.1.1.2;have e3:=CR hb.1.1.2;have e4:=CR hb.1.2;have e5:=CR hb.2;subst e1;subst e2;subst e3;subst e4;subst e5;exact⟨V.ν l,by rw[Ng,hl];rfl,by simp only[TV.aq,LV.cI,P5,CX.eW,X.be,Nat.sub_zero];rfl⟩
  ·cases h
 ·exact hv
 ·rename_i j n l o n' c d;split at h
  ·rename_i l' hl;cases hb:(Nat.beq l l'&&Nat.beq o 0&&Nat.beq n n') with
   |false=>rw[hb] at h;cases h
   |true=>
    simp only[Bl] at hb;have e1:=CR hb.1.1;have e2:=CR hb.1.2;have e3:=CR hb.2;subst e1;subst e2;subst e3;have n8:((n+d:Nat):Int)<=c.den V:=hv;exact⟨V.ν l,(c.den V).toNat-d,by rw[Ng,hl];rfl,by omega,by simp only[TV.aq,LV.cI,P5]⟩
  ·cases h
 ·rename_i i n c l o n' c' d;split at h
  ·rename_i l' o' hu;cases hb:(Nat.beq l' l&&Nat.beq o' o&&Nat.beq n n'&&Nat.beq c c'&&Nat.beq d 0) with
   |false=>rw[hb] at h;cases h
   |true=>
    simp only[Bl] at hb;have e1:=CR hb.1.1.1.1;have e2:=CR hb.1.1.1.2;have e3:=CR hb.1.1.2;have e4:=CR hb.1.2;have e5:=CR hb.2;subst e1;subst e2;subst e3;subst e4;subst e5;have:=htm i _ hu;rw[LV.cx] at this;exact⟨((V.ν l').1,(V.ν l').2+o'),this,by simp only[TV.aq,LV.cI,CX.eW,X.be,Nat.sub_zero];rfl⟩
  ·cases h
 ·cases h
theorem jT{tm:List (Nat×SV)}{fr:List Nat}{V:Vl}{ins:List (List Int)}{args:List Value}(htm:∀i u,lk i tm=some (.t (.l u))->args[i]? = some (u.den V)):∀ {rs:List Pw} {vs:List TV} {es:Rt},Oh tm fr rs vs=some es->Ry V.ρ ins es->(∀v∈vs,v.ok V)->
  pg ins args (fr.map V.ν) rs (vs.map (·.den V))
 | [],[],es,_,_,_=>trivial
 | [],_::_,es,h,_,_=>by simp[Oh] at h
 |_::_,[],es,h,_,_=>by simp[Oh] at h
 | r::rs,v::vs,es,h,he,hv=>by
  unfold Oh at h;split at h
  ·rename_i e1 e2 h1 h2;simp only[Ai] at h;subst h;have:=Mm.1 he;exact⟨AEG htm h1 this.1 (hv v Kh),jT htm h2 this.2 λu hu=>hv u (Lv _ hu)⟩
  ·cases h
structure Vt (P:Program) (C:Cx) (GB:Nat) (GC:Nat->Nat->Option Value):Prop where
 ok:∀(B:World) (S:Nat->Nat->Prop) (I:List (Nat×(Nat×Nat))) (sn:Nat) (σ0:Nat->Value),GB<=B.heap.size->P7 ⟨P,C,B,S,GB,GC,I,sn,σ0⟩
 il:∀f i,lk f C.inl=some i->(∀args w,(callFunc f args).run P w= .ok (.enter f args) w)/\∃fn,P.funcs[f]? = some fn/\fn.body=some i.c/\fn.ntmps=i.nt/\fn.results.toList=i.cF
def PIn:GD->List Int->Prop
 | .int k,xs=>∃x,xs= [x]/\IU k x
 | .bool,xs=>∃x,xs= [x]
 | .mem ks _ _,xs=>La ks xs
 | .agg ks,xs=>La ks xs
 | .sl ks _ _,xs=>La ks xs
 | .fy ks _ _,xs=>La ks xs
def Uw:List GD->List (List Int)->Prop
 | [],[]=>True
 |p::ps,x::xs=>PIn p x/\Uw ps xs
 |_,_=>False
theorem gG{GB:Nat}{w:World}:∀ {ps:List GD} {vs:List Value} {xs:List (List Int)} {bs:List (Nat×Nat)},KH GB w ps vs xs bs->Uw ps xs
 | [],[],[],[],_=>trivial
 |p::ps,v::vs,x::xs,b::bs,h=>by
  refine⟨?_,gG h.2⟩;have h1:=h.1;cases p with
  |int k=>obtain⟨y,h2,_,h3⟩:=h1;exact⟨y,h2,h3⟩
  |bool=>obtain⟨y,h2,_⟩:=h1;exact⟨y,h2⟩
  |mem ks g wr=>exact h1.2.1.1
  |agg ks=>exact h1.1
  |sl ks g wr=>obtain⟨c,_,_,h2,_⟩:=h1;exact h2.1
  |fy ks g wr=>obtain⟨m,c,_,_,h2,_⟩:=h1;exact h2.1
def nC(C:Cx)(n:Nat)(c:Code)(nt:Nat)(cF:List ResultVar)(cA:fQ)(s:BH)(hyp:List (List Int)->Prop):Prop:=
 ∀(ins:List (List Int)) (ρ:Br),Uw s.params ins->hyp ins->(∀i,i<s.params.length->ρ i=ins.getD i [])->
  (OT C n [] c (ZZ s.params cA nt)).Holds C.T (sZ C s cF ins) ρ
theorem AOI{P:Program}{C:Cx}{GB:Nat}{GC:Nat->Nat->Option Value}(hC:Vt P C GB GC){f:Nat}{fn:Func}{c:Code}{s:BH}{cA:fQ}{hyp:List (List Int)->Prop}{n:Nat}{ad:Nat->Nat×Nat}
  (hf:P.funcs[f]? = some fn) (hb:fn.body=some c) (ω:∀E:En,E.P=P->E.C=C->E.GB=GB->E.GC=GC->J9 E c/\∀f i,lk f C.inl=some i->J9 E i.c) (pe:NP s.outs 0 s.params=true) (lR:Ty GC ad cA) (me:∀x∈cA,(EC ad x.1).1<GB) (As:s.params.length<=fn.ntmps) (iu:s.params.length<=500)
  (ht:nC C n c fn.ntmps fn.results.toList cA s hyp):
  ∀(args:List Value) (ins:List (List Int)) (bs:List (Nat×Nat)) (w:World),GW GC w->GB<=w.heap.size->KH GB w s.params args ins bs->Fv s.params bs->hyp ins->
   Calls P f args.toArray w λe w'=>∃fb vs,e= .returned (PZ vs)/\Yv GC s args ins bs w fb vs w':=by
 intro args ins bs w ε δ hP hS hy;have hE:=hC.ok w (Wj s bs) (i0 bs 0 s.params) s.params.length (λi=>args.getD i undef) δ;have mj:=dS (P:=P) (C:=C) (cA:=cA) (nt:=fn.ntmps) hE.gc ε δ hP hS pe lR me As iu;refine calls_of_wp hf hb ?_;have hρ0:∀ ρ',JW (2*s.params.length) (v0 ad s.params.length args ins bs cA).ρ ρ'->∀i,i<s.params.length->ρ' i=ins.getD i []:=fun ρ' h i hi=>by
  rw[h i (by omega)];simp[v0,hi]
 have hT:(OT C n [] c (ZZ s.params cA fn.ntmps)).cv C.T (fun ρ ex st=>JW (2*s.params.length) (v0 ad s.params.length args ins bs cA).ρ ρ/\sZ C s fn.results.toList ins ρ ex st) (2*s.params.length) (v0 ad s.params.length args ins bs cA).ρ:=fun ρ' h=>
  Js (λex st hh=>⟨h,hh⟩) (ht ins ρ' (gG hP) hy (hρ0 ρ' h))
 have KB:=ω ⟨P,C,w,Wj s bs,GB,GC,i0 bs 0 s.params,s.params.length,λi=>args.getD i undef⟩ rfl rfl rfl rfl;have hex:=Xi hE hC.il KB.2 n (i0 bs 0 s.params) s.params.length (λi=>args.getD i undef) _ [] c _ _ _ _ (λx hx=>(by cases hx)) trivial KB.1 rfl mj hT;have eA:args.toArray.size=args.length:=by simp
 rw[eA];refine wp_mono (KI hex) ?_;rintro e a' w' ⟨ex,st,V,hx,gh,HO,hΦ⟩;obtain⟨gk,hL⟩:=hΦ V.ρ (JW.refl _ _);have key:∀es,Ml C s fn.results.toList st=some es->Ry V.ρ ins es->a'.defers= []/\∃v,(results fn a'.tmps).run P w'= .ok v w'/\∃fb vs,Ending.returned v= .returned (PZ vs)/\Yv GC s args ins bs w fb vs w':=by
  intro es nn heq;refine⟨HO.s.df,?_⟩;unfold Ml at nn;split at nn
  ·cases nn
  rename_i vs oE;split at nn
  ·cases nn
  rename_i fr AH;split at nn
  ·rename_i e1 e2 e3 h1 h2 h3;simp only[Ai] at nn;subst nn;obtain⟨wv,q3⟩:=Mm.1 heq;obtain⟨q1,q2⟩:=Mm.1 wv;obtain⟨r1,r2⟩:=Wm hE gh HO oE;have hm:Oi ⟨P,C,w,Wj s bs,GB,GC,i0 bs 0 s.params,s.params.length,λi=>args.getD i undef⟩ st.rg V w':=HO.s.m;have abA:=wN h1 q1;obtain⟨g1,g2,g3⟩:=ae h2 q2;have hνp:∀(i:Nat) (p:GD),s.params[i]? = some p->p.cE≠none->V.ν i=bs.getD i (0,0):=λi p hp hn=>by
    have:=WP (bs:=bs) (i:=0) hp hn;rw[Km] at this;exact(HO.kp _ this).2
   have hνo:∀p∈s.outs,V.ν p.1=bs.getD p.1 (0,0)/\p.1<s.params.length:=λp hp=>by
    have:=(abA p hp).1;unfold kK at this;split at this
    ·rename_i q hq;exact⟨hνp _ q hq (λe=>by rw[e] at this;cases this),(OQ.1 hq).1⟩
    ·cases this
   have vi:∀(j l:Nat) (p:List IntKind×PF),fr[j]? = some l->s.fresh[j]? = some p->∃r∈st.rg,r.id=l/\r.wr=true/\r.gi=0/\r.cs.length=p.1.length/\0<p.1.length/\s.params.length<=l/\AQ true w' (V.ν l) p.1 (p.2 ins):=λj l p hl hp=>by
    obtain⟨k1,k2,⟨g,k3,k4,k5⟩,xs,k6,k7⟩:=g2 j l p hl hp;obtain⟨r,m1,m2,m3,m4,m5,m6⟩:=WF hm k6;rw[k3] at m4;cases m4;rw[k7] at m6;exact⟨g,m1,m2,m3,k4,k5,k2,k1,m6⟩
   refine⟨PZ (vs.map (·.den V)),?_,fr.map V.ν,vs.map (·.den V),rfl,?_,?_,?_,HO.s.m.an,?_,?_,?_,HO.s.m.gw⟩
   ·have aad:results fn a'.tmps=(do
      let vs <- fn.results.mapM (Ub a')
      pure (if h:vs.size=1 then vs[0] else .tuple vs)):=by
     unfold results
     congr 1
    rw[aad];rw[Array.mapM_eq_mapM_toList];simp only[map_eq_pure_bind,bind_assoc,pure_bind,IY,r1,Hm,KT];cases vs with
    |nil=>rfl
    |cons v vs=>
     cases vs with
     |nil=>rfl
     |cons u vs=>rfl
   ·simp[g1]
   ·intro b hb;obtain⟨l,hl,rfl⟩:=UT.1 hb;obtain⟨j,hj,rfl⟩:=dX hl;have hj2:j<s.fresh.length:=by omega
    obtain⟨r,m1,m2,m3,m4,m5,m6,m7,m8⟩:=vi j _ _ (JC hj) (JC hj2);obtain⟨c1,c2⟩:=hm.sY r m1 m3;rw[m2] at c2;rcases c2 0 (by omega) with h|⟨p,hp,s1,s2,s3⟩
    ·exact h
    ·exfalso;obtain⟨AW,xs,ot,hp3⟩:=abA p hp;obtain⟨r2,n1,n2,n3,n4,n5,n6⟩:=WF hm ot;obtain⟨o1,o2⟩:=hνo p hp;have ki:=hm.sep r m1 r2 n1 m3 (by omega);unfold qO at ki;rcases ki with⟨_,h,_⟩|hd
     ·exact h m4
     ·rw[m2,n2,o1] at hd;unfold ZQ at hd;omega
   ·intro i j p q b c hp hq hb hc vr;rw[Ng,Vu] at hb hc;obtain⟨l,hl,rfl⟩:=hb;obtain⟨m,jt,rfl⟩:=hc;obtain⟨r,m1,m2,m3,m4,m5,m6,m7,m8⟩:=vi i l p hl hp;obtain⟨r',m1',m2',m3',m4',m5',m6',m7',m8'⟩:=vi j m q jt hq;have cq:l≠m:=by
     rcases Nat.lt_or_gt_of_ne vr with h|h
     ·exact g3 i j l m hl jt h
     ·exact(g3 j i m l jt hl h).symm
    have ki:=hm.sep r m1 r' m1' m3 (by omega);unfold qO at ki;rcases ki with⟨_,h,_⟩|hd
    ·exact absurd m4 h
    ·rw[m2,m2',m5,m5'] at hd;exact hd
   ·intro p hp;obtain⟨AW,xs,ot,hp3⟩:=abA p hp;obtain⟨r2,n1,n2,n3,n4,n5,n6⟩:=WF hm ot;rw[(hνo p hp).1,hp3] at n6;exact n6
   ·intro j p b hp hb;rw[Ng,Vu] at hb;obtain⟨l,hl,rfl⟩:=hb;obtain⟨r,m1,m2,m3,m4,m5,m6,m7,m8⟩:=vi j l p hl hp;exact m8
   ·refine jT (λi u hu=>?_) h3 q3 r2;obtain⟨j,p,e1,e2,e3⟩:=dM hu;rw[Km] at e1;subst e1;obtain⟨v,x,b,p1,p2,p3,p4⟩:=QM hP _ p e2;have cf:i<s.params.length:=(OQ.1 e2).1;rw[p1];have hi:V.ρ i=x:=by rw[gk i (by omega)];simp only[v0,cf,if_true];exact Gx p2
    cases p with
    |int k=>
     simp only[GQ,SV.t.injEq,TV.l.injEq] at e3;subst e3;obtain⟨y,rfl,rfl,_⟩:=p4;simp only[LV.cQ,X.den,hi];rfl
    |bool=>
     simp only[GQ,SV.t.injEq,TV.l.injEq] at e3;subst e3;obtain⟨y,rfl,rfl⟩:=p4;simp only[LV.cg,X.den,hi];rfl
    |mem ks g wr=>
     simp only[GQ,SV.t.injEq,TV.l.injEq] at e3;subst e3;obtain⟨rfl,_⟩:=p4;rw[LV.cx,hνp _ _ e2 (by simp[GD.cE]),Gx p3];rfl
    |agg ks=>simp[GQ] at e3
    | sl ks g wr=>
     simp only[GQ,SV.t.injEq,TV.l.injEq] at e3;subst e3;obtain⟨c,rfl,_⟩:=p4;have hc:V.ρ (s.params.length+i)= [(c:Int)]:=by
      rw[gk _ (by omega)];simp only[v0];rw[if_neg (by omega),show s.params.length+i-s.params.length=i by omega,Gx p1];rfl
     rw[LV.cI,hνp _ _ e2 (by simp[GD.cE]),Gx p3];simp only[CX.den,X.den,hc,P5,Nat.sub_zero];rfl
    |fy ks g wr=>
     simp only[GQ,SV.t.injEq,TV.l.injEq] at e3;subst e3;simp only[LV.den];rw[HO.ks i (show i<s.params.length from cf)];show some v=some (args.getD i undef);rw[Gx p1]
  ·cases nn
 cases hx with
 |normal=>
  simp only[sZ] at hL;split at hL
  ·rename_i es nn;exact key es nn hL
  ·exact hL.elim
 |exit id=>exact hL.elim
 |ret=>
  simp only[sZ] at hL;split at hL
  ·rename_i es nn;exact key es nn hL
  ·exact hL.elim
end
section
open Go
def Dl(T:Tb):Br->List (Nat×GG)->Br
 |ρ,[]=>ρ
 |ρ,(n,d)::r=>Dl T (λi=>if i=n then d.den T ρ else ρ i) r
def WG(T:Tb):Bz->Br->Option (Br×St)
 | .leaf _ st,ρ=>some (ρ,st)
 | .fz ds _ t,ρ=>WG T t (Dl T ρ ds)
 | .br x t f,ρ=>if x.den ρ=0 then WG T f ρ else WG T t ρ
 | .j8 f as t e,ρ=>match lk f T with
  |some fe=>cond (fe.oe (as.map (·.den ρ))) (WG T t ρ) (WG T e ρ)
  |none=>none
 | .dc _ k,ρ=>WG T k ρ
 | .bad _,_=>none
def EY(T:Tb):Bz->Br->Prop
 | .leaf _ _,_=>True
 | .fz ds ob t,ρ=>(∀q∈ob,q.den T (Dl T ρ ds))/\EY T t (Dl T ρ ds)
 | .br x t f,ρ=>(x.den ρ=0->EY T f ρ)/\(x.den ρ≠0->EY T t ρ)
 | .j8 f as t e,ρ=>match lk f T with
  |some fe=>(fe.oe (as.map (·.den ρ))=true->EY T t ρ)/\(fe.oe (as.map (·.den ρ))=false->EY T e ρ)
  |none=>False
 | .dc t k,ρ=>EY T t ρ/\EY T k ρ
 | .bad _,_=>False
def Ce(ins:List (List Int)):Br:=λi=>ins.getD i []
def gC(m i:Nat):Bool:=Nat.beq (Nat.land (Nat.shiftRight m i) 1) 1
def X.gC(m:Nat):X->Bool
 | .lit _=>true
 | .v i _=>Go.Proofs.YtloibefkijfdlaaGreatDoor.gC m i
def IZ.gC(m:Nat):IZ->Bool
 | .vec j=>Go.Proofs.YtloibefkijfdlaaGreatDoor.gC m j
 | .xs l=>l.all (·.gC m)
def iP(m n:Nat):Nat:=Nat.lor m (Nat.shiftLeft 1 n)
def mU:Nat->List (Nat×GG)->Option Nat
 |m,[]=>some m
 |m,(n,d)::r=>bif d.args.all (·.gC m) then mU (iP m n) r else none
def JU.gC(m:Nat):JU->Bool
 | .jn x _=>x.gC m
 | .vq x=>x.gC m
 | .vn x=>x.gC m
 | .nz x=>x.gC m
 | .zr x=>x.gC m
 | .pre _ as=>as.all (·.gC m)
def fJ(T:Tb):Nat->Bz->Bool
 |_,.leaf _ _=>true
 |m,.fz ds ob t=>(match mU m ds with
  |some m'=>ob.all (·.gC m')&&fJ T m' t
  |none=>false)
 |m,.br x t f=>x.gC m&&fJ T m t&&fJ T m f
 |m,.j8 f as t e=>as.all (·.gC m)&&(lk f T).isSome&&fJ T m t&&fJ T m e
 |m,.dc t k=>fJ T m t&&fJ T m k
 |_,.bad _=>false
def V9(T:Tb)(L:Ex->St->Option Rt):Nat->Bz->Bool
 |m,.leaf e st=>(match L e st with
  |some es=>es.all λe=>e.1.all (·.gC m)
  |none=>false)
 |m,.fz ds ob t=>(match mU m ds with
  |some m'=>ob.all (·.gC m')&&V9 T L m' t
  |none=>false)
 |m,.br x t f=>x.gC m&&V9 T L m t&&V9 T L m f
 |m,.j8 f as t e=>as.all (·.gC m)&&(lk f T).isSome&&V9 T L m t&&V9 T L m e
 |m,.dc t k=>fJ T m t&&V9 T L m k
 |_,.bad _=>false
def pX:Nat->List (Nat×GG)->Option Nat
 |m,[]=>some m
 |m,(n,d)::r=>match d.op with
  | .rN=>pX (iP m n) r
  | .sC=>pX (iP m n) r
  |_=>bif gC m n then none else pX m r
def gQ(m:Nat):JU->Bool
 | .vn (.lit n)=>Iw n 0||Iw n 1
 | .vn (.v n k)=>Nat.beq k 1&&gC m n
 |_=>false
def Nb:Nat->Bz->Bool
 |_,.leaf _ _=>true
 |m,.fz ds ob t=>(match pX m ds with
  |some m'=>ob.all (gQ m')&&Nb m' t
  |none=>false)
 |m,.br _ t f=>Nb m t&&Nb m f
 |m,.j8 _ _ t e=>Nb m t&&Nb m e
 |m,.dc t k=>Nb m t&&Nb m k
 |_,.bad _=>true
def AKe(t:Bz):Bool:=Nb 0 t
def RM(m:Nat)(ρ ρc:Br):Prop:=∀i,gC m i=true->ρ i=ρc i
theorem X.cD{m:Nat}{ρ ρc:Br}(h:RM m ρ ρc){x:X}(hx:x.gC m=true):x.den ρ=x.den ρc:=by
 cases x with
 |lit n=>rfl
 |v i k=>simp only[X.den];rw[h i hx]
theorem IZ.cD{m:Nat}{ρ ρc:Br}(h:RM m ρ ρc){x:IZ}(hx:x.gC m=true):x.den ρ=x.den ρc:=by
 cases x with
 |vec j=>exact h j hx
 |xs l=>
  simp only[IZ.den];exact Zx λx eV=>X.cD h (Mx.1 hx x eV)
theorem oS.cD{m:Nat}{ρ ρc:Br}(h:RM m ρ ρc){l:List IZ}(hx:l.all (·.gC m)=true):l.map (·.den ρ)=l.map (·.den ρc):=
 Zx λx eV=>IZ.cD h (Mx.1 hx x eV)
theorem SS(m i:Nat):gC m i=m.testBit i:=by
 unfold gC Nat.testBit;show Nat.beq ((m >>> i) &&& 1) 1=(1 &&& (m >>> i) != 0);rw[Nat.and_comm 1];have h:(m >>> i) &&& 1=(m >>> i)%2:=Nat.and_one_is_mod _;rw[h];rcases Nat.mod_two_eq_zero_or_one (m >>> i) with h|h<;>rw[h]<;>rfl
theorem sO(m n i:Nat):gC (iP m n) i=(gC m i||decide (i=n)):=by
 rw[SS,SS];show(m ||| 1 <<< n).testBit i=_;rw[Nat.testBit_or,Nat.shiftLeft_eq,Nat.one_mul,Nat.testBit_two_pow]
 congr 1
 by_cases h:n=i
 ·subst h;simp
 ·simp[h,Ne.symm h]
theorem X6{T:Tb}:∀ {ds:List (Nat×GG)} {m m':Nat} {ρ ρc:Br},mU m ds=some m'->RM m ρ ρc->Tp T ρ ds->RM m' ρ (Dl T ρc ds)
 | [],m,m',ρ,ρc,h,hr,_=>by
  simp only[mU,Ai] at h;subst h;exact hr
 | (n,d)::r,m,m',ρ,ρc,h,hr,hd=>by
  unfold mU at h;cases hb:d.args.all (·.gC m) with
  |false=>rw[hb] at h;cases h
  | true=>
   rw[hb,cond_true] at h;show RM m' ρ (Dl T (λi=>if i=n then d.den T ρc else ρc i) r);refine X6 h (λi hi=>?_) (λp hp=>hd p (Lv _ hp));rw[sO] at hi;by_cases e:i=n
   ·subst e;simp only[if_true];rw[hd (i,d) Kh];simp only[GG.den,oS.cD hr hb]
   ·simp only[e,if_false];exact hr i (by simpa[e] using hi)
theorem JU.cD{T:Tb}{m:Nat}{ρ ρc:Br}(h:RM m ρ ρc){q:JU}(hq:q.gC m=true):q.den T ρ↔q.den T ρc:=by
 cases q with
 |jn x n=>simp only[JU.den];rw[X.cD h hq]
 |vq x=>simp only[JU.den];rw[X.cD h hq]
 |vn x=>simp only[JU.den];rw[X.cD h hq]
 |nz x=>simp only[JU.den];rw[X.cD h hq]
 |zr x=>simp only[JU.den];rw[X.cD h hq]
 |pre f as=>simp only[JU.den];rw[oS.cD h hq]
theorem LH{T:Tb}{ρ:Br}:∀ {t:Bz} {m:Nat} {ρc:Br},fJ T m t=true->RM m ρ ρc->EY T t ρc->t.fk T ρ
 | .leaf e st,m,ρc,h,hr,_=>trivial
 | .fz ds ob t,m,ρc,h,hr,ho=>λhd=>by
  unfold fJ at h;split at h
  ·rename_i m' hm;simp only[Bl] at h;have cL:=X6 hm hr hd;exact⟨λq hq=>(JU.cD cL (Mx.1 h.1 q hq)).2 (ho.1 q hq),LH h.2 cL ho.2⟩
  ·cases h
 | .br x t f,m,ρc,h,hr,ho=>by
  simp only[fJ,Bl] at h;have hx:=X.cD hr h.1.1;refine⟨λcq=>?_,λhe=>?_⟩
  ·rw[hx] at cq;exact LH h.1.2 hr (ho.2 cq)
  ·rw[hx] at he;exact LH h.2 hr (ho.1 he)
 | .j8 f as t e,m,ρc,h,hr,ho=>by
  simp only[fJ,Bl] at h;have hx:=oS.cD hr h.1.1.1;unfold EY at ho;unfold Bz.fk;cases hf:lk f T with
  |none=>rw[hf] at ho;exact ho.elim
  |some fe=>
   rw[hf] at ho;simp only at ho ⊢;rw[hx];exact⟨λhc=>LH h.1.2 hr (ho.1 hc),λhc=>LH h.2 hr (ho.2 hc)⟩
 | .dc t k,m,ρc,h,hr,ho=>by
  simp only[fJ,Bl] at h;exact⟨LH h.1 hr ho.1,LH h.2 hr ho.2⟩
 | .bad _,m,ρc,h,_,_=>by cases h
theorem Ns{T:Tb}{L:Ex->St->Option Rt}{Φ:Br->Ex->St->Prop}{ρ:Br}{ρL:Br}{sR:St}
  (hΦ:∀ex st m,V9 T L m (.leaf ex st)=true->RM m ρ ρL->st=sR->Φ ρ ex st):∀ {t:Bz} {m:Nat} {ρc:Br},V9 T L m t=true->RM m ρ ρc->EY T t ρc->WG T t ρc=some (ρL,sR)->t.Holds T Φ ρ
 | .leaf e st,m,ρc,h,hr,_,hv=>by
  simp only[WG,Ai,Prod.mk.injEq] at hv;obtain⟨rfl,rfl⟩:=hv;exact hΦ e st m h hr rfl
 | .fz ds ob t,m,ρc,h,hr,ho,hv=>λhd=>by
  unfold V9 at h;split at h
  ·rename_i m' hm;simp only[Bl] at h;have cL:=X6 hm hr hd;exact⟨λq hq=>(JU.cD cL (Mx.1 h.1 q hq)).2 (ho.1 q hq),Ns hΦ h.2 cL ho.2 hv⟩
  ·cases h
 | .br x t f,m,ρc,h,hr,ho,hv=>by
  simp only[V9,Bl] at h;have hx:=X.cD hr h.1.1;refine⟨λcq=>?_,λhe=>?_⟩
  ·rw[hx] at cq;simp only[WG,if_neg cq] at hv;exact Ns hΦ h.1.2 hr (ho.2 cq) hv
  ·rw[hx] at he;simp only[WG,if_pos he] at hv;exact Ns hΦ h.2 hr (ho.1 he) hv
 | .j8 f as t e,m,ρc,h,hr,ho,hv=>by
  simp only[V9,Bl] at h;have hx:=oS.cD hr h.1.1.1;unfold EY at ho;unfold WG at hv;unfold Bz.Holds;cases hf:lk f T with
  |none=>rw[hf] at ho;exact ho.elim
  |some fe=>
   rw[hf] at ho hv;simp only at ho hv ⊢;rw[hx];refine⟨λhc=>?_,λhc=>?_⟩
   ·rw[hc] at hv;exact Ns hΦ h.1.2 hr (ho.1 hc) hv
   ·rw[hc] at hv;exact Ns hΦ h.2 hr (ho.2 hc) hv
 | .dc t k,m,ρc,h,hr,ho,hv=>by
  simp only[V9,Bl] at h;exact⟨LH h.1 hr ho.1,Ns hΦ h.2 hr ho.2 hv⟩
 | .bad _,m,ρc,h,_,_,_=>by cases h
theorem PV{T:Tb}{L:Ex->St->Option Rt}:∀ {t:Bz} {m:Nat} {ρc:Br},V9 T L m t=true->∃ ρL sR,WG T t ρc=some (ρL,sR)
 | .leaf e st,m,ρc,_=>⟨_,_,rfl⟩
 | .fz ds ob t,m,ρc,h=>by
  unfold V9 at h;split at h
  ·simp only[Bl] at h;show ∃ ρL sR,WG T t (Dl T ρc ds)=some (ρL,sR);exact PV h.2
  ·cases h
 | .br x t f,m,ρc,h=>by
  simp only[V9,Bl] at h;unfold WG;split
  ·exact PV h.2
  ·exact PV h.1.2
 | .j8 f as t e,m,ρc,h=>by
  simp only[V9,Bl] at h;unfold WG;cases hf:lk f T with
  |none=>rw[hf] at h;simp at h
  |some fe=>
   simp only;cases fe.oe (as.map (·.den ρc)) with
   |true=>exact PV h.1.2
   |false=>exact PV h.2
 | .dc t k,m,ρc,h=>by
  simp only[V9,Bl] at h;exact PV (t:=k) h.2
 | .bad _,m,ρc,h=>by cases h
def kF(m:Nat)(ρ:Br):Prop:=∀n,gC m n=true->(ρ n).getD 1 0=0\/(ρ n).getD 1 0=1
theorem VJ{T:Tb}:∀ {ds:List (Nat×GG)} {m m':Nat} {ρ:Br},pX m ds=some m'->kF m ρ->kF m' (Dl T ρ ds)
 | [],m,m',ρ,h,hc=>by
  simp only[pX,Ai] at h;subst h;exact hc
 | (n,d)::r,m,m',ρ,h,hc=>by
  show kF m' (Dl T (λi=>if i=n then d.den T ρ else ρ i) r);have carry:((d.den T ρ).getD 1 0=0\/(d.den T ρ).getD 1 0=1)->kF (iP m n) (λi=>if i=n then d.den T ρ else ρ i):=λhd i hi=>by
   rw[sO] at hi;by_cases e:i=n
   ·simp only[e,if_true];exact hd
   ·simp only[e,if_false];exact hc i (by simpa[e] using hi)
  have c8:gC m n=false->kF m (λi=>if i=n then d.den T ρ else ρ i):=λhn i hi=>by
   by_cases e:i=n
   ·rw[e,hn] at hi;cases hi
   ·simp only[e,if_false];exact hc i hi
  obtain⟨op,args⟩:=d;unfold pX at h;simp only at h;split at h
  ·refine VJ h (carry ?_);simp only[GG.den,Na.den,X7,Ru];split<;>simp
  ·refine VJ h (carry ?_);simp only[GG.den,Na.den,X7,Ru];split<;>simp
  ·cases hb:gC m n with
   |true=>rw[hb] at h;cases h
   |false=>rw[hb,cond_false] at h;exact VJ h (c8 hb)
theorem aa{T:Tb}{m:Nat}{ρ:Br}(hc:kF m ρ){q:JU}(h:gQ m q=true):q.den T ρ:=by
 cases q with
 | vn x=>
  cases x with
  |lit n=>
   simp only[gQ,Bool.or_eq_true] at h;rcases h with h|h
   ·exact .inl (Mr h)
   ·exact .inr (Mr h)
  |v n k=>
   simp only[gQ,Bl] at h;have:=CR h.1;subst this;exact hc n h.2
 |jn x n=>cases h
 |vq x=>cases h
 |nz x=>cases h
 |zr x=>cases h
 |pre f as=>cases h
theorem Mt{T:Tb}:∀ {t:Bz} {m c:Nat} {ρ:Br},fJ T m t=true->Nb c t=true->kF c ρ->EY T t ρ
 | .leaf _ _,m,c,ρ,_,_,_=>trivial
 | .fz ds ob t,m,c,ρ,h,hn,hc=>by
  unfold fJ at h;split at h
  ·simp only[Bl] at h;unfold Nb at hn;split at hn
   ·rename_i c' i6;simp only[Bl] at hn;have:=VJ (T:=T) i6 hc;exact⟨λq hq=>aa this (Mx.1 hn.1 q hq),Mt h.2 hn.2 this⟩
   ·cases hn
  ·cases h
 | .br x t f,m,c,ρ,h,hn,hc=>by
  simp only[fJ,Bl] at h;simp only[Nb,Bl] at hn;exact⟨λ_=>Mt h.2 hn.2 hc,λ_=>Mt h.1.2 hn.1 hc⟩
 | .j8 f as t e,m,c,ρ,h,hn,hc=>by
  simp only[fJ,Bl] at h;simp only[Nb,Bl] at hn;unfold EY;cases hf:lk f T with
  |none=>rw[hf] at h;simp at h
  |some fe=>exact⟨λ_=>Mt h.1.2 hn.1 hc,λ_=>Mt h.2 hn.2 hc⟩
 | .dc t k,m,c,ρ,h,hn,hc=>by
  simp only[fJ,Bl] at h;simp only[Nb,Bl] at hn;exact⟨Mt h.1 hn.1 hc,Mt h.2 hn.2 hc⟩
 | .bad _,m,c,ρ,h,_,_=>by cases h
theorem PO{T:Tb}{L:Ex->St->Option Rt}:∀ {t:Bz} {m c:Nat} {ρ:Br},V9 T L m t=true->Nb c t=true->kF c ρ->EY T t ρ
 | .leaf _ _,m,c,ρ,_,_,_=>trivial
 | .fz ds ob t,m,c,ρ,h,hn,hc=>by
  unfold V9 at h;split at h
  ·simp only[Bl] at h;unfold Nb at hn;split at hn
   ·rename_i c' i6;simp only[Bl] at hn;have:=VJ (T:=T) i6 hc;exact⟨λq hq=>aa this (Mx.1 hn.1 q hq),PO h.2 hn.2 this⟩
   ·cases hn
  ·cases h
 | .br x t f,m,c,ρ,h,hn,hc=>by
  simp only[V9,Bl] at h;simp only[Nb,Bl] at hn;exact⟨λ_=>PO h.2 hn.2 hc,λ_=>PO h.1.2 hn.1 hc⟩
 | .j8 f as t e,m,c,ρ,h,hn,hc=>by
  simp only[V9,Bl] at h;simp only[Nb,Bl] at hn;unfold EY;cases hf:lk f T with
  |none=>rw[hf] at h;simp at h
  |some fe=>exact⟨λ_=>PO h.1.2 hn.1 hc,λ_=>PO h.2 hn.2 hc⟩
 | .dc t k,m,c,ρ,h,hn,hc=>by
  simp only[V9,Bl] at h;simp only[Nb,Bl] at hn;exact⟨Mt h.1 hn.1 hc,PO h.2 hn.2 hc⟩
 | .bad _,m,c,ρ,h,_,_=>by cases h
theorem AEk{T:Tb}{L:Ex->St->Option Rt}{t:Bz}{m:Nat}{ρ:Br}(h:V9 T L m t=true)(hn:AKe t=true):EY T t ρ:=
 PO h hn (λn hn=>by simp[gC,Nat.zero_shiftRight] at hn)
end
section
open Go
def BK(n:Nat)(xs:List Int):List Int:=(List.range n).map λi=>xs.getD i 0
theorem Qr(n:Nat)(xs:List Int):(BK n xs).length=n:=by simp[BK]
theorem Bn{n:Nat}{xs:List Int}(h:xs.length=n):BK n xs=xs:=by
 apply List.ext_getElem?;intro i;unfold BK;by_cases hi:i<n
 ·rw[Ng,List.getElem?_range hi,JC (by omega)];simp[List.getD,JC (show i<xs.length by omega)]
 ·rw[List.getElem?_eq_none (by simp;omega),List.getElem?_eq_none (by omega)]
abbrev Su:=Nat->List (List Int)->List Int
def SC(F:Su):Nat->List (Nat×List IntKind×PF)->List (Nat×List IntKind×PF)
 |_,[]=>[]
 |k,(i,ks,_)::r=>(i,ks,λa=>BK ks.length (F k a))::SC F (k+1) r
def XG(F:Su):Nat->List (List IntKind×PF)->List (List IntKind×PF)
 |_,[]=>[]
 |k,(ks,_)::r=>(ks,λa=>BK ks.length (F k a))::XG F (k+1) r
def Jh(F:Su):Nat->List Pw->List Pw
 |_,[]=>[]
 |k,.int κ _::r=>.int κ (λa=>d1 (F k a))::Jh F (k+1) r
 |k,.bool _::r=>.bool (λa=>d1 (F k a))::Jh F (k+1) r
 |k,.agg ks _::r=>.agg ks (λa=>BK ks.length (F k a))::Jh F (k+1) r
 |k,.cy i::r=>.cy i::Jh F k r
 |k,.i7 j::r=>.i7 j::Jh F k r
 |k,.nil::r=>.nil::Jh F k r
 |k,.eg::r=>.eg::Jh F k r
 |k,.ya j n c::r=>.ya j n c::Jh F k r
 |k,.slP j n c::r=>.slP j n c::Jh F k r
 |k,.err::r=>.err::Jh F k r
 |k,.On j n::r=>.On j n::Jh F k r
def RB(s0:BH)(F:Su)(hp:Bool)(pre:List (List Int)->Prop):BH where
 params:=s0.params
 hp:=hp
 pre:=pre
 outs:=SC F 0 s0.outs
 fresh:=XG F s0.outs.length s0.fresh
 ret:=Jh F (s0.outs.length+s0.fresh.length) s0.ret
def Vo(C:Cx)(s0:BH)(cF:List ResultVar)(t:Bz):Su:=λk ins=>
 match WG C.T t (Ce ins) with
 | some (ρ,st)=>(match Ml C s0 cF st with
  |some es=>(match es[k]? with
   |some e=>e.1.map (·.den ρ)
   |none=>[])
  |none=>[])
 |none=>[]
theorem UO(s0:BH)(F:Su)(hp:Bool)(pre:List (List Int)->Prop):PH (RB s0 F hp pre):=by
 have ho:∀(l:List (Nat×List IntKind×PF)) (k:Nat) (ins:List (List Int)),∀p∈SC F k l,(p.2.2 ins).length=p.2.1.length:=by
  intro l
  induction l with
  |nil=>intro k ins p hp;cases hp
  |cons x r ih=>
   intro k ins p hp;obtain⟨i,ks,f⟩:=x;rcases IR.1 hp with rfl|hp
   ·exact Qr _ _
   ·exact ih _ ins p hp
 have hf:∀(l:List (List IntKind×PF)) (k:Nat) (ins:List (List Int)),∀p∈XG F k l,(p.2 ins).length=p.1.length:=by
  intro l
  induction l with
  |nil=>intro k ins p hp;cases hp
  |cons x r ih=>
   intro k ins p hp;obtain⟨ks,f⟩:=x;rcases IR.1 hp with rfl|hp
   ·exact Qr _ _
   ·exact ih _ ins p hp
 have hr:∀(l:List Pw) (k:Nat) (ins:List (List Int)),∀ks f,Pw.agg ks f∈Jh F k l->(f ins).length=ks.length:=by
  intro l
  induction l with
  |nil=>intro k ins ks f h;cases h
  | cons x r ih=>
   intro k ins ks f h;cases x<;>simp only[Jh,IR] at h
   case agg φ f'=>
    rcases h with h|h
    ·simp only[Pw.agg.injEq] at h;obtain⟨rfl,rfl⟩:=h;exact Qr _ _
    ·exact ih _ ins ks f h
   all_goals
    rcases h with h|h
    ·cases h
    ·exact ih _ ins ks f h
 exact λins _=>⟨ho _ _ ins,hf _ _ ins,hr _ _ ins⟩
theorem Y0{rg:List Rg}{l:Nat}{ks:List IntKind}{xs:List X}(h:TA rg l ks=some xs):xs.length=ks.length:=by
 unfold TA at h;split at h
 ·rename_i r hr;cases hw:r.wr with
  |false=>rw[hw] at h;cases h
  | true=>
   rw[hw,cond_true] at h;split at h
   ·rename_i cs cS;split at h
    ·rename_i φ xs' hx;cases hk:KZ ks φ with
     |false=>rw[hk] at h;cases h
     |true=>
      rw[hk,cond_true,Ai] at h;subst h;have:=(Mi (V:=⟨λ_=>[],λ_=>(0,0),λ_=>undef⟩) hx hk).2.2;simpa using this
    ·cases h
   ·cases h
 ·cases h
def Sg(F:Su)(k:Nat)(ke:Rt)(ins:List (List Int))(ρ:Br):Prop:=∀(j:Nat) (e:List X×PF),ke[j]? = some e->F (k+j) ins=e.1.map (·.den ρ)
theorem Sg.tail{F:Su}{k:Nat}{e:List X×PF}{es:Rt}{ins:List (List Int)}{ρ:Br}(h:Sg F k (e::es) ins ρ):Sg F (k+1) es ins ρ:=λj e' hj=>by
 have:=h (j+1) e' (by simpa using hj);rwa [show k+(j+1)=k+1+j by omega] at this
theorem Sg.aaD{F:Su}{k:Nat}{a b:Rt}{ins:List (List Int)}{ρ:Br}(h:Sg F k (a++b) ins ρ):Sg F k a ins ρ:=λj e hj=>
 h j e (by rw[Zm (OQ.1 hj).1];exact hj)
theorem Sg.aeu{F:Su}{k:Nat}{a b:Rt}{ins:List (List Int)}{ρ:Br}(h:Sg F k (a++b) ins ρ):Sg F (k+a.length) b ins ρ:=λj e hj=>by
 have:=h (a.length+j) e (by rw[dh (by omega)];simpa using hj);rwa [<- Ve] at this
theorem Zy{F:Su}{ps:List GD}{rg:List Rg}:∀ {outs:List (Nat×List IntKind×PF)} {ke:Rt} {k:Nat},eX ps rg outs=some ke->
  ke.length=outs.length/\∃es,eX ps rg (SC F k outs)=some es/\∀ins ρ,Sg F k ke ins ρ->Ry ρ ins es
 | [],ke,k,h=>by
  simp only[eX,Ai] at h;subst h;exact⟨rfl,[],rfl,λ_ _ _=>trivial⟩
 | (i,ks,f)::r,ke,k,h=>by
  unfold eX at h;split at h
  ·rename_i xs es' h1 h2;cases hb:kK ps i with
   |false=>rw[hb] at h;cases h
   | true=>
    rw[hb,cond_true,Ai] at h;subst h;obtain⟨g0,es,g1,g2⟩:=Zy (F:=F) (k:=k+1) h2;refine⟨by simp[g0],(xs,λa=>BK ks.length (F k a))::es,?_,λins ρ hs=>⟨?_,g2 ins ρ hs.tail⟩⟩
    ·simp only[SC,eX,h1,g1,hb,cond_true]
    ·have:=hs 0 (xs,f) rfl;rw[P5] at this;simp only[this];rw[Bn (by rw[Tg];exact Y0 h1)]
  ·cases h
theorem Wv{F:Su}{rg:List Rg}{np:Nat}:∀ {ls:List Nat} {fr:List (List IntKind×PF)} {ke:Rt} {k:Nat},Nn rg np ls fr=some ke->
  ke.length=fr.length/\∃es,Nn rg np ls (XG F k fr)=some es/\∀ins ρ,Sg F k ke ins ρ->Ry ρ ins es
 | [],[],ke,k,h=>by
  simp only[Nn,Ai] at h;subst h;exact⟨rfl,[],rfl,λ_ _ _=>trivial⟩
 | [],_::_,ke,k,h=>by simp[Nn] at h
 |_::_,[],ke,k,h=>by simp[Nn] at h
 | l :: ls,(ks,f)::r,ke,k,h=>by
  unfold Nn at h;generalize hc:frC rg np l ls ks.length=c at h;cases c with
  |false=>cases h
  | true=>
   rw[cond_true] at h;split at h
   ·rename_i xs es' h1 h2;simp only[Ai] at h;subst h;obtain⟨g0,es,g1,g2⟩:=Wv (F:=F) (k:=k+1) h2;refine⟨by simp[g0],(xs,λa=>BK ks.length (F k a))::es,?_,λins ρ hs=>⟨?_,g2 ins ρ hs.tail⟩⟩
    ·unfold XG Nn;rw[hc,cond_true,h1,g1]
    ·have:=hs 0 (xs,f) rfl;rw[P5] at this;simp only[this];rw[Bn (by rw[Tg];exact Y0 h1)]
   ·cases h
theorem WW{F:Su}{j:Nat}:∀ {rs:List Pw} {vs:List TV} {k:Nat},fI j (Jh F k rs) vs=fI j rs vs
 | [],vs,k=>rfl
 |r::rs,[],k=>by cases r<;>rfl
 |r::rs,v::vs,k=>by
  cases v with
  |a cs=>cases r<;>simp only[Jh,fI,WW]
  |l u=>cases r<;>cases u<;>simp only[Jh,fI,WW]
theorem YP{F:Su}{rs:List Pw}{vs:List TV}{k:Nat}:∀ {n j:Nat},iN (Jh F k rs) vs n j=iN rs vs n j
 |0,j=>rfl
 |n+1,j=>by simp only[iN,WW,YP]
theorem ABm{tm:List (Nat×SV)}{fr:List Nat}{k:IntKind}{f:PI}{v:TV}{e:Rt}(h:RZ tm fr (.int k f) v=some e):∃x,e= [([x],λa=>[f a])]/\∀g,RZ tm fr (.int k g) v=some [([x],λa=>[g a])]:=by
 cases v with
 |a cs=>simp[RZ] at h
 | l u=>
  cases u<;>simp only[RZ,reduceCtorEq] at h
  rename_i k' x;cases hk:pu k k' with
  |false=>rw[hk] at h;cases h
  |true=>
   rw[hk,cond_true,Ai] at h;exact⟨x,h.symm,λg=>by simp only[RZ,hk,cond_true]⟩
theorem yO{tm:List (Nat×SV)}{fr:List Nat}{f:PI}{v:TV}{e:Rt}(h:RZ tm fr (.bool f) v=some e):∃x,e= [([x],λa=>[f a])]/\∀g,RZ tm fr (.bool g) v=some [([x],λa=>[g a])]:=by
 cases v with
 |a cs=>simp[RZ] at h
 |l u=>
  cases u<;>simp only[RZ,reduceCtorEq,Ai] at h
  rename_i x;exact⟨x,h.symm,λg=>rfl⟩
theorem zM{tm:List (Nat×SV)}{fr:List Nat}{ks:List IntKind}{f:PF}{v:TV}{e:Rt}(h:RZ tm fr (.agg ks f) v=some e):∃xs,xs.length=ks.length/\e= [(xs,f)]/\∀g,RZ tm fr (.agg ks g) v=some [(xs,g)]:=by
 cases v with
 |l u=>cases u<;>simp[RZ] at h
 | a cs=>
  simp only[RZ] at h;split at h
  ·rename_i φ xs hx;cases hk:KZ ks φ with
   |false=>rw[hk] at h;cases h
   |true=>
    rw[hk,cond_true,Ai] at h;have:=(Mi (V:=⟨λ_=>[],λ_=>(0,0),λ_=>undef⟩) hx hk).2.2;exact⟨xs,by simpa using this,h.symm,λg=>by simp only[RZ,hx,hk,cond_true]⟩
  ·cases h
def AH0:Pw->Bool
 | .int _ _=>false
 | .bool _=>false
 | .agg _ _=>false
 |_=>true
theorem AEU{tm:List (Nat×SV)}{fr:List Nat}{r:Pw}{v:TV}{e:Rt}(hn:AH0 r=true)(h:RZ tm fr r v=some e):e= []:=by
 unfold RZ at h;split at h
 ·cases hn
 ·cases hn
 ·split at h
  ·rename_i u hu;revert h;generalize u.beq _=b;intro h;cases b with
   |false=>cases h
   |true=>rw[cond_true,Ai] at h;exact h.symm
  ·cases h
 ·rename_i j l o;split at h
  ·rename_i l' hl;cases hb:(Nat.beq l l'&&Nat.beq o 0) with
   |false=>rw[hb] at h;cases h
   |true=>rw[hb,cond_true,Ai] at h;exact h.symm
  ·cases h
 ·cases hn
 ·simp only[Ai] at h;exact h.symm
 ·simp only[Ai] at h;exact h.symm
 ·rename_i j n c l o n' c' d;split at h
  ·rename_i l' hl;cases hb:(Nat.beq l l'&&Nat.beq o 0&&Nat.beq n n'&&Nat.beq c c'&&Nat.beq d 0) with
   |false=>rw[hb] at h;cases h
   |true=>rw[hb,cond_true,Ai] at h;exact h.symm
  ·cases h
 ·simp only[Ai] at h;exact h.symm
 ·rename_i j n l o n' c d;split at h
  ·rename_i l' hl;cases hb:(Nat.beq l l'&&Nat.beq o 0&&Nat.beq n n') with
   |false=>rw[hb] at h;cases h
   |true=>rw[hb,cond_true,Ai] at h;exact h.symm
  ·cases h
 ·rename_i i n c l o n' c' d;split at h
  ·rename_i l' o' hu;cases hb:(Nat.beq l' l&&Nat.beq o' o&&Nat.beq n n'&&Nat.beq c c'&&Nat.beq d 0) with
   |false=>rw[hb] at h;cases h
   |true=>rw[hb,cond_true,Ai] at h;exact h.symm
  ·cases h
 ·cases h
theorem PL{F:Su}{tm:List (Nat×SV)}{fr:List Nat}:∀ {rs:List Pw} {vs:List TV} {ke:Rt} {k:Nat},Oh tm fr rs vs=some ke->
  ∃es,Oh tm fr (Jh F k rs) vs=some es/\∀ins ρ,Sg F k ke ins ρ->Ry ρ ins es
 | [],[],ke,k,h=>⟨[],rfl,λ_ _ _=>trivial⟩
 | [],_::_,ke,k,h=>by simp[Oh] at h
 |_::_,[],ke,k,h=>by simp[Oh] at h
 | r::rs,v::vs,ke,k,h=>by
  unfold Oh at h;split at h
  ·rename_i e1 e2 h1 h2;simp only[Ai] at h;subst h;have no:AH0 r=true->Jh F k (r::rs)=r::Jh F k rs->∃es,Oh tm fr (Jh F k (r::rs)) (v::vs)=some es/\∀ins ρ,Sg F k (e1++e2) ins ρ->Ry ρ ins es:=λhn hw=>by
    have:=AEU hn h1;subst this;obtain⟨es,g1,g2⟩:=PL (F:=F) (k:=k) h2;exact⟨[]++es,by rw[hw];simp only[Oh,h1,g1],λins ρ hs=>g2 ins ρ (by simpa using hs)⟩
   cases r with
   |int κ f=>
    obtain⟨x,rfl,hx⟩:=ABm h1;obtain⟨es,g1,g2⟩:=PL (F:=F) (k:=k+1) h2;refine⟨[([x],λa=>[d1 (F k a)])]++es,by simp only[Jh,Oh,hx,g1],λins ρ hs=>⟨?_,g2 ins ρ (Sg.tail (by simpa using hs))⟩⟩;have:=hs 0 ([x],_) rfl;rw[P5] at this;simp only[this,NE,Uf,d1]
   |bool f=>
    obtain⟨x,rfl,hx⟩:=yO h1;obtain⟨es,g1,g2⟩:=PL (F:=F) (k:=k+1) h2;refine⟨[([x],λa=>[d1 (F k a)])]++es,by simp only[Jh,Oh,hx,g1],λins ρ hs=>⟨?_,g2 ins ρ (Sg.tail (by simpa using hs))⟩⟩;have:=hs 0 ([x],_) rfl;rw[P5] at this;simp only[this,NE,Uf,d1]
   |agg ks f=>
    obtain⟨xs,hl,rfl,hx⟩:=zM h1;obtain⟨es,g1,g2⟩:=PL (F:=F) (k:=k+1) h2;refine⟨[(xs,λa=>BK ks.length (F k a))]++es,by simp only[Jh,Oh,hx,g1],λins ρ hs=>⟨?_,g2 ins ρ (Sg.tail (by simpa using hs))⟩⟩;have:=hs 0 (xs,_) rfl;rw[P5] at this;simp only[this];rw[Bn (by rw[Tg];exact hl)]
   |cy i=>exact no rfl rfl
   |i7 j=>exact no rfl rfl
   |nil=>exact no rfl rfl
   |eg=>exact no rfl rfl
   |ya j n c=>exact no rfl rfl
   |slP j n c=>exact no rfl rfl
   |On j n=>exact no rfl rfl
   |err=>exact no rfl rfl
  ·cases h
theorem nU{F:Su}{C:Cx}{s0:BH}{cF:List ResultVar}{st:St}{ke:Rt}{hp:Bool}{pre:List (List Int)->Prop}(h:Ml C s0 cF st=some ke):
  ∃es,Ml C (RB s0 F hp pre) cF st=some es/\∀ins ρ,Sg F 0 ke ins ρ->Ry ρ ins es:=by
 unfold Ml at h;split at h
 ·cases h
 rename_i vs oE;split at h
 ·cases h
 rename_i fr AH;split at h
 ·rename_i e1 e2 e3 h1 h2 h3;simp only[Ai] at h;subst h;obtain⟨a0,f1,a1,a2⟩:=Zy (F:=F) (k:=0) h1;obtain⟨b0,f2,b1,b2⟩:=Wv (F:=F) (k:=s0.outs.length) h2;obtain⟨f3,c1,c2⟩:=PL (F:=F) (k:=s0.outs.length+s0.fresh.length) h3;refine⟨f1++f2++f3,?_,λins ρ hs=>?_⟩
  ·unfold Ml;simp only[oE];have hl:(RB s0 F hp pre).fresh.length=s0.fresh.length:=by
    show(XG F s0.outs.length s0.fresh).length=_;generalize s0.outs.length=k
    induction s0.fresh generalizing k with
    |nil=>rfl
    |cons x r ih=>obtain⟨ks,f⟩:=x;simp[XG,ih]
   rw[hl];simp only[RB,YP,AH,a1,b1,c1]
  ·refine Mm.2 ⟨Mm.2 ⟨a2 ins ρ hs.aaD.aaD,b2 ins ρ ?_⟩,c2 ins ρ ?_⟩
   ·have:=hs.aaD.aeu;rwa [a0,Km] at this
   ·have:=hs.aeu;rwa [MN,a0,b0,Km] at this
 ·cases h
def kJ(C:Cx)(s0:BH)(cF:List ResultVar)(ex:Ex)(st:St):Option Rt:=match ex with
 | .exit _=>none
 |_=>Ml C s0 cF st
def xg(np:Nat):Nat:=2^np-1
theorem dJ{np i:Nat}(h:gC (xg np) i=true):i<np:=by
 rw[SS] at h;unfold xg at h;rw[Nat.testBit_two_pow_sub_one] at h;simpa using h
theorem AE0{C:Cx}{n:Nat}{c:Code}{nt:Nat}{cF:List ResultVar}{cA:fQ}{s0:BH}{hp:Bool}{pre:List (List Int)->Prop}
  (fS:V9 C.T (kJ C s0 cF) (xg s0.params.length) (OT C n [] c (ZZ s0.params cA nt))=true) {hyp:List (List Int)->Prop}
  (qu:∀ins,Uw s0.params ins->hyp ins->EY C.T (OT C n [] c (ZZ s0.params cA nt)) (Ce ins)):
  nC C n c nt cF cA (RB s0 (Vo C s0 cF (OT C n [] c (ZZ s0.params cA nt))) hp pre) hyp:=by
 intro ins ρ hI hy hρ;show(OT C n [] c (ZZ s0.params cA nt)).Holds C.T _ ρ;generalize hF:Vo C s0 cF (OT C n [] c (ZZ s0.params cA nt))=F;obtain⟨ρL,sR,Iv⟩:=PV (ρc:=Ce ins) fS;refine Ns (ρL:=ρL) (sR:=sR) ?_ fS (λi hi=>?_) (qu ins hI hy) Iv
 ·intro ex st m hm hr gf;subst gf;have hs:∀ke,Ml C s0 cF st=some ke->(ke.all λe=>e.1.all (·.gC m))=true->(match Ml C (RB s0 F hp pre) cF st with
    |some es=>Ry ρ ins es
    |none=>False):=λke he ir=>by
   obtain⟨es,h1,h2⟩:=nU (F:=F) (hp:=hp) (pre:=pre) he;rw[h1];refine h2 ins ρ λj e hj=>?_
   rw[Km, <- hF];unfold Vo;rw[Iv];simp only[he,hj];have hx:=Mx.1 ir e (Le hj);exact Zx λx eV=>(X.cD hr (Mx.1 hx x eV)).symm
  cases ex with
  |exit id=>simp[V9,kJ] at hm
  |normal=>
   simp only[V9,kJ] at hm;split at hm
   ·rename_i ke he;exact hs ke he hm
   ·cases hm
  |ret=>
   simp only[V9,kJ] at hm;split at hm
   ·rename_i ke he;exact hs ke he hm
   ·cases hm
 ·exact hρ i (dJ hi)
end
section
open Go
def Ak(fn:Func):Code:=fn.body.getD .skip
theorem Ck.one{P:Program}{GB:Nat}{GC:Nat->Nat->Option Value}{f:Nat}{s:BH}
  (h:∀(args:List Value) (ins:List (List Int)) (bs:List (Nat×Nat)) (w:World),GW GC w->GB<=w.heap.size->KH GB w s.params args ins bs->Fv s.params bs->(s.hp=true->s.pre ins)->
   Calls P f args.toArray w λe w'=>∃fb vs,e= .returned (PZ vs)/\Yv GC s args ins bs w fb vs w'):Ck P GB GC f (.one s):=
 λ_ args ins bs w h1 h2 h3 h4 h5 _=>h args ins bs w h1 h2 h3 h4 h5
structure Ad where
 n:Nat
 c:Code
 nt:Nat
 cF:List ResultVar
 cA:fQ
 s0:BH
def Ad.tree(i:Ad)(C:Cx):Bz:=OT C i.n [] i.c (ZZ i.s0.params i.cA i.nt)
def Ad.raw(i:Ad)(C:Cx):Su:=Vo C i.s0 i.cF (i.tree C)
def Ad.dc(i:Ad)(C:Cx):Bool:=V9 C.T (kJ C i.s0 i.cF) (xg i.s0.params.length) (i.tree C)&&NP i.s0.outs 0 i.s0.params&&Nat.ble i.s0.params.length i.nt&&Nat.ble i.s0.params.length 500
def Ad.sum(i:Ad)(C:Cx):BH:=RB i.s0 (i.raw C) false (λ_=>True)
def Ad.cC(i:Ad)(C:Cx):BH:=RB i.s0 (i.raw C) true (λins=>EY C.T (i.tree C) (Ce ins))
theorem Ad.gen{i:Ad}{P:Program}{C:Cx}{GB:Nat}{GC:Nat->Nat->Option Value}{ad:Nat->Nat×Nat}(hC:Vt P C GB GC){f:Nat}{fn:Func}(hf:P.funcs[f]? = some fn)(hb:fn.body=some i.c)(hn:fn.ntmps=i.nt)(hr:fn.results.toList=i.cF)
  (ω:∀E:En,E.P=P->E.C=C->E.GB=GB->E.GC=GC->J9 E i.c/\∀f i,lk f C.inl=some i->J9 E i.c) (lR:Ty GC ad i.cA) (me:∀x∈i.cA,(EC ad x.1).1<GB) (hk:i.dc C=true) {hp:Bool} {pre hyp:List (List Int)->Prop}
  (qu:∀ins,Uw i.s0.params ins->hyp ins->EY C.T (i.tree C) (Ce ins)):
  ∀(args:List Value) (ins:List (List Int)) (bs:List (Nat×Nat)) (w:World),GW GC w->GB<=w.heap.size->KH GB w i.s0.params args ins bs->Fv i.s0.params bs->hyp ins->
   Calls P f args.toArray w λe w'=>∃fb vs,e= .returned (PZ vs)/\Yv GC (RB i.s0 (i.raw C) hp pre) args ins bs w fb vs w':=by
 unfold Ad.dc at hk;simp only[Bl] at hk;have ht:nC C i.n i.c fn.ntmps fn.results.toList i.cA (RB i.s0 (i.raw C) hp pre) hyp:=by
  rw[hn,hr];exact AE0 hk.1.1.1 qu
 have pe:NP (RB i.s0 (i.raw C) hp pre).outs 0 (RB i.s0 (i.raw C) hp pre).params=true:=by
  have:∀(l:List (Nat×List IntKind×PF)) (k j:Nat) (ps:List GD),NP (SC (i.raw C) k l) j ps=NP l j ps:=by
   intro l k j ps
   induction ps generalizing j with
   |nil=>rfl
   | cons p ps ih=>
    have h2:∀(l:List (Nat×List IntKind×PF)) (k:Nat) (q:Nat×List IntKind->Bool),(SC (i.raw C) k l).any (λo=>q (o.1,o.2.1))=l.any λo=>q (o.1,o.2.1):=by
     intro l
     induction l with
     |nil=>intro k q;rfl
     |cons x r ihl=>intro k q;obtain⟨a,b,c⟩:=x;simp only[SC,List.any_cons,ihl]
    simp only[NP,ih]
    congr 1
    split
    ·rename_i n _;exact h2 l k (λx=>Nat.beq x.1 j&&Nat.beq x.2.length n)
    ·rfl
  show NP (SC (i.raw C) 0 i.s0.outs) 0 i.s0.params=true;rw[this];exact hk.1.1.2
 exact AOI hC hf hb ω pe lR me (by rw[hn];exact MQ hk.1.2) (MQ hk.2) ht
theorem Ad.ok{i:Ad}{P:Program}{C:Cx}{GB:Nat}{GC:Nat->Nat->Option Value}{ad:Nat->Nat×Nat}(hC:Vt P C GB GC){f:Nat}{fn:Func}(hf:P.funcs[f]? = some fn)(hb:fn.body=some i.c)(hn:fn.ntmps=i.nt)(hr:fn.results.toList=i.cF)
  (hl:C.loops= []) (lR:Ty GC ad i.cA) (me:∀x∈i.cA,(EC ad x.1).1<GB) (hk:i.dc C=true) (iz:AKe (i.tree C)=true):Ck P GB GC f (.one (i.sum C)):=by
 have gE:=hk;unfold Ad.dc at gE;simp only[Bl] at gE;exact Ck.one λargs ins bs w h1 h2 h3 h4 _=>Ad.gen (hp:=false) (pre:=λ_=>True) (hyp:=λ_=>True) hC hf hb hn hr (λE _ hE _ _=>⟨J9.of_nil (by rw[hE];exact hl) _,λ_ _ _=>J9.of_nil (by rw[hE];exact hl) _⟩) lR me hk (λins _ _=>AEk gE.1.1.1 iz) args ins bs w h1 h2 h3 h4 trivial
theorem Ad.okP{i:Ad}{P:Program}{C:Cx}{GB:Nat}{GC:Nat->Nat->Option Value}{ad:Nat->Nat×Nat}(hC:Vt P C GB GC){f:Nat}{fn:Func}(hf:P.funcs[f]? = some fn)(hb:fn.body=some i.c)(hn:fn.ntmps=i.nt)(hr:fn.results.toList=i.cF)
  (hl:C.loops= []) (lR:Ty GC ad i.cA) (me:∀x∈i.cA,(EC ad x.1).1<GB) (hk:i.dc C=true):Ck P GB GC f (.one (i.cC C)):=
 Ck.one λargs ins bs w h1 h2 h3 h4 h5=>Ad.gen (hyp:=λins=>EY C.T (i.tree C) (Ce ins)) hC hf hb hn hr (λE _ hE _ _=>⟨J9.of_nil (by rw[hE];exact hl) _,λ_ _ _=>J9.of_nil (by rw[hE];exact hl) _⟩) lR me hk (λins _ h=>h) args ins bs w h1 h2 h3 h4 (h5 rfl)
def Ad.Hh(i:Ad)(C:Cx)(pre:List (List Int)->Prop):BH:=RB i.s0 (i.raw C) true pre
theorem Ad.aa3(i:Ad)(C:Cx)(pre:List (List Int)->Prop)(b:Bool):PH ((FE.one (i.Hh C pre)).ca b):=UO _ _ _ _
theorem Ad.len(i:Ad)(C:Cx)(b:Bool):PH ((FE.one (i.sum C)).ca b):=UO _ _ _ _
theorem Ad.cJ(i:Ad)(C:Cx)(b:Bool):PH ((FE.one (i.cC C)).ca b):=UO _ _ _ _
end
section
open Go
def Wz(T:Tb):Bz->Br->Option (Br×Ex×St)
 | .leaf e st,ρ=>some (ρ,e,st)
 | .fz ds _ t,ρ=>Wz T t (Dl T ρ ds)
 | .br x t f,ρ=>if x.den ρ=0 then Wz T f ρ else Wz T t ρ
 | .j8 f as t e,ρ=>match lk f T with
  |some fe=>cond (fe.oe (as.map (·.den ρ))) (Wz T t ρ) (Wz T e ρ)
  |none=>none
 | .dc _ k,ρ=>Wz T k ρ
 | .bad _,_=>none
def iI(T:Tb)(p:Nat->Ex->St->Bool):Nat->Bz->Bool
 |m,.leaf e st=>p m e st
 |m,.fz ds ob t=>(match mU m ds with
  |some m'=>ob.all (·.gC m')&&iI T p m' t
  |none=>false)
 |m,.br x t f=>x.gC m&&iI T p m t&&iI T p m f
 |m,.j8 f as t e=>as.all (·.gC m)&&(lk f T).isSome&&iI T p m t&&iI T p m e
 |m,.dc t k=>fJ T m t&&iI T p m k
 |_,.bad _=>false
theorem Mq{T:Tb}{p:Nat->Ex->St->Bool}{Φ:Br->Ex->St->Prop}{ρ:Br}{ρL:Br}{eL:Ex}{sR:St}
  (hΦ:∀m,p m eL sR=true->RM m ρ ρL->Φ ρ eL sR):∀ {t:Bz} {m:Nat} {ρc:Br},iI T p m t=true->RM m ρ ρc->EY T t ρc->Wz T t ρc=some (ρL,eL,sR)->t.Holds T Φ ρ
 | .leaf e st,m,ρc,h,hr,_,hv=>by
  simp only[Wz,Ai,Prod.mk.injEq] at hv;obtain⟨rfl,rfl,rfl⟩:=hv;exact hΦ m h hr
 | .fz ds ob t,m,ρc,h,hr,ho,hv=>λhd=>by
  unfold iI at h;split at h
  ·rename_i m' hm;simp only[Bl] at h;have cL:=X6 hm hr hd;exact⟨λq hq=>(JU.cD cL (Mx.1 h.1 q hq)).2 (ho.1 q hq),Mq hΦ h.2 cL ho.2 hv⟩
  ·cases h
 | .br x t f,m,ρc,h,hr,ho,hv=>by
  simp only[iI,Bl] at h;have hx:=X.cD hr h.1.1;refine⟨λcq=>?_,λhe=>?_⟩
  ·rw[hx] at cq;simp only[Wz,if_neg cq] at hv;exact Mq hΦ h.1.2 hr (ho.2 cq) hv
  ·rw[hx] at he;simp only[Wz,if_pos he] at hv;exact Mq hΦ h.2 hr (ho.1 he) hv
 | .j8 f as t e,m,ρc,h,hr,ho,hv=>by
  simp only[iI,Bl] at h;have hx:=oS.cD hr h.1.1.1;unfold EY at ho;unfold Wz at hv;unfold Bz.Holds;cases hf:lk f T with
  |none=>rw[hf] at ho;exact ho.elim
  |some fe=>
   rw[hf] at ho hv;simp only at ho hv ⊢;rw[hx];refine⟨λhc=>?_,λhc=>?_⟩
   ·rw[hc] at hv;exact Mq hΦ h.1.2 hr (ho.1 hc) hv
   ·rw[hc] at hv;exact Mq hΦ h.2 hr (ho.2 hc) hv
 | .dc t k,m,ρc,h,hr,ho,hv=>by
  simp only[iI,Bl] at h;exact⟨LH h.1 hr ho.1,Mq hΦ h.2 hr ho.2 hv⟩
 | .bad _,m,ρc,h,_,_,_=>by cases h
structure JJ where
 n:Nat
 c:Code
 nt:Nat
 id:Nat
 cA:fQ
 s0:BH
 ps:List Nat
 cl:List Nat
 fuel:List (List Int)->Nat
def xu(np:Nat):Nat->List Nat->List GD->List (Nat×SV)
 |i,t::ts,p::ps=>(t,GQ np i p)::xu np (i+1) ts ps
 |_,_,_=>[]
def T9(t:Nat)(l:List Nat):Bool:= !(ED t l)
def JJ.cT(i:JJ):List Nat:=(List.range i.nt).filter λt=>T9 t i.cl&&T9 t i.ps
def JJ.st(i:JJ):St:=
 let s:=ZZ i.s0.params i.cA i.nt
 { s with tm:=xu i.s0.params.length 0 i.ps i.s0.params++i.cT.map λt=>(t,.any (2*i.s0.params.length+t)),nv:=2*i.s0.params.length+i.nt }
def JJ.tree(i:JJ)(C:Cx):Bz:=OT C i.n [] i.c i.st
def Tv(np:Nat):Nat->List GD->List SV->List (Option MP)->Bool
 |i,p::ps,v::vs,m::ms=>(match p.cE,m with
  |some _,some x=>Nat.beq x.l i&&Nat.beq x.o 0&&v.beq (GQ np i p)
  |some _,none=>false
  |none,_=>true)&&Tv np (i+1) ps vs ms
 |_,[],[],[]=>true
 |_,_,_,_=>false
def kD(np:Nat)(st:St)(t:Nat):Bool:=match lk t st.tm with
 |some (.any j)=>Nat.beq j (2*np+t)
 |_=>false
def JJ.leaf(i:JJ)(e:Ex)(st:St):Option (Bool×List IZ):=
 match (match e with
  | .normal=>some true
  | .exit j=>bif Nat.beq j i.id then some false else none
  | .ret=>none) with
 |none=>none
 | some b=>match looks st i.ps with
  |none=>none
  |some vs=>match Oj st i.s0.params vs with
   |none=>none
   |some (as,ms)=>bif Vz st.rg ms&&Tv i.s0.params.length 0 i.s0.params vs ms&&i.cT.all (kD i.s0.params.length st)&&Nat.beq st.nt i.nt then some (b,as) else none
def JJ.rI(i:JJ)(m:Nat)(e:Ex)(st:St):Bool:=match i.leaf e st with
 |some (_,as)=>as.all (·.gC m)
 |none=>false
def JJ.step(i:JJ)(C:Cx)(ins:List (List Int)):Option (Bool×List (List Int)):=
 match Wz C.T (i.tree C) (Ce ins) with
 |some (ρ,e,st)=>(match i.leaf e st with
  |some (b,as)=>some (b,as.map (·.den ρ))
  |none=>none)
 |none=>none
def K6(step:List (List Int)->Option (Bool×List (List Int))):Nat->List (List Int)->List (List Int)
 |0,ins=>ins
 |n+1,ins=>match step ins with
  |some (true,r)=>K6 step n r
  |some (false,r)=>r
  |none=>ins
def jJ(step:List (List Int)->Option (Bool×List (List Int)))(ob:List (List Int)->Prop):Nat->List (List Int)->Prop
 |0,_=>False
 |n+1,ins=>ob ins/\match step ins with
  |some (true,r)=>jJ step ob n r
  |some (false,_)=>True
  |none=>False
def XQ(v:List (List Int)->List (List Int)):Nat->List GD->List Pw
 |_,[]=>[]
 |i,.int k::r=>.int k (λa=>d1 ((v a).getD i []))::XQ v (i+1) r
 |i,.bool::r=>.bool (λa=>d1 ((v a).getD i []))::XQ v (i+1) r
 |i,.agg ks::r=>.agg ks (λa=>BK ks.length ((v a).getD i []))::XQ v (i+1) r
 |i,.mem _ _ _::r=>XQ v (i+1) r
 |i,.sl _ _ _::r=>XQ v (i+1) r
 |i,.fy _ _ _::r=>XQ v (i+1) r
def Wa:List Nat->List GD->List Nat
 |_t::ts,.mem _ _ _::r=>Wa ts r
 |_t::ts,.sl _ _ _::r=>Wa ts r
 |_t::ts,.fy _ _ _::r=>Wa ts r
 |t::ts,_::r=>t::Wa ts r
 |_,_=>[]
def JJ.ss(i:JJ):List Nat:=Wa i.ps i.s0.params
def JJ.val(i:JJ)(C:Cx)(ins:List (List Int)):List (List Int):=K6 (i.step C) (i.fuel ins) ins
def JJ.pre(i:JJ)(C:Cx)(ins:List (List Int)):Prop:=jJ (i.step C) (λins=>EY C.T (i.tree C) (Ce ins)) (i.fuel ins) ins
def JJ.sum(i:JJ)(C:Cx)(pre:List (List Int)->Prop):BH where
 params:=i.s0.params
 hp:=true
 pre:=pre
 outs:=i.s0.outs.map λp=>(p.1,p.2.1,λa=>BK p.2.1.length ((i.val C a).getD p.1 []))
 fresh:=[]
 ret:=XQ (i.val C) 0 i.s0.params
def AA4:List Nat->Bool
 | []=>true
 |t::r=>T9 t r&&AA4 r
def zG(ps:List GD)(outs:List (Nat×List IntKind×PF)):Bool:=outs.all λp=>match ps[p.1]? with
 |some (.mem ks _ true)=>KZ ks p.2.1
 |some (.sl ks _ true)=>KZ ks p.2.1
 |some (.fy ks _ true)=>KZ ks p.2.1
 |_=>false
def JJ.dc(i:JJ)(C:Cx):Bool:=iI C.T (i.rI) (xg i.s0.params.length) (i.tree C)&&NP i.s0.outs 0 i.s0.params&&zG i.s0.params i.s0.outs&&Nat.ble i.s0.params.length i.nt&&Nat.ble i.s0.params.length 500&&Nat.beq i.ps.length i.s0.params.length&&AA4 i.ps&&i.ps.all (λt=>Nat.blt t i.nt&&T9 t i.cl)
theorem iX(i:JJ)(C:Cx)(pre:List (List Int)->Prop):PH (i.sum C pre):=by
 intro ins _;refine⟨λp hp=>?_,λp hp=>(by cases hp),λks f hf=>?_⟩
 ·simp only[JJ.sum,UT] at hp;obtain⟨q,_,rfl⟩:=hp;exact Qr _ _
 ·have:∀(v:List (List Int)->List (List Int)) (ps:List GD) (j:Nat),Pw.agg ks f∈XQ v j ps->(f ins).length=ks.length:=by
   intro v ps
   induction ps with
   |nil=>intro j h;cases h
   | cons p r ih=>
    intro j h;cases p with
    |int k=>simp only[XQ,IR,reduceCtorEq,false_or] at h;exact ih _ h
    |bool=>simp only[XQ,IR,reduceCtorEq,false_or] at h;exact ih _ h
    |agg φ=>
     simp only[XQ,IR,Pw.agg.injEq] at h;rcases h with⟨rfl,rfl⟩|h
     ·exact Qr _ _
     ·exact ih _ h
    |mem a b c=>exact ih _ h
    |sl a b c=>exact ih _ h
    |fy a b c=>exact ih _ h
  exact this _ _ _ hf
end
section
open Go
theorem OG{T:Tb}{p:Nat->Ex->St->Bool}:∀ {t:Bz} {m:Nat} {ρc:Br},iI T p m t=true->∃ ρL eL sR m',Wz T t ρc=some (ρL,eL,sR)/\p m' eL sR=true
 | .leaf e st,m,ρc,h=>⟨_,_,_,m,rfl,h⟩
 | .fz ds ob t,m,ρc,h=>by
  unfold iI at h;split at h
  ·simp only[Bl] at h;exact OG (t:=t) (ρc:=Dl T ρc ds) h.2
  ·cases h
 | .br x t f,m,ρc,h=>by
  simp only[iI,Bl] at h;unfold Wz;split
  ·exact OG h.2
  ·exact OG h.1.2
 | .j8 f as t e,m,ρc,h=>by
  simp only[iI,Bl] at h;unfold Wz;cases hf:lk f T with
  |none=>rw[hf] at h;simp at h
  |some fe=>
   simp only;cases fe.oe (as.map (·.den ρc)) with
   |true=>exact OG h.1.2
   |false=>exact OG h.2
 | .dc t k,m,ρc,h=>by
  simp only[iI,Bl] at h;exact OG (t:=k) h.2
 | .bad _,m,ρc,h=>by cases h
theorem YX{np:Nat}{rest:List (Nat×SV)}:∀ {ts:List Nat} {ps:List GD} {k t:Nat} {v:SV},lk t (xu np k ts ps++rest)=some v->
  (∃j p,ts[j]? = some t/\ps[j]? = some p/\v=GQ np (k+j) p)\/lk t rest=some v
 | [],_,k,t,v,h=>.inr h
 |_::_,[],k,t,v,h=>.inr h
 | u::ts,p::ps,k,t,v,h=>by
  simp only[xu,zct,lk] at h;cases hb:Nat.beq u t with
  |true=>
   rw[hb,cond_true,Ai] at h;have:=CR hb;subst this;exact .inl ⟨0,p,rfl,rfl,h.symm⟩
  |false=>
   rw[hb,cond_false] at h;rcases YX h with⟨j,q,h1,h2,h3⟩|h
   ·exact .inl ⟨j+1,q,by simpa using h1,by simpa using h2,by rw[h3];congr 1;omega⟩
   ·exact .inr h
theorem Y1{f:Nat->SV}:∀ {l:List Nat} {t:Nat} {v:SV},lk t (l.map λt=>(t,f t))=some v->t∈l/\v=f t
 | [],t,v,h=>by simp[lk] at h
 | u::l,t,v,h=>by
  simp only[NE,lk] at h;cases hb:Nat.beq u t with
  |true=>
   rw[hb,cond_true,Ai] at h;have:=CR hb;subst this;exact⟨Kh,h.symm⟩
  |false=>
   rw[hb,cond_false] at h;obtain⟨h1,h2⟩:=Y1 h;exact⟨Lv _ h1,h2⟩
theorem ZA{np:Nat}:∀ {ps:List GD} {i j:Nat} {p:GD},ps[j]? = some p->lk (i+j) (HT np i ps)=some (GQ np (i+j) p)
 | [],i,j,p,h=>by simp at h
 |q::ps,i,0,p,h=>by
  simp only[Ul,Ai] at h;subst h;simp only[HT,lk,P5,Nat.beq_refl,cond_true]
 |q::ps,i,j+1,p,h=>by
  have:=ZA (np:=np) (ps:=ps) (i:=i+1) (j:=j) (p:=p) (by simpa using h);rw[show i+(j+1)=i+1+j by omega];simp only[HT,lk];have hb:Nat.beq i (i+1+j)=false:=by cases hh:Nat.beq i (i+1+j) with|false=>rfl|true=>have:=CR hh;omega
  rw[hb,cond_false];exact this
theorem nk{GB:Nat}{w:World}:∀ {ps:List GD} {vs:List Value} {xs:List (List Int)} {bs cs:List (Nat×Nat)},KH GB w ps vs xs bs->cs.length=ps.length->
  (∀(i:Nat) (p:GD),ps[i]? = some p->p.cE≠none->bs.getD i (0,0)=cs.getD i (0,0))->KH GB w ps vs xs cs
 | [],[],[],[],[],_,_,_=>trivial
 |p::ps,v::vs,x::xs,b::bs,c::cs,h,hl,he=>by
  refine⟨?_,nk h.2 (by simpa using hl) λi q hq hn=>by simpa using he (i+1) q (by simpa using hq) hn⟩;have h0:=he 0 p rfl;have h1:=h.1;cases p with
  |int k=>exact h1
  |bool=>exact h1
  |agg ks=>exact h1
  |mem ks g wr=>have:=h0 (by simp[GD.cE]);simp only[Ru] at this;subst this;exact h1
  |sl ks g wr=>have:=h0 (by simp[GD.cE]);simp only[Ru] at this;subst this;exact h1
  |fy ks g wr=>have:=h0 (by simp[GD.cE]);simp only[Ru] at this;subst this;exact h1
 | [],[],[],[],_::_,_,hl,_=>by simp at hl
 |_::_,_::_,_::_,_::_,[],_,hl,_=>by simp at hl
 | [],_::_,_,_,_,h,_,_=>by simp[KH] at h
 | [],[],_::_,_,_,h,_,_=>by simp[KH] at h
 | [],[],[],_::_,_,h,_,_=>by simp[KH] at h
 |_::_,[],_,_,_,h,_,_=>by simp[KH] at h
 |_::_,_::_,[],_,_,h,_,_=>by simp[KH] at h
 |_::_,_::_,_::_,[],_,h,_,_=>by simp[KH] at h
theorem Wq{np:Nat}{V:Vl}:∀ {ps:List GD} {vs:List SV} {ms:List (Option MP)} {k:Nat},Tv np k ps vs ms=true->ms.length=ps.length/\∀(i:Nat) (p:GD),ps[i]? = some p->p.cE≠none->
  (ms.map (TF V)).getD i (0,0)=V.ν (k+i)/\vs[i]? = some (GQ np (k+i) p)
 | [],[],[],k,_=>⟨rfl,λi p h=>by simp at h⟩
 | p :: ps,v::vs,m::ms,k,h=>by
  simp only[Tv,Bl] at h;obtain⟨h0,h1⟩:=h;obtain⟨g1,g2⟩:=Wq (V:=V) h1;refine⟨by simp[g1],λi q hq hn=>?_⟩;cases i with
  | zero=>
   simp only[Ul,Ai] at hq;subst hq;cases hr:p.cE with
   |none=>exact absurd hr hn
   | some r=>
    rw[hr] at h0;cases m with
    |none=>cases h0
    |some x=>
     simp only[Bl] at h0;have e1:=CR h0.1.1;have e2:=CR h0.1.2;have e3:=SV.beq_eq h0.2;subst e3;refine⟨?_,by simp⟩;simp only[NE,Ru,TF,e1,e2,P5]
  |succ i=>
   obtain⟨e1,e2⟩:=g2 i q (by simpa using hq) hn;refine⟨?_,?_⟩
   ·simp only[NE,X7,e1];congr 1;omega
   ·rw[yl,e2];congr 2;omega
 | [],[],_::_,_,h=>by simp[Tv] at h
 | [],_::_,_,_,h=>by simp[Tv] at h
 |_::_,[],_,_,h=>by simp[Tv] at h
 |_::_,_::_,[],_,h=>by simp[Tv] at h
section
variable{P:Program}{C:Cx}{GB:Nat}{GC:Nat->Nat->Option Value}(hC:Vt P C GB GC){i:JJ}{ad:Nat->Nat×Nat}(hk:i.dc C=true)(lR:Ty GC ad i.cA)(me:∀x∈i.cA,(EC ad x.1).1<GB)
 (ω:∀E:En,E.P=P->E.C=C->E.GB=GB->E.GC=GC->J9 E i.c/\∀f j,lk f C.inl=some j->J9 E j.c)
include hC hk lR me ω
theorem zC{a:Act}{w:World}{ins:List (List Int)}{bs:List (Nat×Nat)}(ε:GW GC w)(δ:GB<=w.heap.size)(hP:KH GB w i.s0.params (i.ps.map λt=>a.tmps.getD t undef) ins bs)(hS:Fv i.s0.params bs)
  (eA:a.tmps.size=i.nt) (qq:a.defers= []) (ho:EY C.T (i.tree C) (Ce ins)):
  i.c.wp P (λe a' w'=>∃b r,i.step C ins=some (b,r)/\(b=true/\e= .normal\/b=false/\e= .exit i.id)/\KH GB w' i.s0.params (i.ps.map λt=>a'.tmps.getD t undef) r bs/\BM w w' (Wj i.s0 bs)/\
   a'.tmps.size=i.nt/\a'.defers= []/\(∀t,t∈i.cT->a'.tmps.getD t undef=a.tmps.getD t undef)/\
   (∀(j t:Nat) (p:GD),i.s0.params[j]? = some p->p.cE≠none->i.ps[j]? = some t->a'.tmps.getD t undef=a.tmps.getD t undef)/\GW GC w') a w:=by
 unfold JJ.dc at hk;simp only[Bl] at hk;obtain⟨⟨⟨⟨⟨⟨⟨k1,k2⟩,k3⟩,k4⟩,k5⟩,k6⟩,k7⟩,k8⟩:=hk;have As:=MQ k4;have iu:=MQ k5;have hlen:=CR k6;have DO:=hC.ok w (Wj i.s0 bs) (i0 bs 0 i.s0.params) i.s0.params.length (λj=>(i.ps.map λt=>a.tmps.getD t undef).getD j undef) δ;have mj:=dS (P:=P) (C:=C) (cA:=i.cA) (nt:=i.nt) DO.gc ε δ hP hS k2 lR me As iu;generalize fg:(i.ps.map λt=>a.tmps.getD t undef)=args at hP mj DO
 let np:=i.s0.params.length
 let V0:=v0 ad np args ins bs i.cA
 let V:Vl:= { V0 with σ:=λj=>if j<2*np then V0.σ j else a.tmps.getD (j-2*np) undef }
 let nv:=2*np+i.nt
 let E0:En:=e0 P C GB GC i.s0 args bs w
 let E:En:=Ev E0 (i0 bs 0 i.s0.params) nv V.σ
 have hE:P7 E:=P7.ev DO _ _ _;have gk:Ag (2*np) (Dh (ZZ i.s0.params i.cA i.nt).rg) V0 V:=⟨λ_ _=>rfl,λj hj=>if_pos hj,λ_ _=>rfl⟩;have tM:=mj.s.m.ag gk mj.s.nF;have aey:args.length=np:=by rw[<- fg,Tg,hlen]
 have HO:Gz E i.st V a w:=by
  refine⟨⟨⟨tM.pH,tM.one,tM.sep,tM.sY,tM.an,tM.gw⟩,λr hr lv oA=>LV.bh (show 2*np<=nv by omega) (λ_ h=>h) (mj.s.nF r hr lv oA),⟨λt v hv=>?_,λg l hg=>?_,λp hp=>mj.s.t.ln p hp⟩,eA,qq⟩,λp hp=>?_,λp hp=>mj.kp p hp,λ_ _=>rfl,KA _⟩
  ·have n8:lk t (xu np 0 i.ps i.s0.params++i.cT.map λt=>(t,SV.any (2*np+t)))=some v:=hv;rcases YX n8 with⟨j,p,h1,h2,h3⟩|h
   ·rw[Km] at h3;subst h3;have h4:=ZA (np:=np) (i:=0) h2;rw[Km] at h4;obtain⟨g1,g2,g3⟩:=mj.s.t.tm j (GQ np j p) (by simp only[St.look,ZZ,lk];exact h4);have hj:j<args.length:=by have:=(OQ.1 h2).1;omega
    refine⟨?_,SV.ff gk g3 g2,SV.bh (show 2*np<=nv by omega) (λ_ h=>h) g3⟩;rw[SV.cr gk g3, <- g1,Ti,Ti,Array.getElem?_append_left (by simpa using hj)];have:args[j]? = some (a.tmps.getD t undef):=by rw[<- fg,Ng,h1];rfl
    rw[List.getElem?_toArray (xs:=args),this,Ti];rfl
   ·obtain⟨h1,h2⟩:=Y1 h;subst h2;have cf:t<i.nt:=by
     have:=(List.mem_filter.1 h1).1;exact lZ.1 this
    refine⟨?_,trivial,?_⟩
    ·show _=(if 2*np+t<2*np then V0.σ (2*np+t) else a.tmps.getD (2*np+t-2*np) undef);rw[if_neg (by omega),Nat.add_sub_cancel_left]
    ·exact WL (show 2*np+t<nv by omega)
  ·exact mj.s.t.gl g l hg
  ·exact iH (mj.ll p hp) (show 2*np<=nv by omega)
 obtain⟨ρL,eL,sR,m0,Iv,hlf⟩:=OG (ρc:=Ce ins) k1;have aa8:=hlf;unfold JJ.rI at aa8;cases cP:i.leaf eL sR with
 |none=>rw[cP] at aa8;cases aa8
 |some q=>
 obtain⟨b,as⟩:=q;have GP:i.step C ins=some (b,as.map (·.den ρL)):=by
  unfold JJ.step;rw[Iv];simp only[cP]
 have hT:(i.tree C).cv C.T (fun ρ ex st=>JW nv V.ρ ρ/\ex=eL/\st=sR/\as.map (·.den ρ)=as.map (·.den ρL)) nv V.ρ:=fun ρ' hρ=>by
  refine Mq (λm hm hr=>⟨hρ,rfl,rfl,by
   unfold JJ.rI at hm;rw[cP] at hm;exact oS.cD hr hm⟩) k1 ?_ ho Iv
  ·intro j hj;have qv:=dJ hj;rw[hρ j (show j<nv by omega)];show V0.ρ j=_;simp only[V0,v0,np,qv,if_true];rfl
 have KB:=ω E rfl rfl rfl rfl;have acn:=ω E0 rfl rfl rfl rfl;have hex:=Xi (E0:=E0) DO hC.il acn.2 i.n (i0 bs 0 i.s0.params) nv V.σ _ [] i.c i.st V a w (λx hx=>(by cases hx)) trivial KB.1 rfl HO hT;refine wp_mono (KI hex) ?_;rintro e a' w' ⟨ex,cH,V',hx,gh,eM,hΦ⟩;obtain⟨acg,rfl,rfl,HH⟩:=hΦ V'.ρ (JW.refl _ _);refine⟨b,as.map (·.den ρL),GP,?_⟩;unfold JJ.leaf at cP;split at cP
 ·cases cP
 rename_i b0 th;split at cP
 ·cases cP
 rename_i vs oE;split at cP
 ·cases cP
 rename_i Mb ms hA;cases hb:(Vz cH.rg ms&&Tv i.s0.params.length 0 i.s0.params vs ms&&i.cT.all (kD i.s0.params.length cH)&&Nat.beq cH.nt i.nt) with
 |false=>rw[hb] at cP;cases cP
 |true=>
 rw[hb,cond_true,Ai,Prod.mk.injEq] at cP;obtain⟨rfl,rfl⟩:=cP;simp only[Bl] at hb;have acs:=CR hb.2;replace hb:=hb.1;obtain⟨q1,q2⟩:=PU eM oE;obtain⟨r1,-, -, -, -⟩:=S9 (E:=E) eM.s.m eM.s.t.ln hA (λv hv=>(q2 v hv).1) hb.1.1;obtain⟨u1,u2⟩:=Wq (V:=V') hb.1.2;have hνp:∀(j:Nat) (p:GD),i.s0.params[j]? = some p->p.cE≠none->V'.ν j=bs.getD j (0,0):=λj p hp hn=>by
  have:=WP (bs:=bs) (i:=0) hp hn;rw[Km] at this;exact(eM.kp _ this).2
 obtain⟨l1,l2,l3⟩:=SX hP;refine⟨?_,?_,eM.s.m.an,eM.s.nt.trans acs,eM.s.df,λt ht=>?_,λj t p hp hn ht=>?_,eM.s.m.gw⟩
 ·cases hx with
  |normal=>simp only[Ai] at th;exact .inl ⟨th.symm,rfl⟩
  | exit j=>
   simp only at th;cases hj:Nat.beq j i.id with
   |false=>rw[hj] at th;cases th
   |true=>
    rw[hj,cond_true,Ai] at th;have:=CR hj;subst this;exact .inr ⟨th.symm,rfl⟩
  |ret=>cases th
 ·rw[q1, <- HH];refine nk r1 l3 λj p hp hn=>?_
  rw[(u2 j p hp hn).1,Km,hνp j p hp hn]
 ·have h1:=Mx.1 hb.2 t ht;unfold kD at h1;split at h1
  ·rename_i j hj;have:=CR h1;subst this;have cf:t<i.nt:=lZ.1 (List.mem_filter.1 ht).1;obtain⟨g1,-, -⟩:=eM.s.t.tm t _ (by simp only[St.look,gh,lk];exact hj);rw[g1];show V'.σ (2*np+t)=_;rw[eM.ks (2*np+t) (show 2*np+t<nv by omega)];show(if 2*np+t<2*np then V0.σ (2*np+t) else a.tmps.getD (2*np+t-2*np) undef)=_;rw[if_neg (by omega),Nat.add_sub_cancel_left]
  ·cases h1
 ·have h1:=(u2 j p hp hn).2;rw[Km] at h1;have h2:a'.tmps.getD t undef=(GQ np j p).den V':=by
   have e1:(i.ps.map λt=>a'.tmps.getD t undef)[j]? = some (a'.tmps.getD t undef):=by rw[Ng,ht];rfl
   rw[q1,Ng,h1] at e1;exact(XW e1).symm
  have h4:=ZA (np:=np) (i:=0) hp;rw[Km] at h4;obtain⟨g1,g2,g3⟩:=mj.s.t.tm j (GQ np j p) (by simp only[St.look,ZZ,lk];exact h4);have hj:j<args.length:=by have:=(OQ.1 hp).1;omega
  have h5:a.tmps.getD t undef=(GQ np j p).den V0:=by
   rw[<- g1,Ti (xs:=args.toArray++_),Array.getElem?_append_left (by simpa using hj)];have:args[j]? = some (a.tmps.getD t undef):=by rw[<- fg,Ng,ht];rfl
   rw[List.getElem?_toArray (xs:=args),this];rfl
  rw[h2,h5];have cf:j<np:=by omega
  have hν:V'.ν j=V0.ν j:=by
   rw[hνp j p hp hn];have:=(mj.kp _ (by have:=WP (bs:=bs) (i:=0) hp hn;rw[Km] at this;exact this)).2;exact this.symm
  have hρ:V'.ρ (np+j)=V0.ρ (np+j):=acg (np+j) (show np+j<nv by omega);have hσ:V'.σ j=V0.σ j:=by
   rw[eM.ks j (show j<nv by omega)];exact if_pos (show j<2*np by omega)
  cases p with
  |mem ks g wr=>simp only[GQ,SV.aE,TV.aq,LV.cx,hν]
  |sl ks g wr=>simp only[GQ,SV.aE,TV.aq,LV.cI,CX.eW,X.den,hν,hρ]
  |fy ks g wr=>simp only[GQ,SV.aE,TV.aq,LV.den];exact hσ
  |int k=>exact absurd rfl hn
  |bool=>exact absurd rfl hn
  |agg ks=>exact absurd rfl hn
omit hC hk lR me ω in
theorem AHC{t:Nat}(h1:t<i.nt)(h2:ED t i.cl=false)(h3:t ∉ i.ps):t∈i.cT:=by
 have h4:ED t i.ps=false:=by
  cases hh:ED t i.ps with
  |false=>rfl
  |true=>exact absurd (Gp.1 hh) h3
 unfold JJ.cT;exact List.mem_filter.2 ⟨lZ.2 h1,by simp[T9,h2,h4]⟩
def sK(i:JJ)(_C:Cx)(GB:Nat)(GC:Nat->Nat->Option Value)(a0:Act)(w0:World)(bs:List (Nat×Nat))(r:List (List Int))(a':Act)(w':World):Prop:=
 KH GB w' i.s0.params (i.ps.map λt=>a'.tmps.getD t undef) r bs/\BM w0 w' (Wj i.s0 bs)/\a'.tmps.size=i.nt/\a'.defers= []/\(∀t,t∈i.cT->a'.tmps.getD t undef=a0.tmps.getD t undef)/\
  (∀(j t:Nat) (p:GD),i.s0.params[j]? = some p->p.cE≠none->i.ps[j]? = some t->a'.tmps.getD t undef=a0.tmps.getD t undef)/\GW GC w'
theorem Z8{a0:Act}{w0:World}{bs:List (Nat×Nat)}(hS:Fv i.s0.params bs)(adq:GB<=w0.heap.size):∀(n:Nat) (a:Act) (w:World) (ins:List (List Int)),sK i C GB GC a0 w0 bs ins a w->jJ (i.step C) (λins=>EY C.T (i.tree C) (Ce ins)) n ins->
  Code.rounds P i.c (Exit.inBlock i.id λe a' w'=>e= .normal/\sK i C GB GC a0 w0 bs (K6 (i.step C) n ins) a' w') n a w
 |0,a,w,ins,_,ho=>ho.elim
 | n+1,a,w,ins,hI,ho=>by
  obtain⟨h1,h2,h3,h4,h5,h6,h7⟩:=hI;obtain⟨o1,o2⟩:=ho;rw[rounds_succ];refine wp_mono (zC hC hk lR me ω h7 (z8 adq h2.1) h1 hS h3 h4 o1) ?_;rintro e a' w' ⟨b,r,gf,hbe,g1,g2,g3,g4,g5,g6,g7⟩;have GO:sK i C GB GC a0 w0 bs r a' w':=⟨g1,h2.trans g2,g3,g4,λt ht=>(g5 t ht).trans (h5 t ht),λj t p hp hn ht=>(g6 j t p hp hn ht).trans (h6 j t p hp hn ht),g7⟩;rw[gf] at o2;unfold K6;rw[gf];rcases hbe with⟨rfl,rfl⟩|⟨rfl,rfl⟩
  ·exact Z8 hS adq n a' w' r GO o2
  ·show(if i.id=i.id then _ else _);rw[if_pos rfl];exact⟨rfl,GO⟩
omit hC hk lR me ω in
theorem rA{v:List (List Int)->List (List Int)}{ins r:List (List Int)}(hv:v ins=r){args:List Value}{w:World}{bs:List (Nat×Nat)}{f:Nat->Value}:∀ {ps:List GD} {ts:List Nat} {xs:List (List Int)} {cs:List (Nat×Nat)} {k:Nat},KH GB w ps (ts.map f) xs cs->(∀(j:Nat),xs[j]? = r[k+j]?)->
  pg ins args [] (XQ v k ps) ((Wa ts ps).map f)
 | [],[],[],[],k,_,_=>trivial
 | p::ps,t::ts,x::xs,c::cs,k,h,hx=>by
  have ih:=rA hv (args:=args) (w:=w) (bs:=bs) (f:=f) (ps:=ps) (ts:=ts) (xs:=xs) (cs:=cs) (k:=k+1) h.2 (λj=>by have:=hx (j+1);rw[yl] at this;rw[this];congr 1;omega);have h0:=hx 0;rw[Ul,P5] at h0;have hg:r.getD k []=x:=by rw[List.getD, <- h0];rfl
  have h1:=h.1;cases p with
  |int κ=>
   obtain⟨y,rfl,e,hr⟩:=h1;refine⟨?_,ih⟩;show f t= .int κ (d1 ((v ins).getD k []))/\IU κ (d1 ((v ins).getD k []));rw[hv,hg];exact⟨e,hr⟩
  |bool=>
   obtain⟨y,rfl,e⟩:=h1;refine⟨?_,ih⟩;show f t= .bool (d1 ((v ins).getD k []) != 0);rw[hv,hg];exact e
  |agg ks=>
   refine⟨?_,ih⟩;show La ks (BK ks.length ((v ins).getD k []))/\f t= .agg (Aj ks (BK ks.length ((v ins).getD k []))).toArray;rw[hv,hg,Bn h1.1.1];exact h1
  |mem ks g wr=>exact ih
  |sl ks g wr=>exact ih
  |fy ks g wr=>exact ih
 | [],_::_,_,_,_,h,_=>by simp[KH] at h
 | [],[],_::_,_,_,h,_=>by simp[KH] at h
 | [],[],[],_::_,_,h,_=>by simp[KH] at h
 |_::_,[],_,_,_,h,_=>by simp[KH] at h
 |_::_,_::_,[],_,_,h,_=>by simp[KH] at h
 |_::_,_::_,_::_,[],_,h,_=>by simp[KH] at h
omit hC hk lR me ω in
theorem tZ{t:Nat}:∀ {ts:List Nat} {ps:List GD},ts.length=ps.length->t∈ts->t ∉ Wa ts ps->∃(j:Nat) (p:GD),ps[j]? = some p/\p.cE≠none/\ts[j]? = some t
 | [],_,_,h,_=>by cases h
 |u::ts,[],hl,_,_=>by simp at hl
 | u::ts,p::ps,hl,h,hn=>by
  have next:t∈ts->t ∉ Wa ts ps->∃(j:Nat) (q:GD),(p::ps)[j]? = some q/\q.cE≠none/\(u::ts)[j]? = some t:=λh hn=>by
   obtain⟨j,q,h1,h2,h3⟩:=tZ (by simpa using hl) h hn;exact⟨j+1,q,by simpa using h1,h2,by simpa using h3⟩
  rcases IR.1 h with rfl|h
  ·cases p with
   |int k=>exact absurd Kh hn
   |bool=>exact absurd Kh hn
   |agg ks=>exact absurd Kh hn
   |mem ks g wr=>exact⟨0,_,rfl,by simp[GD.cE],rfl⟩
   |sl ks g wr=>exact⟨0,_,rfl,by simp[GD.cE],rfl⟩
   |fy ks g wr=>exact⟨0,_,rfl,by simp[GD.cE],rfl⟩
  ·refine next h λhh=>hn ?_
   cases p<;>first|exact Lv _ hh|exact hh
theorem JJ.ok{E:En}(e1:E.P=P)(e2:E.GB=GB)(e3:E.GC=GC){d:LD}(d1:d.ps=i.ps)(d2:d.ss=i.ss)(d3:d.cl=i.cl)(d4:d.nt=i.nt){pre:List (List Int)->Prop}(hT:∀fe,lk d.xT E.C.T=some fe->fe= .one (i.sum C pre))
  (Zs:∀ins,Uw i.s0.params ins->pre ins->i.pre C ins):ZC E d i.id (.loop i.c):=by
 intro fe DH a w ins bs ε δ hP hS DB qq eA;rw[hT fe DH] at hP hS DB ⊢;rw[e2] at δ hP;rw[e3] at ε ⊢;rw[e1];rw[d1] at hP ⊢;rw[d4] at eA;have hP0:KH GB w i.s0.params (i.ps.map λt=>a.tmps.getD t undef) ins bs:=hP;have mj:Fv i.s0.params bs:=hS;have akl:i.pre C ins:=Zs ins (gG hP0) (DB rfl);have hI:sK i C GB GC a w bs ins a w:=⟨hP0,BM.refl _ _,eA,qq,λ_ _=>rfl,λ_ _ _ _ _ _=>rfl,ε⟩;have hr:=Z8 hC hk lR me ω mj δ (i.fuel ins) a w ins hI akl;refine wp_mono (wp_block (wp_loop_rounds _ hr)) ?_;rintro e a' w' ⟨rfl,g1,g2,g3,g4,g5,g6,g7⟩;have cG:i.val C ins=K6 (i.step C) (i.fuel ins) ins:=rfl;have gE:=hk;unfold JJ.dc at gE;simp only[Bl] at gE;obtain⟨⟨⟨⟨⟨⟨⟨k1,k2⟩,k3⟩,k4⟩,k5⟩,k6⟩,k7⟩,k8⟩:=gE;have hlen:=CR k6;refine⟨rfl,[],(i.ss.map λt=>a'.tmps.getD t undef),⟨rfl,λb hb=>(by cases hb),λx y p q b c hp=>(by simp[FE.ca,JJ.sum] at hp),?_,λp hp=>?_,λj p b hp=>(by simp[FE.ca,JJ.sum] at hp),?_,g7⟩,g3.trans eA.symm,g4,λt ht hn=>?_,λj t v hj hv=>?_⟩
 ·have:Wj (FE.ca (.one (i.sum C pre)) true) bs=Wj i.s0 bs:=by
   funext b o
   apply propext;unfold Wj;simp only[FE.ca,JJ.sum,UT];constructor
   ·rintro⟨p,⟨q,hq,rfl⟩,h⟩;exact⟨q,hq,h⟩
   ·rintro⟨q,hq,h⟩;exact⟨_,⟨q,hq,rfl⟩,h⟩
  rw[this];exact g2
 ·simp only[FE.ca,JJ.sum,UT] at hp;obtain⟨q,hq,rfl⟩:=hp;have h1:=Mx.1 k3 q hq;simp only[cG];split at h1
  ·rename_i ks g hp;obtain⟨v,x,b,p1,p2,p3,p4⟩:=QM g1 _ _ hp;have:=Gy (λ_ _=>NK) h1;subst this;have hx:(K6 (i.step C) (i.fuel ins) ins).getD q.1 []=x:=by rw[List.getD,p2];rfl
   rw[Gx p3,hx,Bn p4.2.1.1.1];exact p4.2.1
  ·rename_i ks g hp;obtain⟨v,x,b,p1,p2,p3,p4⟩:=QM g1 _ _ hp;have:=Gy (λ_ _=>NK) h1;subst this;obtain⟨c,_,_,p5,_⟩:=p4;have hx:(K6 (i.step C) (i.fuel ins) ins).getD q.1 []=x:=by rw[List.getD,p2];rfl
   rw[Gx p3,hx,Bn p5.1.1];exact p5
  ·rename_i ks g hp;obtain⟨v,x,b,p1,p2,p3,p4⟩:=QM g1 _ _ hp;have:=Gy (λ_ _=>NK) h1;subst this;obtain⟨m,c,_,_,p5,_⟩:=p4;have hx:(K6 (i.step C) (i.fuel ins) ins).getD q.1 []=x:=by rw[List.getD,p2];rfl
   rw[Gx p3,hx,Bn p5.1.1];exact p5
  ·cases h1
 ·exact rA (v:=i.val C) (r:=i.val C ins) rfl (w:=w') (bs:=bs) g1 (λj=>by rw[Km];rfl)
 ·rw[d3] at ht;rw[d2] at hn;by_cases cf:t<i.nt
  ·by_cases hps:t∈i.ps
   ·obtain⟨j,p,h1,h2,h3⟩:=tZ hlen hps hn;exact g6 j t p h1 h2 h3
   ·exact g5 t (AHC cf ht hps)
  ·simp[Array.getD,g3,eA,cf]
 ·rw[d2] at hj;rw[Ng,hj] at hv;exact XW hv
end
end
section
open Go
def P9(id:Nat):Code->List Code
 | .seq a b=>P9 id a++P9 id b
 | .cond _ t e=>P9 id t++P9 id e
 | .block j (.loop c)=>(bif Nat.beq j id then[c] else[])++P9 id c
 | .block _ c=>P9 id c
 | .loop c=>P9 id c
 |_=>[]
def WK(id:Nat)(c:Code):Code:=match P9 id c with
 | [b]=>b
 |_=>.skip
def Sz(ids:List Nat):Code->Bool
 | .seq a b=>Sz ids a&&Sz ids b
 | .cond _ t e=>Sz ids t&&Sz ids e
 | .block id c=>T9 id ids&&Sz ids c
 | .loop c=>Sz ids c
 |_=>true
theorem J9.fX{E:En}:∀(c:Code),Sz (E.C.loops.map (·.1)) c=true->J9 E c
 | .seq a b,h=>by simp only[Sz,Bl] at h;exact⟨J9.fX a h.1,J9.fX b h.2⟩
 | .cond _ a b,h=>by simp only[Sz,Bl] at h;exact⟨J9.fX a h.1,J9.fX b h.2⟩
 | .block id c,h=>by
  simp only[Sz,Bl] at h;refine⟨J9.fX c h.2,λd hd=>?_⟩;have h1:=h.1;have:ED id (E.C.loops.map (·.1))=true:=Gp.2 (UT.2 ⟨_,Ni hd,rfl⟩);simp[T9,this] at h1
 | .loop c,h=>J9.fX c h
 | .skip,_=>trivial
 | .region .., _=>trivial
 | .exit _,_=>trivial
 | .ret,_=>trivial
 | .goto _,_=>trivial
 | .label _,_=>trivial
 | .scope _,_=>trivial
 | .rangeFunc .., _=>trivial
 | .refuse _,_=>trivial
theorem J9.one{E:En}{id:Nat}{d:LD}{c b:Code}(hl:E.C.loops= [(id,d)])(hb:MI id c= [.loop b])(hL:ZC E d id (.loop b))(h1:∀fe,lk d.xT E.C.T=some fe->∀x,fe.oe x=true):J9 E c:=
 J9.eS c λj e he=>by
  rw[hl] at he;simp only[lk] at he;cases hj:Nat.beq id j with
  |false=>rw[hj] at he;cases he
  |true=>
   rw[hj,cond_true,Ai] at he;have:=CR hj;subst this;subst he;refine⟨λbody LO=>?_,h1⟩;rw[hb,NB] at LO;subst LO;exact hL
theorem Ad.ajl{i:Ad}{P:Program}{C:Cx}{GB:Nat}{GC:Nat->Nat->Option Value}{ad:Nat->Nat×Nat}(hC:Vt P C GB GC){f:Nat}{fn:Func}(hf:P.funcs[f]? = some fn)(hb:fn.body=some i.c)(hn:fn.ntmps=i.nt)(hr:fn.results.toList=i.cF)
  (ω:∀E:En,E.P=P->E.C=C->E.GB=GB->E.GC=GC->J9 E i.c/\∀f i,lk f C.inl=some i->J9 E i.c) (lR:Ty GC ad i.cA) (me:∀x∈i.cA,(EC ad x.1).1<GB) (hk:i.dc C=true) {pre:List (List Int)->Prop} (hpd:∀ins,Uw i.s0.params ins->pre ins->EY C.T (i.tree C) (Ce ins)):Ck P GB GC f (.one (i.Hh C pre)):=
 Ck.one λargs ins bs w h1 h2 h3 h4 h5=>Ad.gen (hyp:=pre) hC hf hb hn hr ω lR me hk hpd args ins bs w h1 h2 h3 h4 (h5 rfl)
end
end Go.Proofs.YtloibefkijfdlaaGreatDoor
