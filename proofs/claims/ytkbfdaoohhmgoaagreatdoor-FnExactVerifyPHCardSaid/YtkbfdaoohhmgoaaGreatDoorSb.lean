/- The symbolic executor, part 12: any one operation. -/
import Derived.Test.YtkbfdaoohhmgoaaGreatDoorSa
import Derived.Laws.BytesString
import Derived.Laws.Append
import Derived.LoopN
import Derived.Tactics
import Derived.Laws.Sem
namespace Go.Proofs.YtkbfdaoohhmgoaaGreatDoor
section
open Go
section
variable{st:St}{V:Vl}{a:Act}
theorem TN.oc(h:TN st V a):∀ {xs:List Operand} {vs:List SV},oc st xs=some vs->xs.map a.eval=vs.map (·.den V)/\∀v∈vs,v.ok V/\v.lt st.nv (DL st.rg)=true
 | [],vs,hx=>by
  simp only[Go.Proofs.YtkbfdaoohhmgoaaGreatDoor.oc,Ai] at hx;subst hx;exact⟨rfl,λv h=>by cases h⟩
 | x::xs,vs,hx=>by
  unfold Go.Proofs.YtkbfdaoohhmgoaaGreatDoor.oc at hx;split at hx
  ·rename_i v ws h1 h2;simp only[Ai] at hx;subst hx;obtain⟨g1,g2,g3⟩:=h.cL h1;obtain⟨g4,g5⟩:=h.oc h2;refine⟨by simp[g1,g4],λu hu=>?_⟩;rcases G9.1 hu with rfl|hu
   ·exact⟨g2,g3⟩
   ·exact g5 u hu
  ·cases hx
end
theorem eY{P:Program}{ρ:Operand->Value}(hρ:∀f,ρ (.func f)= .func (.func f) #[] #[])(dst:Option Tmp)(f:Nat)(args:Array Operand)(gR:Array TypeId)(ty:TypeId)(pos:String)(after:Array Edge)(g:Option (Nat×Bool))(w:World):
  (execOp ρ ⟨dst,.call ⟨.value (.func f),args,gR⟩,ty,pos,after,g⟩).run P w=(callFunc f (args.map ρ)).run P w:=by
 simp only[execOp,resolve,hρ,Deferred.ofValue,Gi,I4,Fb,invoke,Array.empty_append,Array.append_empty]
theorem Vq{P:Program}{ρ:Operand->Value}(dst:Option Tmp)(b:Builtin)(args:Array Operand)(gR:Array TypeId)(ty:TypeId)(pos:String)(after:Array Edge)(g:Option (Nat×Bool))(w:World):
  ∃cs,(execOp ρ ⟨dst,.call ⟨.builtin b,args,gR⟩,ty,pos,after,g⟩).run P w=(builtin b gR ty cs (args.map ρ)).run P w:=
 ⟨_,by simp only[execOp,resolve,Gi,I4,Fb,invoke];rfl⟩
theorem bQ(z:List Value)(hz:0<z.length):∀n,(List.range (n*z.length)).map (λi=>z.getD (i%z.length) default)=XQ n z
 |0=>by simp[XQ]
 | n+1=>by
  rw[show(n+1)*z.length=z.length+n*z.length by rw[Nat.add_mul];omega,List.range_add,List.map_append,XQ]
  congr 1
  ·apply List.ext_getElem?;intro i;by_cases hi:i<z.length
   ·rw[Ng,List.getElem?_range hi];simp[Nat.mod_eq_of_lt hi,Io hi]
   ·rw[List.getElem?_eq_none (by simp;omega),List.getElem?_eq_none (by omega)]
  ·rw[<- bQ z hz n,List.map_map];apply fT;intro i _;simp
theorem ZI(z:Array Value)(hz:0<z.size)(n:Nat):(Array.range (n*z.size)).map (λi=>z[i%z.size]!)=(XQ n z.toList).toArray:=by
 apply Array.ext';rw[<- bQ z.toList (by simpa using hz) n];simp only[Array.toList_map,Array.toList_range,Array.length_toList];apply fT;intro i _;simp[List.getD,getElem!_def];cases z[i%z.size]? <;> rfl
theorem ZZ{α β:Type}(f:α->β)(l:List α):∀n,(XQ n l).map f=XQ n (l.map f)
 |0=>rfl
 |n+1=>by simp[XQ,ZZ f l n]
theorem Z7{α:Type}{x:α}{l:List α}:∀ {n:Nat},x∈XQ n l->x∈l
 |0,h=>by cases h
 |n+1,h=>by
  rcases qM.1 h with h|h
  ·exact h
  ·exact Z7 h
theorem Fq{P:Program}{o:Oper}{a:Act}{w w':World}{next:Act->World->Prop}{Q:Exit->Act->World->Prop}{v:Value}(h:(execOp a.eval o).run P w= .ok (.value v) w')(hn:next (a.put o.dst v) w'):
  o.wp P a w next Q:=by
 unfold Oper.wp;rw[h];exact hn
section
variable{E:En}(hE:P5 E){st:St}{V:Vl}{a:Act}{w:World}{bv:Nat}(hm:Oc E st.rg V w)(hs:Ym bv st.rg)(hT:TN st V a)(sk:st.nv<=bv)
include hE hm hs hT sk
theorem Vt{l:Nat}{cs:List LV}{v:LV}{m:ZW}{nb:Nat}(h:rJ bv st.rg l cs v=some m)(eM:∀c∈cs,c.ok V)(elem:Nat):
  ∃w' V',(newRow elem (cs.map (·.den V)).toArray).run E.P w= .ok ⟨w.heap.size,0,none⟩ w'/\Vw E st V nb bv m.rg m.er V' w'/\V'.ν l=(w.heap.size,0)/\m.o= .val (Gq v):=by
 have _:=sk;unfold rJ at h;split at h
 ·rename_i rg oT;simp only[Ai] at h;subst h;obtain⟨w',h1,h2,h3,h4⟩:=AML hE hm hs hT.ln (nb:=nb) oT eM elem;exact⟨w',_,h1,h2,h3,rfl⟩
 ·cases h
omit hE hm hs hT sk in
theorem lU(C:Cx)(st:St)(vs:List SV)(f:Nat)(hf:f<10000):∀(n k:Nat),k%10000=f->k+10000*n<1000000->vQ C st vs n k%10000=f/\vQ C st vs n k<1000000
 |0,k,h,hl=>⟨h,by simp only[vQ];omega⟩
 | n+1,k,h,hl=>by
  unfold vQ;split
  ·split
   ·exact⟨h,by omega⟩
   ·exact lU C st vs f hf n (k+10000) (by omega) (by omega)
  ·exact⟨h,by omega⟩
omit hE hm hs hT sk in
theorem uG{rg:List Rg}{r:Option ND}{m:ZW}(h:ADl rg r=some m):∃o,r=some o/\m=⟨o,rg,false⟩:=by
 cases r with
 |none=>cases h
 |some o=>simp only[ADl,Ai] at h;exact⟨o,rfl,h.symm⟩
omit hE hm hs hT sk in
theorem AEi{op:BinOp}{A B:Hy}{nb:Nat}{o:ND}(h:AEZ op A B nb=some o)(hd:HX E.C.T V o.ds):
  (op= .eql\/op= .neq)/\o.v.den V= .bool (cond (match op with | .eql=>true|_=>false) (A.den V.ρ == B.den V.ρ) (!(A.den V.ρ == B.den V.ρ)))/\o.v.ok V/\o.ln= []:=by
 unfold AEZ at h;split at h
 ·simp only[Ai] at h;subst h;have h1:=hd _ Jv;simp only[FT.den,NR.den,NM,VW,Qx,aa] at h1;refine⟨.inl rfl,?_,trivial,rfl⟩;simp only[Gq,SV.aE,TV.aq,LV.ca,X.den,h1,Qx,aA,cond_true]
 ·simp only[Ai] at h;subst h;have h1:=hd _ Jv;have h2:=hd _ (MN _ Jv);simp only[FT.den,NR.den,NM,VW,Qx,aa,Hy.gi,X.den] at h1 h2;refine⟨.inr rfl,?_,trivial,rfl⟩;simp only[Gq,SV.aE,TV.aq,LV.ca,X.den,h2,h1,Qx,aA,cond_false,d1];cases (A.den V.ρ == B.den V.ρ)<;>rfl
 ·cases h
theorem lZ {o:Oper} {cf:Bool} {nb lb:Nat} {m:ZW} (h:Lc E.C o cf nb lb bv st=some m) (hd:HX E.C.T V m.o.ds) (ho:ObH E.C.T V m.o.ob)
  (jx:∀f args gR vs fe as,o.op= .call ⟨.value (.func f),args,gR⟩->oc st args.toList=some vs->lk f E.C.T=some fe->Oh st (fe.cf cf).params vs=some as->fe.j7 (as.1.map (·.den V.ρ))=cf)
  (LO:m.er=false\/(Ym nb st.rg/\st.nv<=nb)) {next:Act->World->Prop} {Q:Exit->Act->World->Prop}
  (K:∀V' w',Vw E st V nb bv m.rg m.er V' w'->m.o.v.ok V'->next (a.put o.dst (m.o.v.den V')) w'):o.wp E.P a w next Q:=by
 have hW:∀r,QH E.C o nb st=some r->some (ZW.mk r st.rg false)=some m->o.wp E.P a w next Q:=λr hr he=>by
  simp only[Ai] at he;subst he;obtain⟨h1,h2,-⟩:=ng hE.tt hT hr hd ho;exact Fq (h1 w) (K V w (.same hm hs) h2)
 obtain⟨dst,op,type,pos,after,guard⟩:=o;cases op
 case load t x=>
  simp only[Lc] at h;split at h
  ·rename_i v hx;split at h
   ·rename_i r hr;simp only[Ai] at h;subst h;obtain⟨h1,h2,-⟩:=hT.cL hx;obtain⟨h3,h4⟩:=Y4 hE hm hT.ln hr h2 hd;refine Fq (v:=r.v.den V) (w':=w) ?_ (K V w (.same hm hs) h4);have kO:a.eval x=v.den V:=h1;simp only[execOp,kO,Gi,h3,Fb,I4]
   ·cases h
  ·cases h
 case store t x y=>
  simp only[Lc] at h;split at h
  ·rename_i v u hx hy;obtain⟨h1,h2,-⟩:=hT.cL hx;obtain⟨h3,h4,-⟩:=hT.cL hy;obtain⟨w',h5,h6,h7⟩:=AA0 hE hm hs hT.ln h h2 h4 hd;have kO:a.eval x=v.den V:=h1;have wj:a.eval y=u.den V:=h3;have hr:(execOp a.eval ⟨dst,.store t x y,type,pos,after,guard⟩).run E.P w= .ok .skip w':=by
    simp only[execOp,kO,wj,Gi,h5,Fb,I4]
   have hk:=K V w' h6 (by rw[h7];exact λt h=>by cases h);rw[h7] at hk;unfold Oper.wp;rw[hr];exact hk
  ·cases h
 case alloc t=>
  simp only[Lc] at h;split at h
  ·rename_i d mS;obtain⟨z,hz,hzl⟩:=TD.iv (hE.tt t d mS) w;obtain⟨rL,rm⟩:=Tz hzl V st.nv (DL st.rg);obtain⟨w',V',h1,h2,h3,h4⟩:=Vt hE hm hs hT sk (nb:=nb) h (λc hc=>(rm c hc).1) t;have hzc:(d.zero.map (·.den V)).toArray=z.cells:=by rw[rL]
   rw[hzc] at h1;refine Fq (v:=.pointer (some ⟨w.heap.size,0,none⟩)) (w':=w') ?_ ?_
   ·simp only[execOp,Instr.alloc,Gi,hz,Fb,newVar,h1,I4]
   ·have:=K V' w' h2 (by rw[h4];trivial);rw[h4] at this;simpa only[ND.val,Gq,SV.aE,TV.aq,LV.cx,h3,QO] using this
  ·cases h
 case box t x=>
  simp only[Lc] at h;split at h
  ·rename_i v hx;obtain⟨h1,h2,-⟩:=hT.cL hx;obtain⟨w',V',h3,h4,h5,h6⟩:=Vt hE hm hs hT sk (nb:=nb) h (TV.pS h2) t;have kO:a.eval x=v.den V:=h1;have hc:(v.cells.map (·.den V)).toArray=(v.den V).cells:=by rw[<- TV.nn h2]
   rw[hc] at h3;refine Fq (v:=.pointer (some ⟨w.heap.size,0,none⟩)) (w':=w') ?_ ?_
   ·simp only[execOp,kO,Instr.box,newVar,Gi,h3,Fb,I4]
   ·have:=K V' w' h4 (by rw[h6];trivial);rw[h6] at this;simpa only[ND.val,Gq,SV.aE,TV.aq,LV.cx,h5,QO] using this
  ·cases h
 case buildSlice t n ps=>
  simp only[Lc] at h;split at h
  ·rename_i e sz pB ag zz vs mS n8;split at h
   ·rename_i d pL;cases hb:(Nat.ble (n*d.size) 16777216&&Nat.blt 0 (n*d.size)&&Nat.beq d.zero.length d.size) with
    | false=>
     rw[hb] at h;simp only[cond_false] at h;cases MT:Nat.beq n 0 with
     |false=>rw[MT] at h;simp at h
     | true=>
      rw[MT] at h;simp only[cond_true] at h;have hn:=Ca MT;subst hn;split at h
      ·obtain⟨zE,oY⟩:=hT.parts n8;have AK:(ps.map λ(p:Nat×Operand)=>(p.1,a.eval p.2)).toList= []:=by
        rw[Array.toList_map];exact zE
       have cX:=TD.cW (hE.tt e d pL) w;obtain⟨desc,hu,hk⟩:=TD.bh (hE.tt _ _ mS) rfl;have:=TK.dj hk;subst this;obtain⟨w',V',g1,g2,g3,g4⟩:=Vt hE hm hs hT sk (nb:=nb) h (λc hc=>by cases hc) e;have g1':(newRow e #[]).run E.P w= .ok ⟨w.heap.size,0,none⟩ w':=g1;refine Fq (v:=.slice (some ⟨w.heap.size,0,none⟩) 0 0) (w':=w') ?_ ?_
       ·simp only[execOp,Instr.buildSlice,Gi,hu,Fb,cX];rw[if_neg (by simp),if_pos (by simp)];simp only[Gi,Fb,I4];rw[AK];have hr:(Array.range (0*d.size))= #[]:=by simp
        simp only[hr,Instr.fill,List.map_toArray,VW,Gi,g1',Fb,I4]
       ·have:=K V' w' g2 (by rw[g4];simp only[ND.val,Gq,SV.ok,TV.ok,LV.ok,CX.den,X.den];omega);rw[g4] at this;simpa only[ND.val,Gq,SV.aE,TV.aq,LV.cE,g3,QO,CX.ff,X.bc,Rh,Nat.sub_zero,Int.toNat_zero] using this
      ·cases h
    | true=>
     rw[hb] at h;simp only[cond_true] at h;simp only[Bj] at hb;have rj:=Kv hb.1.1;have cV:=Dh hb.1.2;have hb3:=Ca hb.2;split at h
     ·rename_i cs cS;obtain⟨z,hz,hzl⟩:=TD.iv (hE.tt e d pL) w;obtain⟨rL,rm⟩:=Tz hzl V st.nv (DL st.rg);obtain⟨zE,oY⟩:=hT.parts n8;have AK:(ps.map λ(p:Nat×Operand)=>(p.1,a.eval p.2)).toList=vs.map λp=>(p.1,p.2.den V):=by
       rw[Array.toList_map];exact zE
      have cX:=TD.cW (hE.tt e d pL) w;have eN:I7 E.C e=some d.size:=by simp only[I7,pL]
      obtain⟨h3,h4⟩:=WU (C:=E.C) (k:=.arr n e) (V:=V) (place:=λi=>some (i*d.size,d.size)) (λi p hp=>by
       simp only[Zn,eN] at hp;exact hp) cS (λc hc=>(rm c (Z7 hc)).1) (λp hp=>(oY p hp).1)
      obtain⟨desc,hu,hk⟩:=TD.bh (hE.tt _ _ mS) rfl;have:=TK.dj hk;subst this;obtain⟨w',V',g1,g2,g3,g4⟩:=Vt hE hm hs hT sk (nb:=nb) h h4 e;have hzs:z.cells.size=d.size:=by rw[<- Array.length_toList, <- rL,UC,hb3]
      have Mp:0<d.size:=by
       cases rK:d.size with
       |zero=>rw[rK] at cV;simp at cV
       |succ k=>omega
      have hzr:(Array.range (n*d.size)).map (λi=>z.cells[i%z.cells.size]!)=((XQ n d.zero).map (·.den V)).toArray:=by
       rw[ZZ,rL, <- hzs];exact ZI z.cells (by omega) n
      refine Fq (v:=.slice (some ⟨w.heap.size,0,none⟩) n n) (w':=w') ?_ ?_
      ·simp only[execOp,Instr.buildSlice,Gi,hu,Fb,cX];rw[if_neg (by omega),if_neg (by omega)];simp only[Gi,hz,Fb,I4,hzr];rw[show(ps.map λx=>match x with|(i,x)=>(i,a.eval x)).toList=vs.map λp=>(p.1,p.2.den V) from AK];simp only[h3,Gi,g1,Fb,I4]
      ·have:=K V' w' g2 (by rw[g4];simp only[ND.val,Gq,SV.ok,TV.ok,LV.ok,CX.den,X.den];omega);rw[g4] at this;simpa only[ND.val,Gq,SV.aE,TV.aq,LV.cE,g3,QO,CX.ff,X.bc,Rh,Nat.sub_zero] using this
     ·cases h
   ·cases h
  ·cases h
 case makeSlice t x y=>
  simp only[Lc] at h;split at h
  ·rename_i e sz pB ag zz n c mS hn hc;split at h
   ·rename_i d pL;cases hb:(Nat.ble n c&&Nat.ble c 65536&&Nat.ble (d.bytes*c) 281474976710656&&Nat.blt 0 (c*d.size)&&Nat.beq d.zero.length d.size) with
    |false=>rw[hb] at h;simp at h
    | true=>
     rw[hb] at h;simp only[cond_true] at h;simp only[Bj] at hb;have rj:=Kv hb.1.1.1.1;have cV:=Kv hb.1.1.1.2;have hb3:=Kv hb.1.1.2;have xj:=Dh hb.1.2;have hb5:=Ca hb.2;obtain⟨z,hz,hzl⟩:=TD.iv (hE.tt e d pL) w;obtain⟨rL,rm⟩:=Tz hzl V st.nv (DL st.rg);obtain⟨desc,hu,hk⟩:=TD.bh (hE.tt _ _ mS) rfl;have:=TK.dj hk;subst this;obtain⟨w',V',g1,g2,g3,g4⟩:=Vt hE hm hs hT sk (nb:=nb) h (λc' j8=>(rm c' (Z7 j8)).1) e;obtain⟨kn,hxn⟩:=hT.lj hn;obtain⟨kc,hxc⟩:=hT.lj hc;have cX:=TD.cW (hE.tt e d pL) w;obtain⟨abK,ii,zz',q1,q2,q3,q4,q5,q6,q7,q8⟩:=TD.jt (hE.tt e d pL);have hti:(typeInfo e).run E.P w= .ok ii w:=by simp[typeInfo,q2]
     have hzs:z.cells.size=d.size:=by rw[<- Array.length_toList, <- rL,UC,hb5]
     have Mp:0<d.size:=by
      cases rK:d.size with
      |zero=>rw[rK] at xj;simp at xj
      |succ k=>omega
     have hzr:(Array.range (c*d.size)).map (λi=>z.cells[i%z.cells.size]!)=((XQ c d.zero).map (·.den V)).toArray:=by
      rw[ZZ,rL, <- hzs];exact ZI z.cells (by omega) c
     have lB:∀j:Nat,j<=65536->IntKind.i64.wrap (j:Int)=j:=λj hj=>by
      simp[IntKind.wrap,IntKind.bits,IntKind.signed];omega
     have hbc:((d.bytes:Int)*(c:Int))<=281474976710656:=by
      rw[<- Int.natCast_mul];omega
     refine Fq (v:=.slice (some ⟨w.heap.size,0,none⟩) n c) (w':=w') ?_ ?_
     ·simp only[execOp,hxn,hxc,Instr.makeSlice,Gi,hu,Fb,asInt,asIntOf,I4,hti,q8,lB n (by omega),lB c cV];rw[if_neg (by
       simp only[Bool.or_eq_true,decide_eq_true_eq,not_or,Int.not_lt];refine⟨⟨⟨by omega,by omega⟩,by omega⟩,by omega⟩)]
      simp only[Gi,run_askRoom,Fb,cX,Rh];rw[if_neg (by omega)];simp only[Gi,hz,Fb,I4,hzr,g1]
     ·have:=K V' w' g2 (by rw[g4];simp only[ND.val,Gq,SV.ok,TV.ok,LV.ok,CX.den,X.den];omega);rw[g4] at this;simpa only[ND.val,Gq,SV.aE,TV.aq,LV.cE,g3,QO,CX.ff,X.bc,Rh,Nat.sub_zero] using this
   ·cases h
  ·cases h
 case call c=>
  obtain⟨callee,args,gR⟩:=c;cases callee with
  |invoke r s=> 
   simp only[Lc,QH] at h;cases h
  | value f=>
   cases f with
   | func f=>
    simp only[Lc,AKR] at h;split at h
    ·cases h
    rename_i vs n8;obtain⟨e1,e2⟩:=hT.oc n8;have eS:args.map a.eval=(vs.map (·.den V)).toArray:=by
     apply Array.ext';rw[Array.toList_map,e1]
    have cT:=λw=>eY (P:=E.P) (ρ:=a.eval) (λ_=>rfl) dst f args gR type pos after guard w
    cases DE:Nat.beq f E.C.HU with
    | true=>
     have hf:=Ca DE;rw[DE] at h;simp only[cond_true] at h;split at h
     ·rename_i x y z;simp only[Ai] at h;subst h;have ox:=(e2 _ Jv).1;have oy:=(e2 _ (MN _ Jv)).1;have oz:=ho _ (NU.2 rfl);simp only[I1.den] at oz;have h4:=hd _ (NU.2 rfl);simp only[FT.den,NR.den,NM,VW,Hy.gi,Qx,aa,d1] at h4;have hr:=hE.HU (x.den V.ρ) (y.den V.ρ) (z.den V.ρ) w ox.1 oy.1 oz;have RT:x.den V.ρ<=18446744073709551615:=ox.2;have hy2:y.den V.ρ<=18446744073709551615:=oy.2;have nF:0<=x.den V.ρ:=ox.1;have hy1:0<=y.den V.ρ:=oy.1;have v0:X.den V.ρ (.v nb 0)=(x.den V.ρ+y.den V.ρ+z.den V.ρ)%18446744073709551616:=by
       show(V.ρ nb).getD 0 0=_;rw[h4];rfl
      have v1:X.den V.ρ (.v nb 1)=(x.den V.ρ+y.den V.ρ+z.den V.ρ)/18446744073709551616:=by
       have v2:X.den V.ρ (.v nb 1)=if x.den V.ρ+y.den V.ρ+z.den V.ρ<18446744073709551616 then 0 else 1:=by
        show(V.ρ nb).getD 1 0=_;rw[h4];rfl
       rw[v2];split<;>omega
      refine Fq (w':=w) ?_ (K V w (.same hm hs) ?_)
      ·rw[cT,eS,hf];simp only[NM,VW,SV.aE,SV.td,TV.aq,LV.cP,v0,v1];exact hr
      ·intro t ht;simp only[G9,List.not_mem_nil,or_false] at ht;rcases ht with rfl|rfl
       ·simp only[TV.ok,LV.ok,v0,IJ,IntKind.min,IntKind.max,IntKind.bits,IntKind.signed];simp;omega
       ·simp only[TV.ok,LV.ok,v1,IJ,IntKind.min,IntKind.max,IntKind.bits,IntKind.signed];simp;omega
     ·cases h
    |false=>
    rw[DE] at h;simp only[cond_false] at h;cases hs64:Nat.beq f E.C.HG with
    | true=>
     have hf:=Ca hs64;rw[hs64] at h;simp only[cond_true] at h;split at h
     ·rename_i x y z;simp only[Ai] at h;subst h;have ox:=(e2 _ Jv).1;have oy:=(e2 _ (MN _ Jv)).1;have oz:=ho _ (NU.2 rfl);simp only[I1.den] at oz;have h4:=hd _ (NU.2 rfl);simp only[FT.den,NR.den,NM,VW,Hy.gi,Qx,aa,d1] at h4;have RT:x.den V.ρ<=18446744073709551615:=ox.2;have hy2:y.den V.ρ<=18446744073709551615:=oy.2;have nF:0<=x.den V.ρ:=ox.1;have hy1:0<=y.den V.ρ:=oy.1;have hr:=hE.HG (x.den V.ρ) (y.den V.ρ) (z.den V.ρ) w ox.1 oy.1 oz (by omega);have v0:X.den V.ρ (.v nb 0)=(x.den V.ρ+18446744073709551616-y.den V.ρ-z.den V.ρ)%18446744073709551616:=by
       show(V.ρ nb).getD 0 0=_;rw[h4];rfl
      have v1:X.den V.ρ (.v nb 1)=if x.den V.ρ<y.den V.ρ+z.den V.ρ then 1 else 0:=by
       show(V.ρ nb).getD 1 0=_;rw[h4];rfl
      refine Fq (w':=w) ?_ (K V w (.same hm hs) ?_)
      ·rw[cT,eS,hf];simp only[NM,VW,SV.aE,SV.td,TV.aq,LV.cP,v0,v1];exact hr
      ·intro t ht;simp only[G9,List.not_mem_nil,or_false] at ht;rcases ht with rfl|rfl
       ·simp only[TV.ok,LV.ok,v0,IJ,IntKind.min,IntKind.max,IntKind.bits,IntKind.signed];simp;omega
       ·simp only[TV.ok,LV.ok,v1,IJ,IntKind.min,IntKind.max,IntKind.bits,IntKind.signed];simp;split<;>omega
     ·cases h
    |false=>
    rw[hs64] at h;simp only[cond_false] at h;cases bj:Nat.blt f 10000 with
    |false=>rw[bj] at h;simp at h
    |true=>
    rw[bj] at h;simp only[Bool.not_true,cond_false] at h;have acV:=Dh bj;obtain⟨hkm,hkl⟩:=lU E.C st vs f acV 20 f (Nat.mod_eq_of_lt acV) (by omega);generalize hk:vQ E.C st vs 20 f=k at h hkm hkl;cases hkb:(Nat.beq k f||(cf&&AJ1 (lk k E.C.T))) with
    |false=>rw[hkb] at h;cases h
    |true=>
    rw[hkb,cond_true] at h;split at h
    ·cases h
    rename_i r hr;simp only[Ai] at h;subst h;obtain⟨fe,as,bs,g1,g2,g3,g4,g5,g6⟩:=lQ hE hm hs hT.ln hr (λv hv=>⟨(e2 v hv).1,SV.be sk (λ_ h=>h) (e2 v hv).2⟩)
     (LO.imp id λh=>⟨h.1,λv hv=>SV.be h.2 (λ_ h=>h) (e2 v hv).2⟩) hd ho
    have ah4:fe.j7 (as.1.map (·.den V.ρ))=cf:=by
     by_cases hkf:k=f
     ·subst hkf;exact jx k args gR vs fe as rfl n8 g1 g2
     ·have xp:Nat.beq k f=false:=by cases hh:Nat.beq k f with|false=>rfl|true=>exact absurd (Ca hh) hkf
      rw[xp,Bool.false_or,Bj,g1] at hkb;rw[hkb.1];cases fe with
      |one s=>rfl
      |two c s1 s2=>cases hkb.2
    have CT:=(hE.tb k fe g1).1 hkl;rw[hkm] at CT;have hGw:E.GB<=w.heap.size:=EX hE.gb hm.an.1;have ac7:=CT cf (vs.map (·.den V)) (as.1.map (·.den V.ρ)) bs w hm.gw hGw g3 g4 g5 ah4;have hen:=hE.en k (vs.map (·.den V)).toArray w ⟨fe,g1⟩ hkl (by rw[hkm];intro e;rw[e,Nat.beq_refl] at DE;cases DE) (by rw[hkm];intro e;rw[e,Nat.beq_refl] at hs64;cases hs64);rw[hkm] at hen;unfold Oper.wp;rw[cT,eS,hen];refine ac7.mono ?_;rintro e w' ⟨fb,cJ,rfl,hP⟩;obtain⟨V',k1,k2,k3⟩:=g6 fb cJ w' hP;have N3:(Qg r.vs).den V'=Od cJ/\(Qg r.vs).ok V':=by
     rw[<- k2];cases RE:r.vs with
     |nil=>exact⟨rfl,λt h=>by cases h⟩
     |cons t ts=>
      rw[RE] at k3;cases ts with
      |nil=>exact⟨rfl,k3 t Jv⟩
      |cons t' ts'=>exact⟨rfl,k3⟩
    show next (a.put dst (Od cJ)) w';rw[<- N3.1];exact K V' w' k1 N3.2
   |tmp t=>simp only[Lc,QH] at h;cases h
   |const v=>simp only[Lc,QH] at h;cases h
   |global g=>simp only[Lc,QH] at h;cases h
  | builtin b=>
   by_cases hcp:b= .copy
   ·subst hcp;simp only[Lc] at h;split at h
    ·rename_i t x y S7 ua hy0;split at h
     ·rename_i e sz pB ag zz l o n c d l' o' n' c' d' mS hx hy;split at h
      ·rename_i ab3;cases xp:Nat.ble n 65536 with
       |false=>rw[xp] at h;cases h
       |true=>
       rw[xp,cond_true] at h;have aeT:=Kv xp;split at h
       ·rename_i cs cS;split at h
        ·rename_i rg oT;simp only[Ai] at h;subst h;obtain⟨h1,h2,-⟩:=hT.cL hx;have h3:=hT.den hy;have ot:=hm.read cS;obtain⟨hlen,-⟩:=Ez cS;obtain⟨w1,w2⟩:=Vy hE hm hs hT.ln (nb:=nb) oT (λc hc=>by
          obtain⟨i,hi,rfl⟩:=kY hc;exact(ot i _ (Io hi)).2)
         obtain⟨desc,hu,hk⟩:=TD.bh (hE.tt _ _ mS) rfl;have:=TK.dj hk;subst this;obtain⟨cst,cT⟩:=Vq (P:=E.P) (ρ:=a.eval) dst .copy args gR type pos after guard w;have nF:(args.map a.eval)[0]? = some (a.eval x):=by rw[Array.getElem?_map,ua];rfl
         have hy1:(args.map a.eval)[1]? = some (a.eval y):=by rw[Array.getElem?_map,hy0];rfl
         have S4:=run_loadCells_list (P:=E.P) w ⟨(V.ν l').1,(V.ν l').2+o',none⟩ (cs.map (·.den V)) (λj u hu=>by
          rw[Ng,Yg] at hu;obtain⟨c,hc,rfl⟩:=hu;rw[Ce];exact(ot j c hc).1)
         rw[UC,hlen] at S4;refine Fq (w':=setCells w (V.ν l).1 ((V.ν l).2+o) (cs.map (·.den V))) ?_ (K V _ w2 ?_)
         ·rw[cT];simp only[builtin,Builtin.copy_,S7,nF,hy1,h1,h3,SV.aE,TV.aq,LV.cE,Gi,hu,Fb,Builtin.lenOf,I4,GU hE.tt ab3,Builtin.firstCells,Nat.mul_one];rw[show Nat.min n' n=min n' n from rfl,S4];simp only[Fb];rw[w1];rfl
         ·refine bH.1 ?_;have h1:min n' n<=65536:=EX (Nat.min_le_right _ _) aeT;simp only[bL,IntKind.min,IntKind.max,IntKind.bits,IntKind.signed,Bj,decide_eq_true_eq,X.bc];omega
        ·cases h
       ·cases h
      ·cases h
     ·cases h
    ·cases h
   ·by_cases hap:b= .append
    ·subst hap;simp only[Lc] at h;split at h
     ·rename_i t t' x y S7 ht1 ua hy0;split at h
      ·rename_i e sz pB ag zz e' sz' acT ag' zz' l o n c d l' o' n' c' d' mS aeX hx hy;split at h
       ·rename_i ab3;cases Kf:Nat.ble (n+n') (c-d) with
        |false=>
         rw[Kf] at h;cases h
        |true=>
        rw[Kf,cond_true] at h;have hn1:=Kv Kf;cases xp:Nat.blt 0 n' with
        |false=>rw[xp] at h;cases h
        |true=>
        rw[xp,cond_true] at h;have US:=Dh xp;split at h
        ·rename_i cs cS;split at h
         ·rename_i rg oT;simp only[Ai] at h;subst h;obtain⟨h1,h2,-⟩:=hT.cL hx;have h3:=hT.den hy;have ot:=hm.read cS;obtain⟨hlen,-⟩:=Ez cS;obtain⟨w1,w2⟩:=Vy hE hm hs hT.ln (nb:=nb) oT (λc hc=>by
           obtain⟨i,hi,rfl⟩:=kY hc;exact(ot i _ (Io hi)).2)
          obtain⟨desc,hu,hk⟩:=TD.bh (hE.tt _ _ mS) rfl;have:=TK.dj hk;subst this;obtain⟨abK,HL,gj⟩:=TD.bh (hE.tt _ _ aeX) rfl;have:=TK.dj gj;subst this;obtain⟨cst,cT⟩:=Vq (P:=E.P) (ρ:=a.eval) dst .append args gR type pos after guard w;have nF:(args.map a.eval)[0]? = some (a.eval x):=by rw[Array.getElem?_map,ua];rfl
          have hy1:(args.map a.eval)[1]? = some (a.eval y):=by rw[Array.getElem?_map,hy0];rfl
          have S4:=run_loadCells_list (P:=E.P) w ⟨(V.ν l').1,(V.ν l').2+o',none⟩ (cs.map (·.den V)) (λj u hu=>by
           rw[Ng,Yg] at hu;obtain⟨c,hc,rfl⟩:=hu;rw[Ce];exact(ot j c hc).1)
          rw[UC,hlen] at S4;refine Fq (w':=setCells w (V.ν l).1 ((V.ν l).2+(o+n)) (cs.map (·.den V))) ?_ (K V _ w2 ?_)
          ·rw[cT];have GO:((X.lit (Int.ofNat c)).den V.ρ).toNat-d=c-d:=rfl;simp only[builtin,Builtin.append_,S7,ht1,nF,hy1,h1,h3,SV.aE,TV.aq,LV.cE,CX.ff,Gi,hu,HL,Fb,Builtin.lenOf,I4,GU hE.tt ab3,Builtin.firstCells,Nat.mul_one,GO,if_pos hn1,Qo,if_false,Bool.not_false,if_true];rw[S4];simp only[Fb,Ce];rw[WZ,w1];rfl
          ·show((n+n'+d:Nat):Int)<=(CX.n (X.lit (Int.ofNat c))).den V;rw[CX.ff,X.bc];show((n+n'+d:Nat):Int)<=(c:Int);omega
         ·cases h
        ·cases h
       ·cases h
      ·cases h
     ·cases h
    ·have eN:Lc E.C ⟨dst,.call ⟨.builtin b,args,gR⟩,type,pos,after,guard⟩ cf nb lb bv st=(match QH E.C ⟨dst,.call ⟨.builtin b,args,gR⟩,type,pos,after,guard⟩ nb st with
       |some r=>some ⟨r,st.rg,false⟩
       |none=>none):=by
      cases b<;>first|rfl|exact absurd rfl hcp|exact absurd rfl hap
     rw[eN] at h;split at h
     ·rename_i r hr;exact hW r hr h
     ·cases h
 case binOp op xt x y ty=>
  simp only[Lc] at h;split at h
  ·rename_i cs uc hx hy;unfold eqM at h;split at h
   ·rename_i ks k1 x1 k2 x2 hks hc1 hc2;cases hb:(Jp ks k1&&Jp ks k2) with
    |false=>rw[hb] at h;cases h
    |true=>
    rw[hb,cond_true] at h;simp only[Bj] at hb;obtain⟨r,hr,rfl⟩:=uG h;obtain⟨g1,g2,g3,g4⟩:=AEi (E:=E) (V:=V) hr hd;obtain⟨h1,h2,-⟩:=hT.cL hx;obtain⟨h3,h4,-⟩:=hT.cL hy;obtain⟨e1,-, -⟩:=LJ (V:=V) hc1 hb.1;obtain⟨e2,-, -⟩:=LJ (V:=V) hc2 hb.2;obtain⟨f1,f2⟩:=hE.eq xt ks hks _ _ (NQ (V:=V) hc1 hb.1 h2) (NQ (V:=V) hc2 hb.2 h4) op x y w;rw[GR hT.ln,GR hT.ln] at g2;refine Fq (v:=r.v.den V) (w':=w) ?_ (K V w (.same hm hs) g3);simp only[execOp,h1,h3,SV.aE,TV.qt,e1,e2,Gi,f1,Fb,g2];rcases g1 with rfl|rfl
    ·simp only[binOp,Gi,f2,Fb,I4,cond_true]
    ·simp only[binOp,Gi,f2,Fb,I4,cond_false]
   ·cases h
  ·split at h
   ·rename_i r hr;exact hW r hr h
   ·cases h
 all_goals
  simp only[Lc] at h;split at h
  ·rename_i r hr;exact hW r hr h
  ·cases h
end
end
section
open Go
def Im(nv:Nat)(ρ ρ':Bu):Prop:=∀i,i<nv->ρ' i=ρ i
theorem Im.refl(nv:Nat)(ρ:Bu):Im nv ρ ρ:=λ_ _=>rfl
theorem Im.trans{a b:Nat}{ρ ρ' ρ'':Bu}(h:Im a ρ ρ')(h':Im b ρ' ρ'')(hab:a<=b):Im a ρ ρ'':=
 λi hi=>(h' i (by omega)).trans (h i hi)
theorem X.cg{nv:Nat}{ρ ρ':Bu}(h:Im nv ρ ρ'){x:X}(hx:x.lt nv=true):x.den ρ'=x.den ρ:=by
 cases x with
 |lit n=>rfl
 |v i k=>simp only[X.den];rw[h i (Dh hx)]
theorem Hy.cg{nv:Nat}{ρ ρ':Bu}(h:Im nv ρ ρ'){x:Hy}(hx:x.lt nv=true):x.den ρ'=x.den ρ:=by
 cases x with
 |vec j=>exact h j (Dh hx)
 |xs l=>
  simp only[Hy.den];exact fT λx eg=>X.cg h (Kh.1 hx x eg)
theorem nc.cg{nv:Nat}{ρ ρ':Bu}(h:Im nv ρ ρ'){l:List Hy}(hx:l.all (·.lt nv)=true):l.map (·.den ρ')=l.map (·.den ρ):=
 fT λx eg=>Hy.cg h (Kh.1 hx x eg)
theorem FT.cg{T:Tb}{nv:Nat}{ρ ρ':Bu}(h:Im nv ρ ρ'){d:FT}(hd:d.lt nv=true):d.den T ρ'=d.den T ρ:=by
 unfold FT.den;rw[nc.cg h hd]
theorem I1.cg{T:Tb}{nv:Nat}{ρ ρ':Bu}(h:Im nv ρ ρ'){ob:List I1}(ho:I6 nv ob=true):∀q∈ob,(q.den T ρ'↔q.den T ρ):=by
 induction ob with
 |nil=>intro q hq;cases hq
 | cons q r ih=>
  intro q' BT;have hq:(q.den T ρ'↔q.den T ρ)/\I6 nv r=true:=by
   cases q with
   |fy x n=>simp only[I6,Bj] at ho;refine⟨?_,ho.2⟩;simp only[I1.den];rw[X.cg h ho.1]
   |u9 x=>simp only[I6,Bj] at ho;refine⟨?_,ho.2⟩;simp only[I1.den];rw[X.cg h ho.1]
   |ux x=>simp only[I6,Bj] at ho;refine⟨?_,ho.2⟩;simp only[I1.den];rw[X.cg h ho.1]
   |nz x=>simp only[I6,Bj] at ho;refine⟨?_,ho.2⟩;simp only[I1.den];rw[X.cg h ho.1]
   |zr x=>simp only[I6,Bj] at ho;refine⟨?_,ho.2⟩;simp only[I1.den];rw[X.cg h ho.1]
   |pre f as=>simp only[I6,Bj] at ho;refine⟨?_,ho.2⟩;simp only[I1.den];rw[nc.cg h ho.1]
  rcases G9.1 BT with rfl|BT
  ·exact hq.1
  ·exact ih hq.2 q' BT
def Vg(T:Tb)(ρ:Bu)(ds:List (Nat×FT)):Prop:=∀p∈ds,ρ p.1=p.2.den T ρ
theorem Y7{hi:Nat}:∀ {ds:List (Nat×FT)} {lo:Nat},FL lo hi ds=true->∀p∈ds,lo<=p.1/\p.1<hi/\p.2.lt p.1=true
 | [],_,_,p,hp=>by cases hp
 | (n,d)::r,lo,h,p,hp=>by
  simp only[FL,Bj] at h;have h1:=Kv h.1.1.1;have h2:=Dh h.1.1.2;rcases G9.1 hp with rfl|hp
  ·exact⟨h1,h2,h.1.2⟩
  ·obtain⟨g1,g2,g3⟩:=Y7 h.2 p hp;exact⟨by omega,g2,g3⟩
theorem FT.be{a b:Nat}(hab:a<=b){d:FT}(h:d.lt a=true):d.lt b=true:=by
 unfold FT.lt at *
 rw[Kh] at *
 intro x hx;have:=h x hx;cases x with
 |vec j=>have:=Dh this;simp only[Hy.lt,Nat.blt];exact yu (by omega)
 |xs l=>
  simp only[Hy.lt,Kh] at this ⊢;exact λy hy=>X.be hab (this y hy)
theorem Vg.agE{T:Tb}{lo hi:Nat}{ρ ρ':Bu}{ds:List (Nat×FT)}(h:FL lo hi ds=true)(ha:Im hi ρ ρ')(hd:Vg T ρ ds):Vg T ρ' ds:=λp hp=>by
 obtain⟨_,g2,g3⟩:=Y7 h p hp;rw[ha p.1 g2,FT.cg (nv:=hi) ha (FT.be (by omega) g3)];exact hd p hp
theorem WW(T:Tb){hi:Nat}:∀ {ds:List (Nat×FT)} {lo:Nat} (ρ:Bu),FL lo hi ds=true->∃ ρ',Im lo ρ ρ'/\Vg T ρ' ds
 | [],_,ρ,_=>⟨ρ,Im.refl _ _,λp hp=>by cases hp⟩
 |(n,d)::r,lo,ρ,h=>by
  simp only[FL,Bj] at h;have h1:=Kv h.1.1.1;obtain⟨ρ',g1,g2⟩:=WW T (λi=>if i=n then d.den T ρ else ρ i) h.2;have ha:Im n ρ ρ':=λi hi=>by rw[g1 i (by omega)];simp;intro e;omega
  refine⟨ρ',λi hi=>ha i (by omega),λp hp=>?_⟩;rcases G9.1 hp with rfl|hp
  ·rw[g1 n (by omega),FT.cg ha h.1.2];simp
  ·exact g2 p hp
theorem Hy.FA{ln:List (Nat×Nat)}{ρ:Bu}(hl:∀p∈ln,(ρ p.1).length=p.2){a:Hy}{n:Nat}(h:a.len ln=some n):(a.den ρ).length=n:=by
 cases a with
 |vec j=>exact hl _ (OU h)
 |xs l=>simp only[Hy.len,Ai] at h;simp[Hy.den,h]
theorem fH{ln:List (Nat×Nat)}{ρ:Bu}(hl:∀p∈ln,(ρ p.1).length=p.2):∀ {as:List Hy} {ps:List Et},VH ln as ps=true->(as.map (·.den ρ)).map List.length=ps.map Et.len
 | [],[],_=>rfl
 | [],_::_,h=>by simp[VH] at h
 |_::_,[],h=>by simp[VH] at h
 | a::as,p::ps,h=>by
  simp only[VH,Bj] at h;obtain⟨h1,h2⟩:=h;cases ha:a.len ln with
  |none=>rw[ha] at h1;cases h1
  |some n=>
   rw[ha] at h1;have:=Hy.FA hl ha;simp only[NM,fH hl h2,this,Ca h1]
theorem getD_some{α:Type}{l:List α}{i:Nat}{x d:α}(h:l[i]? = some x):l.getD i d=x:=by simp[List.getD,h]
theorem AHY{s:Az}{ins:List (List Int)}(hL:OJ s)(hi:ins.map List.length=s.params.map Et.len){o k:Nat}(h:s.lens[o]? = some (some k)):((s.pr o).den ins).length=k:=by
 obtain⟨h1,h2,h3⟩:=hL ins hi;unfold Az.lens at h;unfold Az.pr;by_cases c1:o<s.outs.length
 ·have ho:=Io c1;rw[getD_some (wB ho)];rw[Yt,gZ (by simpa using c1),Ng,ho] at h;simp only[UT,Ai] at h;rw[<- h];exact h1 _ (ku c1)
 ·by_cases c2:o<s.outs.length+s.fresh.length
  ·have bj:o-s.outs.length<s.fresh.length:=by omega
   have ho:=Io bj;have hp:=gW ho;rw[show s.outs.length+(o-s.outs.length)=o by omega] at hp;rw[getD_some hp];rw[Yt,fQ (by simp;omega),gZ (by simp;omega),UC,Ng,ho] at h;simp only[UT,Ai] at h;rw[<- h];exact h2 _ (ku bj)
  ·rw[fQ (by simp;omega)] at h;simp only[NC,UC] at h;rw[Ng,Yg] at h;obtain⟨r,hr,hk⟩:=h;have hp:=xO hr;rw[show s.outs.length+s.fresh.length+(o-(s.outs.length+s.fresh.length))=o by omega] at hp;rw[getD_some hp];cases r<;>simp only[Pq.len,Ai,reduceCtorEq] at hk
   rename_i ks f;rw[<- hk];exact h3 ks f (MB hr)
theorem ADM{T:Tb}{ln:List (Nat×Nat)}{ρ:Bu}(hT:∀f fe,lk f T=some fe->∀b,OJ (fe.cf b))(hl:∀p∈ln,(ρ p.1).length=p.2){d:FT}{k:Nat}
  (h:ADI T ln d=some k):(d.den T ρ).length=k:=by
 obtain⟨op,args⟩:=d;unfold ADI at h;simp only at h;split at h
 ·simp only[Ai] at h;subst h;rfl
 ·simp only[Ai] at h;subst h;rfl
 ·split at h
  ·have:=Hy.FA hl h;simp only[FT.den,NR.den,NM,Qx,List.length_set];exact this
  ·cases h
 ·rename_i f b o;split at h
  ·rename_i fe hf;cases hb:VH ln args (fe.cf b).params with
   |false=>rw[hb] at h;cases h
   | true=>
    rw[hb,cond_true] at h;split at h
    ·rename_i r hr;subst h;have:=AHY (hT f fe hf b) (fH hl hb) hr;simp only[FT.den,NR.den,hf];exact this
    ·cases h
  ·cases h
 ·cases h
theorem Qy{T:Tb}{ρ:Bu}(hT:∀f fe,lk f T=some fe->∀b,OJ (fe.cf b)):∀ {ds:List (Nat×FT)} {ln:List (Nat×Nat)},(∀p∈ln,(ρ p.1).length=p.2)->Vg T ρ ds->
  ∀p∈JG T ln ds,(ρ p.1).length=p.2
 | [],ln,hl,_=>hl
 | (n,d)::r,ln,hl,hd=>by
  have pL:Vg T ρ r:=λp hp=>hd p (MN _ hp)
  unfold JG;split
  ·rename_i k hk;refine Qy hT (λp hp=>?_) pL;rcases G9.1 hp with rfl|hp
   ·rw[hd (n,d) Jv];exact ADM hT hl hk
   ·exact hl p hp
  ·exact Qy hT hl pL
theorem RG{T:Tb}{hi:Nat}:∀ {ds:List (Nat×FT)} {ln:List (Nat×Nat)} {lo:Nat},FL lo hi ds=true->(∀p∈ln,p.1<hi)->∀p∈JG T ln ds,p.1<hi
 | [],ln,_,_,hl=>hl
 | (n,d)::r,ln,lo,h,hl=>by
  simp only[FL,Bj] at h;unfold JG;split
  ·refine RG h.2 (λp hp=>?_);rcases G9.1 hp with rfl|hp
   ·exact Dh h.1.1.2
   ·exact hl p hp
  ·exact RG h.2 hl
def Be.fp(T:Tb):Be->Bu->Prop
 | .leaf _ _,_=>True
 | .ep ds ob t,ρ=>Vg T ρ ds->(∀q∈ob,q.den T ρ)/\t.fp T ρ
 | .br x t f,ρ=>(x.den ρ≠0->t.fp T ρ)/\(x.den ρ=0->f.fp T ρ)
 | .gr f as t e,ρ=>match lk f T with
  |some fe=>(fe.j7 (as.map (·.den ρ))=true->t.fp T ρ)/\(fe.j7 (as.map (·.den ρ))=false->e.fp T ρ)
  |none=>False
 | .cN t k,ρ=>t.fp T ρ/\k.fp T ρ
 | .bad _,_=>False
def Be.Holds(T:Tb)(Φ:Bu->Ex->St->Prop):Be->Bu->Prop
 | .leaf e st,ρ=>Φ ρ e st
 | .ep ds ob t,ρ=>Vg T ρ ds->(∀q∈ob,q.den T ρ)/\t.Holds T Φ ρ
 | .br x t f,ρ=>(x.den ρ≠0->t.Holds T Φ ρ)/\(x.den ρ=0->f.Holds T Φ ρ)
 | .gr f as t e,ρ=>match lk f T with
  |some fe=>(fe.j7 (as.map (·.den ρ))=true->t.Holds T Φ ρ)/\(fe.j7 (as.map (·.den ρ))=false->e.Holds T Φ ρ)
  |none=>False
 | .cN t k,ρ=>t.fp T ρ/\k.Holds T Φ ρ
 | .bad _,_=>False
theorem KA{T:Tb}{Φ:Bu->Ex->St->Prop}{x:X}{t f:Be}{ρ:Bu}(h:(AAH x t f).Holds T Φ ρ):(x.den ρ≠0->t.Holds T Φ ρ)/\(x.den ρ=0->f.Holds T Φ ρ):=by
 unfold AAH at h;split at h
 ·have:=h (λp hp=>by cases hp);have hx:=this.1 _ (NU.2 rfl);exact⟨λhn=>absurd hx hn,λ_=>this.2⟩
 ·have:=h (λp hp=>by cases hp);have hx:=this.1 _ (NU.2 rfl);exact⟨λ_=>this.2,λhn=>absurd hn hx⟩
 ·exact h
theorem LX{T:Tb}{p:Ex->St->Bool}{ρ:Bu}:∀ {t:Be},t.qv p=true->t.fp T ρ->t.Holds T (λ_ e st=>p e st=true) ρ
 | .leaf e st,hp,h=>hp
 | .ep ds ob t,hp,h=>λhd=>⟨(h hd).1,LX (t:=t) hp (h hd).2⟩
 | .br x t f,hp,h=>by
  simp only[Be.qv,Bj] at hp;exact⟨λhx=>LX hp.1 (h.1 hx),λhx=>LX hp.2 (h.2 hx)⟩
 | .gr f as t e,hp,h=>by
  simp only[Be.qv,Bj] at hp;unfold Be.fp at h;unfold Be.Holds;split at h
  ·exact⟨λhx=>LX hp.1 (h.1 hx),λhx=>LX hp.2 (h.2 hx)⟩
  ·exact h.elim
 | .cN t k,hp,h=>⟨h.1,LX (t:=k) hp h.2⟩
 | .bad _,_,h=>h.elim
def Be.cv(T:Tb)(Φ:Bu->Ex->St->Prop)(nv:Nat)(ρ:Bu)(t:Be):Prop:=∀ ρ',Im nv ρ ρ'->t.Holds T Φ ρ'
structure Fy (E:En) (st:St) (V:Vl) (a:Act) (w:World):Prop where
 s:Sat E st V a w
 ll:∀p∈st.ln,p.1<st.nv
 kp:∀p∈E.I,Dz p.1 (DL st.rg)=true/\V.ν p.1=p.2
 ks:∀i,i<E.sn->V.σ i=E.σ0 i
 ns:E.sn<=st.nv
theorem Ag.xo{nv:Nat}{ids:List Nat}{V:Vl}{ρ':Bu}(h:Im nv V.ρ ρ'):Ag nv ids V { V with ρ:=ρ' }:=⟨h,λ_ _=>rfl,λ_ _=>rfl⟩
theorem Sat.env{E:En}{st:St}{V:Vl}{a:Act}{w:World}(h:Fy E st V a w){ρ':Bu}(ha:Im st.nv V.ρ ρ'):Fy E st { V with ρ:=ρ' } a w where
 s := {
  m:=h.s.m.ag (Ag.xo ha) h.s.mc
  mc:=h.s.mc
  t := {
   tm:=λt v hv=>by
    obtain⟨h1,h2,h3⟩:=h.s.t.tm t v hv;exact⟨by rw[SV.ck (Ag.xo ha) h3];exact h1,SV.eW (Ag.xo ha) h3 h2,h3⟩
   gl:=h.s.t.gl
   ln:=λp hp=>by
    show(ρ' p.1).length=p.2;rw[ha p.1 (h.ll p hp)];exact h.s.t.ln p hp }
  nt:=h.s.nt
  df:=h.s.df }
 ll:=h.ll
 kp:=h.kp
 ks:=h.ks
 ns:=h.ns
theorem Qf{st:St}{t:Nat}{v:SV}{u:Nat}:St.look { st with lc:=(t,v)::st.lc } u=if t=u then some v else st.look u:=by
 simp only[St.look,lk];cases hb:Nat.beq t u with
 |true=>have:=Ca hb;simp[this]
 |false=>
  have cj:t≠u:=λe=>by rw[e,Nat.beq_refl] at hb;cases hb
  simp[cj]
theorem Wj{a:Act}{t u:Nat}{v:Value}(h:t<a.tmps.size):(a.put (some t) v).tmps.getD u undef=if t=u then v else a.tmps.getD u undef:=by
 simp only[Act.put,YJ];by_cases e:t=u
 ·subst e;simp[h]
 ·simp[Array.getElem?_setIfInBounds_ne e,e]
theorem OB{a:Act}{d:Option Nat}{v:Value}:(a.put d v).tmps.size=a.tmps.size:=by cases d<;>simp[Act.put]
theorem TZ{a:Act}{d:Option Nat}{v:Value}:(a.put d v).defers=a.defers:=by cases d<;>rfl
theorem Fy.put{E:En}{st:St}{V V':Vl}{a:Act}{w w':World}{nb bv:Nat}{rg:List Rg}{er:Bool}{ln:List (Nat×Nat)}{nv nl:Nat}{d:Option Nat}{v:SV}{cD:St}
  (h:Fy E st V a w) (hr:Vw E st V nb bv rg er V' w') (xp:er=false\/st.nv<=nb) (lf:bv<=nv) (sk:st.nv<=nv) (hl:∀p∈ln,(V'.ρ p.1).length=p.2) (hll:∀p∈ln,p.1<nv) (hv:v.ok V')
  (hp:St.put { st with rg:=rg,ln:=ln,nv:=nv,nl:=nl } d v=some cD):Fy E cD V' (a.put d (v.den V')) w':=by
 have gf:Ag st.nv (DL st.rg) V V':=⟨λi _=>by rw[hr.ρ],λi hi=>hr.σ i (by rcases xp with h|h;exact .inr h;exact .inl (by omega)),λl hl=>(hr.ν l hl).1⟩;have qS:∀l,Dz l (DL st.rg)=true->Dz l (DL rg)=true:=λl hl=>(hr.ν l hl).2
 have ac3:Ym nv rg:=λr cG lv nq=>LV.be lf (λ_ h=>h) (hr.mc r cG lv nq)
 have hold:∀t u,st.look t=some u->a.tmps.getD t undef=u.den V'/\u.ok V'/\u.lt nv (DL rg)=true:=λt u hu=>by
  obtain⟨h1,h2,h3⟩:=h.s.t.tm t u hu;exact⟨by rw[SV.ck gf h3];exact h1,SV.eW gf h3 h2,SV.be sk qS h3⟩
 have gS:∀g l,lk g st.gl=some l->V'.ν l=(g,0)/\Dz l (DL rg)=true:=λg l hg=>by
  obtain⟨h1,h2⟩:=h.s.t.gl g l hg;exact⟨by rw[gf.2.2 l h2];exact h1,qS l h2⟩
 have CD:∀p∈E.I,Dz p.1 (DL rg)=true/\V'.ν p.1=p.2:=λp hp=>by
  obtain⟨k1,k2⟩:=h.kp p hp;exact⟨qS _ k1,by rw[gf.2.2 _ k1];exact k2⟩
 have hks:∀i,i<E.sn->V'.σ i=E.σ0 i:=λi hi=>by rw[gf.2.1 i (qm hi h.ns)];exact h.ks i hi
 have hns:E.sn<=nv:=EX h.ns sk;cases d with
 |none=>
  simp only[St.put,Ai] at hp;subst hp;exact⟨⟨hr.mok,ac3,⟨λt u hu=>hold t u hu,gS,hl⟩,h.s.nt,h.s.df⟩,hll,CD,hks,hns⟩
 | some t=>
  unfold St.put at hp;simp only at hp;cases hb:(Nat.blt t st.nt&&v.lt nv (DL rg)) with
  |false=>rw[hb] at hp;cases hp
  | true=>
   rw[hb,cond_true,Ai] at hp;subst hp;simp only[Bj] at hb;have bj:t<a.tmps.size:=by rw[h.s.nt];exact Dh hb.1
   refine⟨⟨hr.mok,ac3,⟨λu x hu=>?_,gS,hl⟩,by rw[OB];exact h.s.nt,by rw[TZ];exact h.s.df⟩,hll,CD,hks,hns⟩;have HL:(if t=u then some v else st.look u)=some x:=by
    rw[<- hu];exact(Qf (st:= { st with rg:=rg,ln:=ln,nv:=nv,nl:=nl })).symm
   rw[Wj bj];by_cases e:t=u
   ·rw[if_pos e] at HL ⊢;cases HL;exact⟨rfl,hv,hb.2⟩
   ·rw[if_neg e] at HL ⊢;exact hold u x HL
theorem Fy.skip{E:En}{st cD:St}{V:Vl}{a:Act}{w:World}{d:Option Nat}(h:Fy E st V a w)(hp:st.put d (.nj [])=some cD):Fy E cD V (a.put d undef) w:=by
 have:=Fy.put (E:=E) (er:=false) (v:=.nj []) (nb:=0) (bv:=st.nv) (ln:=st.ln) (nv:=st.nv) (nl:=st.nl) (cD:=cD) (d:=d) h (Vw.same h.s.m h.s.mc) (.inl rfl) (Ie _) (Ie _)
  h.s.t.ln h.ll (λt ht=>by cases ht) hp
 exact this
theorem ol{α:Type}(t u:Nat):∀l:List (Nat×α),u≠t->lk u (rmv t l)=lk u l
 | [],_=>rfl
 | (k,v)::r,h=>by
  unfold rmv;cases hb:Nat.beq k t with
  |true=>
   have:=Ca hb;subst this;have cj:Nat.beq k u=false:=by cases hh:Nat.beq k u with|false=>rfl|true=>exact absurd (Ca hh).symm h
   simp only[cond_true,lk,cj,cond_false]
  |false=>simp only[cond_false,lk,ol t u r h]
theorem Z8(u:Nat):∀(lc tm:List (Nat×SV)),lk u (Go.Proofs.YtkbfdaoohhmgoaaGreatDoor.flush lc tm)=(match lk u lc with|some v=>some v|none=>lk u tm)
 | [],tm=>rfl
 | (t,v)::r,tm=>by
  simp only[Go.Proofs.YtkbfdaoohhmgoaaGreatDoor.flush,lk];cases hb:Nat.beq t u with
  |true=>rfl
  |false=>
   have cj:u≠t:=λe=>by rw[e,Nat.beq_refl] at hb;cases hb
   simp only[cond_false];rw[ol t u _ cj,Z8 u r tm]
theorem St.vj(st:St)(u:Nat):st.flush.look u=st.look u:=by
 simp only[St.look,St.flush,lk,Z8 u st.lc st.tm];cases lk u st.lc<;>rfl
theorem Fy.flush{E:En}{st:St}{V:Vl}{a:Act}{w:World}(h:Fy E st V a w):Fy E st.flush V a w:=
 ⟨⟨h.s.m,h.s.mc,⟨λt v hv=>h.s.t.tm t v (by rw[<- hv];exact(St.vj st t).symm),h.s.t.gl,h.s.t.ln⟩,h.s.nt,h.s.df⟩,h.ll,h.kp,h.ks,h.ns⟩
def Nxt(E:En)(Φ:Bu->Ex->St->Prop)(κ:St->Be)(K:Act->World->Prop):Prop:=
 ∀st V a w,Fy E st V a w->(κ st).cv E.C.T Φ st.nv V.ρ->K a w
theorem wM{E:En}(hE:P5 E){Φ:Bu->Ex->St->Prop}{o:Oper}{cf:Bool}{st:St}{κ:St->Be}{V:Vl}{a:Act}{w:World}(hS:Fy E st V a w)
  (hT:(pq E.C o cf st κ).cv E.C.T Φ st.nv V.ρ)
  (jx:∀f args gR vs fe as,o.op= .call ⟨.value (.func f),args,gR⟩->oc st args.toList=some vs->lk f E.C.T=some fe->Oh st (fe.cf cf).params vs=some as->(fe.j7 (as.1.map (·.den V.ρ))=cf/\as.1.all (·.lt st.nv)=true)\/∀x,fe.j7 x=cf)
  {K:Act->World->Prop} {Q:Exit->Act->World->Prop} (hK:Nxt E Φ κ K):o.wp E.P a w K Q:=by
 unfold pq at hT;split at hT
 ·exact(hT V.ρ (Im.refl _ _)).elim
 rename_i m hm;split at hT
 ·exact(hT V.ρ (Im.refl _ _)).elim
 rename_i cD hp;have key:∃ ρ1,Im st.nv V.ρ ρ1/\Vg E.C.T ρ1 m.o.ds/\(∀q∈m.o.ob,q.den E.C.T ρ1)/\(κ cD).cv E.C.T Φ (st.nv+16) ρ1/\(∀p∈JG E.C.T st.ln m.o.ds,p.1<st.nv+16):=by
  have lE:∀p∈st.ln,p.1<st.nv+16:=λp hp=>by have:=hS.ll p hp;omega
  by_cases ij:m.o.ds= []/\m.o.ob= []
  ·rw[ij.1,ij.2] at hT;simp only at hT;rw[ij.1,ij.2];exact⟨V.ρ,Im.refl _ _,λp hp=>(by cases hp),λq hq=>(by cases hq),fun ρ' h=>hT ρ' (λi hi=>h i (by omega)),lE⟩
  ·have vh:(bif FL st.nv (st.nv+16) m.o.ds&&I6 (st.nv+16) m.o.ob then Be.ep m.o.ds m.o.ob (κ cD) else .bad 3).cv E.C.T Φ st.nv V.ρ:=by
    revert hT;cases rK:m.o.ds with
    |nil=>
     cases mj:m.o.ob with
     |nil=>exact absurd ⟨rK,mj⟩ ij
     |cons q r=>exact id
    |cons p r=>exact id
   cases hb:(FL st.nv (st.nv+16) m.o.ds&&I6 (st.nv+16) m.o.ob) with
   |false=>rw[hb] at vh;exact(vh V.ρ (Im.refl _ _)).elim
   |true=>
    rw[hb,cond_true] at vh;simp only[Bj] at hb;obtain⟨ρ1,g1,g2⟩:=WW E.C.T V.ρ hb.1;have h1:=vh ρ1 g1 g2;refine⟨ρ1,g1,g2,h1.1,fun ρ' h=>?_,RG hb.1 lE⟩;exact(vh ρ' (g1.trans h (by omega)) (g2.agE hb.1 h)).2
 obtain⟨ρ1,g1,g2,g3,g4,g5⟩:=key;have pC:=Sat.env hS g1;have hTb:∀f fe,lk f E.C.T=some fe->∀b,OJ (fe.cf b):=λf fe h=>(hE.tb f fe h).2
 have hln:=Qy (ρ:=ρ1) hTb pC.s.t.ln g2;refine lZ hE pC.s.m (bv:=st.nv+16) (λr hr lv nq=>LV.be (by omega) (λ_ h=>h) (pC.s.mc r hr lv nq)) pC.s.t (by omega) hm g2 g3 ?_ ?_ ?_
 ·intro f args gR vs fe as h1 h2 h3 h4;rcases jx f args gR vs fe as h1 h2 h3 h4 with⟨k1,k2⟩|k
  ·rw[nc.cg g1 k2];exact k1
  ·exact k _
 ·exact .inr ⟨pC.s.mc,Ie _⟩
 ·intro V' w' hr hv;have hρ:V'.ρ=ρ1:=hr.ρ;have Ln:=Fy.put pC hr (.inr (Ie _)) (Ie _) (by omega) (by rw[hρ];exact hln) g5 hv hp;refine hK cD V' _ w' Ln ?_;have alg:cD.nv=st.nv+16:=by
   cases hd:o.dst with
   |none=>rw[hd] at hp;simp only[St.put,Ai] at hp;subst hp;rfl
   |some t=>
    rw[hd] at hp;unfold St.put at hp;simp only at hp;cases hb:(Nat.blt t st.nt&&m.o.v.lt (st.nv+16) (DL m.rg)) with
    |false=>rw[hb] at hp;cases hp
    |true=>rw[hb,cond_true,Ai] at hp;subst hp;rfl
  rw[alg,hρ];exact g4
def U6(a:Act):ResultVar->Sem Value
 | .tmp t=>pure (a.tmps.getD t undef)
 | .cell b t=>do loadVar t (<- asAddr (a.tmps.getD b undef))
section
variable{E:En}(hE:P5 E){st:St}{V:Vl}{a:Act}{w:World}(φ:st.lc= [])(hS:Fy E st V a w)
include hE φ hS
theorem AFK{r:ResultVar}{v:TV}(h:yL E.C st r=some v):
  (U6 a r).run E.P w= .ok (v.den V) w/\v.ok V:=by
 cases r with
 | tmp t=>
  simp only[yL] at h;split at h
  ·rename_i u hu;simp only[Ai] at h;subst h;obtain⟨h1,h2,-⟩:=hS.s.t.tm t _ (by simp only[St.look,φ,lk];exact hu);simp only[U6,I4,h1];exact⟨rfl,h2⟩
  ·cases h
 | cell b t=>
  simp only[yL] at h;split at h
  ·rename_i l o hu;obtain⟨h1,h2,-⟩:=hS.s.t.tm b _ (by simp only[St.look,φ,lk];exact hu);split at h
   ·rename_i v' ln hl;simp only[Ai] at h;subst h;have gO:Oc E st.rg V w:=hS.s.m;obtain⟨k1,k2⟩:=Y4 hE gO (λp hp=>hS.s.t.ln p hp) hl h2 (λp hp=>by cases hp);refine⟨?_,k2⟩;simp only[U6,h1,SV.aE,TV.aq,LV.cx] at k1 ⊢;exact k1
   ·cases h
  ·cases h
theorem Xb:∀ {rs:List ResultVar} {vs:List TV},TS E.C st rs=some vs->
  (rs.mapM (U6 a)).run E.P w= .ok (vs.map (·.den V)) w/\∀v∈vs,v.ok V
 | [],vs,h=>by
  simp only[TS,Ai] at h;subst h;exact⟨rfl,λv hv=>(by cases hv)⟩
 | r::rs,vs,h=>by
  unfold TS at h;split at h
  ·rename_i v vs' h1 h2;simp only[Ai] at h;subst h;obtain⟨k1,k2⟩:=AFK hE φ hS h1;obtain⟨g1,g2⟩:=Xb h2;refine⟨?_,λu hu=>?_⟩
   ·rw[List.mapM_cons];simp only[Gi,k1,Fb,g1,I4,NM]
   ·rcases G9.1 hu with rfl|hu
    ·exact k2
    ·exact g2 u hu
  ·cases h
end
inductive ExR:Ex->Exit->Prop where
 |normal:ExR .normal .normal
 |exit (id:Nat):ExR (.exit id) (.exit id)
 |ret:ExR .ret .ret
def ASI(E:En)(Φ:Bu->Ex->St->Prop)(e:Exit)(a:Act)(w:World):Prop:=
 ∃ex st V,ExR ex e/\st.lc= []/\Fy E st V a w/\∀ ρ',Im st.nv V.ρ ρ'->Φ ρ' ex st
end
section
open Go
section
variable{E:En}(hE:P5 E){Φ:Bu->Ex->St->Prop}
include hE
theorem aM{C:Cx}{o:Oper}(h:Zf C o=none){f:Nat}{args:Array Operand}{gR:Array TypeId}{fe:FE}(ho:o.op= .call ⟨.value (.func f),args,gR⟩)(hf:lk f C.T=some fe):∀x,fe.j7 x=true:=by
 have _:=hE;unfold Zf at h;rw[ho] at h;simp only[hf] at h;cases fe with
 |one s=>exact λ_=>rfl
 |two c s1 s2=>cases h
omit hE in
theorem vJ{C:Cx}{o:Oper}{f:Nat}(h:Zf C o=some f):∃args gR fe,o.op= .call ⟨.value (.func f),args,gR⟩/\lk f C.T=some fe:=by
 unfold Zf at h;split at h
 ·rename_i g args gR ho;split at h
  ·rename_i c s1 s2 hf;simp only[Ai] at h;subst h;exact⟨_,_,_,ho,hf⟩
  ·cases h
 ·cases h
theorem AQu {o:Oper} {st:St} {κ:St->Be} {V:Vl} {a:Act} {w:World} (hS:Fy E st V a w)
  (hT:(AD3 E.C o st κ).cv E.C.T Φ st.nv V.ρ)
  {K:Act->World->Prop} {Q:Exit->Act->World->Prop} (hK:Nxt E Φ κ K):o.wp E.P a w K Q:=by
 unfold AD3 at hT;cases h2:Zf E.C o with
 |none=>
  rw[h2] at hT;exact wM hE hS hT (λf args gR vs fe as h _ hf _=>.inr (aM hE h2 h hf)) hK
 | some f=>
  rw[h2] at hT;simp only at hT;split at hT
  ·rename_i as has;cases hb:as.all (·.lt st.nv) with
   |false=>rw[hb] at hT;exact(hT V.ρ (Im.refl _ _)).elim
   | true=>
    rw[hb,cond_true] at hT;obtain⟨args,gR,fe,ho,hf⟩:=vJ h2;unfold zD at has;rw[ho] at has;simp only[hf] at has;split at has
    ·rename_i vs fe' n8 CT;cases CT;split at has
     ·rename_i LI ms bs ms' hA hB;cases hq:OT Hy.beq LI bs with
      |false=>rw[hq] at has;cases has
      | true=>
       rw[hq,cond_true,Ai] at has;have hab:=GG (λ_ _=>Hy.beq_eq) hq;subst hab;subst has;have jx:∀b,fe.j7 (LI.map (·.den V.ρ))=b->(pq E.C o b st κ).cv E.C.T Φ st.nv V.ρ->o.wp E.P a w K Q:=λb hc hH=>
        wM hE hS hH (λf1 af2 aio vs1 fe1 as1 ho1 acH AE hA1=>by
         rw[ho] at ho1;cases ho1;rw[n8] at acH;cases acH;rw[hf] at AE;cases AE;cases b with
         |true=>rw[hA] at hA1;cases hA1;exact .inl ⟨hc,hb⟩
         |false=>rw[hB] at hA1;cases hA1;exact .inl ⟨hc,hb⟩) hK
       have hH:∀ ρ',Im st.nv V.ρ ρ'->(fe.j7 (LI.map (·.den V.ρ))=true->(pq E.C o true st κ).Holds E.C.T Φ ρ')/\(fe.j7 (LI.map (·.den V.ρ))=false->(pq E.C o false st κ).Holds E.C.T Φ ρ'):=fun ρ' hρ=>by
        have:=hT ρ' hρ;unfold Be.Holds at this;rw[hf] at this;simp only[nc.cg hρ hb] at this;exact this
       cases hc:fe.j7 (LI.map (·.den V.ρ)) with
       |true=>exact jx true hc (fun ρ' hρ=>(hH ρ' hρ).1 hc)
       |false=>exact jx false hc (fun ρ' hρ=>(hH ρ' hρ).2 hc)
     ·cases has
    ·cases has
  ·exact(hT V.ρ (Im.refl _ _)).elim
def yC(E:En)(run:Code->St->Be):Prop:=
 ∀(I:List (Nat×(Nat×Nat))) (sn:Nat) (σ0:Nat->Value) (Φ:Bu->Ex->St->Prop) (f:Nat) (i:IF) (st:St) (V:Vl) (a:Act) (w:World),lk f E.C.inl=some i->st.lc= []->
  Fy { E with I:=I,sn:=sn,σ0:=σ0 } st V a w->(run i.c st).cv E.C.T Φ st.nv V.ρ->i.c.wp E.P (ASI { E with I:=I,sn:=sn,σ0:=σ0 } Φ) a w
def qY(E:En):Prop:=∀f i,lk f E.C.inl=some i->(∀args w,(callFunc f args).run E.P w= .ok (.enter f args) w)/\∃fn,E.P.funcs[f]? = some fn/\fn.body=some i.c/\fn.ntmps=i.nt/\fn.results.toList=i.cA
omit hE in
theorem LP{T:Tb}{k:Ex->St->Be}{ρ:Bu}:∀ {t:Be},(t.bind k).Holds T Φ ρ->t.Holds T (fun ρ ex st=>(k ex st).Holds T Φ ρ) ρ
 | .leaf e st,h=>h
 | .ep ds ob t,h=>λhd=>⟨(h hd).1,LP (h hd).2⟩
 | .br x t f,h=>⟨λhx=>LP (h.1 hx),λhx=>LP (h.2 hx)⟩
 | .gr f as t e,h=>by
  unfold Be.bind Be.Holds at h;unfold Be.Holds;split at h
  ·exact⟨λhx=>LP (h.1 hx),λhx=>LP (h.2 hx)⟩
  ·exact h.elim
 | .cN t k,h=>⟨h.1,LP h.2⟩
 | .bad _,h=>h.elim
omit hE in
theorem JD{T:Tb}{Φ':Bu->Ex->St->Prop}{ρ:Bu}(h:∀ex st,Φ ρ ex st->Φ' ρ ex st):∀ {t:Be},t.Holds T Φ ρ->t.Holds T Φ' ρ
 | .leaf e st,ht=>h e st ht
 | .ep ds ob t,ht=>λhd=>⟨(ht hd).1,JD h (ht hd).2⟩
 | .br x t f,ht=>⟨λhx=>JD h (ht.1 hx),λhx=>JD h (ht.2 hx)⟩
 | .gr f as t e,ht=>by
  unfold Be.Holds at ht ⊢;split at ht
  ·exact⟨λhx=>JD h (ht.1 hx),λhx=>JD h (ht.2 hx)⟩
  ·exact ht.elim
 | .cN t k,ht=>⟨ht.1,JD h ht.2⟩
 | .bad _,ht=>ht.elim
omit hE in
theorem aV{V:Vl}:∀ {vs:List SV} {i t:Nat} {v:SV},lk t (TP i vs)=some v->∃j,t=i+j/\vs[j]? = some v
 | [],i,t,v,h=>by simp[TP,lk] at h
 | u::vs,i,t,v,h=>by
  simp only[TP,lk] at h;cases hb:Nat.beq i t with
  |true=>
   rw[hb,cond_true,Ai] at h;have:=Ca hb;exact⟨0,by omega,by simp[h]⟩
  |false=>
   rw[hb,cond_false] at h;obtain⟨j,h1,h2⟩:=aV (V:=V) h;exact⟨j+1,by omega,by simpa using h2⟩
omit hE in
theorem x8{fn:Func}{a:Act}{P:Program}{w:World}{V:Vl}{vs:List TV}(h:(fn.results.toList.mapM (U6 a)).run P w= .ok (vs.map (·.den V)) w):(results fn a.tmps).run P w= .ok (Od (vs.map (·.den V))) w:=by
 have aaf:results fn a.tmps=(do
   let vs <- fn.results.mapM (U6 a)
   pure (if h:vs.size=1 then vs[0] else .tuple vs)):=by
  unfold results
  congr 1
 rw[aaf,Array.mapM_eq_mapM_toList];simp only[map_eq_pure_bind,bind_assoc,pure_bind,Gi,h,Fb,I4];cases vs with
 |nil=>rfl
 |cons v vs=>
  cases vs with
  |nil=>rfl
  |cons u vs=>rfl
omit hE in
theorem vV{V:Vl}{vs:List TV}(h:∀v∈vs,v.ok V):(Qg vs).den V=Od (vs.map (·.den V))/\(Qg vs).ok V:=by
 cases vs with
 |nil=>exact⟨rfl,λt h=>by cases h⟩
 |cons t ts=>
  cases ts with
  |nil=>exact⟨rfl,h t Jv⟩
  |cons t' ts'=>exact⟨rfl,h⟩
theorem ADb {run:Code->St->Be} (hR:yC E run) (hI:qY E) {o:Oper} {f:Nat} {i:IF} {args:List Operand} {st:St} {κ:St->Be} {V:Vl} {a:Act} {w:World} (hS:Fy E st V a w) (hi:ABw E.C o=some (f,i,args))
  (hT:(ADo E.C run i args o.dst st κ).cv E.C.T Φ st.nv V.ρ) {K:Act->World->Prop} {Q:Exit->Act->World->Prop} (hK:Nxt E Φ κ K):o.wp E.P a w K Q:=by
 unfold ABw at hi;split at hi
 ·rename_i f' abV gR hop;split at hi
  ·rename_i i' hl;simp only[Ai,Prod.mk.injEq] at hi;obtain⟨rfl,rfl,rfl⟩:=hi;obtain⟨hen,fn,hf,hb,hn,hr⟩:=hI _ _ hl;unfold ADo at hT;split at hT
   ·exact(hT V.ρ (Im.refl _ _)).elim
   rename_i vs n8;cases hle:Nat.ble vs.length i'.nt with
   |false=>rw[hle] at hT;exact(hT V.ρ (Im.refl _ _)).elim
   |true=>
   rw[hle,cond_true] at hT;have aic:=Kv hle;obtain⟨e1,e2⟩:=hS.s.t.oc n8;have eS:abV.map a.eval=(vs.map (·.den V)).toArray:=by
    apply Array.ext';rw[Array.toList_map,e1]
   obtain⟨dst,op,type,pos,after,guard⟩:=o;simp only at hop;subst hop;unfold Oper.wp;rw[eY (P:=E.P) (ρ:=a.eval) (λ_=>rfl) dst f' abV gR type pos after guard w,eS,hen];refine calls_of_wp hf hb ?_;rw[hn];have j0:Fy { E with I:=st.rg.map λr=>(r.id,V.ν r.id),sn:=st.nv,σ0:=V.σ } { st with lc:=[],tm:=TP 0 vs,nt:=i'.nt } V ⟨(vs.map (·.den V)).toArray++Array.replicate (i'.nt-(vs.map (·.den V)).toArray.size) undef,[]⟩ w:=by
    refine⟨⟨⟨hS.s.m.ov,hS.s.m.one,hS.s.m.sep,hS.s.m.so,hS.s.m.an,hS.s.m.gw⟩,hS.s.mc,⟨λt v hv=>?_,hS.s.t.gl,hS.s.t.ln⟩,?_,rfl⟩,hS.ll,λp hp=>?_,λ_ _=>rfl,Ie _⟩
    ·have mL:lk t (TP 0 vs)=some v:=hv;obtain⟨j,h1,h2⟩:=aV (V:=V) mL;rw[KN] at h1;subst h1;have hj:=(Oa.1 h2).1;obtain⟨h3,h4⟩:=e2 v (MB h2);refine⟨?_,h3,h4⟩;rw[YJ,Array.getElem?_append_left (by simpa using hj)];simp[h2]
    ·simp only[Array.size_append,Array.size_replicate,List.size_toArray,UC];omega
    ·obtain⟨r,cG,rfl⟩:=Us.1 hp;exact⟨FQ cG,rfl⟩
   simp only at hT;cases hchk:(AJ8 i'.cA&&(run i'.c { st with lc:=[],tm:=TP 0 vs,nt:=i'.nt }).qv (yE st.rg)) with
   | true=>
    rw[hchk,cond_true] at hT;simp only[Bj] at hchk;split at hT
    ·exact(hT V.ρ (Im.refl _ _)).elim
    rename_i wA hp;have cT:=hR _ _ _ (fun ρ ex cD=>Im st.nv V.ρ ρ/\yE st.rg ex cD=true) _ _ _ _ _ _ hl rfl j0 (fun ρ' hρ=>JD (λex cD h=>⟨hρ,h⟩) (LX hchk.2 (hT ρ' hρ).1));refine wp_mono cT ?_;rintro e a' w' ⟨ex,cD,V',hx,φ,eC,hΦ⟩;obtain⟨yW,me⟩:=hΦ V'.ρ (Im.refl _ _);have oT:(match ex with | .exit _=>False|_=>True)/\cD.rg=st.rg:=by
     unfold yE at me;split at me
     ·cases me
     ·rename_i cj;refine⟨?_,GG (λ_ _=>Rg.beq_eq) me⟩;cases ex<;>first|trivial|exact absurd rfl (cj _)
    have CD:∀l,Dz l (DL st.rg)=true->V'.ν l=V.ν l:=λl ta=>by
     obtain⟨r,cG,rfl⟩:=Nq.1 ta;exact(eC.kp (r.id,V.ν r.id) (Us.2 ⟨r,cG,rfl⟩)).2
    have gf:Ag st.nv (DL st.rg) V V':=⟨yW,λj hj=>eC.ks j hj,CD⟩;have key:a'.defers= []/\∃v,(results fn a'.tmps).run E.P w'= .ok v w'/\K (a.put dst v) w':=by
     refine⟨eC.s.df,.tuple #[],?_,?_⟩
     ·have ud:fn.results.toList= []:=by
       rw[hr];cases RE:i'.cA with
       |nil=>rfl
       |cons x xs=>rw[RE] at hchk;cases hchk.1
      have:=x8 (fn:=fn) (a:=a') (P:=E.P) (w:=w') (V:=V') (vs:=[]) (by rw[ud];rfl);exact this
     ·have gO:=eC.s.m;rw[oT.2] at gO;have DP:Fy E st V' a w':=by
       refine⟨⟨⟨gO.ov,gO.one,gO.sep,gO.so,gO.an,gO.gw⟩,hS.s.mc,⟨λt v hv=>?_,λg l hg=>?_,λp hp=>?_⟩,hS.s.nt,hS.s.df⟩,hS.ll,λp hp=>?_,λj hj=>?_,hS.ns⟩
       ·obtain⟨h1,h2,h3⟩:=hS.s.t.tm t v hv;exact⟨by rw[SV.ck gf h3];exact h1,SV.eW gf h3 h2,h3⟩
       ·obtain⟨h1,h2⟩:=hS.s.t.gl g l hg;exact⟨by rw[CD l h2];exact h1,h2⟩
       ·rw[yW _ (hS.ll p hp)];exact hS.s.t.ln p hp
       ·obtain⟨k1,k2⟩:=hS.kp p hp;exact⟨k1,by rw[CD _ k1];exact k2⟩
       ·rw[eC.ks j (qm hj hS.ns)];exact hS.ks j hj
      have oY:St.put { st with rg:=st.rg,ln:=st.ln,nv:=st.nv,nl:=st.nl } dst (.nj [])=some wA:=hp;have Ln:=Fy.put (E:=E) (nb:=0) (er:=false) (bv:=st.nv) (v:=.nj []) DP (Vw.same DP.s.m DP.s.mc) (.inl rfl) (Ie _) (Ie _) DP.s.t.ln DP.ll (λt ht=>by cases ht) oY;refine hK wA V' _ w' Ln ?_;have:wA.nv=st.nv:=by
       cases dst with
       |none=>simp only[St.put,Ai] at hp;subst hp;rfl
       |some t=>
        unfold St.put at hp;simp only at hp;cases vn:(Nat.blt t st.nt&&SV.lt st.nv (DL st.rg) (.nj [])) with
        |false=>rw[vn] at hp;cases hp
        |true=>rw[vn,cond_true,Ai] at hp;subst hp;rfl
      rw[this];exact fun ρ' h=>(hT ρ' (yW.trans h (Ie _))).2
    cases hx with
    |normal=>exact key
    |exit id=>exact oT.1.elim
    |ret=>exact key
   |false=>
   rw[hchk,cond_false] at hT;have cT:=hR _ _ _ (fun ρ ex cD=>Im st.nv V.ρ ρ/\(match ex with
    | .exit _=>Be.bad 41
    | _=>(match TS E.C cD i'.cA with
     |none=>.bad 42
     |some SP=>(match St.put { cD with lc:=st.lc,tm:=st.tm,nt:=st.nt } dst (Qg SP) with
      |none=>.bad 43
      |some wA=>κ wA))).Holds E.C.T Φ ρ) _ _ _ _ _ _ hl rfl j0 (fun ρ' hρ=>JD (λex cD h=>⟨hρ,h⟩) (LP (hT ρ' hρ)))
   refine wp_mono cT ?_;rintro e a' w' ⟨ex,cD,V',hx,φ,eC,hΦ⟩;have yW:=(hΦ V'.ρ (Im.refl _ _)).1;have hns:st.nv<=cD.nv:=eC.ns;have CD:∀l,Dz l (DL st.rg)=true->Dz l (DL cD.rg)=true/\V'.ν l=V.ν l:=λl ta=>by
    obtain⟨r,cG,rfl⟩:=Nq.1 ta;exact eC.kp (r.id,V.ν r.id) (Us.2 ⟨r,cG,rfl⟩)
   have gf:Ag st.nv (DL st.rg) V V':=⟨yW,λj hj=>eC.ks j hj,λl ta=>(CD l ta).2⟩;have key:(∀ ρ',Im cD.nv V'.ρ ρ'->(match TS E.C cD i'.cA with
     |none=>Be.bad 42
     |some SP=>(match St.put { cD with lc:=st.lc,tm:=st.tm,nt:=st.nt } dst (Qg SP) with
      |none=>.bad 43
      |some wA=>κ wA)).Holds E.C.T Φ ρ')->a'.defers= []/\∃v,(results fn a'.tmps).run E.P w'= .ok v w'/\K (a.put dst v) w':=λhH=>by
    refine⟨eC.s.df,?_⟩;split at hH
    ·exact(hH V'.ρ (Im.refl _ _)).elim
    rename_i SP htv;split at hH
    ·exact(hH V'.ρ (Im.refl _ _)).elim
    rename_i wA hp;have hE':P5 { E with I:=st.rg.map λr=>(r.id,V.ν r.id),sn:=st.nv,σ0:=V.σ }:=⟨hE.tt,hE.gc,hE.gb,hE.tb,hE.mx,hE.HU,hE.HG,hE.en,hE.eq⟩;obtain⟨r1,r2⟩:=Xb hE' φ eC htv;rw[<- hr] at r1;obtain⟨q1,q2⟩:=vV r2;refine⟨_,x8 r1,?_⟩;rw[<- q1];have DP:Fy E { cD with lc:=st.lc,tm:=st.tm,nt:=st.nt } V' a w':=by
     refine⟨⟨⟨eC.s.m.ov,eC.s.m.one,eC.s.m.sep,eC.s.m.so,eC.s.m.an,eC.s.m.gw⟩,eC.s.mc,⟨λt v hv=>?_,eC.s.t.gl,eC.s.t.ln⟩,hS.s.nt,hS.s.df⟩,eC.ll,λp hp=>?_,λj hj=>?_,EX hS.ns hns⟩
     ·obtain⟨h1,h2,h3⟩:=hS.s.t.tm t v hv;exact⟨by rw[SV.ck gf h3];exact h1,SV.eW gf h3 h2,SV.be hns (λl ta=>(CD l ta).1) h3⟩
     ·obtain⟨k1,k2⟩:=hS.kp p hp;exact⟨(CD _ k1).1,by rw[(CD _ k1).2];exact k2⟩
     ·rw[eC.ks j (qm hj hS.ns)];exact hS.ks j hj
    have oY:St.put { ({ cD with lc:=st.lc,tm:=st.tm,nt:=st.nt }:St) with rg:=cD.rg,ln:=cD.ln,nv:=cD.nv,nl:=cD.nl } dst (Qg SP)=some wA:=hp;have Ln:=Fy.put (E:=E) (nb:=0) (er:=false) (bv:=cD.nv) DP (Vw.same DP.s.m DP.s.mc) (.inl rfl) (Ie _) (Ie _) DP.s.t.ln DP.ll q2 oY;refine hK wA V' _ w' Ln ?_;have:wA.nv=cD.nv:=by
     cases dst with
     |none=>simp only[St.put,Ai] at hp;subst hp;rfl
     |some t=>
      unfold St.put at hp;simp only at hp;cases vn:(Nat.blt t st.nt&&(Qg SP).lt cD.nv (DL cD.rg)) with
      |false=>rw[vn] at hp;cases hp
      |true=>rw[vn,cond_true,Ai] at hp;subst hp;rfl
    rw[this];exact hH
   cases hx with
   |normal=>exact key fun ρ' h=>(hΦ ρ' h).2
   |exit id=>exact((hΦ V'.ρ (Im.refl _ _)).2).elim
   |ret=>exact key fun ρ' h=>(hΦ ρ' h).2
  ·cases hi
 ·cases hi
theorem V9{run:Code->St->Be}(hR:yC E run)(hI:qY E){o:Oper}{st:St}{κ:St->Be}{V:Vl}{a:Act}{w:World}(hS:Fy E st V a w)(hT:(AFh E.C run o st κ).cv E.C.T Φ st.nv V.ρ)
  {K:Act->World->Prop} {Q:Exit->Act->World->Prop} (hK:Nxt E Φ κ K):o.wp E.P a w K Q:=by
 unfold AFh at hT;split at hT
 ·rename_i f i args h;exact ADb hE hR hI hS h hT hK
 ·exact AQu hE hS hT hK
def AJI(E:En)(Φ:Bu->Ex->St->Prop)(κ:St->Be)(K:Act->World->Prop):Prop:=
 ∀st V a w,st.lc= []->Fy E st V a w->(κ st).cv E.C.T Φ st.nv V.ρ->K a w
omit hE in
theorem dY{st:St}{V:Vl}{a:Act}{w:World}(hS:Fy E st V a w){t:Nat}{x:X}(h:st.look t=some (.t (.l (.bool x)))):
  a.tmps[t]? = some (.bool (x.den V.ρ != 0))/\x.lt st.nv=true:=by
 obtain⟨h1,-,h3⟩:=hS.s.t.tm t _ h;refine⟨?_,h3⟩;simp only[SV.aE,TV.aq,LV.ca] at h1;by_cases bj:t<a.tmps.size
 ·rw[Array.getElem?_eq_getElem bj];simp[Array.getD,bj] at h1;rw[h1]
 ·simp[Array.getD,bj,undef] at h1
omit hE in
theorem Xu{ops:Array Oper}{o g:Oper}{j t:Nat}{want:Bool}{tmps:Array Value}{b:Bool}(hg:o.guard=some (j,want))(hj:ops[j]? = some g)(hd:g.dst=some t)(ht:tmps[t]? = some (.bool b)):
  Region.wanted o (yielded ops tmps)=(b == want):=by
 unfold Region.wanted;rw[hg];have hy:yielded ops tmps j=some b:=by
  unfold yielded;rw[hj];simp only[Option.bind_some,hd,ht]
 simp only[hy];rfl
omit hE in
theorem Fy.rS{st:St}{V:Vl}{a:Act}{w:World}(h:Fy E st V a w){t:Nat}{x:X}{n:Int}(hl:st.look t=some (.t (.l (.bool x))))(hx:(x.den V.ρ != 0)=(n != 0)):Fy E (st.rS t n) V a w:=by
 refine⟨⟨h.s.m,h.s.mc,⟨λu v hv=>?_,h.s.t.gl,h.s.t.ln⟩,h.s.nt,h.s.df⟩,h.ll,h.kp,h.ks,h.ns⟩;have mL:(if t=u then some (SV.t (.l (.bool (.lit n)))) else st.look u)=some v:=by rw[<- hv];exact Qf.symm
 by_cases e:t=u
 ·subst e;rw[if_pos rfl] at mL;cases mL;obtain⟨h1,-, -⟩:=h.s.t.tm t _ hl;exact⟨by rw[h1];simp only[SV.aE,TV.aq,LV.ca,X.bc,hx],trivial,rfl⟩
 ·rw[if_neg e] at mL;exact h.s.t.tm u v mL
theorem dm {run:Code->St->Be} (hR:yC E run) (hI:qY E) {ops:Array Oper} {κ:St->Be} {Q:Exit->Act->World->Prop} (hκ:AJI E Φ κ (Q .normal)):∀(l:List Oper) (st:St) (V:Vl) (a:Act) (w:World),Fy E st V a w->
  (TE E.C run ops κ l st).cv E.C.T Φ st.nv V.ρ->wpList E.P ops Q l a w
 | [],st,V,a,w,hS,hT=>hκ st.flush V a w rfl hS.flush hT
 | o :: r,st,V,a,w,hS,hT=>by
  have hN:Nxt E Φ (TE E.C run ops κ r) (wpList E.P ops Q r):=λcD V' a' w' h1 h2=>dm hR hI hκ r cD V' a' w' h1 h2
  refine wpList_step λK hK=>?_
  have hN':Nxt E Φ (TE E.C run ops κ r) K:=λcD V' a' w' h1 h2=>hK _ _ (hN cD V' a' w' h1 h2)
  have Fl:∀st,Fy E st V a w->(match st.put o.dst (.nj []) with
   |some cD=>TE E.C run ops κ r cD
   |none=>.bad 5).cv E.C.T Φ st.nv V.ρ->K (a.put o.dst undef) w:=λst hS hH=>by
   split at hH
   ·rename_i cD hp;have eC:=hS.skip hp;refine hN' cD V _ w eC ?_;have:cD.nv=st.nv:=by
     cases hd:o.dst with
     |none=>rw[hd] at hp;simp only[St.put,Ai] at hp;subst hp;rfl
     |some t=>
      rw[hd] at hp;unfold St.put at hp;simp only at hp;cases hb:(Nat.blt t st.nt&&SV.lt st.nv (DL st.rg) (.nj [])) with
      |false=>rw[hb] at hp;cases hp
      |true=>rw[hb,cond_true,Ai] at hp;subst hp;rfl
    rw[this];exact hH
   ·exact(hH V.ρ (Im.refl _ _)).elim
  unfold TE at hT;simp only at hT;cases hg:o.guard with
  |none=>
   rw[hg] at hT;rw[if_pos (by simp[Region.wanted,hg])];exact V9 hE hR hI hS hT hN'
  | some p=>
   obtain⟨j,want⟩:=p;rw[hg] at hT;simp only at hT;split at hT
   ·rename_i g hj;split at hT
    ·rename_i t hd;split at hT
     ·rename_i n hl;obtain⟨h1,-⟩:=dY hS hl;rw[Xu hg hj hd h1];have hbe:(X.den V.ρ (.lit n) != 0)= !(H5 n 0):=by
       rw[X.bc];cases hb:H5 n 0 with
       |true=>rw[Ls hb];rfl
       |false=>simpa using PO hb
      rw[hbe];cases hb:H5 n 0<;>cases want<;>rw[hb] at hT<;>simp at hT ⊢ <;> first|exact V9 hE hR hI hS hT hN'|exact Fl st hS hT
     ·rename_i x _ hl;obtain⟨h1,h2⟩:=dY hS hl;rw[Xu hg hj hd h1];cases want with
      | true=>
       simp only[cond_true] at hT;by_cases hx:x.den V.ρ=0
       ·rw[if_neg (by simp[hx])];exact Fl _ (hS.rS (n:=0) hl (by simp[hx])) fun ρ' hρ=>(KA (hT ρ' hρ)).2 (by rw[X.cg hρ h2];exact hx)
       ·rw[if_pos (by simp[hx])];exact V9 hE hR hI (hS.rS (n:=1) hl (by simp[hx])) (fun ρ' hρ=>(KA (hT ρ' hρ)).1 (by rw[X.cg hρ h2];exact hx)) hN'
      | false=>
       simp only[cond_false] at hT;by_cases hx:x.den V.ρ=0
       ·rw[if_pos (by simp[hx])];exact V9 hE hR hI (hS.rS (n:=0) hl (by simp[hx])) (fun ρ' hρ=>(KA (hT ρ' hρ)).2 (by rw[X.cg hρ h2];exact hx)) hN'
       ·rw[if_neg (by simp[hx])];exact Fl _ (hS.rS (n:=1) hl (by simp[hx])) fun ρ' hρ=>(KA (hT ρ' hρ)).1 (by rw[X.cg hρ h2];exact hx)
     ·exact(hT V.ρ (Im.refl _ _)).elim
    ·exact(hT V.ρ (Im.refl _ _)).elim
   ·exact(hT V.ρ (Im.refl _ _)).elim
end
end
section
open Go
section
variable{P:Program}{ops:Array Oper}{Q:Exit->Act->World->Prop}{md:Region.Mode}{Inv:World->Prop}
def wpI(P:Program)(md:Region.Mode)(ops:Array Oper)(Q:Exit->Act->World->Prop)(Inv:World->Prop):Nat->Array Bool->Act->World->Prop
 |0,η,a,w=>Inv w/\Region.ready md ops η= []/\Q .normal a w
 |fuel+1,η,a,w=>Inv w/\(Region.ready md ops η= []->Q .normal a w)/\
  ∀i∈Region.ready md ops η,wpOp P ops Q i (wpI P md ops Q Inv fuel (η.setIfInBounds i true)) a w
theorem Yr{n:Nat}{η:Array Bool}{a:Act}{w:World}(h:wpI P md ops Q Inv n η a w):Inv w:=by
 cases n<;>exact h.1
theorem yR:∀(n:Nat) (η:Array Bool) (a:Act) (w:World),wpI P md ops Q Inv n η a w->wpAny P md ops Q n η a w
 |0,_,_,_,h=>h.2
 |n+1,_listed,_a,_w,h=>⟨h.2.1,λi hi=>wpOp_mono (λa' w' h'=>yR n _ a' w' h') (h.2.2 i hi)⟩
def Nj(P:Program)(Inv:World->Prop)(o:Oper)(v:Value)(a:Act):Prop:=∀w,Inv w->(execOp a.eval o).run P w= .ok (.value v) w
theorem Nj.wpOp{i:Nat}{o:Oper}{v:Value}{a:Act}(hi:ops[i]? = some o)(hg:o.guard=none)(hy:Nj P Inv o v a){K:Act->World->Prop}{w:World}(hI:Inv w)(h:K (a.put o.dst v) w):
  wpOp P ops Q i K a w:=by
 unfold Go.wpOp;simp only[hi,Region.wanted,hg,if_true];refine .inl ?_;simp only[Oper.wp,hy w hI,Oper.upon];exact h
theorem AAy{j:Nat}{oi oj:Oper}{v:Value}(hj:ops[j]? = some oj)(hap:oi.apart ops oj=true)
  (hsi:∀cs b,oi.op ≠ .select cs b) (hsj:∀cs b,oj.op ≠ .select cs b)
  (hQ:∀c a w,Q (.panic c) (a.put oi.dst v) w->Q (.panic c) a w) {K:Act->World->Prop} {a:Act} {w:World}
  (hy:Nj P Inv oi v a) (h:wpOp P ops Q j K (a.put oi.dst v) w):
  wpOp P ops Q j (λa' w'=>Nj P Inv oi v a'/\K (a'.put oi.dst v) w') a w:=by
 obtain⟨h1,h2,h3⟩:=Oper.apart_spec hap;have cH:∀(a:Act),Nj P Inv oi v a->∀u,Nj P Inv oi v (a.put oj.dst u):=λa hy u w hI=>by
  rw[execOp_put oi hsi a oj.dst u h3];exact hy w hI
 have afn:∀d,Nj P Inv oi v { a with defers:=d::a.defers }:=λd=>hy
 unfold wpOp at *
 simp only[hj] at *
 rw[wanted_put oj a oi.dst v h1] at h;split
 ·rename_i hw;simp only[hw,if_true] at h;rcases h with h|⟨To,afq⟩
  case inr=>exact .inr ⟨by unfold Oper.asks at *;rw[execOp_put oj hsj a oi.dst v h1] at To;exact To,afq⟩
  refine .inl ?_;unfold Oper.wp at *
  rw[execOp_put oj hsj a oi.dst v h1] at h;generalize (execOp a.eval oj).run P w=r at *
  cases r with
  | ok n w'=>
   cases n<;>simp only[Oper.upon] at h ⊢
   case value u=>exact⟨cH a hy u,by rw[<- Act.put_comm a v u h2];exact h⟩
   case skip=>exact⟨cH a hy _,by rw[<- Act.put_comm a v undef h2];exact h⟩
   case defer d=>
    refine⟨cH _ (afn d) _,?_⟩;rw[<- Act.put_comm _ v undef h2, <- Act.put_defers];exact h
   case enter f args=>
    refine Calls.mono h λe w'' he=>?_
    cases e with
    |returned u=>exact⟨cH a hy u,by rw[<- Act.put_comm a v u h2];exact he⟩
    |panicked c=>exact hQ _ _ _ he
    |outgrown=>exact he
   case row row args=>exact Rows.mono h λu w'' he=>⟨cH a hy u,by rw[<- Act.put_comm a v u h2];exact he⟩
  |halt x w'=>
   cases x<;>simp only[Oper.upon] at h ⊢
   case panic u=>exact hQ _ _ _ h
 ·rename_i hw;simp only[hw] at h;exact⟨cH a hy _,by rw[<- Act.put_comm a v undef h2];exact h⟩
theorem AAx{i:Nat}{oi:Oper}{v:Value}(hi:ops[i]? = some oi)(hgi:oi.guard=none)(jx:∀(j:Nat) (o:Oper) cs b,ops[j]? = some o->o.op ≠ .select cs b)
  (hQ:∀c a w,Q (.panic c) (a.put oi.dst v) w->Q (.panic c) a w):
  ∀(fuel:Nat) (η:Array Bool) (a:Act) (w:World),
   (∀j oj,ops[j]? = some oj->j≠i->η.getD j true=false->(∀e∈oj.after,Region.binds md e=true->e.on≠i)->oi.apart ops oj=true)->
   i∈Region.ready md ops η->Nj P Inv oi v a->
   wpI P md ops Q Inv fuel (η.setIfInBounds i true) (a.put oi.dst v) w->wpI P md ops Q Inv (fuel+1) η a w:=by
 intro fuel
 induction fuel with
 | zero=>
  intro η a w _ hr hy H;refine⟨Yr H,λh=>(by rw[h] at hr;cases hr),λj hj=>?_⟩;by_cases hji:j=i
  ·subst hji;exact hy.wpOp hi hgi (Yr H) H
  ·have:=ready_mono hj hji;rw[H.2.1] at this;cases this
 | succ fuel ih=>
  intro η a w abU hr hy H;refine⟨Yr H,λh=>(by rw[h] at hr;cases hr),λj hj=>?_⟩;by_cases hji:j=i
  ·subst hji;exact hy.wpOp hi hgi (Yr H) H
  ·have h1:=H.2.2 j (ready_mono hj hji);obtain⟨adg,oj,hoj,fS⟩:=mem_ready.1 hj;have akh:∀e∈oj.after,Region.binds md e=true->e.on≠i:=λe he hb heq=>by
    have h1:=fS e he hb;have h0:=(mem_ready.1 hr).1;rw[heq] at h1;rcases kz i η.size with h'|h'
    ·simp[h'] at h0 h1;rw[h0] at h1;cases h1
    ·simp[uM h'] at h1
   have h2:=AAy hoj (abU j oj hoj hji adg akh) (λcs b=>jx i oi cs b hi) (λcs b=>jx j oj cs b hoj) hQ hy h1;have TX:∀k ok,ops[k]? = some ok->k≠i->(η.setIfInBounds j true).getD k true=false->
     (∀e∈ok.after,Region.binds md e=true->e.on≠i)->oi.apart ops ok=true:=λk ok hk hki HN ij=>by
    refine abU k ok hk hki ?_ ij;by_cases hjk:j=k
    ·subst hjk;exact adg
    ·rw[getD_set_ne true hjk] at HN;exact HN
   refine wpOp_mono (λa' w' h3=>ih (η.setIfInBounds j true) a' w' TX (ready_mono hr (Ne.symm hji)) h3.1 ?_) h2;rw[Array.setIfInBounds_comm _ _ hji];exact h3.2
end
theorem St.qk{st cD:St}{d:Option Nat}{v:SV}(h:st.put d v=some cD):cD= { st with lc:=cD.lc }:=by
 cases d with
 |none=>simp only[St.put,Ai] at h;subst h;rfl
 |some t=>
  unfold St.put at h;simp only at h;cases hb:(Nat.blt t st.nt&&v.lt st.nv (DL st.rg)) with
  |false=>rw[hb] at h;cases h
  |true=>rw[hb,cond_true,Ai] at h;subst h;rfl
theorem gT{rg:List Rg}:∀ {kp:List Rg},AEB rg kp=true->∀r∈kp,r∈rg
 | [],_,r,hr=>by cases hr
 | r0::rs,h,r,hr=>by
  simp only[AEB,Bj] at h;rcases G9.1 hr with rfl|hr
  ·cases hf:jB r.id rg with
   |none=>rw[hf] at h;cases h.1
   |some r'=>
    rw[hf] at h;have:=Rg.beq_eq h.1;rw[this];exact(JW hf).1
  ·exact gT h.2 r hr
theorem Oc.sub{E:En}{nv:Nat}{rg Qz kp:List Rg}{V V0 V':Vl}{w w0:World}(h0:Oc E Qz V0 w0)(hs:Ym nv Qz)(lA:∀r∈kp,r∈Qz)(I3:Ag nv (DL Qz) V0 V')(hk:∀r∈kp,r∈rg)
  (hm:Oc E rg V w) (ha:Ag nv (DL Qz) V V'):Oc E kp V' w where
 ov r hr:=by
  intro i c hc;obtain⟨v,h1,h2⟩:=hm.ov r (hk r hr) i c hc;rw[ha.2.2 r.id (FQ (lA r hr))];refine⟨v,h1,λlv e=>?_⟩;subst e;obtain⟨h3,h4⟩:=h2 lv rfl;have hl:=hs r (lA r hr) lv (MB hc);exact⟨by rw[LV.ck ha hl];exact h3,LV.eW ha hl h4⟩
 one r hr r' cG h:=h0.one r (lA r hr) r' (lA r' cG) h
 sep r hr r' cG hw cj:=by
  have:=h0.sep r (lA r hr) r' (lA r' cG) hw cj;unfold uZ at *
  rw[I3.2.2 r.id (FQ (lA r hr)),I3.2.2 r'.id (FQ (lA r' cG))];exact this
 so r hr hw:=by
  have:=h0.so r (lA r hr) hw;rw[I3.2.2 r.id (FQ (lA r hr))];exact this
 an:=hm.an
 gw:=hm.gw
def DS.st(s:DS)(st:St):St:= { st with lc:=s.lc,rg:=s.rg }
structure uD (E:En) (Qz kp:List Rg) (χ:St) (V1:Vl) (s:DS) (V:Vl) (a:Act) (w:World):Prop where
 sat:Fy E (s.st χ) V a w
 ρ:V.ρ=V1.ρ
 σ:V.σ=V1.σ
 ν:∀l,Dz l (DL Qz)=true->V.ν l=V1.ν l/\Dz l (DL s.rg)=true
 kp:∀r∈kp,r∈s.rg
section
variable{E:En}(hE:P5 E){χ:St}{V1:Vl}{Qz kp:List Rg}{w0:World}{ops:Array Oper}{fj:List Rf}{nv nl:Nat}
 (h0:Oc E Qz V1 w0) (zj:Ym χ.nv Qz) (lA:∀r∈kp,r∈Qz)
 (hd:Vg E.C.T V1.ρ (fj.flatMap (·.ds))) (ho:∀q∈fj.flatMap (·.ob),q.den E.C.T V1.ρ)
include hE h0 zj lA hd ho
omit hE hd ho in
theorem uD.inv{s:DS}{V:Vl}{a:Act}{w:World}(h:uD E Qz kp χ V1 s V a w):Oc E kp V1 w:=
 Oc.sub h0 zj lA (Ag.refl _ _ _) h.kp h.sat.s.m ⟨λi _=>by rw[h.ρ],λi _=>by rw[h.σ],λl hl=>((h.ν l hl).1).symm⟩
omit hE hd ho in
theorem uD.aeC{s:DS}{V:Vl}{a:Act}{w w':World}(h:uD E Qz kp χ V1 s V a w)(hI:Oc E kp V1 w'):Oc E kp V w':=
 Oc.sub h0 zj lA ⟨λi _=>by rw[h.ρ],λi _=>by rw[h.σ],λl hl=>(h.ν l hl).1⟩ (λ_ h=>h) hI ⟨λi _=>by rw[h.ρ],λi _=>by rw[h.σ],λl hl=>(h.ν l hl).1⟩
theorem AEK {o:Oper} {rf:Rf} {i:Nat} (Mu:rf∈fj) {s s':DS} {V:Vl} {a:Act} {w:World} (hD:uD E Qz kp χ V1 s V a w) (_hnl:nv+16*i+16<=χ.nv)
  (h:Sm E.C o rf i nv nl χ.nv kp χ false s=some s') {K:Act->World->Prop} {Q:Exit->Act->World->Prop} (hK:∀V' a' w',uD E Qz kp χ V1 s' V' a' w'->K a' w'):o.wp E.P a w K Q:=by
 have _:=h0;have _:=zj;have _:=lA;unfold Sm at h;simp only at h;split at h
 ·cases h
 rename_i h2;simp only[cond_false] at h;split at h
 ·cases h
 rename_i m hm;split at hm
 ·rename_i m' gO;cases hb:(AEB m'.rg kp && !m'.er) with
  |false=>rw[hb] at hm;cases hm
  | true=>
   rw[hb,cond_true,Ai] at hm;subst hm;simp only[Bj,Bool.not_eq_true'] at hb;cases hc:(V7 m'.o.ds rf.ds&&OT I1.beq m'.o.ob rf.ob) with
   |false=>rw[hc] at h;cases h
   | true=>
    rw[hc,cond_true] at h;simp only[Bj] at hc;have e1:=Za hc.1;have e2:=GG (λ_ _=>I1.beq_eq) hc.2;split at h
    ·rename_i pH hp;simp only[Ai] at h;subst h;have hρ:=hD.ρ;refine lZ hE hD.sat.s.m (bv:=χ.nv) hD.sat.s.mc hD.sat.s.t (Ie _) gO ?_ ?_ ?_ (.inl hb.2) ?_
     ·intro p eA;rw[hρ];rw[e1] at eA;exact hd p (List.mem_flatMap.2 ⟨rf,Mu,eA⟩)
     ·intro q hq;rw[hρ];rw[e2] at hq;exact ho q (List.mem_flatMap.2 ⟨rf,Mu,hq⟩)
     ·intro f args gR vs fe as k1 _ k3 _;exact aM hE h2 k1 k3 _
     ·intro V' w' hr hv;rw[hb.2] at hr;have oY:St.put { (s.st χ) with rg:=m'.rg,ln:=(s.st χ).ln,nv:=χ.nv,nl:=χ.nl } o.dst m'.o.v=some pH:=hp;have hS:=Fy.put (E:=E) hD.sat hr (.inl rfl) (Ie _) (Ie _) (by rw[hr.ρ];exact hD.sat.s.t.ln) hD.sat.ll hv oY;have tj:=St.qk oY;have oT:pH.rg=m'.rg:=by rw[tj]
      refine hK V' _ w' ⟨?_,by rw[hr.ρ,hρ],?_,?_,?_⟩
      ·have:(DS.st ⟨s.ls.setIfInBounds i true,pH.lc,pH.rg⟩ χ)=pH:=by
        rw[tj];rfl
       rw[this];exact hS
      ·rw[<- hD.σ];funext j;exact hr.σ j (.inr rfl)
      ·intro l hl;obtain⟨k1,k2⟩:=hD.ν l hl;obtain⟨k3,k4⟩:=hr.ν l k2;exact⟨by rw[k3,k1],by rw[oT];exact k4⟩
      ·intro r cG;rw[oT];exact gT hb.1 r cG
    ·cases h
 ·cases hm
theorem AAu{o:Oper}{rf:Rf}{i:Nat}(Mu:rf∈fj){s s':DS}{V:Vl}{a:Act}{w:World}(hD:uD E Qz kp χ V1 s V a w)
  (h:Sm E.C o rf i nv nl χ.nv kp χ true s=some s'):
  ∃v,Nj E.P (Oc E kp V1) o v a/\uD E Qz kp χ V1 s' V (a.put o.dst v) w:=by
 unfold Sm at h;simp only at h;split at h
 ·cases h
 rename_i h2;simp only[cond_true] at h;split at h
 ·cases h
 rename_i m hm;split at hm
 ·rename_i r hr;simp only[Ai] at hm;subst hm;simp only at h;cases hc:(V7 r.ds rf.ds&&OT I1.beq r.ob rf.ob) with
  |false=>rw[hc] at h;cases h
  | true=>
   rw[hc,cond_true] at h;simp only[Bj] at hc;have e1:=Za hc.1;have e2:=GG (λ_ _=>I1.beq_eq) hc.2;have hρ:=hD.ρ;have rK:HX E.C.T V r.ds:=λp eA=>by
    rw[hρ];rw[e1] at eA;exact hd p (List.mem_flatMap.2 ⟨rf,Mu,eA⟩)
   have mj:ObH E.C.T V r.ob:=λq hq=>by
    rw[hρ];rw[e2] at hq;exact ho q (List.mem_flatMap.2 ⟨rf,Mu,hq⟩)
   have hy:Nj E.P (Oc E kp V1) o (r.v.den V) a/\r.v.ok V:=by
    unfold AKG at hr;split at hr
    ·rename_i t x hop;split at hr
     ·rename_i v hx;obtain⟨k1,k2,-⟩:=hD.sat.s.t.cL (st:=s.st χ) hx;have aej:∀w',Oc E kp V w'->(Instr.loadAt t (v.den V)).run E.P w'= .ok (r.v.den V) w'/\r.v.ok V:=λw' hI=>
       Y4 (st:= { (s.st χ) with rg:=kp }) hE hI hD.sat.s.t.ln hr k2 rK
      refine⟨λw' hI=>?_,(aej w (hD.aeC h0 zj lA (hD.inv h0 zj lA))).2⟩;have:=(aej w' (hD.aeC h0 zj lA hI)).1;obtain⟨dst,op,type,pos,after,guard⟩:=o;simp only at hop;subst hop;have kO:a.eval x=v.den V:=k1;simp only[execOp,kO,Gi,this,Fb,I4]
     ·cases hr
    ·obtain⟨k1,k2,-⟩:=ng hE.tt hD.sat.s.t hr rK mj;exact⟨λw' _=>k1 w',k2⟩
   split at h
   ·rename_i pH hp;simp only[Ai] at h;subst h;have oY:St.put { (s.st χ) with rg:=(s.st χ).rg,ln:=(s.st χ).ln,nv:=χ.nv,nl:=χ.nl } o.dst r.v=some pH:=hp;have hS:=Fy.put (E:=E) (nb:=0) (er:=false) hD.sat (Vw.same hD.sat.s.m hD.sat.s.mc) (.inl rfl) (Ie _) (Ie _) hD.sat.s.t.ln hD.sat.ll hy.2 oY;have tj:=St.qk oY;have oT:pH.rg=s.rg:=by rw[tj];rfl
    refine⟨_,hy.1,⟨?_,hρ,hD.σ,λl hl=>?_,λr' cG=>?_⟩⟩
    ·have:(DS.st ⟨s.ls.setIfInBounds i true,pH.lc,pH.rg⟩ χ)=pH:=by
      rw[tj];rfl
     rw[this];exact hS
    ·obtain⟨k1,k2⟩:=hD.ν l hl;exact⟨k1,by rw[oT];exact k2⟩
    ·rw[oT];exact hD.kp r' cG
   ·cases h
 ·cases hm
end
end
section
open Go
theorem tF{a b:Bool}(h:jI a b=true):a=b:=by cases a<;>cases b<;>first|rfl|cases h
theorem VG{new:List (Nat×SV)}:∀ {dc:List (Nat×SV)},Vh new dc=true->∀t v,(t,v)∈dc->lk t new=some v
 | [],_,t,v,h=>by cases h
 | (t0,v0)::r,hh,t,v,h=>by
  simp only[Vh,Bj] at hh;rcases G9.1 h with e|h
  ·simp only[Prod.mk.injEq] at e;obtain⟨e1,e2⟩:=e;subst e1;subst e2;cases hl:lk t new with
   |none=>rw[hl] at hh;cases hh.1
   |some u=>rw[hl] at hh;rw[SV.beq_eq hh.1]
  ·exact VG hh.2 t v h
theorem ABf{a b:List (Nat×SV)}(h1:Vh a b=true)(h2:Vh b a=true)(t:Nat):lk t a=lk t b:=by
 cases hb:lk t b with
 |some v=>exact VG h1 t v (OU hb)
 |none=>
  cases ha:lk t a with
  |none=>rfl
  |some u=>have:=VG h2 t u (OU ha);rw[hb] at this;cases this
structure Hj (s e:DS):Prop where
 ls:e.ls=s.ls
 lc:∀t,lk t e.lc=lk t s.lc
 rg:e.rg=s.rg
theorem Hj.refl(s:DS):Hj s s:=⟨rfl,λ_=>rfl,rfl⟩
theorem Hj.trans{a b c:DS}(h:Hj a b)(h':Hj b c):Hj a c:=⟨h'.ls.trans h.ls,λt=>(h'.lc t).trans (h.lc t),h'.rg.trans h.rg⟩
theorem uD.eq{E:En}{Qz kp:List Rg}{χ:St}{V1:Vl}{s e:DS}{V:Vl}{a:Act}{w:World}(h:Hj s e)(hD:uD E Qz kp χ V1 s V a w):uD E Qz kp χ V1 e V a w:=by
 obtain⟨els,elc,erg⟩:=e;obtain⟨h1,h2,h3⟩:=h;simp only at h1 h2 h3;subst h1;subst h3;refine⟨⟨⟨hD.sat.s.m,hD.sat.s.mc,⟨λt v hv=>hD.sat.s.t.tm t v ?_,hD.sat.s.t.gl,hD.sat.s.t.ln⟩,hD.sat.s.nt,hD.sat.s.df⟩,hD.sat.ll,hD.sat.kp,hD.sat.ks,hD.sat.ns⟩,hD.ρ,hD.σ,hD.ν,hD.kp⟩;simp only[St.look,DS.st] at hv ⊢;rw[<- h2 t];exact hv
theorem dX{s:DS}:∀ {L L':List DS},ABU s L=some L'->(∃e∈L',Hj s e)/\∀e∈L,e∈L'
 | [],L',h=>by
  simp only[ABU,Ai] at h;subst h;exact⟨⟨s,Jv,Hj.refl s⟩,λe he=>by cases he⟩
 | e::r,L',h=>by
  unfold ABU at h;cases hb:OT jI e.ls.toList s.ls.toList with
  | true=>
   rw[hb,cond_true] at h;cases hc:(Vh s.lc e.lc&&Vh e.lc s.lc&&OT Rg.beq s.rg e.rg) with
   |false=>rw[hc] at h;cases h
   |true=>
    rw[hc,cond_true,Ai] at h;subst h;simp only[Bj] at hc;have e1:=GG (λ_ _=>tF) hb;have e2:=GG (λ_ _=>Rg.beq_eq) hc.2;refine⟨⟨e,Jv,⟨Array.ext' e1,λt=>(ABf hc.1.1 hc.1.2 t).symm,e2.symm⟩⟩,λx hx=>hx⟩
  | false=>
   rw[hb,cond_false] at h;split at h
   ·rename_i r' hr;simp only[Ai] at h;subst h;obtain⟨⟨x,hx,hxe⟩,h2⟩:=dX hr;refine⟨⟨x,MN _ hx,hxe⟩,λy hy=>?_⟩;rcases G9.1 hy with rfl|hy
    ·exact Jv
    ·exact MN _ (h2 y hy)
   ·cases h
theorem WM:∀ {ss L L':List DS},V3 ss L=some L'->(∀s∈ss,∃e∈L',Hj s e)/\∀e∈L,e∈L'
 | [],L,L',h=>by
  simp only[V3,Ai] at h;subst h;exact⟨λs hs=>(by cases hs),λe he=>he⟩
 | s::r,L,L',h=>by
  unfold V3 at h;split at h
  ·rename_i L1 h1;obtain⟨⟨x,hx,hxe⟩,h2⟩:=dX h1;obtain⟨h3,h4⟩:=WM h;refine⟨λy hy=>?_,λe he=>h4 e (h2 e he)⟩;rcases G9.1 hy with rfl|hy
   ·exact⟨x,h4 x hx,hxe⟩
   ·exact h3 y hy
  ·cases h
theorem Xj{C:Cx}{ops:Array Oper}{fj:List Rf}{nv nl bv:Nat}{kp:List Rg}{st:St}:∀ {L acc L':List DS},aL C ops fj nv nl bv kp st L acc=some L'->
  (∀s∈L,∃ss,AE2 C ops fj nv nl bv kp st s=some ss/\∀s'∈ss,∃e∈L',Hj s' e)/\∀e∈acc,e∈L'
 | [],acc,L',h=>by
  simp only[aL,Ai] at h;subst h;exact⟨λs hs=>(by cases hs),λe he=>he⟩
 | s :: r,acc,L',h=>by
  unfold aL at h;split at h
  ·rename_i ss HO;split at h
   ·rename_i acN ha;obtain⟨h1,h2⟩:=WM ha;obtain⟨h3,h4⟩:=Xj h;refine⟨λx hx=>?_,λe he=>h4 e (h2 e he)⟩;rcases G9.1 hx with rfl|hx
    ·refine⟨ss,HO,λs' HE=>?_⟩;obtain⟨e,he,hee⟩:=h1 s' HE;exact⟨e,h4 e he,hee⟩
    ·exact h3 x hx
   ·cases h
  ·cases h
theorem Z9{C:Cx}{ops:Array Oper}{fj:List Rf}{nv nl bv:Nat}{kp:List Rg}{st:St}{s s':DS}:∀ {R:List Nat},gN C ops fj nv nl bv kp st s R=some s'->
  ∃i∈R,∃o rf,ops[i]? = some o/\fj[i]? = some rf/\Sm C o rf i nv nl bv kp st true s=some s'/\Region.free .any ops s.ls i=true
 | [],h=>by cases h
 | i :: r,h=>by
  unfold gN at h;have hr:gN C ops fj nv nl bv kp st s r=some s'->∃j∈i::r,∃o rf,ops[j]? = some o/\fj[j]? = some rf/\Sm C o rf j nv nl bv kp st true s=some s'/\Region.free .any ops s.ls j=true:=λh=>by
   obtain⟨j,hj,hh⟩:=Z9 h;exact⟨j,MN _ hj,hh⟩
  split at h
  ·rename_i o rf ho Mu;split at h
   ·rename_i s1 hs1;cases hf:Region.free .any ops s.ls i with
    |false=>rw[hf] at h;exact hr h
    |true=>
     rw[hf,cond_true,Ai] at h;subst h;exact⟨i,Jv,o,rf,ho,Mu,hs1,hf⟩
   ·exact hr h
  ·cases h
theorem eB{C:Cx}{ops:Array Oper}{fj:List Rf}{nv nl bv:Nat}{kp:List Rg}{st:St}{s:DS}:∀ {R:List Nat} {ss:List DS},AGK C ops fj nv nl bv kp st s R=some ss->
  ∀i∈R,∃o rf s',ops[i]? = some o/\fj[i]? = some rf/\Sm C o rf i nv nl bv kp st false s=some s'/\s'∈ss
 | [],ss,h,i,hi=>by cases hi
 | i :: r,ss,h,j,hj=>by
  unfold AGK at h;split at h
  ·rename_i o rf ho Mu;split at h
   ·rename_i s1 ss1 h1 h2;simp only[Ai] at h;subst h;rcases G9.1 hj with rfl|hj
    ·exact⟨o,rf,s1,ho,Mu,h1,Jv⟩
    ·obtain⟨o',rf',s',k1,k2,k3,k4⟩:=eB h2 j hj;exact⟨o',rf',s',k1,k2,k3,MN _ k4⟩
   ·cases h
  ·cases h
theorem qF{C:Cx}{o:Oper}{rf:Rf}{i nv nl bv:Nat}{kp:List Rg}{st:St}{b:Bool}{s s':DS}(h:Sm C o rf i nv nl bv kp st b s=some s'):s'.ls=s.ls.setIfInBounds i true:=by
 unfold Sm at h;simp only at h;split at h
 ·cases h
 split at h
 ·cases h
 rename_i m hm;cases hc:(V7 m.o.ds rf.ds&&OT I1.beq m.o.ob rf.ob) with
 |false=>rw[hc] at h;cases h
 | true=>
  rw[hc,cond_true] at h;split at h
  ·simp only[Ai] at h;subst h;rfl
  ·cases h
def QN(Qn:Act->World->Prop):Exit->Act->World->Prop
 | .normal,a,w=>Qn a w
 |_,_,_=>False
section
variable{E:En}(hE:P5 E){χ:St}{V1:Vl}{Qz kp:List Rg}{w0:World}{ops:Array Oper}{fj:List Rf}{nv nl:Nat}
 (h0:Oc E Qz V1 w0) (zj:Ym χ.nv Qz) (lA:∀r∈kp,r∈Qz)
 (hd:Vg E.C.T V1.ρ (fj.flatMap (·.ds))) (ho:∀q∈fj.flatMap (·.ob),q.den E.C.T V1.ρ)
 (hg:∀o∈ops,o.guard=none) (jx:Region.noSelect ops=true) (sk:nv+16*ops.size<=χ.nv)
include hE h0 zj lA hd ho hg jx sk
theorem zo{Qn:Act->World->Prop}{sf:DS}(hQ:∀V a w,uD E Qz kp χ V1 sf V a w->Qn a w):∀(n:Nat) (L:List DS),AA9 E.C ops fj nv nl χ.nv kp χ n L=some sf->
  ∀s∈L,∀V a w,uD E Qz kp χ V1 s V a w->wpI E.P .any ops (QN Qn) (Oc E kp V1) n s.ls a w
 | 0,L,h,s,hs,V,a,w,hD=>by
  cases L with
  |nil=>cases hs
  | cons s0 r=>
   cases r with
   |cons s1 r=>simp only[AA9] at h;cases h
   | nil=>
    simp only[AA9] at h;cases hb:(Region.ready .any ops s0.ls).isEmpty with
    |false=>rw[hb] at h;cases h
    |true=>
     rw[hb,cond_true,Ai] at h;subst h;have:s=s0:=by simpa using hs
     subst this;exact⟨hD.inv h0 zj lA,by simpa using hb,hQ V a w hD⟩
 | n+1,L,h,s,hs,V,a,w,hD=>by
  unfold AA9 at h;split at h
  ·rename_i L' hL;obtain⟨h1,-⟩:=Xj hL;obtain⟨ss,HO,hse⟩:=h1 s hs;have ih:=zo hQ n L' h;have next:∀s'∈ss,∀V' a' w',uD E Qz kp χ V1 s' V' a' w'->wpI E.P .any ops (QN Qn) (Oc E kp V1) n s'.ls a' w':=λs' HE V' a' w' hD'=>by
    obtain⟨e,he,hee⟩:=hse s' HE;have:=ih e he V' a' w' (hD'.eq hee);rw[hee.ls] at this;exact this
   unfold AE2 at HO;simp only at HO;split at HO
   ·cases HO
   rename_i cj;split at HO
   ·rename_i s' hf;simp only[Ai] at HO;subst HO;obtain⟨i,hi,o,rf,k1,k2,k3,k4⟩:=Z9 hf;obtain⟨v,hy,hD'⟩:=AAu hE h0 zj lA hd ho (MB k2) hD k3;have de:o∈ops:=Array.mem_of_getElem? k1;refine AAx k1 (hg o de) (Region.noSelect_spec jx) (λc a' w' h=>h) n s.ls a w (Region.free_spec k1 k4) hi hy ?_;have:=next s' Jv V _ w hD';rw[qF k3] at this;exact this
   ·refine⟨hD.inv h0 zj lA,λh=>absurd h cj,λi hi=>?_⟩;obtain⟨o,rf,s',k1,k2,k3,k4⟩:=eB HO i hi;have de:o∈ops:=Array.mem_of_getElem? k1;have bj:i<ops.size:=(Array.getElem?_eq_some_iff.1 k1).1;unfold Go.wpOp;simp only[k1,Region.wanted,hg o de,if_true];refine .inl (AEK hE h0 zj lA hd ho (MB k2) hD (by omega) k3 λV' a' w' hD'=>?_);have:=next s' k4 V' a' w' hD';rw[qF k3] at this;exact this
  ·cases h
end
theorem aI{C:Cx}{bv:Nat}:∀ {l:List Oper} {nv nl:Nat} {st:St} {fj:List Rf},AGT C nv nl bv l st=some fj->∀o∈l,o.guard=none
 | [],_,_,_,_,_,o,ho=>by cases ho
 | o :: r,nv,nl,st,fj,h,o',i7=>by
  unfold AGT at h;split at h
  ·rename_i m hg hm;split at h
   ·rename_i cD hp;split at h
    ·rename_i rs hr;rcases G9.1 i7 with rfl|i7
     ·exact hg
     ·exact aI hr o' i7
    ·cases h
   ·cases h
  ·cases h
theorem Oc.of_heap{E:En}{rg:List Rg}{V:Vl}{w w':World}(h:Oc E rg V w)(e:w'.heap=w.heap)(e1:w'.os=w.os)(e2:w'.output=w.output)(e3:w'.tape=w.tape):Oc E rg V w' where
 ov r hr i c hc:=by
  obtain⟨v,h1,h2⟩:=h.ov r hr i c hc;exact⟨v,h1.of_heap e,h2⟩
 one:=h.one
 sep:=h.sep
 so:=h.so
 an:=h.an.of_heap e e1 e2 e3
 gw b o v hb:=by
  have:=h.gw b o v hb;simp only[World.cell?] at this ⊢;rw[e];exact this
theorem Fy.of_heap{E:En}{st:St}{V:Vl}{a:Act}{w w':World}(h:Fy E st V a w)(e:w'.heap=w.heap)(e1:w'.os=w.os)(e2:w'.output=w.output)(e3:w'.tape=w.tape):Fy E st V a w':=
 ⟨⟨h.s.m.of_heap e e1 e2 e3,h.s.mc,h.s.t,h.s.nt,h.s.df⟩,h.ll,h.kp,h.ks,h.ns⟩
theorem sZ{E:En}(hE:P5 E){Φ:Bu->Ex->St->Prop}{ops:Array Oper}{κ:St->Be}{Q:Exit->Act->World->Prop}(hκ:AJI E Φ κ (Q .normal)){id:Nat}{st:St}{V:Vl}{a:Act}{w:World}(φ:st.lc= [])
  (hS:Fy E st V a w) (hT:(iM E.C ops st κ).cv E.C.T Φ st.nv V.ρ):(Code.region id ops true).wp E.P Q a w:=by
 unfold iM at hT;simp only at hT;cases jx:Region.noSelect ops with
 |false=>rw[jx] at hT;exact(hT V.ρ (Im.refl _ _)).elim
 |true=>
 rw[jx] at hT;simp only[Bool.not_true,cond_false] at hT;split at hT
 ·exact(hT V.ρ (Im.refl _ _)).elim
 rename_i fj afA;split at hT
 ·exact(hT V.ρ (Im.refl _ _)).elim
 rename_i sf cT;generalize rK:fj.flatMap (·.ds)=ds at hT cT;generalize mj:fj.flatMap (·.ob)=ob at hT cT;generalize CD:ANg st.rg fj=kp at hT cT;have lA:∀r∈kp,r∈st.rg:=λr hr=>by
  rw[<- CD] at hr;unfold ANg at hr;split at hr
  ·cases hr
  ·exact(List.mem_filter.1 hr).1
 have lf:st.nv<=st.nv+16*ops.size:=by omega
 generalize tj:St.flush { st with lc:=sf.lc,rg:=sf.rg,ln:=JG E.C.T st.ln ds,nv:=st.nv+16*ops.size,nl:=st.nl+16*ops.size }=pH at hT;have key:∃ ρ1,Im st.nv V.ρ ρ1/\Vg E.C.T ρ1 ds/\(∀q∈ob,q.den E.C.T ρ1)/\(κ pH).cv E.C.T Φ (st.nv+16*ops.size) ρ1/\(∀p∈JG E.C.T st.ln ds,p.1<st.nv+16*ops.size):=by
  have lE:∀p∈st.ln,p.1<st.nv+16*ops.size:=λp hp=>by have:=hS.ll p hp;omega
  by_cases ij:ds= []/\ob= []
  ·rw[ij.1,ij.2] at hT;simp only at hT;rw[ij.1,ij.2];exact⟨V.ρ,Im.refl _ _,λp hp=>(by cases hp),λq hq=>(by cases hq),fun ρ' h=>hT ρ' (λi hi=>h i (by omega)),lE⟩
  ·have vh:(bif FL st.nv (st.nv+16*ops.size) ds&&I6 (st.nv+16*ops.size) ob then Be.ep ds ob (κ pH) else .bad 13).cv E.C.T Φ st.nv V.ρ:=by
    revert hT;cases ds with
    |nil=>
     cases ob with
     |nil=>exact absurd ⟨rfl,rfl⟩ ij
     |cons q r=>exact λh=>h
    |cons p r=>exact λh=>h
   cases hb:(FL st.nv (st.nv+16*ops.size) ds&&I6 (st.nv+16*ops.size) ob) with
   |false=>rw[hb] at vh;exact(vh V.ρ (Im.refl _ _)).elim
   |true=>
    rw[hb,cond_true] at vh;simp only[Bj] at hb;obtain⟨ρ1,g1,g2⟩:=WW E.C.T V.ρ hb.1;have h1:=vh ρ1 g1 g2;refine⟨ρ1,g1,g2,h1.1,fun ρ' h=>?_,RG hb.1 lE⟩;exact(vh ρ' (g1.trans h lf) (g2.agE hb.1 h)).2
 obtain⟨ρ1,g1,g2,g3,g4,g5⟩:=key;have pC:=(Sat.env hS g1).of_heap (w':= { w with drawn:=w.drawn+1 }) rfl rfl rfl rfl;have hTb:∀f fe,lk f E.C.T=some fe->∀b,OJ (fe.cf b):=λf fe h=>(hE.tb f fe h).2
 have hln:=Qy (ρ:=ρ1) hTb pC.s.t.ln g2;have hp0:St.put { st with rg:=st.rg,ln:=JG E.C.T st.ln ds,nv:=st.nv+16*ops.size,nl:=st.nl+16*ops.size } none (.nj [])=some { st with ln:=JG E.C.T st.ln ds,nv:=st.nv+16*ops.size,nl:=st.nl+16*ops.size }:=rfl;have Ln:=Fy.put (E:=E) (nb:=0) (er:=false) (v:=.nj []) pC (Vw.same pC.s.m pC.s.mc) (.inl rfl) lf lf hln g5 (λt ht=>(by cases ht)) hp0;rw[<- rK] at g2;rw[<- mj] at g3;have hD0:uD E st.rg kp { st with ln:=JG E.C.T st.ln ds,nv:=st.nv+16*ops.size,nl:=st.nl+16*ops.size } { V with ρ:=ρ1 } ⟨Array.replicate ops.size false,[],st.rg⟩ { V with ρ:=ρ1 } a { w with drawn:=w.drawn+1 }:=by
  refine⟨?_,rfl,rfl,λl hl=>⟨rfl,hl⟩,lA⟩;have:(DS.st ⟨Array.replicate ops.size false,[],st.rg⟩ { st with ln:=JG E.C.T st.ln ds,nv:=st.nv+16*ops.size,nl:=st.nl+16*ops.size })= { st with ln:=JG E.C.T st.ln ds,nv:=st.nv+16*ops.size,nl:=st.nl+16*ops.size }:=by
   simp only[DS.st];rw[φ]
  rw[this];exact Ln
 refine wp_mono (wp_region_any hE.mx (yR _ _ _ _ (zo hE Ln.s.m (nv:=st.nv) (nl:=st.nl) (fj:=fj) Ln.s.mc lA g2 g3 (λo ho=>aI afA o (by simpa using ho)) jx (Ie _) (Qn:=Q .normal) ?_ ops.size _ cT _ (NU.2 rfl) _ _ _ hD0))) ?_
 ·intro V' a' w' hD;refine hκ pH V' a' w' (by rw[<- tj];rfl) ?_ ?_
  ·rw[<- tj];exact Fy.flush hD.sat
  ·have:pH.nv=st.nv+16*ops.size:=by rw[<- tj];rfl
   rw[this,hD.ρ];exact g4
 ·intro e a' w' h;cases e<;>first|exact h|exact h.elim
end
section
open Go
def aJ(E:En)(d:LD)(id:Nat)(body:Code):Prop:=
 ∀(fe:FE),lk d.tg E.C.T=some fe->∀(a:Act) (w:World) (ins:List (List Int)) (bs:List (Nat×Nat)),GW E.GC w->E.GB<=w.heap.size->
  Jg E.GB w (fe.cf true).params (d.ps.map λt=>a.tmps.getD t undef) ins bs->Ep (fe.cf true).params bs->((fe.cf true).hp=true->(fe.cf true).pre ins)->a.defers= []->a.tmps.size=d.nt->
  (Code.block id body).wp E.P (λe a' w'=>e= .normal/\∃fb cJ,Xw E.GC (fe.cf true) (d.ps.map λt=>a.tmps.getD t undef) ins bs w fb cJ w'/\a'.tmps.size=a.tmps.size/\a'.defers= []/\
   (∀t,Dz t d.cl=false->t ∉ d.ss->a'.tmps.getD t undef=a.tmps.getD t undef)/\∀(i t:Nat) (v:Value),d.ss[i]? = some t->cJ[i]? = some v->a'.tmps.getD t undef=v) a w
theorem Pe{st:St}{V:Vl}{a:Act}{w:World}{E:En}(hS:Fy E st V a w):∀ {ts:List Nat} {vs:List SV},looks st ts=some vs->
  (ts.map λt=>a.tmps.getD t undef)=vs.map (·.den V)/\∀v∈vs,v.ok V/\v.lt st.nv (DL st.rg)=true
 | [],vs,h=>by
  simp only[looks,Ai] at h;subst h;exact⟨rfl,λv hv=>(by cases hv)⟩
 | t::r,vs,h=>by
  unfold looks at h;split at h
  ·rename_i v vs' h1 h2;simp only[Ai] at h;subst h;obtain⟨k1,k2,k3⟩:=hS.s.t.tm t v h1;obtain⟨g1,g2⟩:=Pe hS h2;refine⟨by simp only[NM,k1,g1],λu hu=>?_⟩;rcases G9.1 hu with rfl|hu
   ·exact⟨k2,k3⟩
   ·exact g2 u hu
  ·cases h
theorem eD:∀ {ts:List Nat} {vs:List TV} {st cD:St},um st ts vs=some cD->cD= { st with lc:=cD.lc }/\ts.length=vs.length/\
  (∀u x,cD.look u=some x->(∃(i:Nat) (tv:TV),ts[i]? = some u/\vs[i]? = some tv/\x= .t tv)\/(u ∉ ts/\st.look u=some x))/\(∀v∈vs,(SV.t v).lt st.nv (DL st.rg)=true)
 | [],[],st,cD,h=>by
  simp only[um,Ai] at h;subst h;exact⟨rfl,rfl,λu x hx=>.inr ⟨by simp,hx⟩,λv hv=>(by cases hv)⟩
 | [],_::_,st,cD,h=>by simp[um] at h
 |_::_,[],st,cD,h=>by simp[um] at h
 | t :: ts,v::vs,st,cD,h=>by
  unfold um at h;split at h
  ·rename_i χ h1;obtain⟨g1,g2,g3,g4⟩:=eD h;have e1:=St.qk h1;unfold St.put at h1;simp only at h1;cases hb:(Nat.blt t st.nt&&SV.lt st.nv (DL st.rg) (.t v)) with
   |false=>rw[hb] at h1;cases h1
   | true=>
    rw[hb,cond_true,Ai] at h1;simp only[Bj] at hb;refine⟨by rw[g1,e1],by simp[g2],λu x hx=>?_,λv' mL=>?_⟩
    ·rcases g3 u x hx with⟨i,tv,k1,k2,k3⟩|⟨k1,k2⟩
     ·exact .inl ⟨i+1,tv,by simpa using k1,by simpa using k2,k3⟩
     ·rw[<- h1,Qf] at k2;by_cases e:t=u
      ·rw[if_pos e,Ai] at k2;exact .inl ⟨0,v,by simp[e],by simp,k2.symm⟩
      ·rw[if_neg e] at k2;exact .inr ⟨by simp[k1,Ne.symm e],k2⟩
    ·rcases G9.1 mL with rfl|mL
     ·exact hb.2
     ·have:=g4 v' mL;rw[e1] at this;exact this
  ·cases h
theorem XJ(ts:List Nat)(u:Nat):∀(tm:List (Nat×SV)) (x:SV),lk u (AGw ts tm)=some x->lk u tm=some x/\Dz u ts=false
 | [],x,h=>by simp[AGw,lk] at h
 | (k,v)::r,x,h=>by
  unfold AGw at h;rw[List.filter_cons] at h;split at h
  ·rename_i hk;simp only[lk] at h ⊢;cases hb:Nat.beq k u with
   |true=>
    rw[hb] at h;have:=Ca hb;subst this;refine⟨h,by simpa using hk⟩
   |false=>
    rw[hb] at h;exact XJ ts u r x h
  ·rename_i hk;obtain⟨h1,h2⟩:=XJ ts u r x h;refine⟨?_,h2⟩;simp only[lk];cases hb:Nat.beq k u with
   |true=>
    have:=Ca hb;subst this;simp[h2] at hk
   |false=>exact h1
section
variable{E:En}(hE:P5 E){Φ:Bu->Ex->St->Prop}
include hE
theorem tV{d:LD}{id:Nat}{body:Code}(hL:aJ E d id body)(_hone:∀fe,lk d.tg E.C.T=some fe->∀x,fe.j7 x=true){κ:St->Be}{Q:Exit->Act->World->Prop}(hκ:AJI E Φ κ (Q .normal)){st:St}{V:Vl}{a:Act}{w:World}(φ:st.lc= [])
  (hS:Fy E st V a w) (hT:(kE E.C d st κ).cv E.C.T Φ st.nv V.ρ):(Code.block id body).wp E.P Q a w:=by
 unfold kE at hT;cases hbn:Nat.beq st.nt d.nt with
 |false=>rw[hbn] at hT;exact(hT V.ρ (Im.refl _ _)).elim
 |true=>
 rw[hbn] at hT;simp only[Bool.not_true,cond_false] at hT;have aeg:=Ca hbn;split at hT
 ·exact(hT V.ρ (Im.refl _ _)).elim
 rename_i vs n8;split at hT
 ·exact(hT V.ρ (Im.refl _ _)).elim
 rename_i r hr;split at hT
 ·exact(hT V.ρ (Im.refl _ _)).elim
 rename_i cD hp;have key:∃ ρ1,Im st.nv V.ρ ρ1/\Vg E.C.T ρ1 r.ds/\(∀q∈r.ob,q.den E.C.T ρ1)/\(κ cD.flush).cv E.C.T Φ (st.nv+16) ρ1/\(∀p∈JG E.C.T st.ln r.ds,p.1<st.nv+16):=by
  have lE:∀p∈st.ln,p.1<st.nv+16:=λp hp=>by have:=hS.ll p hp;omega
  by_cases ij:r.ds= []/\r.ob= []
  ·rw[ij.1,ij.2] at hT;simp only at hT;rw[ij.1,ij.2];exact⟨V.ρ,Im.refl _ _,λp hp=>(by cases hp),λq hq=>(by cases hq),fun ρ' h=>hT ρ' (λi hi=>h i (by omega)),lE⟩
  ·have vh:(bif FL st.nv (st.nv+16) r.ds&&I6 (st.nv+16) r.ob then Be.ep r.ds r.ob (κ cD.flush) else .bad 23).cv E.C.T Φ st.nv V.ρ:=by
    revert hT;cases rK:r.ds with
    |nil=>
     cases mj:r.ob with
     |nil=>exact absurd ⟨rK,mj⟩ ij
     |cons q r=>exact λh=>h
    |cons p r=>exact λh=>h
   cases hb:(FL st.nv (st.nv+16) r.ds&&I6 (st.nv+16) r.ob) with
   |false=>rw[hb] at vh;exact(vh V.ρ (Im.refl _ _)).elim
   |true=>
    rw[hb,cond_true] at vh;simp only[Bj] at hb;obtain⟨ρ1,g1,g2⟩:=WW E.C.T V.ρ hb.1;have h1:=vh ρ1 g1 g2;refine⟨ρ1,g1,g2,h1.1,fun ρ' h=>?_,RG hb.1 lE⟩;exact(vh ρ' (g1.trans h (by omega)) (g2.agE hb.1 h)).2
 obtain⟨ρ1,g1,g2,g3,g4,g5⟩:=key;have pC:=Sat.env hS g1;have hTb:∀f fe,lk f E.C.T=some fe->∀b,OJ (fe.cf b):=λf fe h=>(hE.tb f fe h).2
 have hln:=Qy (ρ:=ρ1) hTb pC.s.t.ln g2;obtain⟨q1,q2⟩:=Pe pC n8;obtain⟨fe,as,bs,c1,c2,c3,c4,c5,c6⟩:=lQ hE pC.s.m (bv:=st.nv+16) (λr hr lv nq=>LV.be (by omega) (λ_ h=>h) (pC.s.mc r hr lv nq)) pC.s.t.ln hr
  (λv hv=>⟨(q2 v hv).1,SV.be (by omega) (λ_ h=>h) (q2 v hv).2⟩) (.inr ⟨pC.s.mc,λv hv=>(q2 v hv).2⟩) g2 g3
 have hGw:E.GB<=w.heap.size:=EX hE.gb pC.s.m.an.1;rw[<- q1] at c3;refine wp_mono (hL fe c1 a w _ bs pC.s.m.gw hGw c3 c4 c5 pC.s.df (pC.s.nt.trans aeg)) ?_;rintro e a' w' ⟨rfl,fb,cJ,hP,cX,oX,hold,aci⟩;rw[q1] at hP;obtain⟨V',cG,k2,k3⟩:=c6 fb cJ w' hP;have gf:Ag st.nv (DL st.rg) { V with ρ:=ρ1 } V':=⟨λi _=>by rw[cG.ρ],λi hi=>cG.σ i (.inl hi),λl hl=>(cG.ν l hl).1⟩;have qS:∀l,Dz l (DL st.rg)=true->Dz l (DL r.rg)=true:=λl hl=>(cG.ν l hl).2
 obtain⟨p1,p2,p3,p4⟩:=eD hp;have xd:cD.nt=st.nt:=by rw[p1]
 have oT:cD.rg=r.rg:=by rw[p1]
 have sk:cD.nv=st.nv+16:=by rw[p1]
 have eC:Fy E cD V' a' w':=by
  refine⟨⟨by rw[oT];exact cG.mok,by rw[oT,sk];exact cG.mc,⟨λu x hx=>?_,λg l hg=>?_,by rw[p1,cG.ρ];exact hln⟩,by rw[cX,xd];exact hS.s.nt,oX⟩,by rw[p1];exact g5,λp eA=>by
   obtain⟨k1,k2⟩:=hS.kp p eA;rw[oT];exact⟨qS _ k1,by rw[gf.2.2 _ k1];exact k2⟩,λi hi=>by rw[gf.2.1 i (qm hi hS.ns)];exact hS.ks i hi,by rw[sk];have:=hS.ns;omega⟩
  ·rw[oT,sk];rcases p3 u x hx with⟨i,tv,i1,i2,rfl⟩|⟨i1,i2⟩
   ·refine⟨aci i u _ i1 ?_,k3 tv (MB i2),p4 tv (MB i2)⟩;rw[<- k2,Ng,i2];rfl
   ·simp only[St.look,lk] at i2;obtain⟨j1,j2⟩:=XJ _ _ _ _ i2;obtain⟨h1,h2,h3⟩:=pC.s.t.tm u x (by simp only[St.look,φ,lk];exact j1);rw[hold u j2 i1];exact⟨by rw[SV.ck gf h3];exact h1,SV.eW gf h3 h2,SV.be (by omega) qS h3⟩
  ·have hg':lk g st.gl=some l:=by rw[p1] at hg;exact hg
   obtain⟨h1,h2⟩:=pC.s.t.gl g l hg';rw[oT];exact⟨by rw[gf.2.2 l h2];exact h1,qS l h2⟩
 refine hκ cD.flush V' a' w' rfl eC.flush ?_;have:cD.flush.nv=st.nv+16:=sk;rw[this,cG.ρ];exact g4
end
def X5(P:Program)(n:Nat)(c:Code)(Q:Exit->Act->World->Prop)(a:Act)(w:World):Prop:=
 match c with
 | .loop b=>Code.rounds P b Q n a w
 |c=>c.wp P Q a w
def QK(E:En)(Φ:Bu->Ex->St->Prop):List (K×Nat)->Exit->Act->World->Prop
 | []=>ASI E Φ
 |(.code c,n)::k=>Exit.then (X5 E.P n c (QK E Φ k)) (QK E Φ k)
 |(.blk id,_)::k=>Exit.inBlock id (QK E Φ k)
theorem Vb{P:Program}{c:Code}{Q:Exit->Act->World->Prop}:∀ {n:Nat} {a:Act} {w:World},Code.rounds P c Q n a w->Code.rounds P c Q (n+1) a w
 |0,_,_,h=>h.elim
 |n+1,a,w,h=>by
  rw[rounds_succ] at h ⊢;refine wp_mono h λe a' w' h'=>?_
  cases e<;>first|exact h'|exact Vb h'
theorem l7{P:Program}{c:Code}{Q:Exit->Act->World->Prop}{n m:Nat}{a:Act}{w:World}(hnm:n<=m)(h:Code.rounds P c Q n a w):Code.rounds P c Q m a w:=by
 induction hnm with
 |refl=>exact h
 |step _ ih=>exact Vb ih
theorem tH{P:Program}{n m:Nat}{c:Code}{Q:Exit->Act->World->Prop}{a:Act}{w:World}(hnm:n<=m)(h:X5 P n c Q a w):X5 P m c Q a w:=by
 cases c<;>first|exact h|exact l7 hnm h
theorem JR{P:Program}{n:Nat}{c:Code}{Q:Exit->Act->World->Prop}{a:Act}{w:World}(h:X5 P n c Q a w):c.wp P Q a w:=by
 cases c<;>first|exact h|exact wp_loop_rounds n h
def Ip(E:En):Code->Prop
 | .seq a b=>Ip E a/\Ip E b
 | .cond _ t e=>Ip E t/\Ip E e
 | .block id body=>Ip E body/\∀d,lk id E.C.loops=some d->aJ E d id body/\∀fe,lk d.tg E.C.T=some fe->∀x,fe.j7 x=true
 | .loop body=>Ip E body
 |_=>True
theorem Ip.of_nil{E:En}(h:E.C.loops= []):∀c,Ip E c
 | .seq a b=>⟨Ip.of_nil h a,Ip.of_nil h b⟩
 | .cond _ t e=>⟨Ip.of_nil h t,Ip.of_nil h e⟩
 | .block id body=>⟨Ip.of_nil h body,λd hd=>by rw[h] at hd;cases hd⟩
 | .loop body=>Ip.of_nil h body
 | .skip=>trivial
 | .region .. => trivial
 | .exit _=>trivial
 | .ret=>trivial
 | .goto _=>trivial
 | .label _=>trivial
 | .scope _=>trivial
 | .rangeFunc .. => trivial
 | .refuse _=>trivial
def K5(i:Nat):Code->List Code
 | .seq a b=>K5 i a++K5 i b
 | .cond _ t e=>K5 i t++K5 i e
 | .block id body=>(bif Nat.beq id i then[body] else[])++K5 i body
 | .loop body=>K5 i body
 |_=>[]
theorem Ip.eK{E:En}:∀(c:Code),(∀id d,lk id E.C.loops=some d->(∀body∈K5 id c,aJ E d id body)/\∀fe,lk d.tg E.C.T=some fe->∀x,fe.j7 x=true)->Ip E c
 | .seq a b,h=>⟨Ip.eK a λid d hd=>⟨λx hx=>(h id d hd).1 x (List.mem_append_left _ hx),(h id d hd).2⟩,Ip.eK b λid d hd=>⟨λx hx=>(h id d hd).1 x (kv _ hx),(h id d hd).2⟩⟩
 | .cond _ a b,h=>⟨Ip.eK a λid d hd=>⟨λx hx=>(h id d hd).1 x (List.mem_append_left _ hx),(h id d hd).2⟩,Ip.eK b λid d hd=>⟨λx hx=>(h id d hd).1 x (kv _ hx),(h id d hd).2⟩⟩
 | .block id body,h=>⟨Ip.eK body λid' d hd=>⟨λx hx=>(h id' d hd).1 x (kv _ hx),(h id' d hd).2⟩,λd hd=>⟨(h id d hd).1 body (List.mem_append_left _ (by rw[Nat.beq_refl];exact NU.2 rfl)),(h id d hd).2⟩⟩
 | .loop body,h=>Ip.eK body h
 | .skip,_=>trivial
 | .region .., _=>trivial
 | .exit _,_=>trivial
 | .ret,_=>trivial
 | .goto _,_=>trivial
 | .label _,_=>trivial
 | .scope _,_=>trivial
 | .rangeFunc .., _=>trivial
 | .refuse _,_=>trivial
def qz(E:En):List (K×Nat)->Prop
 | []=>True
 |(.code c,_)::k=>Ip E c/\qz E k
 |(.blk _,_)::k=>qz E k
section
variable{E:En}(hE:P5 E){Φ:Bu->Ex->St->Prop}
def ANP(C:Cx)(n:Nat)(k:List K)(st:St):Be:=match AOo k with
 |none=>.leaf .normal st
 |some (c,k')=>OC C n k' c st
theorem vP{n:Nat} (ih:∀(ks:List (K×Nat)) (c:Code) (st:St) (V:Vl) (a:Act) (w:World),(∀x∈ks,n<=x.2)->qz E ks->Ip E c->st.lc= []->Fy E st V a w->
  (OC E.C n (ks.map (·.1)) c st).cv E.C.T Φ st.nv V.ρ->X5 E.P n c (QK E Φ ks) a w):
  ∀(ks:List (K×Nat)) (st:St) (V:Vl) (a:Act) (w:World),(∀x∈ks,n<=x.2)->qz E ks->st.lc= []->Fy E st V a w->(ANP E.C n (ks.map (·.1)) st).cv E.C.T Φ st.nv V.ρ->QK E Φ ks .normal a w
 | [],st,V,a,w,_,_,φ,hS,hT=>⟨.normal,st,V,.normal,φ,hS,fun ρ' h=>hT ρ' h⟩
 |(.code c,m)::k,st,V,a,w,hk,hC,φ,hS,hT=>by
  show X5 E.P m c (QK E Φ k) a w;exact tH (hk _ Jv) (ih k c st V a w (λx hx=>hk x (MN _ hx)) hC.2 hC.1 φ hS hT)
 |(.blk id,m)::k,st,V,a,w,hk,hC,φ,hS,hT=>vP ih k st V a w (λx hx=>hk x (MN _ hx)) hC φ hS hT
theorem jS{n:Nat} (ih:∀(ks:List (K×Nat)) (c:Code) (st:St) (V:Vl) (a:Act) (w:World),(∀x∈ks,n<=x.2)->qz E ks->Ip E c->st.lc= []->Fy E st V a w->
  (OC E.C n (ks.map (·.1)) c st).cv E.C.T Φ st.nv V.ρ->X5 E.P n c (QK E Φ ks) a w) (id:Nat):
  ∀(ks:List (K×Nat)) (st:St) (V:Vl) (a:Act) (w:World),(∀x∈ks,n<=x.2)->qz E ks->st.lc= []->Fy E st V a w->(match mF id (ks.map λ(x:K×Nat)=>x.1) with
   |none=>Be.leaf (.exit id) st
   |some k'=>ANP E.C n k' st).cv E.C.T Φ st.nv V.ρ->QK E Φ ks (.exit id) a w
 | [],st,V,a,w,_,_,φ,hS,hT=>⟨.exit id,st,V,.exit id,φ,hS,fun ρ' h=>hT ρ' h⟩
 |(.code c,m)::k,st,V,a,w,hk,hC,φ,hS,hT=>jS ih id k st V a w (λx hx=>hk x (MN _ hx)) hC.2 φ hS hT
 | (.blk j,m)::k,st,V,a,w,hk,hC,φ,hS,hT=>by
  show(if id=j then QK E Φ k .normal a w else QK E Φ k (.exit id) a w);simp only[NM,mF] at hT;by_cases e:id=j
  ·subst e;rw[if_pos rfl];rw[Nat.beq_refl] at hT;exact vP ih k st V a w (λx hx=>hk x (MN _ hx)) hC φ hS hT
  ·rw[if_neg e];have hb:Nat.beq j id=false:=by cases hh:Nat.beq j id with|false=>rfl|true=>exact absurd (Ca hh).symm e
   rw[hb] at hT;exact jS ih id k st V a w (λx hx=>hk x (MN _ hx)) hC φ hS hT
theorem uI{st:St}{V:Vl}{a:Act}{w:World}(φ:st.lc= [])(hS:Fy E st V a w)(hT:(Be.leaf .ret st).cv E.C.T Φ st.nv V.ρ):∀ks:List (K×Nat),QK E Φ ks .ret a w
 | []=>⟨.ret,st,V,.ret,φ,hS,fun ρ' h=>hT ρ' h⟩
 |(.code _,_)::k=>uI φ hS hT k
 |(.blk _,_)::k=>uI φ hS hT k
end
abbrev Ev (E:En) (I:List (Nat×(Nat×Nat))) (sn:Nat) (σ0:Nat->Value):En:= { E with I:=I,sn:=sn,σ0:=σ0 }
theorem P5.ev{E:En}(hE:P5 E)(I:List (Nat×(Nat×Nat)))(sn:Nat)(σ0:Nat->Value):P5 (Ev E I sn σ0):=⟨hE.tt,hE.gc,hE.gb,hE.tb,hE.mx,hE.HU,hE.HG,hE.en,hE.eq⟩
theorem Ip.ev{E:En}{I:List (Nat×(Nat×Nat))}{sn:Nat}{σ0:Nat->Value}:∀ {c:Code},Ip E c->Ip (Ev E I sn σ0) c
 | .seq _ _,h=>⟨Ip.ev h.1,Ip.ev h.2⟩
 | .cond _ _ _,h=>⟨Ip.ev h.1,Ip.ev h.2⟩
 | .block _ _,h=>⟨Ip.ev h.1,h.2⟩
 | .loop _,h=>by unfold Ip at h ⊢;exact Ip.ev h
 | .skip,_=>trivial
 | .region .., _=>trivial
 | .exit _,_=>trivial
 | .ret,_=>trivial
 | .goto _,_=>trivial
 | .label _,_=>trivial
 | .scope _,_=>trivial
 | .rangeFunc .., _=>trivial
 | .refuse _,_=>trivial
theorem YY{E0:En}(C4:P5 E0)(hI0:qY E0)(hCI:∀f i,lk f E0.C.inl=some i->Ip E0 i.c):∀(n:Nat) (I:List (Nat×(Nat×Nat))) (sn:Nat) (σ0:Nat->Value) (Φ:Bu->Ex->St->Prop) (ks:List (K×Nat)) (c:Code) (st:St) (V:Vl) (a:Act) (w:World),(∀x∈ks,n<=x.2)->qz (Ev E0 I sn σ0) ks->Ip (Ev E0 I sn σ0) c->st.lc= []->Fy (Ev E0 I sn σ0) st V a w->
  (OC E0.C n (ks.map (·.1)) c st).cv E0.C.T Φ st.nv V.ρ->X5 E0.P n c (QK (Ev E0 I sn σ0) Φ ks) a w
 |0,_,_,_,_,_,_,_,V,_,_,_,_,_,_,_,hT=>(hT V.ρ (Im.refl _ _)).elim
 | n + 1,I,sn,σ0,Φ,ks,c,st,V,a,w,hk,hC,hc,φ,hS,hT=>by
  have ih0:=YY C4 hI0 hCI n;have hE:=C4.ev I sn σ0;have hI:qY (Ev E0 I sn σ0):=hI0;have hR:yC (Ev E0 I sn σ0) (OC E0.C n []):=λI2 sn2 σ2 Φ2 f i pH V2 a2 w2 hl h1 h2 h3=>
   JR (ih0 I2 sn2 σ2 Φ2 [] i.c pH V2 a2 w2 (λx hx=>by cases hx) trivial (Ip.ev (hCI f i hl)) h1 h2 h3)
  have ih:=ih0 I sn σ0 Φ;clear ih0;revert hE hI hR ih hS hT hC hc;generalize hEE:Ev E0 I sn σ0=E;have e1:E0.C=E.C:=by rw[<- hEE]
  have e2:E0.P=E.P:=by rw[<- hEE]
  rw[e1,e2];intro hC hc hS hT hE hI hR ih;have gj:∀x∈ks,n<=x.2:=λx hx=>by have:=hk x hx;omega
  have xF:AJI E Φ (ANP E.C n (ks.map (·.1))) (QK E Φ ks .normal):=λcD V' a' w' h1 h2 h3=>vP (λks c st V a w h1 h2 h3 h4 h5 h6=>ih ks c st V a w h1 h2 h3 h4 h5 h6) ks cD V' a' w' gj hC h1 h2 h3
  have bad:∀ {k:Nat} {G:Prop},(Be.bad k).cv E.C.T Φ st.nv V.ρ->G:=λh=>(h V.ρ (Im.refl _ _)).elim
  cases c with
  |skip=>exact wp_skip (xF st V a w φ hS hT)
  |region id ops draw=>
   cases draw with
   |true=>exact sZ hE xF φ hS hT
   |false=>exact wp_region_list (dm hE hR hI xF ops.toList st V a w hS hT)
  | seq x y=>
   refine wp_seq (wp_mono (JR (ih ((.code y,n)::ks) x st V a w (λz hz=>?_) ⟨hc.2,hC⟩ hc.1 φ hS hT)) λe a' w' hq=>?_)
   ·rcases G9.1 hz with h|hz
    ·rw[h];exact Ie _
    ·exact gj z hz
   ·cases e<;>first|exact JR hq|exact hq
  | cond x t e=>
   simp only[OC] at hT;split at hT
   ·rename_i m hx;obtain⟨h1,-, -⟩:=hS.s.t.cL hx;cases hb:H5 m 0 with
    |true=>
     rw[hb] at hT;refine wp_cond_false ?_ (JR (ih ks e st V a w gj hC hc.2 φ hS hT));rw[h1];simp only[SV.aE,TV.aq,LV.ca,X.bc,Ls hb];rfl
    |false=>
     rw[hb] at hT;refine wp_cond_true ?_ (JR (ih ks t st V a w gj hC hc.1 φ hS hT));rw[h1];simp only[SV.aE,TV.aq,LV.ca,X.bc];have:=PO hb;simp[this]
   ·rename_i y _ hx;obtain⟨h1,-,h3⟩:=hS.s.t.cL hx;have wj:y.lt st.nv=true:=h3;by_cases hy:y.den V.ρ=0
    ·refine wp_cond_false ?_ (JR (ih ks e st V a w gj hC hc.2 φ hS (fun ρ' hρ=>(KA (hT ρ' hρ)).2 (by rw[X.cg hρ wj];exact hy))));rw[h1];simp only[SV.aE,TV.aq,LV.ca,hy];rfl
    ·refine wp_cond_true ?_ (JR (ih ks t st V a w gj hC hc.1 φ hS (fun ρ' hρ=>(KA (hT ρ' hρ)).1 (by rw[X.cg hρ wj];exact hy))));rw[h1];simp[SV.aE,TV.aq,LV.ca,hy]
   ·exact bad hT
  | block id body=>
   simp only[OC] at hT;split at hT
   ·rename_i d hd;obtain⟨k1,k2⟩:=hc.2 d hd;exact tV hE k1 k2 xF φ hS hT
   ·exact wp_block (JR (ih ((.blk id,n)::ks) body st V a w (λz hz=>by
     rcases G9.1 hz with rfl|hz
     ·exact Ie _
     ·exact gj z hz) hC hc.1 φ hS hT))
  | loop body=>
   show Code.rounds E.P body (QK E Φ ks) (n+1) a w;rw[rounds_succ];have:=JR (ih ((.code (.loop body),n)::ks) body st V a w (λz hz=>by
    rcases G9.1 hz with rfl|hz
    ·exact Ie _
    ·exact gj z hz) ⟨hc,hC⟩ hc φ hS hT)
   exact this
  |exit id=>exact wp_exit (jS ih id ks st V a w gj hC φ hS hT)
  |ret=>exact wp_ret (uI φ hS hT ks)
  |goto l=>exact bad hT
  |label l=>exact bad hT
  |scope c=>exact bad hT
  |rangeFunc f p x y=>exact bad hT
  |refuse s=>exact bad hT
end
section
open Go
def FI(np i:Nat):Et->SV
 | .int k=>.t (.l (.int k (.v i 0)))
 | .bool=>.t (.l (.bool (.v i 0)))
 | .mem _ _ _=>.t (.l (.ptr i 0))
 | .agg ks=>.t (.a (IC i ks))
 | .sl ks _ _=>.t (.l (.sl i 0 ks.length (.n (.v (np+i) 0)) 0))
 | .fL ks _ _=>.t (.l (.fL i 0 ks.length i))
def Hx(np:Nat):Nat->List Et->List (Nat×SV)
 |_,[]=>[]
 |i,p::ps=>(i,FI np i p)::Hx np (i+1) ps
def Qz:Nat->List Et->List Rg
 |_,[]=>[]
 |i,.mem ks g wr::ps=>⟨i,g,wr,(IC i ks).map some⟩::Qz (i+1) ps
 |i,.sl ks g wr::ps=>⟨i,g,wr,(IC i ks).map some⟩::Qz (i+1) ps
 |i,.fL ks g wr::ps=>⟨i,g,wr,(IC i ks).map some⟩::Qz (i+1) ps
 |i,_::ps=>Qz (i+1) ps
def ln0:Nat->List Et->List (Nat×Nat)
 |_,[]=>[]
 |i,p::ps=>(i,p.len)::ln0 (i+1) ps
abbrev fP:=List (Nat×List LV)
def FY(ad:Nat->Nat×Nat)(n:Nat):Nat×Nat:=if n<1000000 then(n,0) else ad (n-1000000)
def SM:Nat->fP->List (Nat×Nat)
 |_,[]=>[]
 |i,(g,_)::r=>bif Nat.blt g 1000000 then(g,i)::SM (i+1) r else SM (i+1) r
def It:Nat->fP->List Rg
 |_,[]=>[]
 |i,(_,cs)::r=>⟨i,0,false,cs.map some⟩::It (i+1) r
def ZQ(ps:List Et)(cq:fP)(nt:Nat):St:=
 ⟨[],Hx ps.length 0 ps,Qz 0 ps++It 500 cq,SM 500 cq,ln0 0 ps,nt,2*ps.length,1000⟩
def X7(m:Nat):LV->Bool
 | .ptr l _=>Nat.ble 500 l&&Nat.blt l (500+m)
 | .int k (.lit n)=>bL k n
 | .bool (.lit _)=>true
 | .nil=>true
 | .CM=>true
 | .ej=>true
 |_=>false
def gν(ad:Nat->Nat×Nat)(cq:fP)(l:Nat):Nat×Nat:=FY ad (cq.getD (l-500) (0,[])).1
def v0(ad:Nat->Nat×Nat)(np:Nat)(args:List Value)(ins:List (List Int))(bs:List (Nat×Nat))(cq:fP):Vl where
 ρ i:=if i<np then ins.getD i [] else[((AGU (args.getD (i-np) undef):Nat):Int)]
 ν i:=if i<500 then bs.getD i (0,0) else gν ad cq i
 σ i:=args.getD i undef
def i0(bs:List (Nat×Nat)):Nat->List Et->List (Nat×(Nat×Nat))
 |_,[]=>[]
 |i,.mem _ _ _::ps=>(i,bs.getD i (0,0))::i0 bs (i+1) ps
 |i,.sl _ _ _::ps=>(i,bs.getD i (0,0))::i0 bs (i+1) ps
 |i,.fL _ _ _::ps=>(i,bs.getD i (0,0))::i0 bs (i+1) ps
 |i,_::ps=>i0 bs (i+1) ps
theorem QL{GB:Nat}{w:World}:∀ {ps:List Et} {vs:List Value} {xs:List (List Int)} {bs:List (Nat×Nat)},Jg GB w ps vs xs bs->∀(i:Nat) (p:Et),ps[i]? = some p->
  ∃v x b,vs[i]? = some v/\xs[i]? = some x/\bs[i]? = some b/\PM GB w p v x b
 | [],[],[],[],_,i,p,h=>by simp at h
 |p::ps,v::vs,x::xs,b::bs,h,0,q,hq=>by
  simp only[UV,Ai] at hq;subst hq;exact⟨v,x,b,rfl,rfl,rfl,h.1⟩
 |p::ps,v::vs,x::xs,b::bs,h,i+1,q,hq=>by
  obtain⟨v',x',b',h1,h2,h3,h4⟩:=QL h.2 i q (by simpa using hq);exact⟨v',x',b',by simpa using h1,by simpa using h2,by simpa using h3,h4⟩
theorem XG:∀ {ps:List Et} {bs:List (Nat×Nat)},Ep ps bs->∀(i j:Nat) (p q:Et) (b c:Nat×Nat),ps[i]? = some p->ps[j]? = some q->bs[i]? = some b->bs[j]? = some c->i<j->U9 p q b c
 | [],_,_,i,j,p,q,b,c,h,_,_,_,_=>by simp at h
 |_::_,[],_,i,j,p,q,b,c,_,_,h,_,_=>by simp at h
 | p0::ps,b0::bs,h,i,j,p,q,b,c,hp,hq,hb,hc,ue=>by
  cases j with
  |zero=>omega
  | succ j=>
   cases i with
   |zero=>
    simp only[UV,Ai] at hp hb;subst hp;subst hb;simp only[Cp] at hq hc;refine h.1 (q,c) ?_;rw[List.mem_iff_getElem?];exact⟨j,by rw[List.getElem?_zip_eq_some];exact⟨hq,hc⟩⟩
   |succ i=>exact XG h.2 i j p q b c (by simpa using hp) (by simpa using hq) (by simpa using hb) (by simpa using hc) (by omega)
theorem iN{np:Nat}:∀ {ps:List Et} {i t:Nat} {v:SV},lk t (Hx np i ps)=some v->∃j p,t=i+j/\ps[j]? = some p/\v=FI np t p
 | [],i,t,v,h=>by simp[Hx,lk] at h
 | p::ps,i,t,v,h=>by
  simp only[Hx,lk] at h;cases hb:Nat.beq i t with
  |true=>
   rw[hb,cond_true,Ai] at h;have:=Ca hb;subst this;exact⟨0,p,rfl,rfl,h.symm⟩
  |false=>
   rw[hb,cond_false] at h;obtain⟨j,q,h1,h2,h3⟩:=iN h;exact⟨j+1,q,by omega,by simpa using h2,h3⟩
theorem jD:∀ {ps:List Et} {i:Nat} {x:Nat×Nat},x∈ln0 i ps->∃j p,x.1=i+j/\ps[j]? = some p/\x.2=p.len
 | [],i,x,h=>by cases h
 | p::ps,i,x,h=>by
  rcases G9.1 h with rfl|h
  ·exact⟨0,p,rfl,rfl,rfl⟩
  ·obtain⟨j,q,h1,h2,h3⟩:=jD h;exact⟨j+1,q,by omega,by simpa using h2,h3⟩
theorem QI:∀ {ps:List Et} {i:Nat} {r:Rg},r∈Qz i ps->∃j p ks,r.id=i+j/\ps[j]? = some p/\p.cp=some (r.fR,r.wr,ks)/\p.len=ks/\∃kl,kl.length=ks/\r.cs=(IC r.id kl).map some/\
   (p= .mem kl r.fR r.wr\/p= .sl kl r.fR r.wr\/p= .fL kl r.fR r.wr)
 | [],i,r,h=>by cases h
 | .mem ks g wr::ps,i,r,h=>by
  rcases G9.1 h with rfl|h
  ·exact⟨0,_,_,rfl,rfl,rfl,rfl,ks,rfl,rfl,.inl rfl⟩
  ·obtain⟨j,q,ξ,h1,h2,h3⟩:=QI h;exact⟨j+1,q,ξ,by omega,by simpa using h2,h3⟩
 | .sl ks g wr::ps,i,r,h=>by
  rcases G9.1 h with rfl|h
  ·exact⟨0,_,_,rfl,rfl,rfl,rfl,ks,rfl,rfl,.inr (.inl rfl)⟩
  ·obtain⟨j,q,ξ,h1,h2,h3⟩:=QI h;exact⟨j+1,q,ξ,by omega,by simpa using h2,h3⟩
 | .fL ks g wr::ps,i,r,h=>by
  rcases G9.1 h with rfl|h
  ·exact⟨0,_,_,rfl,rfl,rfl,rfl,ks,rfl,rfl,.inr (.inr rfl)⟩
  ·obtain⟨j,q,ξ,h1,h2,h3⟩:=QI h;exact⟨j+1,q,ξ,by omega,by simpa using h2,h3⟩
 | .int _::ps,i,r,h=>by
  obtain⟨j,q,ξ,h1,h2,h3⟩:=QI (i:=i+1) h;exact⟨j+1,q,ξ,by omega,by simpa using h2,h3⟩
 | .bool::ps,i,r,h=>by
  obtain⟨j,q,ξ,h1,h2,h3⟩:=QI (i:=i+1) h;exact⟨j+1,q,ξ,by omega,by simpa using h2,h3⟩
 | .agg _::ps,i,r,h=>by
  obtain⟨j,q,ξ,h1,h2,h3⟩:=QI (i:=i+1) h;exact⟨j+1,q,ξ,by omega,by simpa using h2,h3⟩
theorem zq:∀ {ps:List Et} {i j:Nat} {p:Et},ps[j]? = some p->p.cp≠none->∃r∈Qz i ps,r.id=i+j
 | [],i,j,p,h,_=>by simp at h
 |q::ps,i,0,p,h,hn=>by
  simp only[UV,Ai] at h;subst h;cases q<;>first|exact absurd rfl hn|exact⟨_,Jv,rfl⟩
 |q::ps,i,j+1,p,h,hn=>by
  obtain⟨r,hr,he⟩:=zq (i:=i+1) (j:=j) (by simpa using h) hn;refine⟨r,?_,by omega⟩;cases q<;>first|exact hr|exact MN _ hr
theorem kF:∀ {cq:fP} {i:Nat} {r:Rg},r∈It i cq->∃j g cs,r.id=i+j/\cq[j]? = some (g,cs)/\r=⟨r.id,0,false,cs.map some⟩
 | [],i,r,h=>by cases h
 | (g,cs)::cq,i,r,h=>by
  rcases G9.1 h with rfl|h
  ·exact⟨0,g,cs,rfl,rfl,rfl⟩
  ·obtain⟨j,g',uc,h1,h2,h3⟩:=kF h;exact⟨j+1,g',uc,by omega,by simpa using h2,h3⟩
theorem gu:∀ {cq:fP} {i j:Nat} {x:Nat×List LV},cq[j]? = some x->∃r∈It i cq,r.id=i+j
 | [],i,j,x,h=>by simp at h
 |(g,cs)::cq,i,0,x,h=>⟨_,Jv,rfl⟩
 |(g,cs)::cq,i,j+1,x,h=>by
  obtain⟨r,hr,he⟩:=gu (i:=i+1) (j:=j) (by simpa using h);exact⟨r,MN _ hr,by omega⟩
theorem xZ:∀ {cq:fP} {i g l:Nat},lk g (SM i cq)=some l->∃j cs,l=i+j/\cq[j]? = some (g,cs)/\g<1000000
 | [],i,g,l,h=>by simp[SM,lk] at h
 | (g0,cs)::cq,i,g,l,h=>by
  have next:lk g (SM (i+1) cq)=some l->∃j uc,l=i+j/\((g0,cs)::cq)[j]? = some (g,uc)/\g<1000000:=λh=>by
   obtain⟨j,uc,h1,h2,h3⟩:=xZ h;exact⟨j+1,uc,by omega,by simpa using h2,h3⟩
  unfold SM at h;cases hm:Nat.blt g0 1000000 with
  |false=>rw[hm,cond_false] at h;exact next h
  | true=>
   rw[hm,cond_true] at h;simp only[lk] at h;cases hb:Nat.beq g0 g with
   |true=>
    rw[hb,cond_true,Ai] at h;have:=Ca hb;subst this;exact⟨0,cs,by omega,rfl,Dh hm⟩
   |false=>rw[hb,cond_false] at h;exact next h
theorem VF{bs:List (Nat×Nat)}:∀ {ps:List Et} {i:Nat} {x:Nat×(Nat×Nat)},x∈i0 bs i ps->∃j p,x.1=i+j/\ps[j]? = some p/\p.cp≠none/\x.2=bs.getD x.1 (0,0)
 | [],i,x,h=>by cases h
 | .mem ks g wr::ps,i,x,h=>by
  rcases G9.1 h with rfl|h
  ·exact⟨0,_,rfl,rfl,by simp[Et.cp],rfl⟩
  ·obtain⟨j,q,h1,h2,h3⟩:=VF h;exact⟨j+1,q,by omega,by simpa using h2,h3⟩
 | .sl ks g wr::ps,i,x,h=>by
  rcases G9.1 h with rfl|h
  ·exact⟨0,_,rfl,rfl,by simp[Et.cp],rfl⟩
  ·obtain⟨j,q,h1,h2,h3⟩:=VF h;exact⟨j+1,q,by omega,by simpa using h2,h3⟩
 | .fL ks g wr::ps,i,x,h=>by
  rcases G9.1 h with rfl|h
  ·exact⟨0,_,rfl,rfl,by simp[Et.cp],rfl⟩
  ·obtain⟨j,q,h1,h2,h3⟩:=VF h;exact⟨j+1,q,by omega,by simpa using h2,h3⟩
 | .int _::ps,i,x,h=>by
  obtain⟨j,q,h1,h2,h3⟩:=VF (i:=i+1) h;exact⟨j+1,q,by omega,by simpa using h2,h3⟩
 | .bool::ps,i,x,h=>by
  obtain⟨j,q,h1,h2,h3⟩:=VF (i:=i+1) h;exact⟨j+1,q,by omega,by simpa using h2,h3⟩
 | .agg _::ps,i,x,h=>by
  obtain⟨j,q,h1,h2,h3⟩:=VF (i:=i+1) h;exact⟨j+1,q,by omega,by simpa using h2,h3⟩
theorem Xa{bs:List (Nat×Nat)}:∀ {ps:List Et} {i j:Nat} {p:Et},ps[j]? = some p->p.cp≠none->(i+j,bs.getD (i+j) (0,0))∈i0 bs i ps
 | [],i,j,p,h,_=>by simp at h
 |q::ps,i,0,p,h,hn=>by
  simp only[UV,Ai] at h;subst h;cases q<;>first|exact absurd rfl hn|exact Jv
 |q::ps,i,j+1,p,h,hn=>by
  have:=Xa (bs:=bs) (i:=i+1) (j:=j) (by simpa using h) hn;rw[show i+1+j=i+(j+1) by omega] at this;cases q<;>first|exact this|exact MN _ this
def Iu(outs:List (Nat×List IntKind×PF)):Nat->List Et->Bool
 |_,[]=>true
 |i,p::ps=>(match p.cp with
  |some (_,true,n)=>outs.any λo=>Nat.beq o.1 i&&Nat.beq o.2.1.length n
  |_=>true)&&Iu outs (i+1) ps
theorem Zi{outs:List (Nat×List IntKind×PF)}:∀ {ps:List Et} {i j:Nat} {p:Et} {g n:Nat},Iu outs i ps=true->ps[j]? = some p->p.cp=some (g,true,n)->∃o∈outs,o.1=i+j/\o.2.1.length=n
 | [],i,j,p,g,n,_,h,_=>by simp at h
 |q::ps,i,0,p,g,n,hw,h,hn=>by
  simp only[UV,Ai] at h;subst h;simp only[Iu,hn,Bj,List.any_eq_true] at hw;obtain⟨o,ho,h1,h2⟩:=hw.1;exact⟨o,ho,by have:=Ca h1;omega,Ca h2⟩
 |q::ps,i,j+1,p,g,n,hw,h,hn=>by
  simp only[Iu,Bj] at hw;obtain⟨o,ho,h1,h2⟩:=Zi hw.2 (by simpa using h) hn;exact⟨o,ho,by omega,h2⟩
def gV(ad:Nat->Nat×Nat)(cq:fP):Vl:=⟨λ_=>[],gν ad cq,λ_=>undef⟩
def Q8(GC:Nat->Nat->Option Value)(ad:Nat->Nat×Nat)(cq:fP):Prop:=∀x∈cq,∀(i:Nat) (lv:LV),x.2[i]? = some lv->X7 cq.length lv=true/\GC (FY ad x.1).1 ((FY ad x.1).2+i)=some (lv.den (gV ad cq))
end
section
open Go
theorem GH{α:Type}{l:List α}{i:Nat}{x d:α}(h:l[i]? = some x):l.getD i d=x:=by simp[List.getD,h]
theorem gM{m:Nat}{lv:LV}(h:X7 m lv=true)(V:Vl)(nv:Nat)(ids:List Nat)(hid:∀l,500<=l->l<500+m->Dz l ids=true):lv.ok V/\lv.lt nv ids=true:=by
 cases lv with
 |int k x=>cases x with
  |lit n=>simp only[X7] at h;exact⟨bH.1 h,rfl⟩
  |v i j=>cases h
 |bool x=>cases x with
  |lit n=>exact⟨trivial,rfl⟩
  |v i j=>cases h
 |nil=>exact⟨trivial,rfl⟩
 |CM=>exact⟨trivial,rfl⟩
 |ej=>exact⟨trivial,rfl⟩
 |ptr l o=>
  simp only[X7,Bj] at h;exact⟨trivial,hid l (Kv h.1) (Dh h.2)⟩
 |sl l o n c d=>cases h
 |se l o s c d a=>cases h
 |str xs=>cases h
 |val v=>cases h
 |Ek i=>cases h
 |err i=>cases h
 |pd l o n s x=>cases h
 |fL l o n i=>cases h
theorem uR{m:Nat}{lv:LV}(h:X7 m lv=true){V V':Vl}(hν:∀l,500<=l->V.ν l=V'.ν l):lv.den V=lv.den V':=by
 cases lv with
 |int k x=>cases x with
  |lit n=>rfl
  |v i j=>cases h
 |bool x=>cases x with
  |lit n=>rfl
  |v i j=>cases h
 |ptr l o=>
  simp only[X7,Bj] at h;simp only[LV.den,hν l (Kv h.1)]
 |sl l o n c d=>cases h
 |se l o s c d a=>cases h
 |str xs=>cases h
 |val v=>cases h
 |Ek i=>cases h
 |err i=>cases h
 |pd l o n s x=>cases h
 |fL l o n i=>cases h
 |nil=>rfl
 |CM=>rfl
 |ej=>rfl
theorem XY{a b:Nat}(h:a<b):Nat.blt a b=true:=yu h
section
variable{P:Program}{C:Cx}{GB:Nat}{GC:Nat->Nat->Option Value}{s:Az}{cq:fP}{args:List Value}{ins:List (List Int)}{bs:List (Nat×Nat)}{w:World}{nt:Nat}{ad:Nat->Nat×Nat}
 (L5:∀b o v,GC b o=some v->b<GB) (ε:GW GC w) (δ:GB<=w.heap.size) (hP:Jg GB w s.params args ins bs) (hS:Ep s.params bs) (lB:Iu s.outs 0 s.params=true) (gS:Q8 GC ad cq)
 (ia:∀x∈cq,(FY ad x.1).1<GB) (xd:s.params.length<=nt) (gE:s.params.length<=500)
include L5 ε δ hP hS lB gS ia xd gE
def e0(P:Program)(C:Cx)(GB:Nat)(GC:Nat->Nat->Option Value)(s:Az)(args:List Value)(bs:List (Nat×Nat))(w:World):En:=⟨P,C,w,Xf s bs,GB,GC,i0 bs 0 s.params,s.params.length,λi=>args.getD i undef⟩
theorem jy:Fy (e0 P C GB GC s args bs w) (ZQ s.params cq nt) (v0 ad s.params.length args ins bs cq) ⟨args.toArray++Array.replicate (nt-args.length) undef,[]⟩ w:=by
 have _:=L5;have _:=δ;obtain⟨l1,l2,l3⟩:=TJ hP;have hρ:∀i,i<s.params.length->(v0 ad s.params.length args ins bs cq).ρ i=ins.getD i []:=λi hi=>by simp[v0,hi]
 have hν:∀i,i<s.params.length->(v0 ad s.params.length args ins bs cq).ν i=bs.getD i (0,0):=λi hi=>by simp[v0,show i<500 by omega]
 have hνg:∀(j:Nat) (x:Nat×List LV),cq[j]? = some x->(v0 ad s.params.length args ins bs cq).ν (500+j)=FY ad x.1:=λj x hx=>by
  simp only[v0,gν];rw[if_neg (by omega),show 500+j-500=j by omega,GH hx]
 have hlen:∀(i:Nat) (p:Et),s.params[i]? = some p->i<s.params.length:=λi p h=>(Oa.1 h).1
 have hR:∀r∈Qz 0 s.params,∃p kl b x,s.params[r.id]? = some p/\bs[r.id]? = some b/\ins[r.id]? = some x/\r.cs=(IC r.id kl).map some/\p.cp=some (r.fR,r.wr,kl.length)/\AO r.wr w b kl x/\(r.wr=true->GB<=b.1)/\
   (v0 ad s.params.length args ins bs cq).ν r.id=b/\(v0 ad s.params.length args ins bs cq).ρ r.id=x/\r.id<s.params.length:=λr hr=>by
  obtain⟨j,p,ks,h1,h2,h3,h4,kl,h5,h6,h7⟩:=QI hr;rw[KN] at h1;subst h1;obtain⟨v,x,b,q1,q2,q3,q4⟩:=QL hP _ p h2;have bj:=hlen _ _ h2;refine⟨p,kl,b,x,h2,q3,q2,h6,by rw[h3,h5],?_,?_,by rw[hν _ bj,GH q3],by rw[hρ _ bj,GH q2],bj⟩
  ·rcases h7 with rfl|rfl|rfl
   ·exact q4.2.1
   ·obtain⟨c,-, -,k,-⟩:=q4;exact k
   ·obtain⟨m,c,-, -,k,-⟩:=q4;exact k
  ·rcases h7 with rfl|rfl|rfl
   ·exact q4.2.2
   ·obtain⟨c,-, -, -,k⟩:=q4;exact k
   ·obtain⟨m,c,-, -, -,k⟩:=q4;exact k
 have hG:∀r∈It 500 cq,∃j g cs,r.id=500+j/\cq[j]? = some (g,cs)/\r.wr=false/\r.cs=cs.map some/\(v0 ad s.params.length args ins bs cq).ν r.id=FY ad g/\(FY ad g).1<GB:=λr hr=>by
  obtain⟨j,g,cs,h1,h2,h3⟩:=kF hr;refine⟨j,g,cs,h1,h2,by rw[h3],by rw[h3],by rw[h1,hνg j _ h2],ia _ (MB h2)⟩
 have de:∀r,r∈(ZQ s.params cq nt).rg->r∈Qz 0 s.params\/r∈It 500 cq:=λr hr=>qM.1 hr
 have aaB:∀(ps:List Et) (i:Nat) (r r':Rg),r∈Qz i ps->r'∈Qz i ps->r.id=r'.id->r=r':=by
  intro ps
  induction ps with
  |nil=>intro i r r' h;cases h
  | cons p ps ih=>
   intro i r r' h h' he;have lE:∀q∈Qz (i+1) ps,i<q.id:=λq hq=>by
    obtain⟨j,_,_,k,_⟩:=QI hq;omega
   cases p<;>simp only[Qz,G9] at h h'
   case mem ks g wr=>
    rcases h with rfl|h<;>rcases h' with rfl|h'
    ·rfl
    ·have:=lE _ h';simp at he;omega
    ·have:=lE _ h;simp at he;omega
    ·exact ih _ r r' h h' he
   case sl ks g wr=>
    rcases h with rfl|h<;>rcases h' with rfl|h'
    ·rfl
    ·have:=lE _ h';simp at he;omega
    ·have:=lE _ h;simp at he;omega
    ·exact ih _ r r' h h' he
   case fL ks g wr=>
    rcases h with rfl|h<;>rcases h' with rfl|h'
    ·rfl
    ·have:=lE _ h';simp at he;omega
    ·have:=lE _ h;simp at he;omega
    ·exact ih _ r r' h h' he
   all_goals exact ih _ r r' h h' he
 have ai9:∀(gl:fP) (i:Nat) (r r':Rg),r∈It i gl->r'∈It i gl->r.id=r'.id->r=r':=by
  intro gl
  induction gl with
  |nil=>intro i r r' h;cases h
  | cons p ps ih=>
   intro i r r' h h' he;obtain⟨g,cs⟩:=p;have lE:∀q∈It (i+1) ps,i<q.id:=λq hq=>by
    obtain⟨j,_,_,k,_⟩:=kF hq;omega
   simp only[It,G9] at h h';rcases h with rfl|h<;>rcases h' with rfl|h'
   ·rfl
   ·have:=lE _ h';simp at he;omega
   ·have:=lE _ h;simp at he;omega
   ·exact ih _ r r' h h' he
 have cX:args.toArray.size=s.params.length:=by simpa using l1
 have Wf:∀(i:Nat) (v:Value),args[i]? = some v->(args.toArray++Array.replicate (nt-args.length) undef).getD i undef=v:=λi v hv=>by
  have hi:=(Oa.1 hv).1;rw[YJ,Array.getElem?_append_left (by simpa using hi)];simp[hv]
 have Ly:∀(i:Nat) (p:Et),s.params[i]? = some p->p.cp≠none->Dz i (DL (ZQ s.params cq nt).rg)=true:=λi p hp hn=>by
  obtain⟨r,hr,he⟩:=zq (i:=0) hp hn;rw[KN] at he;exact Nq.2 ⟨r,List.mem_append_left _ hr,he⟩
 have aeJ:∀l,500<=l->l<500+cq.length->Dz l (DL (ZQ s.params cq nt).rg)=true:=λl h1 h2=>by
  have hj:l-500<cq.length:=by omega
  obtain⟨r,hr,he⟩:=gu (i:=500) (Io hj);exact Nq.2 ⟨r,kv _ hr,by omega⟩
 refine⟨⟨⟨?_,?_,?_,?_,BD.refl _ _,ε⟩,?_,⟨?_,?_,?_⟩,?_,rfl⟩,?_,?_,λ_ _=>rfl,show s.params.length<=2*s.params.length by omega⟩
 ·intro r hr i c hc;rcases de r hr with hr|hr
  ·obtain⟨p,kl,b,x,h1,h2,h3,h4,h5,h6,h7,h8,h9,iu⟩:=hR r hr;rw[h4,Ng,Yg] at hc;obtain⟨lv,e1,rfl⟩:=hc;obtain⟨k,e2,rfl⟩:=PQ e1;have hi:i<kl.length:=(Oa.1 e2).1;have pn:x[i]? = some (x[i]'(by have:=h6.1.1;omega)):=Io _;rw[h8];refine⟨_,h6.2 i k _ e2 pn,λlv e=>?_⟩;cases e;have hd:X.den (v0 ad s.params.length args ins bs cq).ρ (.v r.id i)=x[i]'(by have:=h6.1.1;omega):=by
    show((v0 ad s.params.length args ins bs cq).ρ r.id).getD i 0=_;rw[h9,GH pn]
   refine⟨by simp only[LV.den,hd],?_⟩;simp only[LV.ok,hd];exact h6.1.2 i k _ e2 pn
  ·obtain⟨j,g,cs,h1,h2,h3,h4,h5,h6⟩:=hG r hr;rw[h4,Ng,Yg] at hc;obtain⟨lv,e1,rfl⟩:=hc;obtain⟨k1,k2⟩:=gS _ (MB h2) i lv e1;rw[h5,h3];have me:lv.den (gV ad cq)=lv.den (v0 ad s.params.length args ins bs cq):=uR k1 λl hl=>by
    simp only[gV,v0];rw[if_neg (by omega)]
   refine⟨lv.den (v0 ad s.params.length args ins bs cq),⟨?_,λh=>by cases h⟩,λlv' e=>?_⟩
   ·rw[<- me];exact ε _ _ _ k2
   ·cases e;exact⟨rfl,(gM k1 _ 0 _ aeJ).1⟩
 ·intro r hr r' cG he;rcases de r hr with hr|hr<;>rcases de r' cG with cG|cG
  ·exact aaB _ _ r r' hr cG he
  ·obtain⟨j,_,_,k,_⟩:=hG r' cG;obtain⟨_,_,_,_,_,_,_,_,_,_,_,_,_,k'⟩:=hR r hr;omega
  ·obtain⟨j,_,_,k,_⟩:=hG r hr;obtain⟨_,_,_,_,_,_,_,_,_,_,_,_,_,k'⟩:=hR r' cG;omega
  ·exact ai9 _ _ r r' hr cG he
 ·intro r hr r' cG hw cj;rcases de r hr with hr|hr
  ·obtain⟨p,kl,b,x,h1,h2,h3,h4,h5,h6,h7,h8,h9,iu⟩:=hR r hr;rcases de r' cG with cG|cG
   ·obtain⟨p',kl',b',x',kO,BE,wj,DB,Lz,h6',On,h8',h9',ahV⟩:=hR r' cG;unfold uZ;rw[h8,h8',h4,DB];simp only[UC,IC,List.length_zipIdx];rcases Nat.lt_or_gt_of_ne cj with bj|bj
    ·have:=XG hS _ _ p p' b b' h1 kO h2 BE bj;unfold U9 at this;rw[h5,Lz] at this;rcases this (.inl hw) with⟨q1,q2,q3,q4⟩|q
     ·exact .inl ⟨q1,q2,q3,q4⟩
     ·exact .inr q
    ·have:=XG hS _ _ p' p b' b kO h1 BE h2 bj;unfold U9 at this;rw[h5,Lz] at this;rcases this (.inr hw) with⟨q1,q2,q3,q4⟩|q
     ·exact .inl ⟨q1.symm,by rw[<- q1];exact q2,q3.symm,q4.symm⟩
     ·right;unfold ZH at *;omega
   ·obtain⟨j,g,cs,k1,k2,k3,k4,k5,k6⟩:=hG r' cG
    right
    rw[h8,k5];have:=h7 hw;unfold ZH
    left
    show b.1≠(FY ad g).1;omega
  ·obtain⟨j,g,cs,k1,k2,k3,k4,k5,k6⟩:=hG r hr;rw[k3] at hw;cases hw
 ·intro r hr hw;rcases de r hr with hr|hr
  ·obtain⟨p,kl,b,x,h1,h2,h3,h4,h5,h6,h7,h8,h9,iu⟩:=hR r hr;rw[h8];refine⟨h7 hw,λi hi=>.inr ?_⟩;rw[hw] at h5;obtain⟨o,ho,e1,e2⟩:=Zi lB h1 h5;rw[KN] at e1;refine⟨o,ho,?_,?_,?_⟩
   ·rw[e1,GH h2]
   ·rw[e1,GH h2];show b.2<=b.2+i;omega
   ·rw[e1,GH h2,e2];have:i<kl.length:=by rw[h4] at hi;simpa[IC] using hi
    show b.2+i<b.2+kl.length;omega
  ·obtain⟨j,g,cs,k1,k2,k3,k4,k5,k6⟩:=hG r hr;rw[k3] at hw;cases hw
 ·intro r hr lv nq;rcases de r hr with hr|hr
  ·obtain⟨p,kl,b,x,h1,h2,h3,h4,h5,h6,h7,h8,h9,iu⟩:=hR r hr;rw[h4] at nq;simp only[Us,Ai,exists_eq_right] at nq;obtain⟨i,hi,rfl⟩:=kY nq;obtain⟨k,e2,e3⟩:=PQ (Io hi);rw[e3];show Nat.blt r.id (2*s.params.length)=true;exact XY (by omega)
  ·obtain⟨j,g,cs,k1,k2,k3,k4,k5,k6⟩:=hG r hr;rw[k4] at nq;simp only[Us,Ai,exists_eq_right] at nq;obtain⟨i,hi,rfl⟩:=kY nq;exact(gM (gS _ (MB k2) i _ (Io hi)).1 ⟨λ_=>[],λ_=>(0,0),λ_=>undef⟩ _ _ aeJ).2
 ·intro t v hv;have mL:lk t (Hx s.params.length 0 s.params)=some v:=hv;obtain⟨j,p,h1,h2,h3⟩:=iN mL;rw[KN] at h1;subst h1;obtain⟨u,x,b,q1,q2,q3,q4⟩:=QL hP _ p h2;have bj:=hlen _ _ h2;rw[Wf _ _ q1];have hd0:(v0 ad s.params.length args ins bs cq).ρ t=x:=by rw[hρ _ bj,GH q2]
  have MT:(v0 ad s.params.length args ins bs cq).ν t=b:=by rw[hν _ bj,GH q3]
  have cV:Nat.blt t (2*s.params.length)=true:=XY (by omega);subst h3;cases p with
  |int k=>
   obtain⟨y,rfl,rfl,hy⟩:=q4;have hX:X.den (v0 ad s.params.length args ins bs cq).ρ (.v t 0)=y:=by show((v0 ad s.params.length args ins bs cq).ρ t).getD 0 0=_;rw[hd0];rfl
   exact⟨by simp only[FI,SV.aE,TV.aq,LV.cP,hX],by simp only[FI,SV.ok,TV.ok,LV.ok,hX];exact hy,cV⟩
  |bool=>
   obtain⟨y,rfl,rfl⟩:=q4;have hX:X.den (v0 ad s.params.length args ins bs cq).ρ (.v t 0)=y:=by show((v0 ad s.params.length args ins bs cq).ρ t).getD 0 0=_;rw[hd0];rfl
   exact⟨by simp only[FI,SV.aE,TV.aq,LV.ca,hX],trivial,cV⟩
  |mem ks g wr=>
   obtain⟨rfl,q5,q6⟩:=q4;exact⟨by simp only[FI,SV.aE,TV.aq,LV.cx,MT,QO],trivial,Ly _ _ h2 (by simp[Et.cp])⟩
  | agg ks=>
   obtain⟨q5,rfl⟩:=q4;refine⟨?_,?_,?_⟩
   ·simp only[FI,SV.aE,TV.qt];rw[TA hd0 q5.1]
   ·exact XB hd0 q5
   ·simp only[FI,SV.lt,TV.lt,Kh];intro c hc;obtain⟨i,hi,rfl⟩:=kY hc;obtain⟨k,e2,e3⟩:=PQ (Io hi);rw[e3];exact cV
  | sl ks g wr=>
   obtain⟨c,rfl,q5,q6,q7⟩:=q4;have hX:X.den (v0 ad s.params.length args ins bs cq).ρ (.v (s.params.length+t) 0)=(c:Int):=by
    show((v0 ad s.params.length args ins bs cq).ρ (s.params.length+t)).getD 0 0=_;simp only[v0];rw[if_neg (by omega),show s.params.length+t-s.params.length=t by omega,GH q1];rfl
   refine⟨?_,?_,?_⟩
   ·simp only[FI,SV.aE,TV.aq,LV.cE,MT,CX.ff,hX,QO,Nat.sub_zero,Rh]
   ·simp only[FI,SV.ok,TV.ok,LV.ok,CX.ff,hX];omega
   ·simp only[FI,SV.lt,TV.lt,LV.lt,Bj];exact⟨Ly _ _ h2 (by simp[Et.cp]),XY (show s.params.length+t<2*s.params.length by omega)⟩
  | fL ks g wr=>
   obtain⟨m,c,q4,q5,q6,q7⟩:=q4;refine⟨?_,?_,?_⟩
   ·simp only[FI,SV.aE,TV.aq,LV.den];show u=args.getD t undef;rw[GH q1]
   ·simp only[FI,SV.ok,TV.ok,LV.ok];refine⟨m,c,?_,q5⟩;show args.getD t undef=_;rw[GH q1,q4,MT];rfl
   ·simp only[FI,SV.lt,TV.lt,LV.lt,Bj];exact⟨Ly _ _ h2 (by simp[Et.cp]),XY (show t<2*s.params.length by omega)⟩
 ·intro g l hg;have hg':lk g (SM 500 cq)=some l:=hg;obtain⟨j,cs,rfl,h2,h3⟩:=xZ hg';refine⟨by rw[hνg j _ h2,FY,if_pos h3],?_⟩;obtain⟨r,hr,he⟩:=gu (i:=500) h2;exact Nq.2 ⟨r,kv _ hr,he⟩
 ·intro x hx;have eg:x∈ln0 0 s.params:=hx;obtain⟨j,p,h1,h2,h3⟩:=jD eg;rw[KN] at h1;obtain⟨u,y,b,q1,q2,q3,q4⟩:=QL hP _ p h2;rw[h3,h1,hρ _ (hlen _ _ h2),GH q2];cases p with
  |int k=>obtain⟨y,rfl,rfl,hy⟩:=q4;rfl
  |bool=>obtain⟨y,rfl,rfl⟩:=q4;rfl
  |mem ks g wr=>exact q4.2.1.1.1
  |agg ks=>exact q4.1.1
  |sl ks g wr=>obtain⟨c,-, -,k,-⟩:=q4;exact k.1.1
  |fL ks g wr=>obtain⟨m,c,-, -,k,-⟩:=q4;exact k.1.1
 ·simp only[Array.size_append,Array.size_replicate,List.size_toArray];show args.length+(nt-args.length)=nt;omega
 ·intro x hx;have eg:x∈ln0 0 s.params:=hx;obtain⟨j,p,h1,h2,h3⟩:=jD eg;have:=hlen _ _ h2;show x.1<2*s.params.length;omega
 ·intro x hx;have eg:x∈i0 bs 0 s.params:=hx;obtain⟨j,p,h1,h2,h3,h4⟩:=VF eg;rw[KN] at h1;refine⟨by rw[h1];exact Ly _ _ h2 h3,?_⟩;rw[h4,h1,hν _ (hlen _ _ h2)]
end
end
section
open Go
abbrev SY:=List (List X×PF)
def Ro(ρ:Bu)(ins:List (List Int)):SY->Prop
 | []=>True
 |(xs,f)::r=>xs.map (·.den ρ)=f ins/\Ro ρ ins r
def Rz(tm:List (Nat×SV))(fr:List Nat):Pq->TV->Option SY
 | .int k f,.l (.int k' x)=>bif sK k k' then some [([x],λa=>[f a])] else none
 | .bool f,.l (.bool x)=>some [([x],λa=>[f a])]
 | .cF i,.l v=>(match lk i tm with
  |some (.t (.l u))=>bif u.beq v then some [] else none
  |_=>none)
 | .kA j,.l (.ptr l o)=>(match fr[j]? with
  |some l'=>bif Nat.beq l l'&&Nat.beq o 0 then some [] else none
  |none=>none)
 | .agg ks f,.a cs=>(match JH cs with
  |some (ξ,xs)=>bif Jp ks ξ then some [(xs,f)] else none
  |none=>none)
 | .nil,.l .nil=>some []
 | .ej,.l .ej=>some []
 | .Hp j n c,.l (.sl l o n' (.n (.lit (.ofNat c'))) d)=>(match fr[j]? with
  |some l'=>bif Nat.beq l l'&&Nat.beq o 0&&Nat.beq n n'&&Nat.beq c c'&&Nat.beq d 0 then some [] else none
  |none=>none)
 | .err,.l (.err _)=>some []
 | .LL j n,.l (.sl l o n' _ _)=>(match fr[j]? with
  |some l'=>bif Nat.beq l l'&&Nat.beq o 0&&Nat.beq n n' then some [] else none
  |none=>none)
 | .slP i n c,.l (.sl l o n' (.n (.lit (.ofNat c'))) d)=>(match lk i tm with
  |some (.t (.l (.ptr l' o')))=>bif Nat.beq l' l&&Nat.beq o' o&&Nat.beq n n'&&Nat.beq c c'&&Nat.beq d 0 then some [] else none
  |_=>none)
 |_,_=>none
def Og(tm:List (Nat×SV))(fr:List Nat):List Pq->List TV->Option SY
 | [],[]=>some []
 |r::rs,v::vs=>match Rz tm fr r v,Og tm fr rs vs with
  |some e,some es=>some (e++es)
  |_,_=>none
 |_,_=>none
def jZ(j:Nat):List Pq->List TV->Option Nat
 | .kA i::rs,.l (.ptr l _)::vs=>bif Nat.beq i j then some l else jZ j rs vs
 | .Hp i _ _::rs,.l (.sl l _ _ _ _)::vs=>bif Nat.beq i j then some l else jZ j rs vs
 | .LL i _::rs,.l (.sl l _ _ _ _)::vs=>bif Nat.beq i j then some l else jZ j rs vs
 |_::rs,_::vs=>jZ j rs vs
 |_,_=>none
def qL(rs:List Pq)(vs:List TV):Nat->Nat->Option (List Nat)
 |0,_=>some []
 |n+1,j=>match jZ j rs vs,qL rs vs n (j+1) with
  |some l,some ls=>some (l::ls)
  |_,_=>none
def TI(rg:List Rg)(l:Nat)(ks:List IntKind):Option (List X):=
 match jB l rg with
 | some r=>bif r.wr then(match Jk rg l 0 ks.length with
  |some cs=>(match JH cs with
   |some (ξ,xs)=>bif Jp ks ξ then some xs else none
   |none=>none)
  |none=>none) else none
 |none=>none
def mI(ps:List Et)(i:Nat):Bool:=match ps[i]? with
 |some p=>p.cp.isSome
 |none=>false
def jV(ps:List Et)(rg:List Rg):List (Nat×List IntKind×PF)->Option SY
 | []=>some []
 |(i,ks,f)::r=>match TI rg i ks,jV ps rg r with
  |some xs,some es=>bif mI ps i then some ((xs,f)::es) else none
  |_,_=>none
def frC(rg:List Rg)(np l:Nat)(ls:List Nat)(n:Nat):Bool:=Nat.ble np l && !(Dz l ls)&&Nat.blt 0 n&&(match jB l rg with
   |some g=>Nat.beq g.fR 0&&Nat.beq g.cs.length n
   |none=>false)
def NP(rg:List Rg)(np:Nat):List Nat->List (List IntKind×PF)->Option SY
 | [],[]=>some []
 |l::ls,(ks,f)::r=>bif frC rg np l ls ks.length then(match TI rg l ks,NP rg np ls r with
  |some xs,some es=>some ((xs,f)::es)
  |_,_=>none) else none
 |_,_=>none
def Ky(C:Cx)(s:Az)(cA:List ResultVar)(st:St):Option SY:=
 match TS C st cA with
 |none=>none
 | some vs=>match qL s.ret vs s.fresh.length 0 with
  |none=>none
  |some fr=>match jV s.params st.rg s.outs,NP st.rg s.params.length fr s.fresh,Og (Hx s.params.length 0 s.params) fr s.ret vs with
   |some e1,some e2,some e3=>some (e1++e2++e3)
   |_,_,_=>none
def xM(C:Cx)(s:Az)(cA:List ResultVar)(ins:List (List Int))(ρ:Bu)(ex:Ex)(st:St):Prop:=
 match ex with
 | .exit _=>False
 |_=>match Ky C s cA st with
  |some es=>Ro ρ ins es
  |none=>False
theorem MC{ρ:Bu}{ins:List (List Int)}:∀ {a b:SY},Ro ρ ins (a++b)↔Ro ρ ins a/\Ro ρ ins b
 | [],b=>⟨λh=>⟨trivial,h⟩,λh=>h.2⟩
 |(xs,f)::a,b=>by
  show(_/\Ro ρ ins (a++b))↔(_/\Ro ρ ins a)/\_;rw[MC,and_assoc]
theorem Gm{l:Nat}:∀ {is:List Nat},Dz l is=true↔l∈is
 | []=>by simp[Dz]
 | i::r=>by
  simp only[Dz,Bool.or_eq_true,G9,Gm (is:=r)];constructor
  ·rintro(h|h)
   ·exact .inl (Ca h).symm
   ·exact .inr h
  ·rintro(h|h)
   ·subst h;exact .inl (Nat.beq_refl _)
   ·exact .inr h
end
section
open Go
theorem Xg{E:En}{rg:List Rg}{V:Vl}{w:World}(hm:Oc E rg V w){l:Nat}{ks:List IntKind}{xs:List X}(h:TI rg l ks=some xs):
  ∃r∈rg,r.id=l/\r.wr=true/\jB l rg=some r/\ks.length<=r.cs.length/\AO true w (V.ν l) ks (xs.map (·.den V.ρ)):=by
 unfold TI at h;split at h
 ·rename_i r hr;cases hw:r.wr with
  |false=>rw[hw] at h;cases h
  | true=>
   rw[hw,cond_true] at h;split at h
   ·rename_i cs cS;split at h
    ·rename_i ξ xs' hx;cases hk:Jp ks ξ with
     |false=>rw[hk] at h;cases h
     | true=>
      rw[hk,cond_true,Ai] at h;subst h;obtain⟨hl,r',cG,hid,hle,cR⟩:=Ez cS;obtain⟨de,aeb⟩:=JW hr;have:r'=r:=hm.one r' cG r de (by rw[hid,aeb]);subst this;obtain⟨k1,k2,k3⟩:=LJ (V:=V) hx hk;have eM:∀c∈cs,c.ok V:=λc hc=>by
       obtain⟨i,hi,rfl⟩:=kY hc;exact(hm.read cS i _ (Io hi)).2
      refine⟨r',de,hid,hw,hr,by omega,NQ hx hk eM,λi k x hki pn=>?_⟩;have hv:(cs.map (·.den V))[i]? = some (.int k x):=by
       rw[k1];unfold AL;rw[List.getElem?_zipWith,hki,pn]
      rw[Ng,Yg] at hv;obtain⟨c,hc,GO⟩:=hv;obtain⟨v,g1,g2⟩:=hm.ov r' cG (0+i) (some c) (cR i c hc);rw[hw,hid,KN] at g1;rw[<- GO, <- (g2 c rfl).1];exact g1
    ·cases h
   ·cases h
 ·cases h
theorem xQ{ps:List Et}{rg:List Rg}{ρ:Bu}{ins:List (List Int)}:∀ {outs:List (Nat×List IntKind×PF)} {es:SY},jV ps rg outs=some es->Ro ρ ins es->
  ∀p∈outs,mI ps p.1=true/\∃xs,TI rg p.1 p.2.1=some xs/\xs.map (·.den ρ)=p.2.2 ins
 | [],es,_,_,p,hp=>by cases hp
 | (i,ks,f)::r,es,h,he,p,hp=>by
  unfold jV at h;split at h
  ·rename_i xs es' h1 h2;cases hb:mI ps i with
   |false=>rw[hb] at h;cases h
   |true=>
    rw[hb,cond_true,Ai] at h;subst h;rcases G9.1 hp with rfl|hp
    ·exact⟨hb,xs,h1,he.1⟩
    ·exact xQ h2 he.2 p hp
  ·cases h
theorem fG{rg:List Rg}{np:Nat}{ρ:Bu}{ins:List (List Int)}:∀ {ls:List Nat} {fr:List (List IntKind×PF)} {es:SY},NP rg np ls fr=some es->Ro ρ ins es->
  ls.length=fr.length/\(∀(j:Nat) (l:Nat) (p:List IntKind×PF),ls[j]? = some l->fr[j]? = some p->np<=l/\0<p.1.length/\(∃g,jB l rg=some g/\g.fR=0/\g.cs.length=p.1.length)/\∃xs,TI rg l p.1=some xs/\xs.map (·.den ρ)=p.2 ins)/\
  (∀(i j:Nat) (l m:Nat),ls[i]? = some l->ls[j]? = some m->i<j->l≠m)
 | [],[],es,_,_=>⟨rfl,λj l p h=>by simp at h,λi j l m h=>by simp at h⟩
 | [],_::_,es,h,_=>by simp[NP] at h
 |_::_,[],es,h,_=>by simp[NP] at h
 | l :: ls,(ks,f)::r,es,h,he=>by
  unfold NP at h;generalize hc:frC rg np l ls ks.length=c at h;cases c with
  |false=>cases h
  | true=>
   rw[cond_true] at h;simp only[frC,Bj,Bool.not_eq_true'] at hc;split at h
   ·rename_i xs es' h1 h2;simp only[Ai] at h;subst h;obtain⟨g1,g2,g3⟩:=fG h2 he.2;refine⟨by simp[g1],λj l' p hl hp=>?_,λi j l' m hl hm ue=>?_⟩
    ·cases j with
     | zero=>
      simp only[UV,Ai] at hl hp;subst hl;subst hp;refine⟨Kv hc.1.1.1,Dh hc.1.2,?_,xs,h1,he.1⟩;cases hg:jB l rg with
      |none=>rw[hg] at hc;cases hc.2
      |some g=>
       rw[hg] at hc;have h4:=hc.2;simp only[Bj] at h4;exact⟨g,rfl,Ca h4.1,Ca h4.2⟩
     |succ j=>exact g2 j l' p (by simpa using hl) (by simpa using hp)
    ·cases j with
     |zero=>omega
     | succ j=>
      cases i with
      |zero=>
       simp only[UV,Ai] at hl;subst hl;simp only[Cp] at hm;intro e;subst e;have:=Gm.2 (MB hm);rw[this] at hc;cases hc.1.1.2
      |succ i=>exact g3 i j l' m (by simpa using hl) (by simpa using hm) (by omega)
   ·cases h
theorem AHT{tm:List (Nat×SV)}{fr:List Nat}{V:Vl}{ins:List (List Int)}{args:List Value}(Wf:∀i u,lk i tm=some (.t (.l u))->args[i]? = some (u.den V)){r:Pq}{v:TV}{es:SY}(h:Rz tm fr r v=some es)(he:Ro V.ρ ins es)(hv:v.ok V):
  RV r ins args (fr.map V.ν) (v.den V):=by
 unfold Rz at h;split at h
 ·rename_i k f k' x;cases hk:sK k k' with
  |false=>rw[hk] at h;cases h
  |true=>
   rw[hk,cond_true,Ai] at h;subst h;have:=Mx hk;subst this;have h1:=he.1;simp only[NM,VW,List.cons.injEq,and_true] at h1;simp only[RV,TV.aq,LV.cP];rw[<- h1];exact⟨rfl,hv⟩
 ·rename_i f x;simp only[Ai] at h;subst h;have h1:=he.1;simp only[NM,VW,List.cons.injEq,and_true] at h1;simp only[RV,TV.aq,LV.ca];rw[<- h1]
 ·rename_i i v;split at h
  ·rename_i u hu;cases hb:u.beq v with
   |false=>rw[hb] at h;cases h
   |true=>
    have:=LV.beq_eq hb;subst this;exact Wf i u hu
  ·cases h
 ·rename_i j l o;split at h
  ·rename_i l' hl;cases hb:(Nat.beq l l'&&Nat.beq o 0) with
   |false=>rw[hb] at h;cases h
   |true=>
    simp only[Bj] at hb;have e1:=Ca hb.1;have e2:=Ca hb.2;subst e1;subst e2;exact⟨V.ν l,by rw[Ng,hl];rfl,by simp only[TV.aq,LV.cx,QO]⟩
  ·cases h
 ·rename_i ks f cs;split at h
  ·rename_i ξ xs hx;cases hk:Jp ks ξ with
   |false=>rw[hk] at h;cases h
   |true=>
    rw[hk,cond_true,Ai] at h;subst h;have h1:=he.1;obtain⟨k1,k2,k3⟩:=LJ (V:=V) hx hk;have h2:=NQ (V:=V) hx hk hv;simp only[RV,TV.qt];rw[<- h1,k1];exact⟨h2,rfl⟩
  ·cases h
 ·rfl
 ·rfl
 ·rename_i j n c l o n' c' d;split at h
  ·rename_i l' hl;cases hb:(Nat.beq l l'&&Nat.beq o 0&&Nat.beq n n'&&Nat.beq c c'&&Nat.beq d 0) with
   |false=>rw[hb] at h;cases h
   |true=>
    simp only[Bj] at hb;have e1:=Ca hb.1.1.1.1;have e2:=Ca hb.1.1.1.2;have e3:=Ca hb.1.1.2;have e4:=Ca hb.1.2;have e5:=Ca hb.2;subst e1;subst e2;subst e3;subst e4;subst e5;exact⟨V.ν l,by rw[Ng,hl];rfl,by simp only[TV.aq,LV.cE,QO,CX.ff,X.bc,Nat.sub_zero];rfl⟩
  ·cases h
 ·exact hv
 ·rename_i j n l o n' c d;split at h
  ·rename_i l' hl;cases hb:(Nat.beq l l'&&Nat.beq o 0&&Nat.beq n n') with
   |false=>rw[hb] at h;cases h
   |true=>
    simp only[Bj] at hb;have e1:=Ca hb.1.1;have e2:=Ca hb.1.2;have e3:=Ca hb.2;subst e1;subst e2;subst e3;have mL:((n+d:Nat):Int)<=c.den V:=hv;exact⟨V.ν l,(c.den V).toNat-d,by rw[Ng,hl];rfl,by omega,by simp only[TV.aq,LV.cE,QO]⟩
  ·cases h
 ·rename_i i n c l o n' c' d;split at h
  ·rename_i l' o' hu;cases hb:(Nat.beq l' l&&Nat.beq o' o&&Nat.beq n n'&&Nat.beq c c'&&Nat.beq d 0) with
   |false=>rw[hb] at h;cases h
   |true=>
    simp only[Bj] at hb;have e1:=Ca hb.1.1.1.1;have e2:=Ca hb.1.1.1.2;have e3:=Ca hb.1.1.2;have e4:=Ca hb.1.2;have e5:=Ca hb.2;subst e1;subst e2;subst e3;subst e4;subst e5;have:=Wf i _ hu;rw[LV.cx] at this;exact⟨((V.ν l').1,(V.ν l').2+o'),this,by simp only[TV.aq,LV.cE,CX.ff,X.bc,Nat.sub_zero];rfl⟩
  ·cases h
 ·cases h
theorem nV{tm:List (Nat×SV)}{fr:List Nat}{V:Vl}{ins:List (List Int)}{args:List Value}(Wf:∀i u,lk i tm=some (.t (.l u))->args[i]? = some (u.den V)):∀ {rs:List Pq} {vs:List TV} {es:SY},Og tm fr rs vs=some es->Ro V.ρ ins es->(∀v∈vs,v.ok V)->
  yJ ins args (fr.map V.ν) rs (vs.map (·.den V))
 | [],[],es,_,_,_=>trivial
 | [],_::_,es,h,_,_=>by simp[Og] at h
 |_::_,[],es,h,_,_=>by simp[Og] at h
 | r::rs,v::vs,es,h,he,hv=>by
  unfold Og at h;split at h
  ·rename_i e1 e2 h1 h2;simp only[Ai] at h;subst h;have:=MC.1 he;exact⟨AHT Wf h1 this.1 (hv v Jv),nV Wf h2 this.2 λu hu=>hv u (MN _ hu)⟩
  ·cases h
structure Ud (P:Program) (C:Cx) (GB:Nat) (GC:Nat->Nat->Option Value):Prop where
 ok:∀(B:World) (S:Nat->Nat->Prop) (I:List (Nat×(Nat×Nat))) (sn:Nat) (σ0:Nat->Value),GB<=B.heap.size->P5 ⟨P,C,B,S,GB,GC,I,sn,σ0⟩
 il:∀f i,lk f C.inl=some i->(∀args w,(callFunc f args).run P w= .ok (.enter f args) w)/\∃fn,P.funcs[f]? = some fn/\fn.body=some i.c/\fn.ntmps=i.nt/\fn.results.toList=i.cA
def PIn:Et->List Int->Prop
 | .int k,xs=>∃x,xs= [x]/\IJ k x
 | .bool,xs=>∃x,xs= [x]
 | .mem ks _ _,xs=>EP ks xs
 | .agg ks,xs=>EP ks xs
 | .sl ks _ _,xs=>EP ks xs
 | .fL ks _ _,xs=>EP ks xs
def J8:List Et->List (List Int)->Prop
 | [],[]=>True
 |p::ps,x::xs=>PIn p x/\J8 ps xs
 |_,_=>False
theorem Yc{GB:Nat}{w:World}:∀ {ps:List Et} {vs:List Value} {xs:List (List Int)} {bs:List (Nat×Nat)},Jg GB w ps vs xs bs->J8 ps xs
 | [],[],[],[],_=>trivial
 |p::ps,v::vs,x::xs,b::bs,h=>by
  refine⟨?_,Yc h.2⟩;have h1:=h.1;cases p with
  |int k=>obtain⟨y,h2,_,h3⟩:=h1;exact⟨y,h2,h3⟩
  |bool=>obtain⟨y,h2,_⟩:=h1;exact⟨y,h2⟩
  |mem ks g wr=>exact h1.2.1.1
  |agg ks=>exact h1.1
  |sl ks g wr=>obtain⟨c,_,_,h2,_⟩:=h1;exact h2.1
  |fL ks g wr=>obtain⟨m,c,_,_,h2,_⟩:=h1;exact h2.1
def Ze(C:Cx)(n:Nat)(c:Code)(nt:Nat)(cA:List ResultVar)(cq:fP)(s:Az)(hyp:List (List Int)->Prop):Prop:=
 ∀(ins:List (List Int)) (ρ:Bu),J8 s.params ins->hyp ins->(∀i,i<s.params.length->ρ i=ins.getD i [])->
  (OC C n [] c (ZQ s.params cq nt)).Holds C.T (xM C s cA ins) ρ
theorem AKy{P:Program}{C:Cx}{GB:Nat}{GC:Nat->Nat->Option Value}(hC:Ud P C GB GC){f:Nat}{fn:Func}{c:Code}{s:Az}{cq:fP}{hyp:List (List Int)->Prop}{n:Nat}{ad:Nat->Nat×Nat}
  (hf:P.funcs[f]? = some fn) (hb:fn.body=some c) (μ:∀E:En,E.P=P->E.C=C->E.GB=GB->E.GC=GC->Ip E c/\∀f i,lk f C.inl=some i->Ip E i.c) (lB:Iu s.outs 0 s.params=true) (gS:Q8 GC ad cq) (ia:∀x∈cq,(FY ad x.1).1<GB) (xd:s.params.length<=fn.ntmps) (gE:s.params.length<=500)
  (ht:Ze C n c fn.ntmps fn.results.toList cq s hyp):
  ∀(args:List Value) (ins:List (List Int)) (bs:List (Nat×Nat)) (w:World),GW GC w->GB<=w.heap.size->Jg GB w s.params args ins bs->Ep s.params bs->hyp ins->
   Calls P f args.toArray w λe w'=>∃fb vs,e= .returned (Od vs)/\Xw GC s args ins bs w fb vs w':=by
 intro args ins bs w ε δ hP hS hy;have hE:=hC.ok w (Xf s bs) (i0 bs 0 s.params) s.params.length (λi=>args.getD i undef) δ;have j0:=jy (P:=P) (C:=C) (cq:=cq) (nt:=fn.ntmps) hE.gc ε δ hP hS lB gS ia xd gE;refine calls_of_wp hf hb ?_;have hρ0:∀ ρ',Im (2*s.params.length) (v0 ad s.params.length args ins bs cq).ρ ρ'->∀i,i<s.params.length->ρ' i=ins.getD i []:=fun ρ' h i hi=>by
  rw[h i (by omega)];simp[v0,hi]
 have hT:(OC C n [] c (ZQ s.params cq fn.ntmps)).cv C.T (fun ρ ex st=>Im (2*s.params.length) (v0 ad s.params.length args ins bs cq).ρ ρ/\xM C s fn.results.toList ins ρ ex st) (2*s.params.length) (v0 ad s.params.length args ins bs cq).ρ:=fun ρ' h=>
  JD (λex st hh=>⟨h,hh⟩) (ht ins ρ' (Yc hP) hy (hρ0 ρ' h))
 have HI:=μ ⟨P,C,w,Xf s bs,GB,GC,i0 bs 0 s.params,s.params.length,λi=>args.getD i undef⟩ rfl rfl rfl rfl;have hex:=YY hE hC.il HI.2 n (i0 bs 0 s.params) s.params.length (λi=>args.getD i undef) _ [] c _ _ _ _ (λx hx=>(by cases hx)) trivial HI.1 rfl j0 hT;have cX:args.toArray.size=args.length:=by simp
 rw[cX];refine wp_mono (JR hex) ?_;rintro e a' w' ⟨ex,st,V,hx,φ,Fo,hΦ⟩;obtain⟨gf,hL⟩:=hΦ V.ρ (Im.refl _ _);have key:∀es,Ky C s fn.results.toList st=some es->Ro V.ρ ins es->a'.defers= []/\∃v,(results fn a'.tmps).run P w'= .ok v w'/\∃fb vs,Ending.returned v= .returned (Od vs)/\Xw GC s args ins bs w fb vs w':=by
  intro es nh heq;refine⟨Fo.s.df,?_⟩;unfold Ky at nh;split at nh
  ·cases nh
  rename_i vs n8;split at nh
  ·cases nh
  rename_i fr Dd;split at nh
  ·rename_i e1 e2 e3 h1 h2 h3;simp only[Ai] at nh;subst nh;obtain⟨rh,q3⟩:=MC.1 heq;obtain⟨q1,q2⟩:=MC.1 rh;obtain⟨r1,r2⟩:=Xb hE φ Fo n8;have hm:Oc ⟨P,C,w,Xf s bs,GB,GC,i0 bs 0 s.params,s.params.length,λi=>args.getD i undef⟩ st.rg V w':=Fo.s.m;have abh:=xQ h1 q1;obtain⟨g1,g2,g3⟩:=fG h2 q2;have hνp:∀(i:Nat) (p:Et),s.params[i]? = some p->p.cp≠none->V.ν i=bs.getD i (0,0):=λi p hp hn=>by
    have:=Xa (bs:=bs) (i:=0) hp hn;rw[KN] at this;exact(Fo.kp _ this).2
   have hνo:∀p∈s.outs,V.ν p.1=bs.getD p.1 (0,0)/\p.1<s.params.length:=λp hp=>by
    have:=(abh p hp).1;unfold mI at this;split at this
    ·rename_i q hq;exact⟨hνp _ q hq (λe=>by rw[e] at this;cases this),(Oa.1 hq).1⟩
    ·cases this
   have tE:∀(j l:Nat) (p:List IntKind×PF),fr[j]? = some l->s.fresh[j]? = some p->∃r∈st.rg,r.id=l/\r.wr=true/\r.fR=0/\r.cs.length=p.1.length/\0<p.1.length/\s.params.length<=l/\AO true w' (V.ν l) p.1 (p.2 ins):=λj l p hl hp=>by
    obtain⟨k1,k2,⟨g,k3,k4,k5⟩,xs,k6,k7⟩:=g2 j l p hl hp;obtain⟨r,m1,m2,m3,m4,m5,m6⟩:=Xg hm k6;rw[k3] at m4;cases m4;rw[k7] at m6;exact⟨g,m1,m2,m3,k4,k5,k2,k1,m6⟩
   refine⟨Od (vs.map (·.den V)),?_,fr.map V.ν,vs.map (·.den V),rfl,?_,?_,?_,Fo.s.m.an,?_,?_,?_,Fo.s.m.gw⟩
   ·have aaf:results fn a'.tmps=(do
      let vs <- fn.results.mapM (U6 a')
      pure (if h:vs.size=1 then vs[0] else .tuple vs)):=by
     unfold results
     congr 1
    rw[aaf];rw[Array.mapM_eq_mapM_toList];simp only[map_eq_pure_bind,bind_assoc,pure_bind,Gi,r1,Fb,I4];cases vs with
    |nil=>rfl
    |cons v vs=>
     cases vs with
     |nil=>rfl
     |cons u vs=>rfl
   ·simp[g1]
   ·intro b hb;obtain⟨l,hl,rfl⟩:=Us.1 hb;obtain⟨j,hj,rfl⟩:=kY hl;have hj2:j<s.fresh.length:=by omega
    obtain⟨r,m1,m2,m3,m4,m5,m6,m7,m8⟩:=tE j _ _ (Io hj) (Io hj2);obtain⟨c1,c2⟩:=hm.so r m1 m3;rw[m2] at c2;rcases c2 0 (by omega) with h|⟨p,hp,s1,s2,s3⟩
    ·exact h
    ·exfalso;obtain⟨zE,xs,oY,hp3⟩:=abh p hp;obtain⟨r2,n1,n2,n3,n4,n5,n6⟩:=Xg hm oY;obtain⟨o1,o2⟩:=hνo p hp;have ju:=hm.sep r m1 r2 n1 m3 (by omega);unfold uZ at ju;rcases ju with⟨_,h,_⟩|hd
     ·exact h m4
     ·rw[m2,n2,o1] at hd;unfold ZH at hd;omega
   ·intro i j p q b c hp hq hb hc ue;rw[Ng,Yg] at hb hc;obtain⟨l,hl,rfl⟩:=hb;obtain⟨m,gO,rfl⟩:=hc;obtain⟨r,m1,m2,m3,m4,m5,m6,m7,m8⟩:=tE i l p hl hp;obtain⟨r',m1',m2',m3',m4',m5',m6',m7',m8'⟩:=tE j m q gO hq;have cj:l≠m:=by
     rcases Nat.lt_or_gt_of_ne ue with h|h
     ·exact g3 i j l m hl gO h
     ·exact(g3 j i m l gO hl h).symm
    have ju:=hm.sep r m1 r' m1' m3 (by omega);unfold uZ at ju;rcases ju with⟨_,h,_⟩|hd
    ·exact absurd m4 h
    ·rw[m2,m2',m5,m5'] at hd;exact hd
   ·intro p hp;obtain⟨zE,xs,oY,hp3⟩:=abh p hp;obtain⟨r2,n1,n2,n3,n4,n5,n6⟩:=Xg hm oY;rw[(hνo p hp).1,hp3] at n6;exact n6
   ·intro j p b hp hb;rw[Ng,Yg] at hb;obtain⟨l,hl,rfl⟩:=hb;obtain⟨r,m1,m2,m3,m4,m5,m6,m7,m8⟩:=tE j l p hl hp;exact m8
   ·refine nV (λi u hu=>?_) h3 q3 r2;obtain⟨j,p,e1,e2,e3⟩:=iN hu;rw[KN] at e1;subst e1;obtain⟨v,x,b,p1,p2,p3,p4⟩:=QL hP _ p e2;have bj:i<s.params.length:=(Oa.1 e2).1;rw[p1];have hi:V.ρ i=x:=by rw[gf i (by omega)];simp only[v0,bj,if_true];exact GH p2
    cases p with
    |int k=>
     simp only[FI,SV.t.injEq,TV.l.injEq] at e3;subst e3;obtain⟨y,rfl,rfl,_⟩:=p4;simp only[LV.cP,X.den,hi];rfl
    |bool=>
     simp only[FI,SV.t.injEq,TV.l.injEq] at e3;subst e3;obtain⟨y,rfl,rfl⟩:=p4;simp only[LV.ca,X.den,hi];rfl
    |mem ks g wr=>
     simp only[FI,SV.t.injEq,TV.l.injEq] at e3;subst e3;obtain⟨rfl,_⟩:=p4;rw[LV.cx,hνp _ _ e2 (by simp[Et.cp]),GH p3];rfl
    |agg ks=>simp[FI] at e3
    | sl ks g wr=>
     simp only[FI,SV.t.injEq,TV.l.injEq] at e3;subst e3;obtain⟨c,rfl,_⟩:=p4;have hc:V.ρ (s.params.length+i)= [(c:Int)]:=by
      rw[gf _ (by omega)];simp only[v0];rw[if_neg (by omega),show s.params.length+i-s.params.length=i by omega,GH p1];rfl
     rw[LV.cE,hνp _ _ e2 (by simp[Et.cp]),GH p3];simp only[CX.den,X.den,hc,QO,Nat.sub_zero];rfl
    |fL ks g wr=>
     simp only[FI,SV.t.injEq,TV.l.injEq] at e3;subst e3;simp only[LV.den];rw[Fo.ks i (show i<s.params.length from bj)];show some v=some (args.getD i undef);rw[GH p1]
  ·cases nh
 cases hx with
 |normal=>
  simp only[xM] at hL;split at hL
  ·rename_i es nh;exact key es nh hL
  ·exact hL.elim
 |exit id=>exact hL.elim
 |ret=>
  simp only[xM] at hL;split at hL
  ·rename_i es nh;exact key es nh hL
  ·exact hL.elim
end
section
open Go
def Df(T:Tb):Bu->List (Nat×FT)->Bu
 |ρ,[]=>ρ
 |ρ,(n,d)::r=>Df T (λi=>if i=n then d.den T ρ else ρ i) r
def Wu(T:Tb):Be->Bu->Option (Bu×St)
 | .leaf _ st,ρ=>some (ρ,st)
 | .ep ds _ t,ρ=>Wu T t (Df T ρ ds)
 | .br x t f,ρ=>if x.den ρ=0 then Wu T f ρ else Wu T t ρ
 | .gr f as t e,ρ=>match lk f T with
  |some fe=>cond (fe.j7 (as.map (·.den ρ))) (Wu T t ρ) (Wu T e ρ)
  |none=>none
 | .cN _ k,ρ=>Wu T k ρ
 | .bad _,_=>none
def Cv(T:Tb):Be->Bu->Prop
 | .leaf _ _,_=>True
 | .ep ds ob t,ρ=>(∀q∈ob,q.den T (Df T ρ ds))/\Cv T t (Df T ρ ds)
 | .br x t f,ρ=>(x.den ρ=0->Cv T f ρ)/\(x.den ρ≠0->Cv T t ρ)
 | .gr f as t e,ρ=>match lk f T with
  |some fe=>(fe.j7 (as.map (·.den ρ))=true->Cv T t ρ)/\(fe.j7 (as.map (·.den ρ))=false->Cv T e ρ)
  |none=>False
 | .cN t k,ρ=>Cv T t ρ/\Cv T k ρ
 | .bad _,_=>False
def BK(ins:List (List Int)):Bu:=λi=>ins.getD i []
def fY(m i:Nat):Bool:=Nat.beq (Nat.land (Nat.shiftRight m i) 1) 1
def X.fY(m:Nat):X->Bool
 | .lit _=>true
 | .v i _=>Go.Proofs.YtkbfdaoohhmgoaaGreatDoor.fY m i
def Hy.fY(m:Nat):Hy->Bool
 | .vec j=>Go.Proofs.YtkbfdaoohhmgoaaGreatDoor.fY m j
 | .xs l=>l.all (·.fY m)
def mK(m n:Nat):Nat:=Nat.lor m (Nat.shiftLeft 1 n)
def uj:Nat->List (Nat×FT)->Option Nat
 |m,[]=>some m
 |m,(n,d)::r=>bif d.args.all (·.fY m) then uj (mK m n) r else none
def I1.fY(m:Nat):I1->Bool
 | .fy x _=>x.fY m
 | .u9 x=>x.fY m
 | .ux x=>x.fY m
 | .nz x=>x.fY m
 | .zr x=>x.fY m
 | .pre _ as=>as.all (·.fY m)
def jl(T:Tb):Nat->Be->Bool
 |_,.leaf _ _=>true
 |m,.ep ds ob t=>(match uj m ds with
  |some m'=>ob.all (·.fY m')&&jl T m' t
  |none=>false)
 |m,.br x t f=>x.fY m&&jl T m t&&jl T m f
 |m,.gr f as t e=>as.all (·.fY m)&&(lk f T).isSome&&jl T m t&&jl T m e
 |m,.cN t k=>jl T m t&&jl T m k
 |_,.bad _=>false
def Ua(T:Tb)(L:Ex->St->Option SY):Nat->Be->Bool
 |m,.leaf e st=>(match L e st with
  |some es=>es.all λe=>e.1.all (·.fY m)
  |none=>false)
 |m,.ep ds ob t=>(match uj m ds with
  |some m'=>ob.all (·.fY m')&&Ua T L m' t
  |none=>false)
 |m,.br x t f=>x.fY m&&Ua T L m t&&Ua T L m f
 |m,.gr f as t e=>as.all (·.fY m)&&(lk f T).isSome&&Ua T L m t&&Ua T L m e
 |m,.cN t k=>jl T m t&&Ua T L m k
 |_,.bad _=>false
def tL:Nat->List (Nat×FT)->Option Nat
 |m,[]=>some m
 |m,(n,d)::r=>match d.op with
  | .qq=>tL (mK m n) r
  | .pZ=>tL (mK m n) r
  |_=>bif fY m n then none else tL m r
def iV(m:Nat):I1->Bool
 | .ux (.lit n)=>H5 n 0||H5 n 1
 | .ux (.v n k)=>Nat.beq k 1&&fY m n
 |_=>false
def NL:Nat->Be->Bool
 |_,.leaf _ _=>true
 |m,.ep ds ob t=>(match tL m ds with
  |some m'=>ob.all (iV m')&&NL m' t
  |none=>false)
 |m,.br _ t f=>NL m t&&NL m f
 |m,.gr _ _ t e=>NL m t&&NL m e
 |m,.cN t k=>NL m t&&NL m k
 |_,.bad _=>true
def ADA(t:Be):Bool:=NL 0 t
def RM(m:Nat)(ρ ρc:Bu):Prop:=∀i,fY m i=true->ρ i=ρc i
theorem X.cy{m:Nat}{ρ ρc:Bu}(h:RM m ρ ρc){x:X}(hx:x.fY m=true):x.den ρ=x.den ρc:=by
 cases x with
 |lit n=>rfl
 |v i k=>simp only[X.den];rw[h i hx]
theorem Hy.cy{m:Nat}{ρ ρc:Bu}(h:RM m ρ ρc){x:Hy}(hx:x.fY m=true):x.den ρ=x.den ρc:=by
 cases x with
 |vec j=>exact h j hx
 |xs l=>
  simp only[Hy.den];exact fT λx eg=>X.cy h (Kh.1 hx x eg)
theorem nc.cy{m:Nat}{ρ ρc:Bu}(h:RM m ρ ρc){l:List Hy}(hx:l.all (·.fY m)=true):l.map (·.den ρ)=l.map (·.den ρc):=
 fT λx eg=>Hy.cy h (Kh.1 hx x eg)
theorem Td(m i:Nat):fY m i=m.testBit i:=by
 unfold fY Nat.testBit;show Nat.beq ((m >>> i) &&& 1) 1=(1 &&& (m >>> i) != 0);rw[Nat.and_comm 1];have h:(m >>> i) &&& 1=(m >>> i)%2:=Nat.and_one_is_mod _;rw[h];rcases Nat.mod_two_eq_zero_or_one (m >>> i) with h|h<;>rw[h]<;>rfl
theorem wQ(m n i:Nat):fY (mK m n) i=(fY m i||decide (i=n)):=by
 rw[Td,Td];show(m ||| 1 <<< n).testBit i=_;rw[Nat.testBit_or,Nat.shiftLeft_eq,Nat.one_mul,Nat.testBit_two_pow]
 congr 1
 by_cases h:n=i
 ·subst h;simp
 ·simp[h,Ne.symm h]
theorem YV{T:Tb}:∀ {ds:List (Nat×FT)} {m m':Nat} {ρ ρc:Bu},uj m ds=some m'->RM m ρ ρc->Vg T ρ ds->RM m' ρ (Df T ρc ds)
 | [],m,m',ρ,ρc,h,hr,_=>by
  simp only[uj,Ai] at h;subst h;exact hr
 | (n,d)::r,m,m',ρ,ρc,h,hr,hd=>by
  unfold uj at h;cases hb:d.args.all (·.fY m) with
  |false=>rw[hb] at h;cases h
  | true=>
   rw[hb,cond_true] at h;show RM m' ρ (Df T (λi=>if i=n then d.den T ρc else ρc i) r);refine YV h (λi hi=>?_) (λp hp=>hd p (MN _ hp));rw[wQ] at hi;by_cases e:i=n
   ·subst e;simp only[if_true];rw[hd (i,d) Jv];simp only[FT.den,nc.cy hr hb]
   ·simp only[e,if_false];exact hr i (by simpa[e] using hi)
theorem I1.cy{T:Tb}{m:Nat}{ρ ρc:Bu}(h:RM m ρ ρc){q:I1}(hq:q.fY m=true):q.den T ρ↔q.den T ρc:=by
 cases q with
 |fy x n=>simp only[I1.den];rw[X.cy h hq]
 |u9 x=>simp only[I1.den];rw[X.cy h hq]
 |ux x=>simp only[I1.den];rw[X.cy h hq]
 |nz x=>simp only[I1.den];rw[X.cy h hq]
 |zr x=>simp only[I1.den];rw[X.cy h hq]
 |pre f as=>simp only[I1.den];rw[nc.cy h hq]
theorem KV{T:Tb}{ρ:Bu}:∀ {t:Be} {m:Nat} {ρc:Bu},jl T m t=true->RM m ρ ρc->Cv T t ρc->t.fp T ρ
 | .leaf e st,m,ρc,h,hr,_=>trivial
 | .ep ds ob t,m,ρc,h,hr,ho=>λhd=>by
  unfold jl at h;split at h
  ·rename_i m' hm;simp only[Bj] at h;have cG:=YV hm hr hd;exact⟨λq hq=>(I1.cy cG (Kh.1 h.1 q hq)).2 (ho.1 q hq),KV h.2 cG ho.2⟩
  ·cases h
 | .br x t f,m,ρc,h,hr,ho=>by
  simp only[jl,Bj] at h;have hx:=X.cy hr h.1.1;refine⟨λcj=>?_,λhe=>?_⟩
  ·rw[hx] at cj;exact KV h.1.2 hr (ho.2 cj)
  ·rw[hx] at he;exact KV h.2 hr (ho.1 he)
 | .gr f as t e,m,ρc,h,hr,ho=>by
  simp only[jl,Bj] at h;have hx:=nc.cy hr h.1.1.1;unfold Cv at ho;unfold Be.fp;cases hf:lk f T with
  |none=>rw[hf] at ho;exact ho.elim
  |some fe=>
   rw[hf] at ho;simp only at ho ⊢;rw[hx];exact⟨λhc=>KV h.1.2 hr (ho.1 hc),λhc=>KV h.2 hr (ho.2 hc)⟩
 | .cN t k,m,ρc,h,hr,ho=>by
  simp only[jl,Bj] at h;exact⟨KV h.1 hr ho.1,KV h.2 hr ho.2⟩
 | .bad _,m,ρc,h,_,_=>by cases h
theorem ME{T:Tb}{L:Ex->St->Option SY}{Φ:Bu->Ex->St->Prop}{ρ:Bu}{ρL:Bu}{oR:St}
  (hΦ:∀ex st m,Ua T L m (.leaf ex st)=true->RM m ρ ρL->st=oR->Φ ρ ex st):∀ {t:Be} {m:Nat} {ρc:Bu},Ua T L m t=true->RM m ρ ρc->Cv T t ρc->Wu T t ρc=some (ρL,oR)->t.Holds T Φ ρ
 | .leaf e st,m,ρc,h,hr,_,hv=>by
  simp only[Wu,Ai,Prod.mk.injEq] at hv;obtain⟨rfl,rfl⟩:=hv;exact hΦ e st m h hr rfl
 | .ep ds ob t,m,ρc,h,hr,ho,hv=>λhd=>by
  unfold Ua at h;split at h
  ·rename_i m' hm;simp only[Bj] at h;have cG:=YV hm hr hd;exact⟨λq hq=>(I1.cy cG (Kh.1 h.1 q hq)).2 (ho.1 q hq),ME hΦ h.2 cG ho.2 hv⟩
  ·cases h
 | .br x t f,m,ρc,h,hr,ho,hv=>by
  simp only[Ua,Bj] at h;have hx:=X.cy hr h.1.1;refine⟨λcj=>?_,λhe=>?_⟩
  ·rw[hx] at cj;simp only[Wu,if_neg cj] at hv;exact ME hΦ h.1.2 hr (ho.2 cj) hv
  ·rw[hx] at he;simp only[Wu,if_pos he] at hv;exact ME hΦ h.2 hr (ho.1 he) hv
 | .gr f as t e,m,ρc,h,hr,ho,hv=>by
  simp only[Ua,Bj] at h;have hx:=nc.cy hr h.1.1.1;unfold Cv at ho;unfold Wu at hv;unfold Be.Holds;cases hf:lk f T with
  |none=>rw[hf] at ho;exact ho.elim
  |some fe=>
   rw[hf] at ho hv;simp only at ho hv ⊢;rw[hx];refine⟨λhc=>?_,λhc=>?_⟩
   ·rw[hc] at hv;exact ME hΦ h.1.2 hr (ho.1 hc) hv
   ·rw[hc] at hv;exact ME hΦ h.2 hr (ho.2 hc) hv
 | .cN t k,m,ρc,h,hr,ho,hv=>by
  simp only[Ua,Bj] at h;exact⟨KV h.1 hr ho.1,ME hΦ h.2 hr ho.2 hv⟩
 | .bad _,m,ρc,h,_,_,_=>by cases h
theorem OA{T:Tb}{L:Ex->St->Option SY}:∀ {t:Be} {m:Nat} {ρc:Bu},Ua T L m t=true->∃ ρL oR,Wu T t ρc=some (ρL,oR)
 | .leaf e st,m,ρc,_=>⟨_,_,rfl⟩
 | .ep ds ob t,m,ρc,h=>by
  unfold Ua at h;split at h
  ·simp only[Bj] at h;show ∃ ρL oR,Wu T t (Df T ρc ds)=some (ρL,oR);exact OA h.2
  ·cases h
 | .br x t f,m,ρc,h=>by
  simp only[Ua,Bj] at h;unfold Wu;split
  ·exact OA h.2
  ·exact OA h.1.2
 | .gr f as t e,m,ρc,h=>by
  simp only[Ua,Bj] at h;unfold Wu;cases hf:lk f T with
  |none=>rw[hf] at h;simp at h
  |some fe=>
   simp only;cases fe.j7 (as.map (·.den ρc)) with
   |true=>exact OA h.1.2
   |false=>exact OA h.2
 | .cN t k,m,ρc,h=>by
  simp only[Ua,Bj] at h;exact OA (t:=k) h.2
 | .bad _,m,ρc,h=>by cases h
def pQ(m:Nat)(ρ:Bu):Prop:=∀n,fY m n=true->(ρ n).getD 1 0=0\/(ρ n).getD 1 0=1
theorem WQ{T:Tb}:∀ {ds:List (Nat×FT)} {m m':Nat} {ρ:Bu},tL m ds=some m'->pQ m ρ->pQ m' (Df T ρ ds)
 | [],m,m',ρ,h,hc=>by
  simp only[tL,Ai] at h;subst h;exact hc
 | (n,d)::r,m,m',ρ,h,hc=>by
  show pQ m' (Df T (λi=>if i=n then d.den T ρ else ρ i) r);have carry:((d.den T ρ).getD 1 0=0\/(d.den T ρ).getD 1 0=1)->pQ (mK m n) (λi=>if i=n then d.den T ρ else ρ i):=λhd i hi=>by
   rw[wQ] at hi;by_cases e:i=n
   ·simp only[e,if_true];exact hd
   ·simp only[e,if_false];exact hc i (by simpa[e] using hi)
  have dc:fY m n=false->pQ m (λi=>if i=n then d.den T ρ else ρ i):=λhn i hi=>by
   by_cases e:i=n
   ·rw[e,hn] at hi;cases hi
   ·simp only[e,if_false];exact hc i hi
  obtain⟨op,args⟩:=d;unfold tL at h;simp only at h;split at h
  ·refine WQ h (carry ?_);simp only[FT.den,NR.den,aa,Qx];split<;>simp
  ·refine WQ h (carry ?_);simp only[FT.den,NR.den,aa,Qx];split<;>simp
  ·cases hb:fY m n with
   |true=>rw[hb] at h;cases h
   |false=>rw[hb,cond_false] at h;exact WQ h (dc hb)
theorem fA{T:Tb}{m:Nat}{ρ:Bu}(hc:pQ m ρ){q:I1}(h:iV m q=true):q.den T ρ:=by
 cases q with
 | ux x=>
  cases x with
  |lit n=>
   simp only[iV,Bool.or_eq_true] at h;rcases h with h|h
   ·exact .inl (Ls h)
   ·exact .inr (Ls h)
  |v n k=>
   simp only[iV,Bj] at h;have:=Ca h.1;subst this;exact hc n h.2
 |fy x n=>cases h
 |u9 x=>cases h
 |nz x=>cases h
 |zr x=>cases h
 |pre f as=>cases h
theorem Lh{T:Tb}:∀ {t:Be} {m c:Nat} {ρ:Bu},jl T m t=true->NL c t=true->pQ c ρ->Cv T t ρ
 | .leaf _ _,m,c,ρ,_,_,_=>trivial
 | .ep ds ob t,m,c,ρ,h,hn,hc=>by
  unfold jl at h;split at h
  ·simp only[Bj] at h;unfold NL at hn;split at hn
   ·rename_i c' j8;simp only[Bj] at hn;have:=WQ (T:=T) j8 hc;exact⟨λq hq=>fA this (Kh.1 hn.1 q hq),Lh h.2 hn.2 this⟩
   ·cases hn
  ·cases h
 | .br x t f,m,c,ρ,h,hn,hc=>by
  simp only[jl,Bj] at h;simp only[NL,Bj] at hn;exact⟨λ_=>Lh h.2 hn.2 hc,λ_=>Lh h.1.2 hn.1 hc⟩
 | .gr f as t e,m,c,ρ,h,hn,hc=>by
  simp only[jl,Bj] at h;simp only[NL,Bj] at hn;unfold Cv;cases hf:lk f T with
  |none=>rw[hf] at h;simp at h
  |some fe=>exact⟨λ_=>Lh h.1.2 hn.1 hc,λ_=>Lh h.2 hn.2 hc⟩
 | .cN t k,m,c,ρ,h,hn,hc=>by
  simp only[jl,Bj] at h;simp only[NL,Bj] at hn;exact⟨Lh h.1 hn.1 hc,Lh h.2 hn.2 hc⟩
 | .bad _,m,c,ρ,h,_,_=>by cases h
theorem Po{T:Tb}{L:Ex->St->Option SY}:∀ {t:Be} {m c:Nat} {ρ:Bu},Ua T L m t=true->NL c t=true->pQ c ρ->Cv T t ρ
 | .leaf _ _,m,c,ρ,_,_,_=>trivial
 | .ep ds ob t,m,c,ρ,h,hn,hc=>by
  unfold Ua at h;split at h
  ·simp only[Bj] at h;unfold NL at hn;split at hn
   ·rename_i c' j8;simp only[Bj] at hn;have:=WQ (T:=T) j8 hc;exact⟨λq hq=>fA this (Kh.1 hn.1 q hq),Po h.2 hn.2 this⟩
   ·cases hn
  ·cases h
 | .br x t f,m,c,ρ,h,hn,hc=>by
  simp only[Ua,Bj] at h;simp only[NL,Bj] at hn;exact⟨λ_=>Po h.2 hn.2 hc,λ_=>Po h.1.2 hn.1 hc⟩
 | .gr f as t e,m,c,ρ,h,hn,hc=>by
  simp only[Ua,Bj] at h;simp only[NL,Bj] at hn;unfold Cv;cases hf:lk f T with
  |none=>rw[hf] at h;simp at h
  |some fe=>exact⟨λ_=>Po h.1.2 hn.1 hc,λ_=>Po h.2 hn.2 hc⟩
 | .cN t k,m,c,ρ,h,hn,hc=>by
  simp only[Ua,Bj] at h;simp only[NL,Bj] at hn;exact⟨Lh h.1 hn.1 hc,Po h.2 hn.2 hc⟩
 | .bad _,m,c,ρ,h,_,_=>by cases h
theorem AGH{T:Tb}{L:Ex->St->Option SY}{t:Be}{m:Nat}{ρ:Bu}(h:Ua T L m t=true)(hn:ADA t=true):Cv T t ρ:=
 Po h hn (λn hn=>by simp[fY,Nat.zero_shiftRight] at hn)
end
section
open Go
def BF(n:Nat)(xs:List Int):List Int:=(List.range n).map λi=>xs.getD i 0
theorem Sw(n:Nat)(xs:List Int):(BF n xs).length=n:=by simp[BF]
theorem Ay{n:Nat}{xs:List Int}(h:xs.length=n):BF n xs=xs:=by
 apply List.ext_getElem?;intro i;unfold BF;by_cases hi:i<n
 ·rw[Ng,List.getElem?_range hi,Io (by omega)];simp[List.getD,Io (show i<xs.length by omega)]
 ·rw[List.getElem?_eq_none (by simp;omega),List.getElem?_eq_none (by omega)]
abbrev Sj:=Nat->List (List Int)->List Int
def QE(F:Sj):Nat->List (Nat×List IntKind×PF)->List (Nat×List IntKind×PF)
 |_,[]=>[]
 |k,(i,ks,_)::r=>(i,ks,λa=>BF ks.length (F k a))::QE F (k+1) r
def ZG(F:Sj):Nat->List (List IntKind×PF)->List (List IntKind×PF)
 |_,[]=>[]
 |k,(ks,_)::r=>(ks,λa=>BF ks.length (F k a))::ZG F (k+1) r
def I8(F:Sj):Nat->List Pq->List Pq
 |_,[]=>[]
 |k,.int κ _::r=>.int κ (λa=>d1 (F k a))::I8 F (k+1) r
 |k,.bool _::r=>.bool (λa=>d1 (F k a))::I8 F (k+1) r
 |k,.agg ks _::r=>.agg ks (λa=>BF ks.length (F k a))::I8 F (k+1) r
 |k,.cF i::r=>.cF i::I8 F k r
 |k,.kA j::r=>.kA j::I8 F k r
 |k,.nil::r=>.nil::I8 F k r
 |k,.ej::r=>.ej::I8 F k r
 |k,.Hp j n c::r=>.Hp j n c::I8 F k r
 |k,.slP j n c::r=>.slP j n c::I8 F k r
 |k,.err::r=>.err::I8 F k r
 |k,.LL j n::r=>.LL j n::I8 F k r
def Kc(s0:Az)(F:Sj)(hp:Bool)(pre:List (List Int)->Prop):Az where
 params:=s0.params
 hp:=hp
 pre:=pre
 outs:=QE F 0 s0.outs
 fresh:=ZG F s0.outs.length s0.fresh
 ret:=I8 F (s0.outs.length+s0.fresh.length) s0.ret
def Ru(C:Cx)(s0:Az)(cA:List ResultVar)(t:Be):Sj:=λk ins=>
 match Wu C.T t (BK ins) with
 | some (ρ,st)=>(match Ky C s0 cA st with
  |some es=>(match es[k]? with
   |some e=>e.1.map (·.den ρ)
   |none=>[])
  |none=>[])
 |none=>[]
theorem Eh(s0:Az)(F:Sj)(hp:Bool)(pre:List (List Int)->Prop):OJ (Kc s0 F hp pre):=by
 have ho:∀(l:List (Nat×List IntKind×PF)) (k:Nat) (ins:List (List Int)),∀p∈QE F k l,(p.2.2 ins).length=p.2.1.length:=by
  intro l
  induction l with
  |nil=>intro k ins p hp;cases hp
  |cons x r ih=>
   intro k ins p hp;obtain⟨i,ks,f⟩:=x;rcases G9.1 hp with rfl|hp
   ·exact Sw _ _
   ·exact ih _ ins p hp
 have hf:∀(l:List (List IntKind×PF)) (k:Nat) (ins:List (List Int)),∀p∈ZG F k l,(p.2 ins).length=p.1.length:=by
  intro l
  induction l with
  |nil=>intro k ins p hp;cases hp
  |cons x r ih=>
   intro k ins p hp;obtain⟨ks,f⟩:=x;rcases G9.1 hp with rfl|hp
   ·exact Sw _ _
   ·exact ih _ ins p hp
 have hr:∀(l:List Pq) (k:Nat) (ins:List (List Int)),∀ks f,Pq.agg ks f∈I8 F k l->(f ins).length=ks.length:=by
  intro l
  induction l with
  |nil=>intro k ins ks f h;cases h
  | cons x r ih=>
   intro k ins ks f h;cases x<;>simp only[I8,G9] at h
   case agg ξ f'=>
    rcases h with h|h
    ·simp only[Pq.agg.injEq] at h;obtain⟨rfl,rfl⟩:=h;exact Sw _ _
    ·exact ih _ ins ks f h
   all_goals
    rcases h with h|h
    ·cases h
    ·exact ih _ ins ks f h
 exact λins _=>⟨ho _ _ ins,hf _ _ ins,hr _ _ ins⟩
theorem Zq{rg:List Rg}{l:Nat}{ks:List IntKind}{xs:List X}(h:TI rg l ks=some xs):xs.length=ks.length:=by
 unfold TI at h;split at h
 ·rename_i r hr;cases hw:r.wr with
  |false=>rw[hw] at h;cases h
  | true=>
   rw[hw,cond_true] at h;split at h
   ·rename_i cs cS;split at h
    ·rename_i ξ xs' hx;cases hk:Jp ks ξ with
     |false=>rw[hk] at h;cases h
     |true=>
      rw[hk,cond_true,Ai] at h;subst h;have:=(LJ (V:=⟨λ_=>[],λ_=>(0,0),λ_=>undef⟩) hx hk).2.2;simpa using this
    ·cases h
   ·cases h
 ·cases h
def Tk(F:Sj)(k:Nat)(Ω:SY)(ins:List (List Int))(ρ:Bu):Prop:=∀(j:Nat) (e:List X×PF),Ω[j]? = some e->F (k+j) ins=e.1.map (·.den ρ)
theorem Tk.tail{F:Sj}{k:Nat}{e:List X×PF}{es:SY}{ins:List (List Int)}{ρ:Bu}(h:Tk F k (e::es) ins ρ):Tk F (k+1) es ins ρ:=λj e' hj=>by
 have:=h (j+1) e' (by simpa using hj);rwa [show k+(j+1)=k+1+j by omega] at this
theorem Tk.aaS{F:Sj}{k:Nat}{a b:SY}{ins:List (List Int)}{ρ:Bu}(h:Tk F k (a++b) ins ρ):Tk F k a ins ρ:=λj e hj=>
 h j e (by rw[gZ (Oa.1 hj).1];exact hj)
theorem Tk.aeA{F:Sj}{k:Nat}{a b:SY}{ins:List (List Int)}{ρ:Bu}(h:Tk F k (a++b) ins ρ):Tk F (k+a.length) b ins ρ:=λj e hj=>by
 have:=h (a.length+j) e (by rw[fQ (by omega)];simpa using hj);rwa [<- WZ] at this
theorem gI{F:Sj}{ps:List Et}{rg:List Rg}:∀ {outs:List (Nat×List IntKind×PF)} {Ω:SY} {k:Nat},jV ps rg outs=some Ω->
  Ω.length=outs.length/\∃es,jV ps rg (QE F k outs)=some es/\∀ins ρ,Tk F k Ω ins ρ->Ro ρ ins es
 | [],Ω,k,h=>by
  simp only[jV,Ai] at h;subst h;exact⟨rfl,[],rfl,λ_ _ _=>trivial⟩
 | (i,ks,f)::r,Ω,k,h=>by
  unfold jV at h;split at h
  ·rename_i xs es' h1 h2;cases hb:mI ps i with
   |false=>rw[hb] at h;cases h
   | true=>
    rw[hb,cond_true,Ai] at h;subst h;obtain⟨g0,es,g1,g2⟩:=gI (F:=F) (k:=k+1) h2;refine⟨by simp[g0],(xs,λa=>BF ks.length (F k a))::es,?_,λins ρ hs=>⟨?_,g2 ins ρ hs.tail⟩⟩
    ·simp only[QE,jV,h1,g1,hb,cond_true]
    ·have:=hs 0 (xs,f) rfl;rw[QO] at this;simp only[this];rw[Ay (by rw[UC];exact Zq h1)]
  ·cases h
theorem X8{F:Sj}{rg:List Rg}{np:Nat}:∀ {ls:List Nat} {fr:List (List IntKind×PF)} {Ω:SY} {k:Nat},NP rg np ls fr=some Ω->
  Ω.length=fr.length/\∃es,NP rg np ls (ZG F k fr)=some es/\∀ins ρ,Tk F k Ω ins ρ->Ro ρ ins es
 | [],[],Ω,k,h=>by
  simp only[NP,Ai] at h;subst h;exact⟨rfl,[],rfl,λ_ _ _=>trivial⟩
 | [],_::_,Ω,k,h=>by simp[NP] at h
 |_::_,[],Ω,k,h=>by simp[NP] at h
 | l :: ls,(ks,f)::r,Ω,k,h=>by
  unfold NP at h;generalize hc:frC rg np l ls ks.length=c at h;cases c with
  |false=>cases h
  | true=>
   rw[cond_true] at h;split at h
   ·rename_i xs es' h1 h2;simp only[Ai] at h;subst h;obtain⟨g0,es,g1,g2⟩:=X8 (F:=F) (k:=k+1) h2;refine⟨by simp[g0],(xs,λa=>BF ks.length (F k a))::es,?_,λins ρ hs=>⟨?_,g2 ins ρ hs.tail⟩⟩
    ·unfold ZG NP;rw[hc,cond_true,h1,g1]
    ·have:=hs 0 (xs,f) rfl;rw[QO] at this;simp only[this];rw[Ay (by rw[UC];exact Zq h1)]
   ·cases h
theorem Xd{F:Sj}{j:Nat}:∀ {rs:List Pq} {vs:List TV} {k:Nat},jZ j (I8 F k rs) vs=jZ j rs vs
 | [],vs,k=>rfl
 |r::rs,[],k=>by cases r<;>rfl
 |r::rs,v::vs,k=>by
  cases v with
  |a cs=>cases r<;>simp only[I8,jZ,Xd]
  |l u=>cases r<;>cases u<;>simp only[I8,jZ,Xd]
theorem Y5{F:Sj}{rs:List Pq}{vs:List TV}{k:Nat}:∀ {n j:Nat},qL (I8 F k rs) vs n j=qL rs vs n j
 |0,j=>rfl
 |n+1,j=>by simp only[qL,Xd,Y5]
theorem AFL{tm:List (Nat×SV)}{fr:List Nat}{k:IntKind}{f:PI}{v:TV}{e:SY}(h:Rz tm fr (.int k f) v=some e):∃x,e= [([x],λa=>[f a])]/\∀g,Rz tm fr (.int k g) v=some [([x],λa=>[g a])]:=by
 cases v with
 |a cs=>simp[Rz] at h
 | l u=>
  cases u<;>simp only[Rz,reduceCtorEq] at h
  rename_i k' x;cases hk:sK k k' with
  |false=>rw[hk] at h;cases h
  |true=>
   rw[hk,cond_true,Ai] at h;exact⟨x,h.symm,λg=>by simp only[Rz,hk,cond_true]⟩
theorem AAR{tm:List (Nat×SV)}{fr:List Nat}{f:PI}{v:TV}{e:SY}(h:Rz tm fr (.bool f) v=some e):∃x,e= [([x],λa=>[f a])]/\∀g,Rz tm fr (.bool g) v=some [([x],λa=>[g a])]:=by
 cases v with
 |a cs=>simp[Rz] at h
 |l u=>
  cases u<;>simp only[Rz,reduceCtorEq,Ai] at h
  rename_i x;exact⟨x,h.symm,λg=>rfl⟩
theorem ACS{tm:List (Nat×SV)}{fr:List Nat}{ks:List IntKind}{f:PF}{v:TV}{e:SY}(h:Rz tm fr (.agg ks f) v=some e):∃xs,xs.length=ks.length/\e= [(xs,f)]/\∀g,Rz tm fr (.agg ks g) v=some [(xs,g)]:=by
 cases v with
 |l u=>cases u<;>simp[Rz] at h
 | a cs=>
  simp only[Rz] at h;split at h
  ·rename_i ξ xs hx;cases hk:Jp ks ξ with
   |false=>rw[hk] at h;cases h
   |true=>
    rw[hk,cond_true,Ai] at h;have:=(LJ (V:=⟨λ_=>[],λ_=>(0,0),λ_=>undef⟩) hx hk).2.2;exact⟨xs,by simpa using this,h.symm,λg=>by simp only[Rz,hx,hk,cond_true]⟩
  ·cases h
def AJ4:Pq->Bool
 | .int _ _=>false
 | .bool _=>false
 | .agg _ _=>false
 |_=>true
theorem AHR{tm:List (Nat×SV)}{fr:List Nat}{r:Pq}{v:TV}{e:SY}(hn:AJ4 r=true)(h:Rz tm fr r v=some e):e= []:=by
 unfold Rz at h;split at h
 ·cases hn
 ·cases hn
 ·split at h
  ·rename_i u hu;revert h;generalize u.beq _=b;intro h;cases b with
   |false=>cases h
   |true=>rw[cond_true,Ai] at h;exact h.symm
  ·cases h
 ·rename_i j l o;split at h
  ·rename_i l' hl;cases hb:(Nat.beq l l'&&Nat.beq o 0) with
   |false=>rw[hb] at h;cases h
   |true=>rw[hb,cond_true,Ai] at h;exact h.symm
  ·cases h
 ·cases hn
 ·simp only[Ai] at h;exact h.symm
 ·simp only[Ai] at h;exact h.symm
 ·rename_i j n c l o n' c' d;split at h
  ·rename_i l' hl;cases hb:(Nat.beq l l'&&Nat.beq o 0&&Nat.beq n n'&&Nat.beq c c'&&Nat.beq d 0) with
   |false=>rw[hb] at h;cases h
   |true=>rw[hb,cond_true,Ai] at h;exact h.symm
  ·cases h
 ·simp only[Ai] at h;exact h.symm
 ·rename_i j n l o n' c d;split at h
  ·rename_i l' hl;cases hb:(Nat.beq l l'&&Nat.beq o 0&&Nat.beq n n') with
   |false=>rw[hb] at h;cases h
   |true=>rw[hb,cond_true,Ai] at h;exact h.symm
  ·cases h
 ·rename_i i n c l o n' c' d;split at h
  ·rename_i l' o' hu;cases hb:(Nat.beq l' l&&Nat.beq o' o&&Nat.beq n n'&&Nat.beq c c'&&Nat.beq d 0) with
   |false=>rw[hb] at h;cases h
   |true=>rw[hb,cond_true,Ai] at h;exact h.symm
  ·cases h
 ·cases h
theorem PY{F:Sj}{tm:List (Nat×SV)}{fr:List Nat}:∀ {rs:List Pq} {vs:List TV} {Ω:SY} {k:Nat},Og tm fr rs vs=some Ω->
  ∃es,Og tm fr (I8 F k rs) vs=some es/\∀ins ρ,Tk F k Ω ins ρ->Ro ρ ins es
 | [],[],Ω,k,h=>⟨[],rfl,λ_ _ _=>trivial⟩
 | [],_::_,Ω,k,h=>by simp[Og] at h
 |_::_,[],Ω,k,h=>by simp[Og] at h
 | r::rs,v::vs,Ω,k,h=>by
  unfold Og at h;split at h
  ·rename_i e1 e2 h1 h2;simp only[Ai] at h;subst h;have no:AJ4 r=true->I8 F k (r::rs)=r::I8 F k rs->∃es,Og tm fr (I8 F k (r::rs)) (v::vs)=some es/\∀ins ρ,Tk F k (e1++e2) ins ρ->Ro ρ ins es:=λhn hw=>by
    have:=AHR hn h1;subst this;obtain⟨es,g1,g2⟩:=PY (F:=F) (k:=k) h2;exact⟨[]++es,by rw[hw];simp only[Og,h1,g1],λins ρ hs=>g2 ins ρ (by simpa using hs)⟩
   cases r with
   |int κ f=>
    obtain⟨x,rfl,hx⟩:=AFL h1;obtain⟨es,g1,g2⟩:=PY (F:=F) (k:=k+1) h2;refine⟨[([x],λa=>[d1 (F k a)])]++es,by simp only[I8,Og,hx,g1],λins ρ hs=>⟨?_,g2 ins ρ (Tk.tail (by simpa using hs))⟩⟩;have:=hs 0 ([x],_) rfl;rw[QO] at this;simp only[this,NM,VW,d1]
   |bool f=>
    obtain⟨x,rfl,hx⟩:=AAR h1;obtain⟨es,g1,g2⟩:=PY (F:=F) (k:=k+1) h2;refine⟨[([x],λa=>[d1 (F k a)])]++es,by simp only[I8,Og,hx,g1],λins ρ hs=>⟨?_,g2 ins ρ (Tk.tail (by simpa using hs))⟩⟩;have:=hs 0 ([x],_) rfl;rw[QO] at this;simp only[this,NM,VW,d1]
   |agg ks f=>
    obtain⟨xs,hl,rfl,hx⟩:=ACS h1;obtain⟨es,g1,g2⟩:=PY (F:=F) (k:=k+1) h2;refine⟨[(xs,λa=>BF ks.length (F k a))]++es,by simp only[I8,Og,hx,g1],λins ρ hs=>⟨?_,g2 ins ρ (Tk.tail (by simpa using hs))⟩⟩;have:=hs 0 (xs,_) rfl;rw[QO] at this;simp only[this];rw[Ay (by rw[UC];exact hl)]
   |cF i=>exact no rfl rfl
   |kA j=>exact no rfl rfl
   |nil=>exact no rfl rfl
   |ej=>exact no rfl rfl
   |Hp j n c=>exact no rfl rfl
   |slP j n c=>exact no rfl rfl
   |LL j n=>exact no rfl rfl
   |err=>exact no rfl rfl
  ·cases h
theorem ZK{F:Sj}{C:Cx}{s0:Az}{cA:List ResultVar}{st:St}{Ω:SY}{hp:Bool}{pre:List (List Int)->Prop}(h:Ky C s0 cA st=some Ω):
  ∃es,Ky C (Kc s0 F hp pre) cA st=some es/\∀ins ρ,Tk F 0 Ω ins ρ->Ro ρ ins es:=by
 unfold Ky at h;split at h
 ·cases h
 rename_i vs n8;split at h
 ·cases h
 rename_i fr Dd;split at h
 ·rename_i e1 e2 e3 h1 h2 h3;simp only[Ai] at h;subst h;obtain⟨a0,f1,a1,a2⟩:=gI (F:=F) (k:=0) h1;obtain⟨b0,f2,b1,b2⟩:=X8 (F:=F) (k:=s0.outs.length) h2;obtain⟨f3,c1,c2⟩:=PY (F:=F) (k:=s0.outs.length+s0.fresh.length) h3;refine⟨f1++f2++f3,?_,λins ρ hs=>?_⟩
  ·unfold Ky;simp only[n8];have hl:(Kc s0 F hp pre).fresh.length=s0.fresh.length:=by
    show(ZG F s0.outs.length s0.fresh).length=_;generalize s0.outs.length=k
    induction s0.fresh generalizing k with
    |nil=>rfl
    |cons x r ih=>obtain⟨ks,f⟩:=x;simp[ZG,ih]
   rw[hl];simp only[Kc,Y5,Dd,a1,b1,c1]
  ·refine MC.2 ⟨MC.2 ⟨a2 ins ρ hs.aaS.aaS,b2 ins ρ ?_⟩,c2 ins ρ ?_⟩
   ·have:=hs.aaS.aeA;rwa [a0,KN] at this
   ·have:=hs.aeA;rwa [NC,a0,b0,KN] at this
 ·cases h
def Uo(C:Cx)(s0:Az)(cA:List ResultVar)(ex:Ex)(st:St):Option SY:=match ex with
 | .exit _=>none
 |_=>Ky C s0 cA st
def mi(np:Nat):Nat:=2^np-1
theorem YX{np i:Nat}(h:fY (mi np) i=true):i<np:=by
 rw[Td] at h;unfold mi at h;rw[Nat.testBit_two_pow_sub_one] at h;simpa using h
theorem AIM{C:Cx}{n:Nat}{c:Code}{nt:Nat}{cA:List ResultVar}{cq:fP}{s0:Az}{hp:Bool}{pre:List (List Int)->Prop}
  (eM:Ua C.T (Uo C s0 cA) (mi s0.params.length) (OC C n [] c (ZQ s0.params cq nt))=true) {hyp:List (List Int)->Prop}
  (mj:∀ins,J8 s0.params ins->hyp ins->Cv C.T (OC C n [] c (ZQ s0.params cq nt)) (BK ins)):
  Ze C n c nt cA cq (Kc s0 (Ru C s0 cA (OC C n [] c (ZQ s0.params cq nt))) hp pre) hyp:=by
 intro ins ρ hI hy hρ;show(OC C n [] c (ZQ s0.params cq nt)).Holds C.T _ ρ;generalize hF:Ru C s0 cA (OC C n [] c (ZQ s0.params cq nt))=F;obtain⟨ρL,oR,Cl⟩:=OA (ρc:=BK ins) eM;refine ME (ρL:=ρL) (oR:=oR) ?_ eM (λi hi=>?_) (mj ins hI hy) Cl
 ·intro ex st m hm hr eN;subst eN;have hs:∀ Ω,Ky C s0 cA st=some Ω->(Ω.all λe=>e.1.all (·.fY m))=true->(match Ky C (Kc s0 F hp pre) cA st with
    |some es=>Ro ρ ins es
    |none=>False):=fun Ω he fS=>by
   obtain⟨es,h1,h2⟩:=ZK (F:=F) (hp:=hp) (pre:=pre) he;rw[h1];refine h2 ins ρ λj e hj=>?_
   rw[KN, <- hF];unfold Ru;rw[Cl];simp only[he,hj];have hx:=Kh.1 fS e (MB hj);exact fT λx eg=>(X.cy hr (Kh.1 hx x eg)).symm
  cases ex with
  |exit id=>simp[Ua,Uo] at hm
  |normal=>
   simp only[Ua,Uo] at hm;split at hm
   ·rename_i Ω he;exact hs Ω he hm
   ·cases hm
  |ret=>
   simp only[Ua,Uo] at hm;split at hm
   ·rename_i Ω he;exact hs Ω he hm
   ·cases hm
 ·exact hρ i (YX hi)
end
section
open Go
def Ab(fn:Func):Code:=fn.body.getD .skip
theorem Bv.one{P:Program}{GB:Nat}{GC:Nat->Nat->Option Value}{f:Nat}{s:Az}
  (h:∀(args:List Value) (ins:List (List Int)) (bs:List (Nat×Nat)) (w:World),GW GC w->GB<=w.heap.size->Jg GB w s.params args ins bs->Ep s.params bs->(s.hp=true->s.pre ins)->
   Calls P f args.toArray w λe w'=>∃fb vs,e= .returned (Od vs)/\Xw GC s args ins bs w fb vs w'):Bv P GB GC f (.one s):=
 λ_ args ins bs w h1 h2 h3 h4 h5 _=>h args ins bs w h1 h2 h3 h4 h5
structure Ac where
 n:Nat
 c:Code
 nt:Nat
 cA:List ResultVar
 cq:fP
 s0:Az
def Ac.tree(i:Ac)(C:Cx):Be:=OC C i.n [] i.c (ZQ i.s0.params i.cq i.nt)
def Ac.raw(i:Ac)(C:Cx):Sj:=Ru C i.s0 i.cA (i.tree C)
def Ac.cN(i:Ac)(C:Cx):Bool:=Ua C.T (Uo C i.s0 i.cA) (mi i.s0.params.length) (i.tree C)&&Iu i.s0.outs 0 i.s0.params&&Nat.ble i.s0.params.length i.nt&&Nat.ble i.s0.params.length 500
def Ac.sum(i:Ac)(C:Cx):Az:=Kc i.s0 (i.raw C) false (λ_=>True)
def Ac.cQ(i:Ac)(C:Cx):Az:=Kc i.s0 (i.raw C) true (λins=>Cv C.T (i.tree C) (BK ins))
theorem Ac.gen{i:Ac}{P:Program}{C:Cx}{GB:Nat}{GC:Nat->Nat->Option Value}{ad:Nat->Nat×Nat}(hC:Ud P C GB GC){f:Nat}{fn:Func}(hf:P.funcs[f]? = some fn)(hb:fn.body=some i.c)(hn:fn.ntmps=i.nt)(hr:fn.results.toList=i.cA)
  (μ:∀E:En,E.P=P->E.C=C->E.GB=GB->E.GC=GC->Ip E i.c/\∀f i,lk f C.inl=some i->Ip E i.c) (gS:Q8 GC ad i.cq) (ia:∀x∈i.cq,(FY ad x.1).1<GB) (hk:i.cN C=true) {hp:Bool} {pre hyp:List (List Int)->Prop}
  (mj:∀ins,J8 i.s0.params ins->hyp ins->Cv C.T (i.tree C) (BK ins)):
  ∀(args:List Value) (ins:List (List Int)) (bs:List (Nat×Nat)) (w:World),GW GC w->GB<=w.heap.size->Jg GB w i.s0.params args ins bs->Ep i.s0.params bs->hyp ins->
   Calls P f args.toArray w λe w'=>∃fb vs,e= .returned (Od vs)/\Xw GC (Kc i.s0 (i.raw C) hp pre) args ins bs w fb vs w':=by
 unfold Ac.cN at hk;simp only[Bj] at hk;have ht:Ze C i.n i.c fn.ntmps fn.results.toList i.cq (Kc i.s0 (i.raw C) hp pre) hyp:=by
  rw[hn,hr];exact AIM hk.1.1.1 mj
 have lB:Iu (Kc i.s0 (i.raw C) hp pre).outs 0 (Kc i.s0 (i.raw C) hp pre).params=true:=by
  have:∀(l:List (Nat×List IntKind×PF)) (k j:Nat) (ps:List Et),Iu (QE (i.raw C) k l) j ps=Iu l j ps:=by
   intro l k j ps
   induction ps generalizing j with
   |nil=>rfl
   | cons p ps ih=>
    have h2:∀(l:List (Nat×List IntKind×PF)) (k:Nat) (q:Nat×List IntKind->Bool),(QE (i.raw C) k l).any (λo=>q (o.1,o.2.1))=l.any λo=>q (o.1,o.2.1):=by
     intro l
     induction l with
     |nil=>intro k q;rfl
     |cons x r ihl=>intro k q;obtain⟨a,b,c⟩:=x;simp only[QE,List.any_cons,ihl]
    simp only[Iu,ih]
    congr 1
    split
    ·rename_i n _;exact h2 l k (λx=>Nat.beq x.1 j&&Nat.beq x.2.length n)
    ·rfl
  show Iu (QE (i.raw C) 0 i.s0.outs) 0 i.s0.params=true;rw[this];exact hk.1.1.2
 exact AKy hC hf hb μ lB gS ia (by rw[hn];exact Kv hk.1.2) (Kv hk.2) ht
theorem Ac.ok{i:Ac}{P:Program}{C:Cx}{GB:Nat}{GC:Nat->Nat->Option Value}{ad:Nat->Nat×Nat}(hC:Ud P C GB GC){f:Nat}{fn:Func}(hf:P.funcs[f]? = some fn)(hb:fn.body=some i.c)(hn:fn.ntmps=i.nt)(hr:fn.results.toList=i.cA)
  (hl:C.loops= []) (gS:Q8 GC ad i.cq) (ia:∀x∈i.cq,(FY ad x.1).1<GB) (hk:i.cN C=true) (ij:ADA (i.tree C)=true):Bv P GB GC f (.one (i.sum C)):=by
 have gj:=hk;unfold Ac.cN at gj;simp only[Bj] at gj;exact Bv.one λargs ins bs w h1 h2 h3 h4 _=>Ac.gen (hp:=false) (pre:=λ_=>True) (hyp:=λ_=>True) hC hf hb hn hr (λE _ hE _ _=>⟨Ip.of_nil (by rw[hE];exact hl) _,λ_ _ _=>Ip.of_nil (by rw[hE];exact hl) _⟩) gS ia hk (λins _ _=>AGH gj.1.1.1 ij) args ins bs w h1 h2 h3 h4 trivial
theorem Ac.okP{i:Ac}{P:Program}{C:Cx}{GB:Nat}{GC:Nat->Nat->Option Value}{ad:Nat->Nat×Nat}(hC:Ud P C GB GC){f:Nat}{fn:Func}(hf:P.funcs[f]? = some fn)(hb:fn.body=some i.c)(hn:fn.ntmps=i.nt)(hr:fn.results.toList=i.cA)
  (hl:C.loops= []) (gS:Q8 GC ad i.cq) (ia:∀x∈i.cq,(FY ad x.1).1<GB) (hk:i.cN C=true):Bv P GB GC f (.one (i.cQ C)):=
 Bv.one λargs ins bs w h1 h2 h3 h4 h5=>Ac.gen (hyp:=λins=>Cv C.T (i.tree C) (BK ins)) hC hf hb hn hr (λE _ hE _ _=>⟨Ip.of_nil (by rw[hE];exact hl) _,λ_ _ _=>Ip.of_nil (by rw[hE];exact hl) _⟩) gS ia hk (λins _ h=>h) args ins bs w h1 h2 h3 h4 (h5 rfl)
def Ac.vu(i:Ac)(C:Cx)(pre:List (List Int)->Prop):Az:=Kc i.s0 (i.raw C) true pre
theorem Ac.FG(i:Ac)(C:Cx)(pre:List (List Int)->Prop)(b:Bool):OJ ((FE.one (i.vu C pre)).cf b):=Eh _ _ _ _
theorem Ac.len(i:Ac)(C:Cx)(b:Bool):OJ ((FE.one (i.sum C)).cf b):=Eh _ _ _ _
theorem Ac.fX(i:Ac)(C:Cx)(b:Bool):OJ ((FE.one (i.cQ C)).cf b):=Eh _ _ _ _
end
section
open Go
def WS(T:Tb):Be->Bu->Option (Bu×Ex×St)
 | .leaf e st,ρ=>some (ρ,e,st)
 | .ep ds _ t,ρ=>WS T t (Df T ρ ds)
 | .br x t f,ρ=>if x.den ρ=0 then WS T f ρ else WS T t ρ
 | .gr f as t e,ρ=>match lk f T with
  |some fe=>cond (fe.j7 (as.map (·.den ρ))) (WS T t ρ) (WS T e ρ)
  |none=>none
 | .cN _ k,ρ=>WS T k ρ
 | .bad _,_=>none
def kr(T:Tb)(p:Nat->Ex->St->Bool):Nat->Be->Bool
 |m,.leaf e st=>p m e st
 |m,.ep ds ob t=>(match uj m ds with
  |some m'=>ob.all (·.fY m')&&kr T p m' t
  |none=>false)
 |m,.br x t f=>x.fY m&&kr T p m t&&kr T p m f
 |m,.gr f as t e=>as.all (·.fY m)&&(lk f T).isSome&&kr T p m t&&kr T p m e
 |m,.cN t k=>jl T m t&&kr T p m k
 |_,.bad _=>false
theorem Li{T:Tb}{p:Nat->Ex->St->Bool}{Φ:Bu->Ex->St->Prop}{ρ:Bu}{ρL:Bu}{eL:Ex}{oR:St}
  (hΦ:∀m,p m eL oR=true->RM m ρ ρL->Φ ρ eL oR):∀ {t:Be} {m:Nat} {ρc:Bu},kr T p m t=true->RM m ρ ρc->Cv T t ρc->WS T t ρc=some (ρL,eL,oR)->t.Holds T Φ ρ
 | .leaf e st,m,ρc,h,hr,_,hv=>by
  simp only[WS,Ai,Prod.mk.injEq] at hv;obtain⟨rfl,rfl,rfl⟩:=hv;exact hΦ m h hr
 | .ep ds ob t,m,ρc,h,hr,ho,hv=>λhd=>by
  unfold kr at h;split at h
  ·rename_i m' hm;simp only[Bj] at h;have cG:=YV hm hr hd;exact⟨λq hq=>(I1.cy cG (Kh.1 h.1 q hq)).2 (ho.1 q hq),Li hΦ h.2 cG ho.2 hv⟩
  ·cases h
 | .br x t f,m,ρc,h,hr,ho,hv=>by
  simp only[kr,Bj] at h;have hx:=X.cy hr h.1.1;refine⟨λcj=>?_,λhe=>?_⟩
  ·rw[hx] at cj;simp only[WS,if_neg cj] at hv;exact Li hΦ h.1.2 hr (ho.2 cj) hv
  ·rw[hx] at he;simp only[WS,if_pos he] at hv;exact Li hΦ h.2 hr (ho.1 he) hv
 | .gr f as t e,m,ρc,h,hr,ho,hv=>by
  simp only[kr,Bj] at h;have hx:=nc.cy hr h.1.1.1;unfold Cv at ho;unfold WS at hv;unfold Be.Holds;cases hf:lk f T with
  |none=>rw[hf] at ho;exact ho.elim
  |some fe=>
   rw[hf] at ho hv;simp only at ho hv ⊢;rw[hx];refine⟨λhc=>?_,λhc=>?_⟩
   ·rw[hc] at hv;exact Li hΦ h.1.2 hr (ho.1 hc) hv
   ·rw[hc] at hv;exact Li hΦ h.2 hr (ho.2 hc) hv
 | .cN t k,m,ρc,h,hr,ho,hv=>by
  simp only[kr,Bj] at h;exact⟨KV h.1 hr ho.1,Li hΦ h.2 hr ho.2 hv⟩
 | .bad _,m,ρc,h,_,_,_=>by cases h
structure Ih where
 n:Nat
 c:Code
 nt:Nat
 id:Nat
 cq:fP
 s0:Az
 ps:List Nat
 cl:List Nat
 fuel:List (List Int)->Nat
def AAh(np:Nat):Nat->List Nat->List Et->List (Nat×SV)
 |i,t::ts,p::ps=>(t,FI np i p)::AAh np (i+1) ts ps
 |_,_,_=>[]
def Uw(t:Nat)(l:List Nat):Bool:= !(Dz t l)
def Ih.cH(i:Ih):List Nat:=(List.range i.nt).filter λt=>Uw t i.cl&&Uw t i.ps
def Ih.st(i:Ih):St:=
 let s:=ZQ i.s0.params i.cq i.nt
 { s with tm:=AAh i.s0.params.length 0 i.ps i.s0.params++i.cH.map λt=>(t,.any (2*i.s0.params.length+t)),nv:=2*i.s0.params.length+i.nt }
def Ih.tree(i:Ih)(C:Cx):Be:=OC C i.n [] i.c i.st
def Ui(np:Nat):Nat->List Et->List SV->List (Option MP)->Bool
 |i,p::ps,v::vs,m::ms=>(match p.cp,m with
  |some _,some x=>Nat.beq x.l i&&Nat.beq x.o 0&&v.beq (FI np i p)
  |some _,none=>false
  |none,_=>true)&&Ui np (i+1) ps vs ms
 |_,[],[],[]=>true
 |_,_,_,_=>false
def qP(np:Nat)(st:St)(t:Nat):Bool:=match lk t st.tm with
 |some (.any j)=>Nat.beq j (2*np+t)
 |_=>false
def Ih.leaf(i:Ih)(e:Ex)(st:St):Option (Bool×List Hy):=
 match (match e with
  | .normal=>some true
  | .exit j=>bif Nat.beq j i.id then some false else none
  | .ret=>none) with
 |none=>none
 | some b=>match looks st i.ps with
  |none=>none
  |some vs=>match Oh st i.s0.params vs with
   |none=>none
   |some (as,ms)=>bif WB st.rg ms&&Ui i.s0.params.length 0 i.s0.params vs ms&&i.cH.all (qP i.s0.params.length st)&&Nat.beq st.nt i.nt then some (b,as) else none
def Ih.pP(i:Ih)(m:Nat)(e:Ex)(st:St):Bool:=match i.leaf e st with
 |some (_,as)=>as.all (·.fY m)
 |none=>false
def Ih.step(i:Ih)(C:Cx)(ins:List (List Int)):Option (Bool×List (List Int)):=
 match WS C.T (i.tree C) (BK ins) with
 |some (ρ,e,st)=>(match i.leaf e st with
  |some (b,as)=>some (b,as.map (·.den ρ))
  |none=>none)
 |none=>none
def Ht(step:List (List Int)->Option (Bool×List (List Int))):Nat->List (List Int)->List (List Int)
 |0,ins=>ins
 |n+1,ins=>match step ins with
  |some (true,r)=>Ht step n r
  |some (false,r)=>r
  |none=>ins
def Rm(step:List (List Int)->Option (Bool×List (List Int)))(ob:List (List Int)->Prop):Nat->List (List Int)->Prop
 |0,_=>False
 |n+1,ins=>ob ins/\match step ins with
  |some (true,r)=>Rm step ob n r
  |some (false,_)=>True
  |none=>False
def YA(v:List (List Int)->List (List Int)):Nat->List Et->List Pq
 |_,[]=>[]
 |i,.int k::r=>.int k (λa=>d1 ((v a).getD i []))::YA v (i+1) r
 |i,.bool::r=>.bool (λa=>d1 ((v a).getD i []))::YA v (i+1) r
 |i,.agg ks::r=>.agg ks (λa=>BF ks.length ((v a).getD i []))::YA v (i+1) r
 |i,.mem _ _ _::r=>YA v (i+1) r
 |i,.sl _ _ _::r=>YA v (i+1) r
 |i,.fL _ _ _::r=>YA v (i+1) r
def Tl:List Nat->List Et->List Nat
 |_t::ts,.mem _ _ _::r=>Tl ts r
 |_t::ts,.sl _ _ _::r=>Tl ts r
 |_t::ts,.fL _ _ _::r=>Tl ts r
 |t::ts,_::r=>t::Tl ts r
 |_,_=>[]
def Ih.ss(i:Ih):List Nat:=Tl i.ps i.s0.params
def Ih.val(i:Ih)(C:Cx)(ins:List (List Int)):List (List Int):=Ht (i.step C) (i.fuel ins) ins
def Ih.pre(i:Ih)(C:Cx)(ins:List (List Int)):Prop:=Rm (i.step C) (λins=>Cv C.T (i.tree C) (BK ins)) (i.fuel ins) ins
def Ih.sum(i:Ih)(C:Cx)(pre:List (List Int)->Prop):Az where
 params:=i.s0.params
 hp:=true
 pre:=pre
 outs:=i.s0.outs.map λp=>(p.1,p.2.1,λa=>BF p.2.1.length ((i.val C a).getD p.1 []))
 fresh:=[]
 ret:=YA (i.val C) 0 i.s0.params
def AD2:List Nat->Bool
 | []=>true
 |t::r=>Uw t r&&AD2 r
def ACr(ps:List Et)(outs:List (Nat×List IntKind×PF)):Bool:=outs.all λp=>match ps[p.1]? with
 |some (.mem ks _ true)=>Jp ks p.2.1
 |some (.sl ks _ true)=>Jp ks p.2.1
 |some (.fL ks _ true)=>Jp ks p.2.1
 |_=>false
def Ih.cN(i:Ih)(C:Cx):Bool:=kr C.T (i.pP) (mi i.s0.params.length) (i.tree C)&&Iu i.s0.outs 0 i.s0.params&&ACr i.s0.params i.s0.outs&&Nat.ble i.s0.params.length i.nt&&Nat.ble i.s0.params.length 500&&Nat.beq i.ps.length i.s0.params.length&&AD2 i.ps&&i.ps.all (λt=>Nat.blt t i.nt&&Uw t i.cl)
theorem lJ(i:Ih)(C:Cx)(pre:List (List Int)->Prop):OJ (i.sum C pre):=by
 intro ins _;refine⟨λp hp=>?_,λp hp=>(by cases hp),λks f hf=>?_⟩
 ·simp only[Ih.sum,Us] at hp;obtain⟨q,_,rfl⟩:=hp;exact Sw _ _
 ·have:∀(v:List (List Int)->List (List Int)) (ps:List Et) (j:Nat),Pq.agg ks f∈YA v j ps->(f ins).length=ks.length:=by
   intro v ps
   induction ps with
   |nil=>intro j h;cases h
   | cons p r ih=>
    intro j h;cases p with
    |int k=>simp only[YA,G9,reduceCtorEq,false_or] at h;exact ih _ h
    |bool=>simp only[YA,G9,reduceCtorEq,false_or] at h;exact ih _ h
    |agg ξ=>
     simp only[YA,G9,Pq.agg.injEq] at h;rcases h with⟨rfl,rfl⟩|h
     ·exact Sw _ _
     ·exact ih _ h
    |mem a b c=>exact ih _ h
    |sl a b c=>exact ih _ h
    |fL a b c=>exact ih _ h
  exact this _ _ _ hf
end
section
open Go
theorem OM{T:Tb}{p:Nat->Ex->St->Bool}:∀ {t:Be} {m:Nat} {ρc:Bu},kr T p m t=true->∃ ρL eL oR m',WS T t ρc=some (ρL,eL,oR)/\p m' eL oR=true
 | .leaf e st,m,ρc,h=>⟨_,_,_,m,rfl,h⟩
 | .ep ds ob t,m,ρc,h=>by
  unfold kr at h;split at h
  ·simp only[Bj] at h;exact OM (t:=t) (ρc:=Df T ρc ds) h.2
  ·cases h
 | .br x t f,m,ρc,h=>by
  simp only[kr,Bj] at h;unfold WS;split
  ·exact OM h.2
  ·exact OM h.1.2
 | .gr f as t e,m,ρc,h=>by
  simp only[kr,Bj] at h;unfold WS;cases hf:lk f T with
  |none=>rw[hf] at h;simp at h
  |some fe=>
   simp only;cases fe.j7 (as.map (·.den ρc)) with
   |true=>exact OM h.1.2
   |false=>exact OM h.2
 | .cN t k,m,ρc,h=>by
  simp only[kr,Bj] at h;exact OM (t:=k) h.2
 | .bad _,m,ρc,h=>by cases h
theorem aZ{np:Nat}{rest:List (Nat×SV)}:∀ {ts:List Nat} {ps:List Et} {k t:Nat} {v:SV},lk t (AAh np k ts ps++rest)=some v->
  (∃j p,ts[j]? = some t/\ps[j]? = some p/\v=FI np (k+j) p)\/lk t rest=some v
 | [],_,k,t,v,h=>.inr h
 |_::_,[],k,t,v,h=>.inr h
 | u::ts,p::ps,k,t,v,h=>by
  simp only[AAh,LS,lk] at h;cases hb:Nat.beq u t with
  |true=>
   rw[hb,cond_true,Ai] at h;have:=Ca hb;subst this;exact .inl ⟨0,p,rfl,rfl,h.symm⟩
  |false=>
   rw[hb,cond_false] at h;rcases aZ h with⟨j,q,h1,h2,h3⟩|h
   ·exact .inl ⟨j+1,q,by simpa using h1,by simpa using h2,by rw[h3];congr 1;omega⟩
   ·exact .inr h
theorem Zm{f:Nat->SV}:∀ {l:List Nat} {t:Nat} {v:SV},lk t (l.map λt=>(t,f t))=some v->t∈l/\v=f t
 | [],t,v,h=>by simp[lk] at h
 | u::l,t,v,h=>by
  simp only[NM,lk] at h;cases hb:Nat.beq u t with
  |true=>
   rw[hb,cond_true,Ai] at h;have:=Ca hb;subst this;exact⟨Jv,h.symm⟩
  |false=>
   rw[hb,cond_false] at h;obtain⟨h1,h2⟩:=Zm h;exact⟨MN _ h1,h2⟩
theorem aC{np:Nat}:∀ {ps:List Et} {i j:Nat} {p:Et},ps[j]? = some p->lk (i+j) (Hx np i ps)=some (FI np (i+j) p)
 | [],i,j,p,h=>by simp at h
 |q::ps,i,0,p,h=>by
  simp only[UV,Ai] at h;subst h;simp only[Hx,lk,QO,Nat.beq_refl,cond_true]
 |q::ps,i,j+1,p,h=>by
  have:=aC (np:=np) (ps:=ps) (i:=i+1) (j:=j) (p:=p) (by simpa using h);rw[show i+(j+1)=i+1+j by omega];simp only[Hx,lk];have hb:Nat.beq i (i+1+j)=false:=by cases hh:Nat.beq i (i+1+j) with|false=>rfl|true=>have:=Ca hh;omega
  rw[hb,cond_false];exact this
theorem vB{GB:Nat}{w:World}:∀ {ps:List Et} {vs:List Value} {xs:List (List Int)} {bs cs:List (Nat×Nat)},Jg GB w ps vs xs bs->cs.length=ps.length->
  (∀(i:Nat) (p:Et),ps[i]? = some p->p.cp≠none->bs.getD i (0,0)=cs.getD i (0,0))->Jg GB w ps vs xs cs
 | [],[],[],[],[],_,_,_=>trivial
 |p::ps,v::vs,x::xs,b::bs,c::cs,h,hl,he=>by
  refine⟨?_,vB h.2 (by simpa using hl) λi q hq hn=>by simpa using he (i+1) q (by simpa using hq) hn⟩;have h0:=he 0 p rfl;have h1:=h.1;cases p with
  |int k=>exact h1
  |bool=>exact h1
  |agg ks=>exact h1
  |mem ks g wr=>have:=h0 (by simp[Et.cp]);simp only[Qx] at this;subst this;exact h1
  |sl ks g wr=>have:=h0 (by simp[Et.cp]);simp only[Qx] at this;subst this;exact h1
  |fL ks g wr=>have:=h0 (by simp[Et.cp]);simp only[Qx] at this;subst this;exact h1
 | [],[],[],[],_::_,_,hl,_=>by simp at hl
 |_::_,_::_,_::_,_::_,[],_,hl,_=>by simp at hl
 | [],_::_,_,_,_,h,_,_=>by simp[Jg] at h
 | [],[],_::_,_,_,h,_,_=>by simp[Jg] at h
 | [],[],[],_::_,_,h,_,_=>by simp[Jg] at h
 |_::_,[],_,_,_,h,_,_=>by simp[Jg] at h
 |_::_,_::_,[],_,_,h,_,_=>by simp[Jg] at h
 |_::_,_::_,_::_,[],_,h,_,_=>by simp[Jg] at h
theorem XW{np:Nat}{V:Vl}:∀ {ps:List Et} {vs:List SV} {ms:List (Option MP)} {k:Nat},Ui np k ps vs ms=true->ms.length=ps.length/\∀(i:Nat) (p:Et),ps[i]? = some p->p.cp≠none->
  (ms.map (UI V)).getD i (0,0)=V.ν (k+i)/\vs[i]? = some (FI np (k+i) p)
 | [],[],[],k,_=>⟨rfl,λi p h=>by simp at h⟩
 | p :: ps,v::vs,m::ms,k,h=>by
  simp only[Ui,Bj] at h;obtain⟨h0,h1⟩:=h;obtain⟨g1,g2⟩:=XW (V:=V) h1;refine⟨by simp[g1],λi q hq hn=>?_⟩;cases i with
  | zero=>
   simp only[UV,Ai] at hq;subst hq;cases hr:p.cp with
   |none=>exact absurd hr hn
   | some r=>
    rw[hr] at h0;cases m with
    |none=>cases h0
    |some x=>
     simp only[Bj] at h0;have e1:=Ca h0.1.1;have e2:=Ca h0.1.2;have e3:=SV.beq_eq h0.2;subst e3;refine⟨?_,by simp⟩;simp only[NM,Qx,UI,e1,e2,QO]
  |succ i=>
   obtain⟨e1,e2⟩:=g2 i q (by simpa using hq) hn;refine⟨?_,?_⟩
   ·simp only[NM,aa,e1];congr 1;omega
   ·rw[Cp,e2];congr 2;omega
 | [],[],_::_,_,h=>by simp[Ui] at h
 | [],_::_,_,_,h=>by simp[Ui] at h
 |_::_,[],_,_,h=>by simp[Ui] at h
 |_::_,_::_,[],_,h=>by simp[Ui] at h
section
variable{P:Program}{C:Cx}{GB:Nat}{GC:Nat->Nat->Option Value}(hC:Ud P C GB GC){i:Ih}{ad:Nat->Nat×Nat}(hk:i.cN C=true)(gS:Q8 GC ad i.cq)(ia:∀x∈i.cq,(FY ad x.1).1<GB)
 (μ:∀E:En,E.P=P->E.C=C->E.GB=GB->E.GC=GC->Ip E i.c/\∀f j,lk f C.inl=some j->Ip E j.c)
include hC hk gS ia μ
theorem AFm{a:Act}{w:World}{ins:List (List Int)}{bs:List (Nat×Nat)}(ε:GW GC w)(δ:GB<=w.heap.size)(hP:Jg GB w i.s0.params (i.ps.map λt=>a.tmps.getD t undef) ins bs)(hS:Ep i.s0.params bs)
  (cX:a.tmps.size=i.nt) (oX:a.defers= []) (ho:Cv C.T (i.tree C) (BK ins)):
  i.c.wp P (λe a' w'=>∃b r,i.step C ins=some (b,r)/\(b=true/\e= .normal\/b=false/\e= .exit i.id)/\Jg GB w' i.s0.params (i.ps.map λt=>a'.tmps.getD t undef) r bs/\BD w w' (Xf i.s0 bs)/\
   a'.tmps.size=i.nt/\a'.defers= []/\(∀t,t∈i.cH->a'.tmps.getD t undef=a.tmps.getD t undef)/\
   (∀(j t:Nat) (p:Et),i.s0.params[j]? = some p->p.cp≠none->i.ps[j]? = some t->a'.tmps.getD t undef=a.tmps.getD t undef)/\GW GC w') a w:=by
 unfold Ih.cN at hk;simp only[Bj] at hk;obtain⟨⟨⟨⟨⟨⟨⟨k1,k2⟩,k3⟩,k4⟩,k5⟩,k6⟩,k7⟩,k8⟩:=hk;have xd:=Kv k4;have gE:=Kv k5;have hlen:=Ca k6;have C4:=hC.ok w (Xf i.s0 bs) (i0 bs 0 i.s0.params) i.s0.params.length (λj=>(i.ps.map λt=>a.tmps.getD t undef).getD j undef) δ;have j0:=jy (P:=P) (C:=C) (cq:=i.cq) (nt:=i.nt) C4.gc ε δ hP hS k2 gS ia xd gE;generalize eS:(i.ps.map λt=>a.tmps.getD t undef)=args at hP j0 C4
 let np:=i.s0.params.length
 let V0:=v0 ad np args ins bs i.cq
 let V:Vl:= { V0 with σ:=λj=>if j<2*np then V0.σ j else a.tmps.getD (j-2*np) undef }
 let nv:=2*np+i.nt
 let E0:En:=e0 P C GB GC i.s0 args bs w
 let E:En:=Ev E0 (i0 bs 0 i.s0.params) nv V.σ
 have hE:P5 E:=P5.ev C4 _ _ _;have gf:Ag (2*np) (DL (ZQ i.s0.params i.cq i.nt).rg) V0 V:=⟨λ_ _=>rfl,λj hj=>if_pos hj,λ_ _=>rfl⟩;have sY:=j0.s.m.ag gf j0.s.mc;have aft:args.length=np:=by rw[<- eS,UC,hlen]
 have Fo:Fy E i.st V a w:=by
  refine⟨⟨⟨sY.ov,sY.one,sY.sep,sY.so,sY.an,sY.gw⟩,λr hr lv nq=>LV.be (show 2*np<=nv by omega) (λ_ h=>h) (j0.s.mc r hr lv nq),⟨λt v hv=>?_,λg l hg=>?_,λp hp=>j0.s.t.ln p hp⟩,cX,oX⟩,λp hp=>?_,λp hp=>j0.kp p hp,λ_ _=>rfl,Ie _⟩
  ·have mL:lk t (AAh np 0 i.ps i.s0.params++i.cH.map λt=>(t,SV.any (2*np+t)))=some v:=hv;rcases aZ mL with⟨j,p,h1,h2,h3⟩|h
   ·rw[KN] at h3;subst h3;have h4:=aC (np:=np) (i:=0) h2;rw[KN] at h4;obtain⟨g1,g2,g3⟩:=j0.s.t.tm j (FI np j p) (by simp only[St.look,ZQ,lk];exact h4);have hj:j<args.length:=by have:=(Oa.1 h2).1;omega
    refine⟨?_,SV.eW gf g3 g2,SV.be (show 2*np<=nv by omega) (λ_ h=>h) g3⟩;rw[SV.ck gf g3, <- g1,YJ,YJ,Array.getElem?_append_left (by simpa using hj)];have:args[j]? = some (a.tmps.getD t undef):=by rw[<- eS,Ng,h1];rfl
    rw[List.getElem?_toArray (xs:=args),this,YJ];rfl
   ·obtain⟨h1,h2⟩:=Zm h;subst h2;have bj:t<i.nt:=by
     have:=(List.mem_filter.1 h1).1;exact fV.1 this
    refine⟨?_,trivial,?_⟩
    ·show _=(if 2*np+t<2*np then V0.σ (2*np+t) else a.tmps.getD (2*np+t-2*np) undef);rw[if_neg (by omega),Nat.add_sub_cancel_left]
    ·exact XY (show 2*np+t<nv by omega)
  ·exact j0.s.t.gl g l hg
  ·exact qm (j0.ll p hp) (show 2*np<=nv by omega)
 obtain⟨ρL,eL,oR,m0,Cl,hlf⟩:=OM (ρc:=BK ins) k1;have XS:=hlf;unfold Ih.pP at XS;cases cM:i.leaf eL oR with
 |none=>rw[cM] at XS;cases XS
 |some q=>
 obtain⟨b,as⟩:=q;have iS:i.step C ins=some (b,as.map (·.den ρL)):=by
  unfold Ih.step;rw[Cl];simp only[cM]
 have hT:(i.tree C).cv C.T (fun ρ ex st=>Im nv V.ρ ρ/\ex=eL/\st=oR/\as.map (·.den ρ)=as.map (·.den ρL)) nv V.ρ:=fun ρ' hρ=>by
  refine Li (λm hm hr=>⟨hρ,rfl,rfl,by
   unfold Ih.pP at hm;rw[cM] at hm;exact nc.cy hr hm⟩) k1 ?_ ho Cl
  ·intro j hj;have oE:=YX hj;rw[hρ j (show j<nv by omega)];show V0.ρ j=_;simp only[V0,v0,np,oE,if_true];rfl
 have HI:=μ E rfl rfl rfl rfl;have ack:=μ E0 rfl rfl rfl rfl;have hex:=YY (E0:=E0) C4 hC.il ack.2 i.n (i0 bs 0 i.s0.params) nv V.σ _ [] i.c i.st V a w (λx hx=>(by cases hx)) trivial HI.1 rfl Fo hT;refine wp_mono (JR hex) ?_;rintro e a' w' ⟨ex,cD,V',hx,φ,eC,hΦ⟩;obtain⟨acg,rfl,rfl,Ge⟩:=hΦ V'.ρ (Im.refl _ _);refine⟨b,as.map (·.den ρL),iS,?_⟩;unfold Ih.leaf at cM;split at cM
 ·cases cM
 rename_i b0 sC;split at cM
 ·cases cM
 rename_i vs n8;split at cM
 ·cases cM
 rename_i LI ms hA;cases hb:(WB cD.rg ms&&Ui i.s0.params.length 0 i.s0.params vs ms&&i.cH.all (qP i.s0.params.length cD)&&Nat.beq cD.nt i.nt) with
 |false=>rw[hb] at cM;cases cM
 |true=>
 rw[hb,cond_true,Ai,Prod.mk.injEq] at cM;obtain⟨rfl,rfl⟩:=cM;simp only[Bj] at hb;have ab5:=Ca hb.2;replace hb:=hb.1;obtain⟨q1,q2⟩:=Pe eC n8;obtain⟨r1,-, -, -, -⟩:=Tn (E:=E) eC.s.m eC.s.t.ln hA (λv hv=>(q2 v hv).1) hb.1.1;obtain⟨u1,u2⟩:=XW (V:=V') hb.1.2;have hνp:∀(j:Nat) (p:Et),i.s0.params[j]? = some p->p.cp≠none->V'.ν j=bs.getD j (0,0):=λj p hp hn=>by
  have:=Xa (bs:=bs) (i:=0) hp hn;rw[KN] at this;exact(eC.kp _ this).2
 obtain⟨l1,l2,l3⟩:=TJ hP;refine⟨?_,?_,eC.s.m.an,eC.s.nt.trans ab5,eC.s.df,λt ht=>?_,λj t p hp hn ht=>?_,eC.s.m.gw⟩
 ·cases hx with
  |normal=>simp only[Ai] at sC;exact .inl ⟨sC.symm,rfl⟩
  | exit j=>
   simp only at sC;cases hj:Nat.beq j i.id with
   |false=>rw[hj] at sC;cases sC
   |true=>
    rw[hj,cond_true,Ai] at sC;have:=Ca hj;subst this;exact .inr ⟨sC.symm,rfl⟩
  |ret=>cases sC
 ·rw[q1, <- Ge];refine vB r1 l3 λj p hp hn=>?_
  rw[(u2 j p hp hn).1,KN,hνp j p hp hn]
 ·have h1:=Kh.1 hb.2 t ht;unfold qP at h1;split at h1
  ·rename_i j hj;have:=Ca h1;subst this;have bj:t<i.nt:=fV.1 (List.mem_filter.1 ht).1;obtain⟨g1,-, -⟩:=eC.s.t.tm t _ (by simp only[St.look,φ,lk];exact hj);rw[g1];show V'.σ (2*np+t)=_;rw[eC.ks (2*np+t) (show 2*np+t<nv by omega)];show(if 2*np+t<2*np then V0.σ (2*np+t) else a.tmps.getD (2*np+t-2*np) undef)=_;rw[if_neg (by omega),Nat.add_sub_cancel_left]
  ·cases h1
 ·have h1:=(u2 j p hp hn).2;rw[KN] at h1;have h2:a'.tmps.getD t undef=(FI np j p).den V':=by
   have e1:(i.ps.map λt=>a'.tmps.getD t undef)[j]? = some (a'.tmps.getD t undef):=by rw[Ng,ht];rfl
   rw[q1,Ng,h1] at e1;exact(WT e1).symm
  have h4:=aC (np:=np) (i:=0) hp;rw[KN] at h4;obtain⟨g1,g2,g3⟩:=j0.s.t.tm j (FI np j p) (by simp only[St.look,ZQ,lk];exact h4);have hj:j<args.length:=by have:=(Oa.1 hp).1;omega
  have h5:a.tmps.getD t undef=(FI np j p).den V0:=by
   rw[<- g1,YJ (xs:=args.toArray++_),Array.getElem?_append_left (by simpa using hj)];have:args[j]? = some (a.tmps.getD t undef):=by rw[<- eS,Ng,ht];rfl
   rw[List.getElem?_toArray (xs:=args),this];rfl
  rw[h2,h5];have bj:j<np:=by omega
  have hν:V'.ν j=V0.ν j:=by
   rw[hνp j p hp hn];have:=(j0.kp _ (by have:=Xa (bs:=bs) (i:=0) hp hn;rw[KN] at this;exact this)).2;exact this.symm
  have hρ:V'.ρ (np+j)=V0.ρ (np+j):=acg (np+j) (show np+j<nv by omega);have hσ:V'.σ j=V0.σ j:=by
   rw[eC.ks j (show j<nv by omega)];exact if_pos (show j<2*np by omega)
  cases p with
  |mem ks g wr=>simp only[FI,SV.aE,TV.aq,LV.cx,hν]
  |sl ks g wr=>simp only[FI,SV.aE,TV.aq,LV.cE,CX.ff,X.den,hν,hρ]
  |fL ks g wr=>simp only[FI,SV.aE,TV.aq,LV.den];exact hσ
  |int k=>exact absurd rfl hn
  |bool=>exact absurd rfl hn
  |agg ks=>exact absurd rfl hn
omit hC hk gS ia μ in
theorem AG3{t:Nat}(h1:t<i.nt)(h2:Dz t i.cl=false)(h3:t ∉ i.ps):t∈i.cH:=by
 have h4:Dz t i.ps=false:=by
  cases hh:Dz t i.ps with
  |false=>rfl
  |true=>exact absurd (Gm.1 hh) h3
 unfold Ih.cH;exact List.mem_filter.2 ⟨fV.2 h1,by simp[Uw,h2,h4]⟩
def wF(i:Ih)(_C:Cx)(GB:Nat)(GC:Nat->Nat->Option Value)(a0:Act)(w0:World)(bs:List (Nat×Nat))(r:List (List Int))(a':Act)(w':World):Prop:=
 Jg GB w' i.s0.params (i.ps.map λt=>a'.tmps.getD t undef) r bs/\BD w0 w' (Xf i.s0 bs)/\a'.tmps.size=i.nt/\a'.defers= []/\(∀t,t∈i.cH->a'.tmps.getD t undef=a0.tmps.getD t undef)/\
  (∀(j t:Nat) (p:Et),i.s0.params[j]? = some p->p.cp≠none->i.ps[j]? = some t->a'.tmps.getD t undef=a0.tmps.getD t undef)/\GW GC w'
theorem eT{a0:Act}{w0:World}{bs:List (Nat×Nat)}(hS:Ep i.s0.params bs)(ac8:GB<=w0.heap.size):∀(n:Nat) (a:Act) (w:World) (ins:List (List Int)),wF i C GB GC a0 w0 bs ins a w->Rm (i.step C) (λins=>Cv C.T (i.tree C) (BK ins)) n ins->
  Code.rounds P i.c (Exit.inBlock i.id λe a' w'=>e= .normal/\wF i C GB GC a0 w0 bs (Ht (i.step C) n ins) a' w') n a w
 |0,a,w,ins,_,ho=>ho.elim
 | n+1,a,w,ins,hI,ho=>by
  obtain⟨h1,h2,h3,h4,h5,h6,h7⟩:=hI;obtain⟨o1,o2⟩:=ho;rw[rounds_succ];refine wp_mono (AFm hC hk gS ia μ h7 (EX ac8 h2.1) h1 hS h3 h4 o1) ?_;rintro e a' w' ⟨b,r,eN,hbe,g1,g2,g3,g4,g5,g6,g7⟩;have G0:wF i C GB GC a0 w0 bs r a' w':=⟨g1,h2.trans g2,g3,g4,λt ht=>(g5 t ht).trans (h5 t ht),λj t p hp hn ht=>(g6 j t p hp hn ht).trans (h6 j t p hp hn ht),g7⟩;rw[eN] at o2;unfold Ht;rw[eN];rcases hbe with⟨rfl,rfl⟩|⟨rfl,rfl⟩
  ·exact eT hS ac8 n a' w' r G0 o2
  ·show(if i.id=i.id then _ else _);rw[if_pos rfl];exact⟨rfl,G0⟩
omit hC hk gS ia μ in
theorem wD{v:List (List Int)->List (List Int)}{ins r:List (List Int)}(hv:v ins=r){args:List Value}{w:World}{bs:List (Nat×Nat)}{f:Nat->Value}:∀ {ps:List Et} {ts:List Nat} {xs:List (List Int)} {cs:List (Nat×Nat)} {k:Nat},Jg GB w ps (ts.map f) xs cs->(∀(j:Nat),xs[j]? = r[k+j]?)->
  yJ ins args [] (YA v k ps) ((Tl ts ps).map f)
 | [],[],[],[],k,_,_=>trivial
 | p::ps,t::ts,x::xs,c::cs,k,h,hx=>by
  have ih:=wD hv (args:=args) (w:=w) (bs:=bs) (f:=f) (ps:=ps) (ts:=ts) (xs:=xs) (cs:=cs) (k:=k+1) h.2 (λj=>by have:=hx (j+1);rw[Cp] at this;rw[this];congr 1;omega);have h0:=hx 0;rw[UV,QO] at h0;have hg:r.getD k []=x:=by rw[List.getD, <- h0];rfl
  have h1:=h.1;cases p with
  |int κ=>
   obtain⟨y,rfl,e,hr⟩:=h1;refine⟨?_,ih⟩;show f t= .int κ (d1 ((v ins).getD k []))/\IJ κ (d1 ((v ins).getD k []));rw[hv,hg];exact⟨e,hr⟩
  |bool=>
   obtain⟨y,rfl,e⟩:=h1;refine⟨?_,ih⟩;show f t= .bool (d1 ((v ins).getD k []) != 0);rw[hv,hg];exact e
  |agg ks=>
   refine⟨?_,ih⟩;show EP ks (BF ks.length ((v ins).getD k []))/\f t= .agg (AL ks (BF ks.length ((v ins).getD k []))).toArray;rw[hv,hg,Ay h1.1.1];exact h1
  |mem ks g wr=>exact ih
  |sl ks g wr=>exact ih
  |fL ks g wr=>exact ih
 | [],_::_,_,_,_,h,_=>by simp[Jg] at h
 | [],[],_::_,_,_,h,_=>by simp[Jg] at h
 | [],[],[],_::_,_,h,_=>by simp[Jg] at h
 |_::_,[],_,_,_,h,_=>by simp[Jg] at h
 |_::_,_::_,[],_,_,h,_=>by simp[Jg] at h
 |_::_,_::_,_::_,[],_,h,_=>by simp[Jg] at h
omit hC hk gS ia μ in
theorem y9{t:Nat}:∀ {ts:List Nat} {ps:List Et},ts.length=ps.length->t∈ts->t ∉ Tl ts ps->∃(j:Nat) (p:Et),ps[j]? = some p/\p.cp≠none/\ts[j]? = some t
 | [],_,_,h,_=>by cases h
 |u::ts,[],hl,_,_=>by simp at hl
 | u::ts,p::ps,hl,h,hn=>by
  have next:t∈ts->t ∉ Tl ts ps->∃(j:Nat) (q:Et),(p::ps)[j]? = some q/\q.cp≠none/\(u::ts)[j]? = some t:=λh hn=>by
   obtain⟨j,q,h1,h2,h3⟩:=y9 (by simpa using hl) h hn;exact⟨j+1,q,by simpa using h1,h2,by simpa using h3⟩
  rcases G9.1 h with rfl|h
  ·cases p with
   |int k=>exact absurd Jv hn
   |bool=>exact absurd Jv hn
   |agg ks=>exact absurd Jv hn
   |mem ks g wr=>exact⟨0,_,rfl,by simp[Et.cp],rfl⟩
   |sl ks g wr=>exact⟨0,_,rfl,by simp[Et.cp],rfl⟩
   |fL ks g wr=>exact⟨0,_,rfl,by simp[Et.cp],rfl⟩
  ·refine next h λhh=>hn ?_
   cases p<;>first|exact MN _ hh|exact hh
theorem Ih.ok{E:En}(e1:E.P=P)(e2:E.GB=GB)(e3:E.GC=GC){d:LD}(d1:d.ps=i.ps)(d2:d.ss=i.ss)(d3:d.cl=i.cl)(d4:d.nt=i.nt){pre:List (List Int)->Prop}(hT:∀fe,lk d.tg E.C.T=some fe->fe= .one (i.sum C pre))
  (MY:∀ins,J8 i.s0.params ins->pre ins->i.pre C ins):aJ E d i.id (.loop i.c):=by
 intro fe CT a w ins bs ε δ hP hS CN oX cX;rw[hT fe CT] at hP hS CN ⊢;rw[e2] at δ hP;rw[e3] at ε ⊢;rw[e1];rw[d1] at hP ⊢;rw[d4] at cX;have hP0:Jg GB w i.s0.params (i.ps.map λt=>a.tmps.getD t undef) ins bs:=hP;have j0:Ep i.s0.params bs:=hS;have aiW:i.pre C ins:=MY ins (Yc hP0) (CN rfl);have hI:wF i C GB GC a w bs ins a w:=⟨hP0,BD.refl _ _,cX,oX,λ_ _=>rfl,λ_ _ _ _ _ _=>rfl,ε⟩;have hr:=eT hC hk gS ia μ j0 δ (i.fuel ins) a w ins hI aiW;refine wp_mono (wp_block (wp_loop_rounds _ hr)) ?_;rintro e a' w' ⟨rfl,g1,g2,g3,g4,g5,g6,g7⟩;have eJ:i.val C ins=Ht (i.step C) (i.fuel ins) ins:=rfl;have gj:=hk;unfold Ih.cN at gj;simp only[Bj] at gj;obtain⟨⟨⟨⟨⟨⟨⟨k1,k2⟩,k3⟩,k4⟩,k5⟩,k6⟩,k7⟩,k8⟩:=gj;have hlen:=Ca k6;refine⟨rfl,[],(i.ss.map λt=>a'.tmps.getD t undef),⟨rfl,λb hb=>(by cases hb),λx y p q b c hp=>(by simp[FE.cf,Ih.sum] at hp),?_,λp hp=>?_,λj p b hp=>(by simp[FE.cf,Ih.sum] at hp),?_,g7⟩,g3.trans cX.symm,g4,λt ht hn=>?_,λj t v hj hv=>?_⟩
 ·have:Xf (FE.cf (.one (i.sum C pre)) true) bs=Xf i.s0 bs:=by
   funext b o
   apply propext;unfold Xf;simp only[FE.cf,Ih.sum,Us];constructor
   ·rintro⟨p,⟨q,hq,rfl⟩,h⟩;exact⟨q,hq,h⟩
   ·rintro⟨q,hq,h⟩;exact⟨_,⟨q,hq,rfl⟩,h⟩
  rw[this];exact g2
 ·simp only[FE.cf,Ih.sum,Us] at hp;obtain⟨q,hq,rfl⟩:=hp;have h1:=Kh.1 k3 q hq;simp only[eJ];split at h1
  ·rename_i ks g hp;obtain⟨v,x,b,p1,p2,p3,p4⟩:=QL g1 _ _ hp;have:=GG (λ_ _=>Mx) h1;subst this;have hx:(Ht (i.step C) (i.fuel ins) ins).getD q.1 []=x:=by rw[List.getD,p2];rfl
   rw[GH p3,hx,Ay p4.2.1.1.1];exact p4.2.1
  ·rename_i ks g hp;obtain⟨v,x,b,p1,p2,p3,p4⟩:=QL g1 _ _ hp;have:=GG (λ_ _=>Mx) h1;subst this;obtain⟨c,_,_,p5,_⟩:=p4;have hx:(Ht (i.step C) (i.fuel ins) ins).getD q.1 []=x:=by rw[List.getD,p2];rfl
   rw[GH p3,hx,Ay p5.1.1];exact p5
  ·rename_i ks g hp;obtain⟨v,x,b,p1,p2,p3,p4⟩:=QL g1 _ _ hp;have:=GG (λ_ _=>Mx) h1;subst this;obtain⟨m,c,_,_,p5,_⟩:=p4;have hx:(Ht (i.step C) (i.fuel ins) ins).getD q.1 []=x:=by rw[List.getD,p2];rfl
   rw[GH p3,hx,Ay p5.1.1];exact p5
  ·cases h1
 ·exact wD (v:=i.val C) (r:=i.val C ins) rfl (w:=w') (bs:=bs) g1 (λj=>by rw[KN];rfl)
 ·rw[d3] at ht;rw[d2] at hn;by_cases bj:t<i.nt
  ·by_cases hps:t∈i.ps
   ·obtain⟨j,p,h1,h2,h3⟩:=y9 hlen hps hn;exact g6 j t p h1 h2 h3
   ·exact g5 t (AG3 bj ht hps)
  ·simp[Array.getD,g3,cX,bj]
 ·rw[d2] at hj;rw[Ng,hj] at hv;exact WT hv
end
end
section
open Go
def P6(id:Nat):Code->List Code
 | .seq a b=>P6 id a++P6 id b
 | .cond _ t e=>P6 id t++P6 id e
 | .block j (.loop c)=>(bif Nat.beq j id then[c] else[])++P6 id c
 | .block _ c=>P6 id c
 | .loop c=>P6 id c
 |_=>[]
def PU(id:Nat)(c:Code):Code:=match P6 id c with
 | [b]=>b
 |_=>.skip
def TM(ids:List Nat):Code->Bool
 | .seq a b=>TM ids a&&TM ids b
 | .cond _ t e=>TM ids t&&TM ids e
 | .block id c=>Uw id ids&&TM ids c
 | .loop c=>TM ids c
 |_=>true
theorem Ip.fN{E:En}:∀(c:Code),TM (E.C.loops.map (·.1)) c=true->Ip E c
 | .seq a b,h=>by simp only[TM,Bj] at h;exact⟨Ip.fN a h.1,Ip.fN b h.2⟩
 | .cond _ a b,h=>by simp only[TM,Bj] at h;exact⟨Ip.fN a h.1,Ip.fN b h.2⟩
 | .block id c,h=>by
  simp only[TM,Bj] at h;refine⟨Ip.fN c h.2,λd hd=>?_⟩;have h1:=h.1;have:Dz id (E.C.loops.map (·.1))=true:=Gm.2 (Us.2 ⟨_,OU hd,rfl⟩);simp[Uw,this] at h1
 | .loop c,h=>Ip.fN c h
 | .skip,_=>trivial
 | .region .., _=>trivial
 | .exit _,_=>trivial
 | .ret,_=>trivial
 | .goto _,_=>trivial
 | .label _,_=>trivial
 | .scope _,_=>trivial
 | .rangeFunc .., _=>trivial
 | .refuse _,_=>trivial
theorem Ip.one{E:En}{id:Nat}{d:LD}{c b:Code}(hl:E.C.loops= [(id,d)])(hb:K5 id c= [.loop b])(hL:aJ E d id (.loop b))(h1:∀fe,lk d.tg E.C.T=some fe->∀x,fe.j7 x=true):Ip E c:=
 Ip.eK c λj e he=>by
  rw[hl] at he;simp only[lk] at he;cases hj:Nat.beq id j with
  |false=>rw[hj] at he;cases he
  |true=>
   rw[hj,cond_true,Ai] at he;have:=Ca hj;subst this;subst he;refine⟨λbody Mz=>?_,h1⟩;rw[hb,NU] at Mz;subst Mz;exact hL
theorem Ac.ajA{i:Ac}{P:Program}{C:Cx}{GB:Nat}{GC:Nat->Nat->Option Value}{ad:Nat->Nat×Nat}(hC:Ud P C GB GC){f:Nat}{fn:Func}(hf:P.funcs[f]? = some fn)(hb:fn.body=some i.c)(hn:fn.ntmps=i.nt)(hr:fn.results.toList=i.cA)
  (μ:∀E:En,E.P=P->E.C=C->E.GB=GB->E.GC=GC->Ip E i.c/\∀f i,lk f C.inl=some i->Ip E i.c) (gS:Q8 GC ad i.cq) (ia:∀x∈i.cq,(FY ad x.1).1<GB) (hk:i.cN C=true) {pre:List (List Int)->Prop} (Wb:∀ins,J8 i.s0.params ins->pre ins->Cv C.T (i.tree C) (BK ins)):Bv P GB GC f (.one (i.vu C pre)):=
 Bv.one λargs ins bs w h1 h2 h3 h4 h5=>Ac.gen (hyp:=pre) hC hf hb hn hr μ gS ia hk Wb args ins bs w h1 h2 h3 h4 (h5 rfl)
end
end Go.Proofs.YtkbfdaoohhmgoaaGreatDoor
