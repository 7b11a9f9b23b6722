/- The symbolic executor, part 12: any one operation. -/
import Derived.Test.YtloibefkijfdlaaGreatDoorSa
import Derived.Laws.BytesString
import Derived.Laws.Append
import Derived.LoopN
import Derived.Tactics
import Derived.Laws.Sem
namespace Go.Proofs.YtloibefkijfdlaaGreatDoor
section
open Go
section
variable{st:St}{V:Vl}{a:Act}
theorem Tq.opdL(h:Tq st V a):∀ {xs:List Operand} {vs:List SV},opdL st xs=some vs→xs.map a.eval=vs.map (·.den V)∧∀ v∈vs,v.ok V∧v.lt st.nv (Db st.rg)=true
 | [],vs,hx=>by
  simp only[Go.Proofs.YtloibefkijfdlaaGreatDoor.opdL,Am] at hx;subst hx;exact⟨rfl,fun v h=>by cases h⟩
 | x::xs,vs,hx=>by
  unfold Go.Proofs.YtloibefkijfdlaaGreatDoor.opdL at hx
  split at hx
  ·rename_i v ws h1 h2
   simp only[Am] at hx;subst hx;obtain⟨g1,g2,g3⟩:=h.opd h1;obtain⟨g4,g5⟩:=h.opdL h2;refine⟨by simp[g1,g4],fun u hu=>?_⟩
   rcases J4.1 hu with rfl|hu
   ·exact⟨g2,g3⟩
   ·exact g5 u hu
  ·cases hx
end
theorem iG{P:Program}{ρ:Operand→Value}(hρ:∀ f,ρ (.func f)= .func (.func f) #[] #[])(dst:Option Tmp)(f:Nat)(args:Array Operand)(ψ:Array TypeId)(ty:TypeId)(pos:String)(after:Array Edge)(g:Option (Nat×Bool))(w:World):
  (execOp ρ ⟨dst,.call ⟨.value (.func f),args,ψ⟩,ty,pos,after,g⟩).run P w=(callFunc f (args.map ρ)).run P w:=by
 simp only[execOp,resolve,hρ,Deferred.ofValue,I1,KD,IB,invoke,Array.empty_append,Array.append_empty]
theorem Wu{P:Program}{ρ:Operand→Value}(dst:Option Tmp)(b:Builtin)(args:Array Operand)(ψ:Array TypeId)(ty:TypeId)(pos:String)(after:Array Edge)(g:Option (Nat×Bool))(w:World):
  ∃ cs,(execOp ρ ⟨dst,.call ⟨.builtin b,args,ψ⟩,ty,pos,after,g⟩).run P w=(builtin b ψ ty cs (args.map ρ)).run P w:=
 ⟨_,by simp only[execOp,resolve,I1,KD,IB,invoke];rfl⟩
theorem bu(z:List Value)(hz:0<z.length):∀ n,(List.range (n*z.length)).map (fun i=>z.getD (i%z.length) default)=YZ n z
 |0=>by simp[YZ]
 | n+1=>by
  rw[show (n+1)*z.length=z.length+n*z.length by rw[Nat.add_mul];omega,List.range_add,List.map_append,YZ]
  congr 1
  ·apply List.ext_getElem?
   intro i
   by_cases hi:i<z.length
   ·rw[OX,List.getElem?_range hi];simp[Nat.mod_eq_of_lt hi,Jo hi]
   ·rw[List.getElem?_eq_none (by simp;omega),List.getElem?_eq_none (by omega)]
  ·rw[← bu z hz n,List.map_map]
   apply fU
   intro i _
   simp
theorem bU(z:Array Value)(hz:0<z.size)(n:Nat):(Array.range (n*z.size)).map (fun i=>z[i%z.size]!)=(YZ n z.toList).toArray:=by
 apply Array.ext'
 rw[← bu z.toList (by simpa using hz) n];simp only[Array.toList_map,Array.toList_range,Array.length_toList]
 apply fU
 intro i _
 simp[List.getD,getElem!_def]
 cases z[i%z.size]? <;> rfl
theorem dw{α β:Type}(f:α→β)(l:List α):∀ n,(YZ n l).map f=YZ n (l.map f)
 |0=>rfl
 |n+1=>by simp[YZ,dw f l n]
theorem bW{α:Type}{x:α}{l:List α}:∀ {n:Nat},x∈YZ n l→x∈l
 |0,h=>by cases h
 |n+1,h=>by
  rcases iQ.1 h with h|h
  ·exact h
  ·exact bW h
theorem Gz{P:Program}{o:Oper}{a:Act}{w w':World}{next:Act→World→Prop}{Q:Exit→Act→World→Prop}{v:Value}(h:(execOp a.eval o).run P w= .ok (.value v) w')(hn:next (a.put o.dst v) w'):
  o.wp P a w next Q:=by
 unfold Oper.wp;rw[h];exact hn
section
variable{E:En}(hE:Qs E){st:St}{V:Vl}{a:Act}{w:World}{bv:Nat}(hm:Pw E st.rg V w)(hs:Zl bv st.rg)(hT:Tq st V a)(hnv:st.nv≤bv)
include hE hm hs hT hnv
theorem Xb{l:Nat}{cs:List LV}{v:LV}{m:aK}{nb:Nat}(h:vo bv st.rg l cs v=some m)(hok:∀ c∈cs,c.ok V)(elem:Nat):
  ∃ w' V',(newRow elem (cs.map (·.den V)).toArray).run E.P w= .ok ⟨w.heap.size,0,none⟩ w'∧XL E st V nb bv m.rg m.er V' w'∧V'.ν l=(w.heap.size,0)∧m.o= .val (IX v):=by
 have _:=hnv;unfold vo at h
 split at h
 ·rename_i rg hrg
  simp only[Am] at h;subst h;obtain⟨w',h1,h2,h3,h4⟩:=APQ hE hm hs hT.ln (nb:=nb) hrg hok elem;exact⟨w',_,h1,h2,h3,rfl⟩
 ·cases h
omit hE hm hs hT hnv in
theorem qO(C:Cx)(st:St)(vs:List SV)(f:Nat)(hf:f<10000):∀ (n k:Nat),k%10000=f→k+10000*n<1000000→su C st vs n k%10000=f∧su C st vs n k<1000000
 |0,k,h,hl=>⟨h,by simp only[su];omega⟩
 | n+1,k,h,hl=>by
  unfold su
  split
  ·split
   ·exact⟨h,by omega⟩
   ·exact qO C st vs f hf n (k+10000) (by omega) (by omega)
  ·exact⟨h,by omega⟩
omit hE hm hs hT hnv in
theorem uN{rg:List Rg}{r:Option OO}{m:aK}(h:ACA rg r=some m):∃ o,r=some o∧m=⟨o,rg,false⟩:=by
 cases r with
 |none=>cases h
 |some o=>simp only[ACA,Am] at h;exact⟨o,rfl,h.symm⟩
omit hE hm hs hT hnv in
theorem AFj{op:BinOp}{A B:Iq}{nb:Nat}{o:OO}(h:ACQ op A B nb=some o)(hd:DsH E.C.T V o.ds):
  (op= .eql∨op= .neq)∧o.v.den V= .bool (cond (match op with | .eql=>true|_=>false) (A.den V.ρ == B.den V.ρ) (!(A.den V.ρ == B.den V.ρ)))∧o.v.ok V∧o.ln= []:=by
 unfold ACQ at h
 split at h
 ·simp only[Am] at h;subst h;have h1:=hd _ LA;simp only[FR.den,OP.den,NT,Vi,Qu,Ze] at h1;refine⟨.inl rfl,?_,trivial,rfl⟩;simp only[IX,SV.den_t,TV.den_l,LV.den_bool,X.den,h1,Qu,mK,cond_true]
 ·simp only[Am] at h;subst h;have h1:=hd _ LA;have h2:=hd _ (MQ _ LA);simp only[FR.den,OP.den,NT,Vi,Qu,Ze,Iq.den_xs,X.den] at h1 h2;refine⟨.inr rfl,?_,trivial,rfl⟩;simp only[IX,SV.den_t,TV.den_l,LV.den_bool,X.den,h2,h1,Qu,mK,cond_false,d1]
  cases (A.den V.ρ == B.den V.ρ)<;>rfl
 ·cases h
theorem o6 {o:Oper} {sel:Bool} {nb lb:Nat} {m:aK} (h:NQ E.C o sel nb lb bv st=some m) (hd:DsH E.C.T V m.o.ds) (ho:ObH E.C.T V m.o.ob)
  (hsel:∀ f args ψ vs fe as,o.op= .call ⟨.value (.func f),args,ψ⟩→opdL st args.toList=some vs→lk f E.C.T=some fe→Py st (fe.sel sel).params vs=some as→fe.cnd (as.1.map (·.den V.ρ))=sel)
  (hsn:m.er=false∨(Zl nb st.rg∧st.nv≤nb)) {next:Act→World→Prop} {Q:Exit→Act→World→Prop}
  (K:∀ V' w',XL E st V nb bv m.rg m.er V' w'→m.o.v.ok V'→next (a.put o.dst (m.o.v.den V')) w'):o.wp E.P a w next Q:=by
 have hW:∀ r,RB E.C o nb st=some r→some (aK.mk r st.rg false)=some m→o.wp E.P a w next Q:=fun r hr he=>by
  simp only[Am] at he;subst he;obtain⟨h1,h2,-⟩:=o5 hE.tt hT hr hd ho;exact Gz (h1 w) (K V w (.same hm hs) h2)
 obtain⟨dst,op,type,pos,after,guard⟩:=o
 cases op
 case load t x=>
  simp only[NQ] at h
  split at h
  ·rename_i v hx
   split at h
   ·rename_i r hr
    simp only[Am] at h;subst h;obtain⟨h1,h2,-⟩:=hT.opd hx;obtain⟨h3,h4⟩:=bi hE hm hT.ln hr h2 hd;refine Gz (v:=r.v.den V) (w':=w) ?_ (K V w (.same hm hs) h4);have h1':a.eval x=v.den V:=h1;simp only[execOp,h1',I1,h3,IB,KD]
   ·cases h
  ·cases h
 case store t x y=>
  simp only[NQ] at h
  split at h
  ·rename_i v u hx hy
   obtain⟨h1,h2,-⟩:=hT.opd hx;obtain⟨h3,h4,-⟩:=hT.opd hy;obtain⟨w',h5,h6,h7⟩:=ABK hE hm hs hT.ln h h2 h4 hd;have h1':a.eval x=v.den V:=h1;have h3':a.eval y=u.den V:=h3;have hr:(execOp a.eval ⟨dst,.store t x y,type,pos,after,guard⟩).run E.P w= .ok .skip w':=by
    simp only[execOp,h1',h3',I1,h5,IB,KD]
   have hk:=K V w' h6 (by rw[h7];exact fun t h=>by cases h);rw[h7] at hk;unfold Oper.wp;rw[hr];exact hk
  ·cases h
 case alloc t=>
  simp only[NQ] at h
  split at h
  ·rename_i d hlk
   obtain⟨z,hz,hzl⟩:=TD.run_zero (hE.tt t d hlk) w;obtain⟨hz1,hz2⟩:=Uo hzl V st.nv (Db st.rg);obtain⟨w',V',h1,h2,h3,h4⟩:=Xb hE hm hs hT hnv (nb:=nb) h (fun c hc=>(hz2 c hc).1) t;have hzc:(d.zero.map (·.den V)).toArray=z.cells:=by rw[hz1]
   rw[hzc] at h1;refine Gz (v:=.pointer (some ⟨w.heap.size,0,none⟩)) (w':=w') ?_ ?_
   ·simp only[execOp,Instr.alloc,I1,hz,IB,newVar,h1,KD]
   ·have:=K V' w' h2 (by rw[h4];trivial);rw[h4] at this
    simpa only[OO.val,IX,SV.den_t,TV.den_l,LV.den_ptr,h3,Q3] using this
  ·cases h
 case box t x=>
  simp only[NQ] at h
  split at h
  ·rename_i v hx
   obtain⟨h1,h2,-⟩:=hT.opd hx;obtain⟨w',V',h3,h4,h5,h6⟩:=Xb hE hm hs hT hnv (nb:=nb) h (TV.cells_ok h2) t;have h1':a.eval x=v.den V:=h1;have hc:(v.cells.map (·.den V)).toArray=(v.den V).cells:=by rw[← TV.cells_den h2]
   rw[hc] at h3;refine Gz (v:=.pointer (some ⟨w.heap.size,0,none⟩)) (w':=w') ?_ ?_
   ·simp only[execOp,h1',Instr.box,newVar,I1,h3,IB,KD]
   ·have:=K V' w' h4 (by rw[h6];trivial);rw[h6] at this
    simpa only[OO.val,IX,SV.den_t,TV.den_l,LV.den_ptr,h5,Q3] using this
  ·cases h
 case buildSlice t n ps=>
  simp only[NQ] at h
  split at h
  ·rename_i e sz by' ag zz vs hlk hvs
   split at h
   ·rename_i d hd'
    cases hb:(Nat.ble (n*d.size) 16777216&&Nat.blt 0 (n*d.size)&&Nat.beq d.zero.length d.size) with
    | false=>
     rw[hb] at h;simp only[cond_false] at h
     cases hn0:Nat.beq n 0 with
     |false=>rw[hn0] at h;simp at h
     | true=>
      rw[hn0] at h;simp only[cond_true] at h;have hn:=CL hn0;subst hn
      split at h
      ·obtain⟨hp1,hp2⟩:=hT.parts hvs;have hp1':(ps.map fun (p:Nat×Operand)=>(p.1,a.eval p.2)).toList= []:=by
        rw[Array.toList_map];exact hp1
       have hsz:=TD.run_size (hE.tt e d hd') w;obtain⟨desc,hu,hk⟩:=TD.under_of (hE.tt _ _ hlk) rfl;have:=TK.sl_inv hk;subst this;obtain⟨w',V',g1,g2,g3,g4⟩:=Xb hE hm hs hT hnv (nb:=nb) h (fun c hc=>by cases hc) e;have g1':(newRow e #[]).run E.P w= .ok ⟨w.heap.size,0,none⟩ w':=g1;refine Gz (v:=.slice (some ⟨w.heap.size,0,none⟩) 0 0) (w':=w') ?_ ?_
       ·simp only[execOp,Instr.buildSlice,I1,hu,IB,hsz];rw[if_neg (by simp),if_pos (by simp)];simp only[I1,IB,KD];rw[hp1'];have hr:(Array.range (0*d.size))= #[]:=by simp
        simp only[hr,Instr.fill,List.map_toArray,Vi,I1,g1',IB,KD]
       ·have:=K V' w' g2 (by rw[g4];simp only[OO.val,IX,SV.ok,TV.ok,LV.ok,CX.den,X.den];omega);rw[g4] at this
        simpa only[OO.val,IX,SV.den_t,TV.den_l,LV.den_sl,g3,Q3,CX.den_n,X.den_lit,TJ,Nat.sub_zero,Int.toNat_zero] using this
      ·cases h
    | true=>
     rw[hb] at h;simp only[cond_true] at h;simp only[Bd] at hb;have hb1:=Na hb.1.1;have hb2:=EF hb.1.2;have hb3:=CL hb.2
     split at h
     ·rename_i cs hcs
      obtain⟨z,hz,hzl⟩:=TD.run_zero (hE.tt e d hd') w;obtain⟨hz1,hz2⟩:=Uo hzl V st.nv (Db st.rg);obtain⟨hp1,hp2⟩:=hT.parts hvs;have hp1':(ps.map fun (p:Nat×Operand)=>(p.1,a.eval p.2)).toList=vs.map fun p=>(p.1,p.2.den V):=by
       rw[Array.toList_map];exact hp1
      have hsz:=TD.run_size (hE.tt e d hd') w;have hst:J8 E.C e=some d.size:=by simp only[J8,hd']
      obtain⟨h3,h4⟩:=XT (C:=E.C) (k:=.arr n e) (V:=V) (place:=fun i=>some (i*d.size,d.size)) (fun i p hp=>by
       simp only[aA,hst] at hp;exact hp) hcs (fun c hc=>(hz2 c (bW hc)).1) (fun p hp=>(hp2 p hp).1)
      obtain⟨desc,hu,hk⟩:=TD.under_of (hE.tt _ _ hlk) rfl;have:=TK.sl_inv hk;subst this;obtain⟨w',V',g1,g2,g3,g4⟩:=Xb hE hm hs hT hnv (nb:=nb) h h4 e;have hzs:z.cells.size=d.size:=by rw[← Array.length_toList, ← hz1,Vj,hb3]
      have hsp:0<d.size:=by
       cases hds:d.size with
       |zero=>rw[hds] at hb2;simp at hb2
       |succ k=>omega
      have hzr:(Array.range (n*d.size)).map (fun i=>z.cells[i%z.cells.size]!)=((YZ n d.zero).map (·.den V)).toArray:=by
       rw[dw,hz1, ← hzs];exact bU z.cells (by omega) n
      refine Gz (v:=.slice (some ⟨w.heap.size,0,none⟩) n n) (w':=w') ?_ ?_
      ·simp only[execOp,Instr.buildSlice,I1,hu,IB,hsz];rw[if_neg (by omega),if_neg (by omega)];simp only[I1,hz,IB,KD,hzr];rw[show (ps.map fun x=>match x with|(i,x)=>(i,a.eval x)).toList=vs.map fun p=>(p.1,p.2.den V) from hp1'];simp only[h3,I1,g1,IB,KD]
      ·have:=K V' w' g2 (by rw[g4];simp only[OO.val,IX,SV.ok,TV.ok,LV.ok,CX.den,X.den];omega);rw[g4] at this
       simpa only[OO.val,IX,SV.den_t,TV.den_l,LV.den_sl,g3,Q3,CX.den_n,X.den_lit,TJ,Nat.sub_zero] using this
     ·cases h
   ·cases h
  ·cases h
 case makeSlice t x y=>
  simp only[NQ] at h
  split at h
  ·rename_i e sz by' ag zz n c hlk hn hc
   split at h
   ·rename_i d hd'
    cases hb:(Nat.ble n c&&Nat.ble c 65536&&Nat.ble (d.bytes*c) 281474976710656&&Nat.blt 0 (c*d.size)&&Nat.beq d.zero.length d.size) with
    |false=>rw[hb] at h;simp at h
    | true=>
     rw[hb] at h;simp only[cond_true] at h;simp only[Bd] at hb;have hb1:=Na hb.1.1.1.1;have hb2:=Na hb.1.1.1.2;have hb3:=Na hb.1.1.2;have hb4:=EF hb.1.2;have hb5:=CL hb.2;obtain⟨z,hz,hzl⟩:=TD.run_zero (hE.tt e d hd') w;obtain⟨hz1,hz2⟩:=Uo hzl V st.nv (Db st.rg);obtain⟨desc,hu,hk⟩:=TD.under_of (hE.tt _ _ hlk) rfl;have:=TK.sl_inv hk;subst this;obtain⟨w',V',g1,g2,g3,g4⟩:=Xb hE hm hs hT hnv (nb:=nb) h (fun c' ω=>(hz2 c' (bW ω)).1) e;obtain⟨kn,hxn⟩:=hT.bnd hn;obtain⟨kc,hxc⟩:=hT.bnd hc;have hsz:=TD.run_size (hE.tt e d hd') w;obtain⟨abN,ii,zz',q1,q2,q3,q4,q5,q6,q7,q8⟩:=TD.of_spec (hE.tt e d hd');have hti:(typeInfo e).run E.P w= .ok ii w:=by simp[typeInfo,q2]
     have hzs:z.cells.size=d.size:=by rw[← Array.length_toList, ← hz1,Vj,hb5]
     have hsp:0<d.size:=by
      cases hds:d.size with
      |zero=>rw[hds] at hb4;simp at hb4
      |succ k=>omega
     have hzr:(Array.range (c*d.size)).map (fun i=>z.cells[i%z.cells.size]!)=((YZ c d.zero).map (·.den V)).toArray:=by
      rw[dw,hz1, ← hzs];exact bU z.cells (by omega) c
     have hwr:∀ j:Nat,j≤65536→IntKind.i64.wrap (j:Int)=j:=fun j hj=>by
      simp[IntKind.wrap,IntKind.bits,IntKind.signed];omega
     have hbc:((d.bytes:Int)*(c:Int))≤281474976710656:=by
      rw[← Int.natCast_mul];omega
     refine Gz (v:=.slice (some ⟨w.heap.size,0,none⟩) n c) (w':=w') ?_ ?_
     ·simp only[execOp,hxn,hxc,Instr.makeSlice,I1,hu,IB,asInt,asIntOf,KD,hti,q8,hwr n (by omega),hwr c hb2];rw[if_neg (by
       simp only[Bool.or_eq_true,decide_eq_true_eq,not_or,Int.not_lt];refine⟨⟨⟨by omega,by omega⟩,by omega⟩,by omega⟩)]
      simp only[I1,run_askRoom,IB,hsz,TJ];rw[if_neg (by omega)];simp only[I1,hz,IB,KD,hzr,g1]
     ·have:=K V' w' g2 (by rw[g4];simp only[OO.val,IX,SV.ok,TV.ok,LV.ok,CX.den,X.den];omega);rw[g4] at this
      simpa only[OO.val,IX,SV.den_t,TV.den_l,LV.den_sl,g3,Q3,CX.den_n,X.den_lit,TJ,Nat.sub_zero] using this
   ·cases h
  ·cases h
 case call c=>
  obtain⟨callee,args,ψ⟩:=c
  cases callee with
  |invoke r s=> 
   simp only[NQ,RB] at h
   cases h
  | value f=>
   cases f with
   | func f=>
    simp only[NQ,ALE] at h
    split at h
    ·cases h
    rename_i vs hvs
    obtain⟨e1,e2⟩:=hT.opdL hvs;have hargs:args.map a.eval=(vs.map (·.den V)).toArray:=by
     apply Array.ext';rw[Array.toList_map,e1]
    have hrun:=fun w=>iG (P:=E.P) (ρ:=a.eval) (fun _=>rfl) dst f args ψ type pos after guard w
    cases h64:Nat.beq f E.C.a64 with
    | true=>
     have hf:=CL h64;rw[h64] at h;simp only[cond_true] at h
     split at h
     ·rename_i x y z
      simp only[Am] at h;subst h;have ox:=(e2 _ LA).1;have oy:=(e2 _ (MQ _ LA)).1;have oz:=ho _ (Nc.2 rfl);simp only[JM.den] at oz;have h4:=hd _ (Nc.2 rfl);simp only[FR.den,OP.den,NT,Vi,Iq.den_xs,Qu,Ze,d1] at h4;have hr:=hE.a64 (x.den V.ρ) (y.den V.ρ) (z.den V.ρ) w ox.1 oy.1 oz;have hx2:x.den V.ρ≤18446744073709551615:=ox.2;have hy2:y.den V.ρ≤18446744073709551615:=oy.2;have hx1:0≤x.den V.ρ:=ox.1;have hy1:0≤y.den V.ρ:=oy.1;have v0:X.den V.ρ (.v nb 0)=(x.den V.ρ+y.den V.ρ+z.den V.ρ)%18446744073709551616:=by
       show (V.ρ nb).getD 0 0=_;rw[h4];rfl
      have v1:X.den V.ρ (.v nb 1)=(x.den V.ρ+y.den V.ρ+z.den V.ρ)/18446744073709551616:=by
       have v2:X.den V.ρ (.v nb 1)=if x.den V.ρ+y.den V.ρ+z.den V.ρ<18446744073709551616 then 0 else 1:=by
        show (V.ρ nb).getD 1 0=_;rw[h4];rfl
       rw[v2]
       split<;>omega
      refine Gz (w':=w) ?_ (K V w (.same hm hs) ?_)
      ·rw[hrun,hargs,hf];simp only[NT,Vi,SV.den_t,SV.den_tup,TV.den_l,LV.den_int,v0,v1];exact hr
      ·intro t ht
       simp only[J4,List.not_mem_nil,or_false] at ht
       rcases ht with rfl|rfl
       ·simp only[TV.ok,LV.ok,v0,JC,IntKind.min,IntKind.max,IntKind.bits,IntKind.signed];simp;omega
       ·simp only[TV.ok,LV.ok,v1,JC,IntKind.min,IntKind.max,IntKind.bits,IntKind.signed];simp;omega
     ·cases h
    |false=>
    rw[h64] at h;simp only[cond_false] at h
    cases hs64:Nat.beq f E.C.s64 with
    | true=>
     have hf:=CL hs64;rw[hs64] at h;simp only[cond_true] at h
     split at h
     ·rename_i x y z
      simp only[Am] at h;subst h;have ox:=(e2 _ LA).1;have oy:=(e2 _ (MQ _ LA)).1;have oz:=ho _ (Nc.2 rfl);simp only[JM.den] at oz;have h4:=hd _ (Nc.2 rfl);simp only[FR.den,OP.den,NT,Vi,Iq.den_xs,Qu,Ze,d1] at h4;have hx2:x.den V.ρ≤18446744073709551615:=ox.2;have hy2:y.den V.ρ≤18446744073709551615:=oy.2;have hx1:0≤x.den V.ρ:=ox.1;have hy1:0≤y.den V.ρ:=oy.1;have hr:=hE.s64 (x.den V.ρ) (y.den V.ρ) (z.den V.ρ) w ox.1 oy.1 oz (by omega);have v0:X.den V.ρ (.v nb 0)=(x.den V.ρ+18446744073709551616-y.den V.ρ-z.den V.ρ)%18446744073709551616:=by
       show (V.ρ nb).getD 0 0=_;rw[h4];rfl
      have v1:X.den V.ρ (.v nb 1)=if x.den V.ρ<y.den V.ρ+z.den V.ρ then 1 else 0:=by
       show (V.ρ nb).getD 1 0=_;rw[h4];rfl
      refine Gz (w':=w) ?_ (K V w (.same hm hs) ?_)
      ·rw[hrun,hargs,hf];simp only[NT,Vi,SV.den_t,SV.den_tup,TV.den_l,LV.den_int,v0,v1];exact hr
      ·intro t ht
       simp only[J4,List.not_mem_nil,or_false] at ht
       rcases ht with rfl|rfl
       ·simp only[TV.ok,LV.ok,v0,JC,IntKind.min,IntKind.max,IntKind.bits,IntKind.signed];simp;omega
       ·simp only[TV.ok,LV.ok,v1,JC,IntKind.min,IntKind.max,IntKind.bits,IntKind.signed];simp;split<;>omega
     ·cases h
    |false=>
    rw[hs64] at h;simp only[cond_false] at h
    cases hlt:Nat.blt f 10000 with
    |false=>rw[hlt] at h;simp at h
    |true=>
    rw[hlt] at h;simp only[Bool.not_true,cond_false] at h;have acA:=EF hlt;obtain⟨hkm,hkl⟩:=qO E.C st vs f acA 20 f (Nat.mod_eq_of_lt acA) (by omega);generalize hk:su E.C st vs 20 f=k at h hkm hkl
    cases hkb:(Nat.beq k f||(sel&&AKY (lk k E.C.T))) with
    |false=>rw[hkb] at h;cases h
    |true=>
    rw[hkb,cond_true] at h
    split at h
    ·cases h
    rename_i r hr
    simp only[Am] at h;subst h;obtain⟨fe,as,bs,g1,g2,g3,g4,g5,g6⟩:=rP hE hm hs hT.ln hr (fun v hv=>⟨(e2 v hv).1,SV.lt_mono hnv (fun _ h=>h) (e2 v hv).2⟩)
     (hsn.imp id fun h=>⟨h.1,fun v hv=>SV.lt_mono h.2 (fun _ h=>h) (e2 v hv).2⟩) hd ho
    have hcnd:fe.cnd (as.1.map (·.den V.ρ))=sel:=by
     by_cases hkf:k=f
     ·subst hkf;exact hsel k args ψ vs fe as rfl hvs g1 g2
     ·have hnb:Nat.beq k f=false:=by cases hh:Nat.beq k f with|false=>rfl|true=>exact absurd (CL hh) hkf
      rw[hnb,Bool.false_or,Bd,g1] at hkb;rw[hkb.1]
      cases fe with
      |one s=>rfl
      |two c s1 s2=>cases hkb.2
    have hfe:=(hE.tb k fe g1).1 hkl;rw[hkm] at hfe;have hGw:E.GB≤w.heap.size:=G9 hE.gb hm.frm.1;have hcall:=hfe sel (vs.map (·.den V)) (as.1.map (·.den V.ρ)) bs w hm.gw hGw g3 g4 g5 hcnd;have hen:=hE.en k (vs.map (·.den V)).toArray w ⟨fe,g1⟩ hkl (by rw[hkm];intro e;rw[e,Nat.beq_refl] at h64;cases h64) (by rw[hkm];intro e;rw[e,Nat.beq_refl] at hs64;cases hs64);rw[hkm] at hen;unfold Oper.wp;rw[hrun,hargs,hen];refine hcall.mono ?_
    rintro e w' ⟨fb,vals,rfl,hP⟩
    obtain⟨V',k1,k2,k3⟩:=g6 fb vals w' hP;have hwrap:(Rk r.vs).den V'=TU vals∧(Rk r.vs).ok V':=by
     rw[← k2]
     cases hrv:r.vs with
     |nil=>exact⟨rfl,fun t h=>by cases h⟩
     |cons t ts=>
      rw[hrv] at k3
      cases ts with
      |nil=>exact⟨rfl,k3 t LA⟩
      |cons t' ts'=>exact⟨rfl,k3⟩
    show next (a.put dst (TU vals)) w';rw[← hwrap.1];exact K V' w' k1 hwrap.2
   |tmp t=>simp only[NQ,RB] at h;cases h
   |const v=>simp only[NQ,RB] at h;cases h
   |global g=>simp only[NQ,RB] at h;cases h
  | builtin b=>
   by_cases hcp:b= .copy
   ·subst hcp;simp only[NQ] at h
    split at h
    ·rename_i t x y ht0 hx0 hy0
     split at h
     ·rename_i e sz by' ag zz l o n c d l' o' n' c' d' hlk hx hy
      split at h
      ·rename_i ab5
       cases hnb:Nat.ble n 65536 with
       |false=>rw[hnb] at h;cases h
       |true=>
       rw[hnb,cond_true] at h;have adU:=Na hnb
       split at h
       ·rename_i cs hcs
        split at h
        ·rename_i rg hrg
         simp only[Am] at h;subst h;obtain⟨h1,h2,-⟩:=hT.opd hx;have h3:=hT.den hy;have hrd:=hm.read hcs;obtain⟨hlen,-⟩:=GR hcs;obtain⟨w1,w2⟩:=WU hE hm hs hT.ln (nb:=nb) hrg (fun c hc=>by
          obtain⟨i,hi,rfl⟩:=lu hc;exact (hrd i _ (Jo hi)).2)
         obtain⟨desc,hu,hk⟩:=TD.under_of (hE.tt _ _ hlk) rfl;have:=TK.sl_inv hk;subst this;obtain⟨cst,hrun⟩:=Wu (P:=E.P) (ρ:=a.eval) dst .copy args ψ type pos after guard w;have hx1:(args.map a.eval)[0]? = some (a.eval x):=by rw[Array.getElem?_map,hx0];rfl
         have hy1:(args.map a.eval)[1]? = some (a.eval y):=by rw[Array.getElem?_map,hy0];rfl
         have hld:=run_loadCells_list (P:=E.P) w ⟨(V.ν l').1,(V.ν l').2+o',none⟩ (cs.map (·.den V)) (fun j u hu=>by
          rw[OX,Ya] at hu;obtain⟨c,hc,rfl⟩:=hu;rw[DZ];exact (hrd j c hc).1)
         rw[Vj,hlen] at hld;refine Gz (w':=setCells w (V.ν l).1 ((V.ν l).2+o) (cs.map (·.den V))) ?_ (K V _ w2 ?_)
         ·rw[hrun];simp only[builtin,Builtin.copy_,ht0,hx1,hy1,h1,h3,SV.den_t,TV.den_l,LV.den_sl,I1,hu,IB,Builtin.lenOf,KD,IE hE.tt ab5,Builtin.firstCells,Nat.mul_one];rw[show Nat.min n' n=min n' n from rfl,hld];simp only[IB];rw[w1];rfl
         ·refine aV.1 ?_;have h1:min n' n≤65536:=G9 (Nat.min_le_right _ _) adU;simp only[bR,IntKind.min,IntKind.max,IntKind.bits,IntKind.signed,Bd,decide_eq_true_eq,X.den_lit];omega
        ·cases h
       ·cases h
      ·cases h
     ·cases h
    ·cases h
   ·by_cases hap:b= .append
    ·subst hap;simp only[NQ] at h
     split at h
     ·rename_i t t' x y ht0 ht1 hx0 hy0
      split at h
      ·rename_i e sz by' ag zz e' sz' acY ag' zz' l o n c d l' o' n' c' d' hlk aeo hx hy
       split at h
       ·rename_i ab5
        cases hnc:Nat.ble (n+n') (c-d) with
        |false=>
         rw[hnc] at h;cases h
        |true=>
        rw[hnc,cond_true] at h;have hn1:=Na hnc
        cases hnb:Nat.blt 0 n' with
        |false=>rw[hnb] at h;cases h
        |true=>
        rw[hnb,cond_true] at h;have hn2:=EF hnb
        split at h
        ·rename_i cs hcs
         split at h
         ·rename_i rg hrg
          simp only[Am] at h;subst h;obtain⟨h1,h2,-⟩:=hT.opd hx;have h3:=hT.den hy;have hrd:=hm.read hcs;obtain⟨hlen,-⟩:=GR hcs;obtain⟨w1,w2⟩:=WU hE hm hs hT.ln (nb:=nb) hrg (fun c hc=>by
           obtain⟨i,hi,rfl⟩:=lu hc;exact (hrd i _ (Jo hi)).2)
          obtain⟨desc,hu,hk⟩:=TD.under_of (hE.tt _ _ hlk) rfl;have:=TK.sl_inv hk;subst this;obtain⟨abN,hu',hk'⟩:=TD.under_of (hE.tt _ _ aeo) rfl;have:=TK.sl_inv hk';subst this;obtain⟨cst,hrun⟩:=Wu (P:=E.P) (ρ:=a.eval) dst .append args ψ type pos after guard w;have hx1:(args.map a.eval)[0]? = some (a.eval x):=by rw[Array.getElem?_map,hx0];rfl
          have hy1:(args.map a.eval)[1]? = some (a.eval y):=by rw[Array.getElem?_map,hy0];rfl
          have hld:=run_loadCells_list (P:=E.P) w ⟨(V.ν l').1,(V.ν l').2+o',none⟩ (cs.map (·.den V)) (fun j u hu=>by
           rw[OX,Ya] at hu;obtain⟨c,hc,rfl⟩:=hu;rw[DZ];exact (hrd j c hc).1)
          rw[Vj,hlen] at hld;refine Gz (w':=setCells w (V.ν l).1 ((V.ν l).2+(o+n)) (cs.map (·.den V))) ?_ (K V _ w2 ?_)
          ·rw[hrun];have hcd:((X.lit (Int.ofNat c)).den V.ρ).toNat-d=c-d:=rfl;simp only[builtin,Builtin.append_,ht0,ht1,hx1,hy1,h1,h3,SV.den_t,TV.den_l,LV.den_sl,CX.den_n,I1,hu,hu',IB,Builtin.lenOf,KD,IE hE.tt ab5,Builtin.firstCells,Nat.mul_one,hcd,if_pos hn1,Rc,if_false,Bool.not_false,if_true];rw[hld];simp only[IB,DZ];rw[XN,w1];rfl
          ·show ((n+n'+d:Nat):Int)≤(CX.n (X.lit (Int.ofNat c))).den V;rw[CX.den_n,X.den_lit];show ((n+n'+d:Nat):Int)≤(c:Int);omega
         ·cases h
        ·cases h
       ·cases h
      ·cases h
     ·cases h
    ·have hst:NQ E.C ⟨dst,.call ⟨.builtin b,args,ψ⟩,type,pos,after,guard⟩ sel nb lb bv st=(match RB E.C ⟨dst,.call ⟨.builtin b,args,ψ⟩,type,pos,after,guard⟩ nb st with
       |some r=>some ⟨r,st.rg,false⟩
       |none=>none):=by
      cases b<;>first|rfl|exact absurd rfl hcp|exact absurd rfl hap
     rw[hst] at h
     split at h
     ·rename_i r hr
      exact hW r hr h
     ·cases h
 case binOp op xt x y ty=>
  simp only[NQ] at h
  split at h
  ·rename_i cs cs' hx hy
   unfold eqM at h
   split at h
   ·rename_i ks k1 x1 k2 x2 hks hc1 hc2
    cases hb:(Ky ks k1&&Ky ks k2) with
    |false=>rw[hb] at h;cases h
    |true=>
    rw[hb,cond_true] at h;simp only[Bd] at hb;obtain⟨r,hr,rfl⟩:=uN h;obtain⟨g1,g2,g3,g4⟩:=AFj (E:=E) (V:=V) hr hd;obtain⟨h1,h2,-⟩:=hT.opd hx;obtain⟨h3,h4,-⟩:=hT.opd hy;obtain⟨e1,-, -⟩:=NC (V:=V) hc1 hb.1;obtain⟨e2,-, -⟩:=NC (V:=V) hc2 hb.2;obtain⟨f1,f2⟩:=hE.eq xt ks hks _ _ (Oh (V:=V) hc1 hb.1 h2) (Oh (V:=V) hc2 hb.2 h4) op x y w;rw[IC hT.ln,IC hT.ln] at g2;refine Gz (v:=r.v.den V) (w':=w) ?_ (K V w (.same hm hs) g3);simp only[execOp,h1,h3,SV.den_t,TV.den_a,e1,e2,I1,f1,IB,g2]
    rcases g1 with rfl|rfl
    ·simp only[binOp,I1,f2,IB,KD,cond_true]
    ·simp only[binOp,I1,f2,IB,KD,cond_false]
   ·cases h
  ·split at h
   ·rename_i r hr
    exact hW r hr h
   ·cases h
 all_goals
  simp only[NQ] at h
  split at h
  ·rename_i r hr
   exact hW r hr h
  ·cases h
end
end
section
open Go
def Jt(nv:Nat)(ρ ρ':Bl):Prop:=∀ i,i<nv→ρ' i=ρ i
theorem Jt.refl(nv:Nat)(ρ:Bl):Jt nv ρ ρ:=fun _ _=>rfl
theorem Jt.trans{a b:Nat}{ρ ρ' ρ'':Bl}(h:Jt a ρ ρ')(h':Jt b ρ' ρ'')(hab:a≤b):Jt a ρ ρ'':=
 fun i hi=>(h' i (by omega)).trans (h i hi)
theorem X.den_agE{nv:Nat}{ρ ρ':Bl}(h:Jt nv ρ ρ'){x:X}(hx:x.lt nv=true):x.den ρ'=x.den ρ:=by
 cases x with
 |lit n=>rfl
 |v i k=>simp only[X.den];rw[h i (EF hx)]
theorem Iq.den_agE{nv:Nat}{ρ ρ':Bl}(h:Jt nv ρ ρ'){x:Iq}(hx:x.lt nv=true):x.den ρ'=x.den ρ:=by
 cases x with
 |vec j=>exact h j (EF hx)
 |xs l=>
  simp only[Iq.den];exact fU fun x hx'=>X.den_agE h (Ll.1 hx x hx')
theorem Args.den_agE{nv:Nat}{ρ ρ':Bl}(h:Jt nv ρ ρ'){l:List Iq}(hx:l.all (·.lt nv)=true):l.map (·.den ρ')=l.map (·.den ρ):=
 fU fun x hx'=>Iq.den_agE h (Ll.1 hx x hx')
theorem FR.den_agE{T:Tb}{nv:Nat}{ρ ρ':Bl}(h:Jt nv ρ ρ'){d:FR}(hd:d.lt nv=true):d.den T ρ'=d.den T ρ:=by
 unfold FR.den;rw[Args.den_agE h hd]
theorem JM.den_agE{T:Tb}{nv:Nat}{ρ ρ':Bl}(h:Jt nv ρ ρ'){ob:List JM}(ho:J7 nv ob=true):∀ q∈ob,(q.den T ρ'↔q.den T ρ):=by
 induction ob with
 |nil=>intro q hq;cases hq
 | cons q r ih=>
  intro q' hq'
  have hq:(q.den T ρ'↔q.den T ρ)∧J7 nv r=true:=by
   cases q with
   |rng x n=>simp only[J7,Bd] at ho;refine⟨?_,ho.2⟩;simp only[JM.den];rw[X.den_agE h ho.1]
   |ge0 x=>simp only[J7,Bd] at ho;refine⟨?_,ho.2⟩;simp only[JM.den];rw[X.den_agE h ho.1]
   |c01 x=>simp only[J7,Bd] at ho;refine⟨?_,ho.2⟩;simp only[JM.den];rw[X.den_agE h ho.1]
   |nz x=>simp only[J7,Bd] at ho;refine⟨?_,ho.2⟩;simp only[JM.den];rw[X.den_agE h ho.1]
   |zr x=>simp only[J7,Bd] at ho;refine⟨?_,ho.2⟩;simp only[JM.den];rw[X.den_agE h ho.1]
   |pre f as=>simp only[J7,Bd] at ho;refine⟨?_,ho.2⟩;simp only[JM.den];rw[Args.den_agE h ho.1]
  rcases J4.1 hq' with rfl|hq'
  ·exact hq.1
  ·exact ih hq.2 q' hq'
def VJ(T:Tb)(ρ:Bl)(ds:List (Nat×FR)):Prop:=∀ p∈ds,ρ p.1=p.2.den T ρ
theorem bD{hi:Nat}:∀ {ds:List (Nat×FR)} {lo:Nat},GM lo hi ds=true→∀ p∈ds,lo≤p.1∧p.1<hi∧p.2.lt p.1=true
 | [],_,_,p,hp=>by cases hp
 | (n,d)::r,lo,h,p,hp=>by
  simp only[GM,Bd] at h;have h1:=Na h.1.1.1;have h2:=EF h.1.1.2
  rcases J4.1 hp with rfl|hp
  ·exact⟨h1,h2,h.1.2⟩
  ·obtain⟨g1,g2,g3⟩:=bD h.2 p hp;exact⟨by omega,g2,g3⟩
theorem FR.lt_mono{a b:Nat}(hab:a≤b){d:FR}(h:d.lt a=true):d.lt b=true:=by
 unfold FR.lt at *
 rw[Ll] at *
 intro x hx
 have:=h x hx
 cases x with
 |vec j=>have:=EF this;simp only[Iq.lt,Nat.blt];exact zh (by omega)
 |xs l=>
  simp only[Iq.lt,Ll] at this ⊢;exact fun y hy=>X.lt_mono hab (this y hy)
theorem VJ.agE{T:Tb}{lo hi:Nat}{ρ ρ':Bl}{ds:List (Nat×FR)}(h:GM lo hi ds=true)(ha:Jt hi ρ ρ')(hd:VJ T ρ ds):VJ T ρ' ds:=fun p hp=>by
 obtain⟨_,g2,g3⟩:=bD h p hp;rw[ha p.1 g2,FR.den_agE (nv:=hi) ha (FR.lt_mono (by omega) g3)];exact hd p hp
theorem XC(T:Tb){hi:Nat}:∀ {ds:List (Nat×FR)} {lo:Nat} (ρ:Bl),GM lo hi ds=true→∃ ρ',Jt lo ρ ρ'∧VJ T ρ' ds
 | [],_,ρ,_=>⟨ρ,Jt.refl _ _,fun p hp=>by cases hp⟩
 |(n,d)::r,lo,ρ,h=>by
  simp only[GM,Bd] at h;have h1:=Na h.1.1.1;obtain⟨ρ',g1,g2⟩:=XC T (fun i=>if i=n then d.den T ρ else ρ i) h.2;have ha:Jt n ρ ρ':=fun i hi=>by rw[g1 i (by omega)];simp;intro e;omega
  refine⟨ρ',fun i hi=>ha i (by omega),fun p hp=>?_⟩
  rcases J4.1 hp with rfl|hp
  ·rw[g1 n (by omega),FR.den_agE ha h.1.2];simp
  ·exact g2 p hp
theorem Iq.len_ok{ln:List (Nat×Nat)}{ρ:Bl}(hl:∀ p∈ln,(ρ p.1).length=p.2){a:Iq}{n:Nat}(h:a.len ln=some n):(a.den ρ).length=n:=by
 cases a with
 |vec j=>exact hl _ (Oo h)
 |xs l=>simp only[Iq.len,Am] at h;simp[Iq.den,h]
theorem jR{ln:List (Nat×Nat)}{ρ:Bl}(hl:∀ p∈ln,(ρ p.1).length=p.2):∀ {as:List Iq} {ps:List GG},V6 ln as ps=true→(as.map (·.den ρ)).map List.length=ps.map GG.len
 | [],[],_=>rfl
 | [],_::_,h=>by simp[V6] at h
 |_::_,[],h=>by simp[V6] at h
 | a::as,p::ps,h=>by
  simp only[V6,Bd] at h;obtain⟨h1,h2⟩:=h
  cases ha:a.len ln with
  |none=>rw[ha] at h1;cases h1
  |some n=>
   rw[ha] at h1;have:=Iq.len_ok hl ha;simp only[NT,jR hl h2,this,CL h1]
theorem getD_some{α:Type}{l:List α}{i:Nat}{x d:α}(h:l[i]? = some x):l.getD i d=x:=by simp[List.getD,h]
theorem AIc{s:Az}{ins:List (List Int)}(hL:PX s)(hi:ins.map List.length=s.params.map GG.len){o k:Nat}(h:s.lens[o]? = some (some k)):((s.pr o).den ins).length=k:=by
 obtain⟨h1,h2,h3⟩:=hL ins hi;unfold Az.lens at h;unfold Az.pr
 by_cases c1:o<s.outs.length
 ·have ho:=Jo c1;rw[getD_some (zC ho)];rw[YY,gI (by simpa using c1),OX,ho] at h;simp only[Xa,Am] at h;rw[← h];exact h1 _ (qj c1)
 ·by_cases c2:o<s.outs.length+s.fresh.length
  ·have hlt:o-s.outs.length<s.fresh.length:=by omega
   have ho:=Jo hlt;have hp:=ik ho;rw[show s.outs.length+(o-s.outs.length)=o by omega] at hp;rw[getD_some hp];rw[YY,mH (by simp;omega),gI (by simp;omega),Vj,OX,ho] at h;simp only[Xa,Am] at h;rw[← h];exact h2 _ (qj hlt)
  ·rw[mH (by simp;omega)] at h;simp only[K6,Vj] at h;rw[OX,Ya] at h;obtain⟨r,hr,hk⟩:=h;have hp:=yA hr;rw[show s.outs.length+s.fresh.length+(o-(s.outs.length+s.fresh.length))=o by omega] at hp;rw[getD_some hp]
   cases r<;>simp only[Qr.len,Am,reduceCtorEq] at hk
   rename_i ks f
   rw[← hk];exact h3 ks f (OZ hr)
theorem ACy{T:Tb}{ln:List (Nat×Nat)}{ρ:Bl}(hT:∀ f fe,lk f T=some fe→∀ b,PX (fe.sel b))(hl:∀ p∈ln,(ρ p.1).length=p.2){d:FR}{k:Nat}
  (h:ACN T ln d=some k):(d.den T ρ).length=k:=by
 obtain⟨op,args⟩:=d;unfold ACN at h;simp only at h
 split at h
 ·simp only[Am] at h;subst h;rfl
 ·simp only[Am] at h;subst h;rfl
 ·split at h
  ·have:=Iq.len_ok hl h;simp only[FR.den,OP.den,NT,Qu,List.length_set];exact this
  ·cases h
 ·rename_i f b o
  split at h
  ·rename_i fe hf
   cases hb:V6 ln args (fe.sel b).params with
   |false=>rw[hb] at h;cases h
   | true=>
    rw[hb,cond_true] at h
    split at h
    ·rename_i r hr
     subst h;have:=AIc (hT f fe hf b) (jR hl hb) hr;simp only[FR.den,OP.den,hf];exact this
    ·cases h
  ·cases h
 ·cases h
theorem SB{T:Tb}{ρ:Bl}(hT:∀ f fe,lk f T=some fe→∀ b,PX (fe.sel b)):∀ {ds:List (Nat×FR)} {ln:List (Nat×Nat)},(∀ p∈ln,(ρ p.1).length=p.2)→VJ T ρ ds→
  ∀ p∈KN T ln ds,(ρ p.1).length=p.2
 | [],ln,hl,_=>hl
 | (n,d)::r,ln,hl,hd=>by
  have hd':VJ T ρ r:=fun p hp=>hd p (MQ _ hp)
  unfold KN
  split
  ·rename_i k hk
   refine SB hT (fun p hp=>?_) hd'
   rcases J4.1 hp with rfl|hp
   ·rw[hd (n,d) LA];exact ACy hT hl hk
   ·exact hl p hp
  ·exact SB hT hl hd'
theorem SG{T:Tb}{hi:Nat}:∀ {ds:List (Nat×FR)} {ln:List (Nat×Nat)} {lo:Nat},GM lo hi ds=true→(∀ p∈ln,p.1<hi)→∀ p∈KN T ln ds,p.1<hi
 | [],ln,_,_,hl=>hl
 | (n,d)::r,ln,lo,h,hl=>by
  simp only[GM,Bd] at h;unfold KN
  split
  ·refine SG h.2 (fun p hp=>?_)
   rcases J4.1 hp with rfl|hp
   ·exact EF h.1.1.2
   ·exact hl p hp
  ·exact SG h.2 hl
def Bc.HoldsC(T:Tb):Bc→Bl→Prop
 | .leaf _ _,_=>True
 | .evs ds ob t,ρ=>VJ T ρ ds→(∀ q∈ob,q.den T ρ)∧t.HoldsC T ρ
 | .br x t f,ρ=>(x.den ρ≠0→t.HoldsC T ρ)∧(x.den ρ=0→f.HoldsC T ρ)
 | .brc f as t e,ρ=>match lk f T with
  |some fe=>(fe.cnd (as.map (·.den ρ))=true→t.HoldsC T ρ)∧(fe.cnd (as.map (·.den ρ))=false→e.HoldsC T ρ)
  |none=>False
 | .chk t k,ρ=>t.HoldsC T ρ∧k.HoldsC T ρ
 | .bad _,_=>False
def Bc.Holds(T:Tb)(Φ:Bl→Ex→St→Prop):Bc→Bl→Prop
 | .leaf e st,ρ=>Φ ρ e st
 | .evs ds ob t,ρ=>VJ T ρ ds→(∀ q∈ob,q.den T ρ)∧t.Holds T Φ ρ
 | .br x t f,ρ=>(x.den ρ≠0→t.Holds T Φ ρ)∧(x.den ρ=0→f.Holds T Φ ρ)
 | .brc f as t e,ρ=>match lk f T with
  |some fe=>(fe.cnd (as.map (·.den ρ))=true→t.Holds T Φ ρ)∧(fe.cnd (as.map (·.den ρ))=false→e.Holds T Φ ρ)
  |none=>False
 | .chk t k,ρ=>t.HoldsC T ρ∧k.Holds T Φ ρ
 | .bad _,_=>False
theorem Lb{T:Tb}{Φ:Bl→Ex→St→Prop}{x:X}{t f:Bc}{ρ:Bl}(h:(ABX x t f).Holds T Φ ρ):(x.den ρ≠0→t.Holds T Φ ρ)∧(x.den ρ=0→f.Holds T Φ ρ):=by
 unfold ABX at h
 split at h
 ·have:=h (fun p hp=>by cases hp);have hx:=this.1 _ (Nc.2 rfl);exact⟨fun hn=>absurd hx hn,fun _=>this.2⟩
 ·have:=h (fun p hp=>by cases hp);have hx:=this.1 _ (Nc.2 rfl);exact⟨fun _=>this.2,fun hn=>absurd hn hx⟩
 ·exact h
theorem NE{T:Tb}{p:Ex→St→Bool}{ρ:Bl}:∀ {t:Bc},t.allL p=true→t.HoldsC T ρ→t.Holds T (fun _ e st=>p e st=true) ρ
 | .leaf e st,hp,h=>hp
 | .evs ds ob t,hp,h=>fun hd=>⟨(h hd).1,NE (t:=t) hp (h hd).2⟩
 | .br x t f,hp,h=>by
  simp only[Bc.allL,Bd] at hp;exact⟨fun hx=>NE hp.1 (h.1 hx),fun hx=>NE hp.2 (h.2 hx)⟩
 | .brc f as t e,hp,h=>by
  simp only[Bc.allL,Bd] at hp;unfold Bc.HoldsC at h;unfold Bc.Holds
  split at h
  ·exact⟨fun hx=>NE hp.1 (h.1 hx),fun hx=>NE hp.2 (h.2 hx)⟩
  ·exact h.elim
 | .chk t k,hp,h=>⟨h.1,NE (t:=k) hp h.2⟩
 | .bad _,_,h=>h.elim
def Bc.HoldsA(T:Tb)(Φ:Bl→Ex→St→Prop)(nv:Nat)(ρ:Bl)(t:Bc):Prop:=∀ ρ',Jt nv ρ ρ'→t.Holds T Φ ρ'
structure Ho (E:En) (st:St) (V:Vl) (a:Act) (w:World):Prop where
 s:Sat E st V a w
 ll:∀ p∈st.ln,p.1<st.nv
 kp:∀ p∈E.I,EH p.1 (Db st.rg)=true∧V.ν p.1=p.2
 ks:∀ i,i<E.sn→V.σ i=E.σ0 i
 ns:E.sn≤st.nv
theorem Ag.of_env{nv:Nat}{ids:List Nat}{V:Vl}{ρ':Bl}(h:Jt nv V.ρ ρ'):Ag nv ids V { V with ρ:=ρ' }:=⟨h,fun _ _=>rfl,fun _ _=>rfl⟩
theorem Sat.env{E:En}{st:St}{V:Vl}{a:Act}{w:World}(h:Ho E st V a w){ρ':Bl}(ha:Jt st.nv V.ρ ρ'):Ho E st { V with ρ:=ρ' } a w where
 s := {
  m:=h.s.m.ag (Ag.of_env ha) h.s.scp
  scp:=h.s.scp
  t := {
   tm:=fun t v hv=>by
    obtain⟨h1,h2,h3⟩:=h.s.t.tm t v hv;exact⟨by rw[SV.den_ag (Ag.of_env ha) h3];exact h1,SV.ok_ag (Ag.of_env ha) h3 h2,h3⟩
   gl:=h.s.t.gl
   ln:=fun p hp=>by
    show (ρ' p.1).length=p.2;rw[ha p.1 (h.ll p hp)];exact h.s.t.ln p hp }
  nt:=h.s.nt
  df:=h.s.df }
 ll:=h.ll
 kp:=h.kp
 ks:=h.ks
 ns:=h.ns
theorem RY{st:St}{t:Nat}{v:SV}{u:Nat}:St.look { st with lc:=(t,v)::st.lc } u=if t=u then some v else st.look u:=by
 simp only[St.look,lk]
 cases hb:Nat.beq t u with
 |true=>have:=CL hb;simp[this]
 |false=>
  have hne:t≠u:=fun e=>by rw[e,Nat.beq_refl] at hb;cases hb
  simp[hne]
theorem Wn{a:Act}{t u:Nat}{v:Value}(h:t<a.tmps.size):(a.put (some t) v).tmps.getD u undef=if t=u then v else a.tmps.getD u undef:=by
 simp only[Act.put,Ti]
 by_cases e:t=u
 ·subst e;simp[h]
 ·simp[Array.getElem?_setIfInBounds_ne e,e]
theorem PO{a:Act}{d:Option Nat}{v:Value}:(a.put d v).tmps.size=a.tmps.size:=by cases d<;>simp[Act.put]
theorem Tp{a:Act}{d:Option Nat}{v:Value}:(a.put d v).defers=a.defers:=by cases d<;>rfl
theorem Ho.put{E:En}{st:St}{V V':Vl}{a:Act}{w w':World}{nb bv:Nat}{rg:List Rg}{er:Bool}{ln:List (Nat×Nat)}{nv nl:Nat}{d:Option Nat}{v:SV}{st':St}
  (h:Ho E st V a w) (hr:XL E st V nb bv rg er V' w') (hnb:er=false∨st.nv≤nb) (hbv:bv≤nv) (hnv:st.nv≤nv) (hl:∀ p∈ln,(V'.ρ p.1).length=p.2) (hll:∀ p∈ln,p.1<nv) (hv:v.ok V')
  (hp:St.put { st with rg:=rg,ln:=ln,nv:=nv,nl:=nl } d v=some st'):Ho E st' V' (a.put d (v.den V')) w':=by
 have hag:Ag st.nv (Db st.rg) V V':=⟨fun i _=>by rw[hr.ρ],fun i hi=>hr.σ i (by rcases hnb with h|h;exact .inr h;exact .inl (by omega)),fun l hl=>(hr.ν l hl).1⟩;have hids:∀ l,EH l (Db st.rg)=true→EH l (Db rg)=true:=fun l hl=>(hr.ν l hl).2
 have hscp:Zl nv rg:=fun r hr' lv hlv=>LV.lt_mono hbv (fun _ h=>h) (hr.scp r hr' lv hlv)
 have hold:∀ t u,st.look t=some u→a.tmps.getD t undef=u.den V'∧u.ok V'∧u.lt nv (Db rg)=true:=fun t u hu=>by
  obtain⟨h1,h2,h3⟩:=h.s.t.tm t u hu;exact⟨by rw[SV.den_ag hag h3];exact h1,SV.ok_ag hag h3 h2,SV.lt_mono hnv hids h3⟩
 have hgl:∀ g l,lk g st.gl=some l→V'.ν l=(g,0)∧EH l (Db rg)=true:=fun g l hg=>by
  obtain⟨h1,h2⟩:=h.s.t.gl g l hg;exact⟨by rw[hag.2.2 l h2];exact h1,hids l h2⟩
 have hkp:∀ p∈E.I,EH p.1 (Db rg)=true∧V'.ν p.1=p.2:=fun p hp=>by
  obtain⟨k1,k2⟩:=h.kp p hp;exact⟨hids _ k1,by rw[hag.2.2 _ k1];exact k2⟩
 have hks:∀ i,i<E.sn→V'.σ i=E.σ0 i:=fun i hi=>by rw[hag.2.1 i (zcg hi h.ns)];exact h.ks i hi
 have hns:E.sn≤nv:=G9 h.ns hnv
 cases d with
 |none=>
  simp only[St.put,Am] at hp;subst hp;exact⟨⟨hr.mok,hscp,⟨fun t u hu=>hold t u hu,hgl,hl⟩,h.s.nt,h.s.df⟩,hll,hkp,hks,hns⟩
 | some t=>
  unfold St.put at hp;simp only at hp
  cases hb:(Nat.blt t st.nt&&v.lt nv (Db rg)) with
  |false=>rw[hb] at hp;cases hp
  | true=>
   rw[hb,cond_true,Am] at hp;subst hp;simp only[Bd] at hb;have hlt:t<a.tmps.size:=by rw[h.s.nt];exact EF hb.1
   refine⟨⟨hr.mok,hscp,⟨fun u x hu=>?_,hgl,hl⟩,by rw[PO];exact h.s.nt,by rw[Tp];exact h.s.df⟩,hll,hkp,hks,hns⟩;have hu':(if t=u then some v else st.look u)=some x:=by
    rw[← hu];exact (RY (st:= { st with rg:=rg,ln:=ln,nv:=nv,nl:=nl })).symm
   rw[Wn hlt]
   by_cases e:t=u
   ·rw[if_pos e] at hu' ⊢
    cases hu'
    exact⟨rfl,hv,hb.2⟩
   ·rw[if_neg e] at hu' ⊢;exact hold u x hu'
theorem Ho.skip{E:En}{st st':St}{V:Vl}{a:Act}{w:World}{d:Option Nat}(h:Ho E st V a w)(hp:st.put d (.tup [])=some st'):Ho E st' V (a.put d undef) w:=by
 have:=Ho.put (E:=E) (er:=false) (v:=.tup []) (nb:=0) (bv:=st.nv) (ln:=st.ln) (nv:=st.nv) (nl:=st.nl) (st':=st') (d:=d) h (XL.same h.s.m h.s.scp) (.inl rfl) (JP _) (JP _)
  h.s.t.ln h.ll (fun t ht=>by cases ht) hp
 exact this
theorem rM{α:Type}(t u:Nat):∀ l:List (Nat×α),u≠t→lk u (rmv t l)=lk u l
 | [],_=>rfl
 | (k,v)::r,h=>by
  unfold rmv
  cases hb:Nat.beq k t with
  |true=>
   have:=CL hb;subst this;have hne:Nat.beq k u=false:=by cases hh:Nat.beq k u with|false=>rfl|true=>exact absurd (CL hh).symm h
   simp only[cond_true,lk,hne,cond_false]
  |false=>simp only[cond_false,lk,rM t u r h]
theorem bz(u:Nat):∀ (lc tm:List (Nat×SV)),lk u (Go.Proofs.YtloibefkijfdlaaGreatDoor.flush lc tm)=(match lk u lc with|some v=>some v|none=>lk u tm)
 | [],tm=>rfl
 | (t,v)::r,tm=>by
  simp only[Go.Proofs.YtloibefkijfdlaaGreatDoor.flush,lk]
  cases hb:Nat.beq t u with
  |true=>rfl
  |false=>
   have hne:u≠t:=fun e=>by rw[e,Nat.beq_refl] at hb;cases hb
   simp only[cond_false];rw[rM t u _ hne,bz u r tm]
theorem St.flush_look'(st:St)(u:Nat):st.flush.look u=st.look u:=by
 simp only[St.look,St.flush,lk,bz u st.lc st.tm]
 cases lk u st.lc<;>rfl
theorem Ho.flush{E:En}{st:St}{V:Vl}{a:Act}{w:World}(h:Ho E st V a w):Ho E st.flush V a w:=
 ⟨⟨h.s.m,h.s.scp,⟨fun t v hv=>h.s.t.tm t v (by rw[← hv];exact (St.flush_look' st t).symm),h.s.t.gl,h.s.t.ln⟩,h.s.nt,h.s.df⟩,h.ll,h.kp,h.ks,h.ns⟩
def Nxt(E:En)(Φ:Bl→Ex→St→Prop)(κ:St→Bc)(K:Act→World→Prop):Prop:=
 ∀ st V a w,Ho E st V a w→(κ st).HoldsA E.C.T Φ st.nv V.ρ→K a w
theorem AAA{E:En}(hE:Qs E){Φ:Bl→Ex→St→Prop}{o:Oper}{sel:Bool}{st:St}{κ:St→Bc}{V:Vl}{a:Act}{w:World}(hS:Ho E st V a w)
  (hT:(qN E.C o sel st κ).HoldsA E.C.T Φ st.nv V.ρ)
  (hsel:∀ f args ψ vs fe as,o.op= .call ⟨.value (.func f),args,ψ⟩→opdL st args.toList=some vs→lk f E.C.T=some fe→Py st (fe.sel sel).params vs=some as→(fe.cnd (as.1.map (·.den V.ρ))=sel∧as.1.all (·.lt st.nv)=true)∨∀ x,fe.cnd x=sel)
  {K:Act→World→Prop} {Q:Exit→Act→World→Prop} (hK:Nxt E Φ κ K):o.wp E.P a w K Q:=by
 unfold qN at hT
 split at hT
 ·exact (hT V.ρ (Jt.refl _ _)).elim
 rename_i m hm
 split at hT
 ·exact (hT V.ρ (Jt.refl _ _)).elim
 rename_i st' hp
 have key:∃ ρ1,Jt st.nv V.ρ ρ1∧VJ E.C.T ρ1 m.o.ds∧(∀ q∈m.o.ob,q.den E.C.T ρ1)∧(κ st').HoldsA E.C.T Φ (st.nv+16) ρ1∧(∀ p∈KN E.C.T st.ln m.o.ds,p.1<st.nv+16):=by
  have hge:∀ p∈st.ln,p.1<st.nv+16:=fun p hp=>by have:=hS.ll p hp;omega
  by_cases hno:m.o.ds= []∧m.o.ob= []
  ·rw[hno.1,hno.2] at hT;simp only at hT;rw[hno.1,hno.2];exact⟨V.ρ,Jt.refl _ _,fun p hp=>(by cases hp),fun q hq=>(by cases hq),fun ρ' h=>hT ρ' (fun i hi=>h i (by omega)),hge⟩
  ·have hT2:(bif GM st.nv (st.nv+16) m.o.ds&&J7 (st.nv+16) m.o.ob then Bc.evs m.o.ds m.o.ob (κ st') else .bad 3).HoldsA E.C.T Φ st.nv V.ρ:=by
    revert hT
    cases hds:m.o.ds with
    |nil=>
     cases hob:m.o.ob with
     |nil=>exact absurd ⟨hds,hob⟩ hno
     |cons q r=>exact id
    |cons p r=>exact id
   cases hb:(GM st.nv (st.nv+16) m.o.ds&&J7 (st.nv+16) m.o.ob) with
   |false=>rw[hb] at hT2;exact (hT2 V.ρ (Jt.refl _ _)).elim
   |true=>
    rw[hb,cond_true] at hT2;simp only[Bd] at hb;obtain⟨ρ1,g1,g2⟩:=XC E.C.T V.ρ hb.1;have h1:=hT2 ρ1 g1 g2;refine⟨ρ1,g1,g2,h1.1,fun ρ' h=>?_,SG hb.1 hge⟩;exact (hT2 ρ' (g1.trans h (by omega)) (g2.agE hb.1 h)).2
 obtain⟨ρ1,g1,g2,g3,g4,g5⟩:=key;have hS1:=Sat.env hS g1;have hTb:∀ f fe,lk f E.C.T=some fe→∀ b,PX (fe.sel b):=fun f fe h=>(hE.tb f fe h).2
 have hln:=SB (ρ:=ρ1) hTb hS1.s.t.ln g2;refine o6 hE hS1.s.m (bv:=st.nv+16) (fun r hr lv hlv=>LV.lt_mono (by omega) (fun _ h=>h) (hS1.s.scp r hr lv hlv)) hS1.s.t (by omega) hm g2 g3 ?_ ?_ ?_
 ·intro f args ψ vs fe as h1 h2 h3 h4
  rcases hsel f args ψ vs fe as h1 h2 h3 h4 with ⟨k1,k2⟩|k
  ·rw[Args.den_agE g1 k2];exact k1
  ·exact k _
 ·exact .inr ⟨hS1.s.scp,JP _⟩
 ·intro V' w' hr hv
  have hρ:V'.ρ=ρ1:=hr.ρ;have hS2:=Ho.put hS1 hr (.inr (JP _)) (JP _) (by omega) (by rw[hρ];exact hln) g5 hv hp;refine hK st' V' _ w' hS2 ?_;have hnv':st'.nv=st.nv+16:=by
   cases hd:o.dst with
   |none=>rw[hd] at hp;simp only[St.put,Am] at hp;subst hp;rfl
   |some t=>
    rw[hd] at hp;unfold St.put at hp;simp only at hp
    cases hb:(Nat.blt t st.nt&&m.o.v.lt (st.nv+16) (Db m.rg)) with
    |false=>rw[hb] at hp;cases hp
    |true=>rw[hb,cond_true,Am] at hp;subst hp;rfl
  rw[hnv',hρ];exact g4
def WA(a:Act):ResultVar→Sem Value
 | .tmp t=>pure (a.tmps.getD t undef)
 | .cell b t=>do loadVar t (← asAddr (a.tmps.getD b undef))
section
variable{E:En}(hE:Qs E){st:St}{V:Vl}{a:Act}{w:World}(υ:st.lc= [])(hS:Ho E st V a w)
include hE υ hS
theorem AGH{r:ResultVar}{v:TV}(h:AAh E.C st r=some v):
  (WA a r).run E.P w= .ok (v.den V) w∧v.ok V:=by
 cases r with
 | tmp t=>
  simp only[AAh] at h
  split at h
  ·rename_i u hu
   simp only[Am] at h;subst h;obtain⟨h1,h2,-⟩:=hS.s.t.tm t _ (by simp only[St.look,υ,lk];exact hu);simp only[WA,KD,h1];exact⟨rfl,h2⟩
  ·cases h
 | cell b t=>
  simp only[AAh] at h
  split at h
  ·rename_i l o hu
   obtain⟨h1,h2,-⟩:=hS.s.t.tm b _ (by simp only[St.look,υ,lk];exact hu)
   split at h
   ·rename_i v' ln hl
    simp only[Am] at h;subst h;have hm':Pw E st.rg V w:=hS.s.m;obtain⟨k1,k2⟩:=bi hE hm' (fun p hp=>hS.s.t.ln p hp) hl h2 (fun p hp=>by cases hp);refine⟨?_,k2⟩;simp only[WA,h1,SV.den_t,TV.den_l,LV.den_ptr] at k1 ⊢;exact k1
   ·cases h
  ·cases h
theorem YU:∀ {rs:List ResultVar} {vs:List TV},UH E.C st rs=some vs→
  (rs.mapM (WA a)).run E.P w= .ok (vs.map (·.den V)) w∧∀ v∈vs,v.ok V
 | [],vs,h=>by
  simp only[UH,Am] at h;subst h;exact⟨rfl,fun v hv=>(by cases hv)⟩
 | r::rs,vs,h=>by
  unfold UH at h
  split at h
  ·rename_i v vs' h1 h2
   simp only[Am] at h;subst h;obtain⟨k1,k2⟩:=AGH hE υ hS h1;obtain⟨g1,g2⟩:=YU h2;refine⟨?_,fun u hu=>?_⟩
   ·rw[List.mapM_cons];simp only[I1,k1,IB,g1,KD,NT]
   ·rcases J4.1 hu with rfl|hu
    ·exact k2
    ·exact g2 u hu
  ·cases h
end
inductive ExR:Ex→Exit→Prop where
 |normal:ExR .normal .normal
 |exit (id:Nat):ExR (.exit id) (.exit id)
 |ret:ExR .ret .ret
def ATE(E:En)(Φ:Bl→Ex→St→Prop)(e:Exit)(a:Act)(w:World):Prop:=
 ∃ ex st V,ExR ex e∧st.lc= []∧Ho E st V a w∧∀ ρ',Jt st.nv V.ρ ρ'→Φ ρ' ex st
end
section
open Go
section
variable{E:En}(hE:Qs E){Φ:Bl→Ex→St→Prop}
include hE
theorem dn{C:Cx}{o:Oper}(h:Z9 C o=none){f:Nat}{args:Array Operand}{ψ:Array TypeId}{fe:FE}(ho:o.op= .call ⟨.value (.func f),args,ψ⟩)(hf:lk f C.T=some fe):∀ x,fe.cnd x=true:=by
 have _:=hE;unfold Z9 at h;rw[ho] at h;simp only[hf] at h
 cases fe with
 |one s=>exact fun _=>rfl
 |two c s1 s2=>cases h
omit hE in
theorem uP{C:Cx}{o:Oper}{f:Nat}(h:Z9 C o=some f):∃ args ψ fe,o.op= .call ⟨.value (.func f),args,ψ⟩∧lk f C.T=some fe:=by
 unfold Z9 at h
 split at h
 ·rename_i g args ψ ho
  split at h
  ·rename_i c s1 s2 hf
   simp only[Am] at h;subst h;exact⟨_,_,_,ho,hf⟩
  ·cases h
 ·cases h
theorem ASk {o:Oper} {st:St} {κ:St→Bc} {V:Vl} {a:Act} {w:World} (hS:Ho E st V a w)
  (hT:(ADe E.C o st κ).HoldsA E.C.T Φ st.nv V.ρ)
  {K:Act→World→Prop} {Q:Exit→Act→World→Prop} (hK:Nxt E Φ κ K):o.wp E.P a w K Q:=by
 unfold ADe at hT
 cases h2:Z9 E.C o with
 |none=>
  rw[h2] at hT;exact AAA hE hS hT (fun f args ψ vs fe as h _ hf _=>.inr (dn hE h2 h hf)) hK
 | some f=>
  rw[h2] at hT;simp only at hT
  split at hT
  ·rename_i as has
   cases hb:as.all (·.lt st.nv) with
   |false=>rw[hb] at hT;exact (hT V.ρ (Jt.refl _ _)).elim
   | true=>
    rw[hb,cond_true] at hT;obtain⟨args,ψ,fe,ho,hf⟩:=uP h2;unfold x8 at has;rw[ho] at has;simp only[hf] at has
    split at has
    ·rename_i vs fe' hvs hfe
     cases hfe
     split at has
     ·rename_i as' ms bs ms' hA hB
      cases hq:Po Iq.beq as' bs with
      |false=>rw[hq] at has;cases has
      | true=>
       rw[hq,cond_true,Am] at has;have hab:=HV (fun _ _=>Iq.beq_eq) hq;subst hab;subst has;have hsel:∀ b,fe.cnd (as'.map (·.den V.ρ))=b→(qN E.C o b st κ).HoldsA E.C.T Φ st.nv V.ρ→o.wp E.P a w K Q:=fun b hc hH=>
        AAA hE hS hH (fun f1 afy af9 vs1 fe1 as1 ho1 acH hf1 hA1=>by
         rw[ho] at ho1;cases ho1;rw[hvs] at acH;cases acH;rw[hf] at hf1;cases hf1
         cases b with
         |true=>rw[hA] at hA1;cases hA1;exact .inl ⟨hc,hb⟩
         |false=>rw[hB] at hA1;cases hA1;exact .inl ⟨hc,hb⟩) hK
       have hH:∀ ρ',Jt st.nv V.ρ ρ'→(fe.cnd (as'.map (·.den V.ρ))=true→(qN E.C o true st κ).Holds E.C.T Φ ρ')∧(fe.cnd (as'.map (·.den V.ρ))=false→(qN E.C o false st κ).Holds E.C.T Φ ρ'):=fun ρ' hρ=>by
        have:=hT ρ' hρ;unfold Bc.Holds at this;rw[hf] at this;simp only[Args.den_agE hρ hb] at this;exact this
       cases hc:fe.cnd (as'.map (·.den V.ρ)) with
       |true=>exact hsel true hc (fun ρ' hρ=>(hH ρ' hρ).1 hc)
       |false=>exact hsel false hc (fun ρ' hρ=>(hH ρ' hρ).2 hc)
     ·cases has
    ·cases has
  ·exact (hT V.ρ (Jt.refl _ _)).elim
def AAb(E:En)(run:Code→St→Bc):Prop:=
 ∀ (I:List (Nat×(Nat×Nat))) (sn:Nat) (σ0:Nat→Value) (Φ:Bl→Ex→St→Prop) (f:Nat) (i:IF) (st:St) (V:Vl) (a:Act) (w:World),lk f E.C.inl=some i→st.lc= []→
  Ho { E with I:=I,sn:=sn,σ0:=σ0 } st V a w→(run i.c st).HoldsA E.C.T Φ st.nv V.ρ→i.c.wp E.P (ATE { E with I:=I,sn:=sn,σ0:=σ0 } Φ) a w
def qf(E:En):Prop:=∀ f i,lk f E.C.inl=some i→(∀ args w,(callFunc f args).run E.P w= .ok (.enter f args) w)∧∃ fn,E.P.funcs[f]? = some fn∧fn.body=some i.c∧fn.ntmps=i.nt∧fn.results.toList=i.rvs
omit hE in
theorem M0{T:Tb}{k:Ex→St→Bc}{ρ:Bl}:∀ {t:Bc},(t.bind k).Holds T Φ ρ→t.Holds T (fun ρ ex st=>(k ex st).Holds T Φ ρ) ρ
 | .leaf e st,h=>h
 | .evs ds ob t,h=>fun hd=>⟨(h hd).1,M0 (h hd).2⟩
 | .br x t f,h=>⟨fun hx=>M0 (h.1 hx),fun hx=>M0 (h.2 hx)⟩
 | .brc f as t e,h=>by
  unfold Bc.bind Bc.Holds at h;unfold Bc.Holds
  split at h
  ·exact⟨fun hx=>M0 (h.1 hx),fun hx=>M0 (h.2 hx)⟩
  ·exact h.elim
 | .chk t k,h=>⟨h.1,M0 h.2⟩
 | .bad _,h=>h.elim
omit hE in
theorem KE{T:Tb}{Φ':Bl→Ex→St→Prop}{ρ:Bl}(h:∀ ex st,Φ ρ ex st→Φ' ρ ex st):∀ {t:Bc},t.Holds T Φ ρ→t.Holds T Φ' ρ
 | .leaf e st,ht=>h e st ht
 | .evs ds ob t,ht=>fun hd=>⟨(ht hd).1,KE h (ht hd).2⟩
 | .br x t f,ht=>⟨fun hx=>KE h (ht.1 hx),fun hx=>KE h (ht.2 hx)⟩
 | .brc f as t e,ht=>by
  unfold Bc.Holds at ht ⊢
  split at ht
  ·exact⟨fun hx=>KE h (ht.1 hx),fun hx=>KE h (ht.2 hx)⟩
  ·exact ht.elim
 | .chk t k,ht=>⟨ht.1,KE h ht.2⟩
 | .bad _,ht=>ht.elim
omit hE in
theorem bM{V:Vl}:∀ {vs:List SV} {i t:Nat} {v:SV},lk t (Ud i vs)=some v→∃ j,t=i+j∧vs[j]? = some v
 | [],i,t,v,h=>by simp[Ud,lk] at h
 | u::vs,i,t,v,h=>by
  simp only[Ud,lk] at h
  cases hb:Nat.beq i t with
  |true=>
   rw[hb,cond_true,Am] at h;have:=CL hb;exact⟨0,by omega,by simp[h]⟩
  |false=>
   rw[hb,cond_false] at h;obtain⟨j,h1,h2⟩:=bM (V:=V) h;exact⟨j+1,by omega,by simpa using h2⟩
omit hE in
theorem AAU{fn:Func}{a:Act}{P:Program}{w:World}{V:Vl}{vs:List TV}(h:(fn.results.toList.mapM (WA a)).run P w= .ok (vs.map (·.den V)) w):(results fn a.tmps).run P w= .ok (TU (vs.map (·.den V))) w:=by
 have hres:results fn a.tmps=(do
   let vs ← fn.results.mapM (WA a)
   pure (if h:vs.size=1 then vs[0] else .tuple vs)):=by
  unfold results
  congr 1
 rw[hres,Array.mapM_eq_mapM_toList];simp only[map_eq_pure_bind,bind_assoc,pure_bind,I1,h,IB,KD]
 cases vs with
 |nil=>rfl
 |cons v vs=>
  cases vs with
  |nil=>rfl
  |cons u vs=>rfl
omit hE in
theorem tu{V:Vl}{vs:List TV}(h:∀ v∈vs,v.ok V):(Rk vs).den V=TU (vs.map (·.den V))∧(Rk vs).ok V:=by
 cases vs with
 |nil=>exact⟨rfl,fun t h=>by cases h⟩
 |cons t ts=>
  cases ts with
  |nil=>exact⟨rfl,h t LA⟩
  |cons t' ts'=>exact⟨rfl,h⟩
theorem ACV {run:Code→St→Bc} (hR:AAb E run) (hI:qf E) {o:Oper} {f:Nat} {i:IF} {args:List Operand} {st:St} {κ:St→Bc} {V:Vl} {a:Act} {w:World} (hS:Ho E st V a w) (hi:AC8 E.C o=some (f,i,args))
  (hT:(ACd E.C run i args o.dst st κ).HoldsA E.C.T Φ st.nv V.ρ) {K:Act→World→Prop} {Q:Exit→Act→World→Prop} (hK:Nxt E Φ κ K):o.wp E.P a w K Q:=by
 unfold AC8 at hi
 split at hi
 ·rename_i f' abP ψ hop
  split at hi
  ·rename_i i' hl
   simp only[Am,Prod.mk.injEq] at hi;obtain⟨rfl,rfl,rfl⟩:=hi;obtain⟨hen,fn,hf,hb,hn,hr⟩:=hI _ _ hl;unfold ACd at hT
   split at hT
   ·exact (hT V.ρ (Jt.refl _ _)).elim
   rename_i vs hvs
   cases hle:Nat.ble vs.length i'.nt with
   |false=>rw[hle] at hT;exact (hT V.ρ (Jt.refl _ _)).elim
   |true=>
   rw[hle,cond_true] at hT;have ahk:=Na hle;obtain⟨e1,e2⟩:=hS.s.t.opdL hvs;have hargs:abP.map a.eval=(vs.map (·.den V)).toArray:=by
    apply Array.ext';rw[Array.toList_map,e1]
   obtain⟨dst,op,type,pos,after,guard⟩:=o;simp only at hop;subst hop;unfold Oper.wp;rw[iG (P:=E.P) (ρ:=a.eval) (fun _=>rfl) dst f' abP ψ type pos after guard w,hargs,hen];refine calls_of_wp hf hb ?_;rw[hn];have hS0:Ho { E with I:=st.rg.map fun r=>(r.id,V.ν r.id),sn:=st.nv,σ0:=V.σ } { st with lc:=[],tm:=Ud 0 vs,nt:=i'.nt } V ⟨(vs.map (·.den V)).toArray++Array.replicate (i'.nt-(vs.map (·.den V)).toArray.size) undef,[]⟩ w:=by
    refine⟨⟨⟨hS.s.m.rgs,hS.s.m.one,hS.s.m.sep,hS.s.m.cov,hS.s.m.frm,hS.s.m.gw⟩,hS.s.scp,⟨fun t v hv=>?_,hS.s.t.gl,hS.s.t.ln⟩,?_,rfl⟩,hS.ll,fun p hp=>?_,fun _ _=>rfl,JP _⟩
    ·have hv':lk t (Ud 0 vs)=some v:=hv;obtain⟨j,h1,h2⟩:=bM (V:=V) hv';rw[NU] at h1;subst h1;have hj:=(Pi.1 h2).1;obtain⟨h3,h4⟩:=e2 v (OZ h2);refine⟨?_,h3,h4⟩;rw[Ti,Array.getElem?_append_left (by simpa using hj)];simp[h2]
    ·simp only[Array.size_append,Array.size_replicate,List.size_toArray,Vj];omega
    ·obtain⟨r,hr',rfl⟩:=VI.1 hp;exact⟨Gh hr',rfl⟩
   simp only at hT
   cases hchk:(ALP i'.rvs&&(run i'.c { st with lc:=[],tm:=Ud 0 vs,nt:=i'.nt }).allL (yX st.rg)) with
   | true=>
    rw[hchk,cond_true] at hT;simp only[Bd] at hchk
    split at hT
    ·exact (hT V.ρ (Jt.refl _ _)).elim
    rename_i Δ hp
    have hrun:=hR _ _ _ (fun ρ ex st'=>Jt st.nv V.ρ ρ∧yX st.rg ex st'=true) _ _ _ _ _ _ hl rfl hS0 (fun ρ' hρ=>KE (fun ex st' h=>⟨hρ,h⟩) (NE hchk.2 (hT ρ' hρ).1));refine wp_mono hrun ?_
    rintro e a' w' ⟨ex,st',V',hx,υ,hS',hΦ⟩
    obtain⟨hag0,hsame⟩:=hΦ V'.ρ (Jt.refl _ _);have hrg:(match ex with | .exit _=>False|_=>True)∧st'.rg=st.rg:=by
     unfold yX at hsame
     split at hsame
     ·cases hsame
     ·rename_i hne
      refine⟨?_,HV (fun _ _=>Rg.beq_eq) hsame⟩
      cases ex<;>first|trivial|exact absurd rfl (hne _)
    have hkp:∀ l,EH l (Db st.rg)=true→V'.ν l=V.ν l:=fun l hl'=>by
     obtain⟨r,hr',rfl⟩:=PZ.1 hl';exact (hS'.kp (r.id,V.ν r.id) (VI.2 ⟨r,hr',rfl⟩)).2
    have hag:Ag st.nv (Db st.rg) V V':=⟨hag0,fun j hj=>hS'.ks j hj,hkp⟩;have key:a'.defers= []∧∃ v,(results fn a'.tmps).run E.P w'= .ok v w'∧K (a.put dst v) w':=by
     refine⟨hS'.s.df,.tuple #[],?_,?_⟩
     ·have hr0:fn.results.toList= []:=by
       rw[hr]
       cases hrv:i'.rvs with
       |nil=>rfl
       |cons x xs=>rw[hrv] at hchk;cases hchk.1
      have:=AAU (fn:=fn) (a:=a') (P:=E.P) (w:=w') (V:=V') (vs:=[]) (by rw[hr0];rfl);exact this
     ·have hm':=hS'.s.m;rw[hrg.2] at hm';have hSb:Ho E st V' a w':=by
       refine⟨⟨⟨hm'.rgs,hm'.one,hm'.sep,hm'.cov,hm'.frm,hm'.gw⟩,hS.s.scp,⟨fun t v hv=>?_,fun g l hg=>?_,fun p hp=>?_⟩,hS.s.nt,hS.s.df⟩,hS.ll,fun p hp=>?_,fun j hj=>?_,hS.ns⟩
       ·obtain⟨h1,h2,h3⟩:=hS.s.t.tm t v hv;exact⟨by rw[SV.den_ag hag h3];exact h1,SV.ok_ag hag h3 h2,h3⟩
       ·obtain⟨h1,h2⟩:=hS.s.t.gl g l hg;exact⟨by rw[hkp l h2];exact h1,h2⟩
       ·rw[hag0 _ (hS.ll p hp)];exact hS.s.t.ln p hp
       ·obtain⟨k1,k2⟩:=hS.kp p hp;exact⟨k1,by rw[hkp _ k1];exact k2⟩
       ·rw[hS'.ks j (zcg hj hS.ns)];exact hS.ks j hj
      have hp2:St.put { st with rg:=st.rg,ln:=st.ln,nv:=st.nv,nl:=st.nl } dst (.tup [])=some Δ:=hp;have hS2:=Ho.put (E:=E) (nb:=0) (er:=false) (bv:=st.nv) (v:=.tup []) hSb (XL.same hSb.s.m hSb.s.scp) (.inl rfl) (JP _) (JP _) hSb.s.t.ln hSb.ll (fun t ht=>by cases ht) hp2;refine hK Δ V' _ w' hS2 ?_;have:Δ.nv=st.nv:=by
       cases dst with
       |none=>simp only[St.put,Am] at hp;subst hp;rfl
       |some t=>
        unfold St.put at hp;simp only at hp
        cases hb':(Nat.blt t st.nt&&SV.lt st.nv (Db st.rg) (.tup [])) with
        |false=>rw[hb'] at hp;cases hp
        |true=>rw[hb',cond_true,Am] at hp;subst hp;rfl
      rw[this];exact fun ρ' h=>(hT ρ' (hag0.trans h (JP _))).2
    cases hx with
    |normal=>exact key
    |exit id=>exact hrg.1.elim
    |ret=>exact key
   |false=>
   rw[hchk,cond_false] at hT;have hrun:=hR _ _ _ (fun ρ ex st'=>Jt st.nv V.ρ ρ∧(match ex with
    | .exit _=>Bc.bad 41
    | _=>(match UH E.C st' i'.rvs with
     |none=>.bad 42
     |some tvs=>(match St.put { st' with lc:=st.lc,tm:=st.tm,nt:=st.nt } dst (Rk tvs) with
      |none=>.bad 43
      |some Δ=>κ Δ))).Holds E.C.T Φ ρ) _ _ _ _ _ _ hl rfl hS0 (fun ρ' hρ=>KE (fun ex st' h=>⟨hρ,h⟩) (M0 (hT ρ' hρ)))
   refine wp_mono hrun ?_
   rintro e a' w' ⟨ex,st',V',hx,υ,hS',hΦ⟩
   have hag0:=(hΦ V'.ρ (Jt.refl _ _)).1;have hns:st.nv≤st'.nv:=hS'.ns;have hkp:∀ l,EH l (Db st.rg)=true→EH l (Db st'.rg)=true∧V'.ν l=V.ν l:=fun l hl'=>by
    obtain⟨r,hr',rfl⟩:=PZ.1 hl';exact hS'.kp (r.id,V.ν r.id) (VI.2 ⟨r,hr',rfl⟩)
   have hag:Ag st.nv (Db st.rg) V V':=⟨hag0,fun j hj=>hS'.ks j hj,fun l hl'=>(hkp l hl').2⟩;have key:(∀ ρ',Jt st'.nv V'.ρ ρ'→(match UH E.C st' i'.rvs with
     |none=>Bc.bad 42
     |some tvs=>(match St.put { st' with lc:=st.lc,tm:=st.tm,nt:=st.nt } dst (Rk tvs) with
      |none=>.bad 43
      |some Δ=>κ Δ)).Holds E.C.T Φ ρ')→a'.defers= []∧∃ v,(results fn a'.tmps).run E.P w'= .ok v w'∧K (a.put dst v) w':=fun hH=>by
    refine⟨hS'.s.df,?_⟩
    split at hH
    ·exact (hH V'.ρ (Jt.refl _ _)).elim
    rename_i tvs htv
    split at hH
    ·exact (hH V'.ρ (Jt.refl _ _)).elim
    rename_i Δ hp
    have hE':Qs { E with I:=st.rg.map fun r=>(r.id,V.ν r.id),sn:=st.nv,σ0:=V.σ }:=⟨hE.tt,hE.gc,hE.gb,hE.tb,hE.mx,hE.a64,hE.s64,hE.en,hE.eq⟩;obtain⟨r1,r2⟩:=YU hE' υ hS' htv;rw[← hr] at r1;obtain⟨q1,q2⟩:=tu r2;refine⟨_,AAU r1,?_⟩;rw[← q1];have hSb:Ho E { st' with lc:=st.lc,tm:=st.tm,nt:=st.nt } V' a w':=by
     refine⟨⟨⟨hS'.s.m.rgs,hS'.s.m.one,hS'.s.m.sep,hS'.s.m.cov,hS'.s.m.frm,hS'.s.m.gw⟩,hS'.s.scp,⟨fun t v hv=>?_,hS'.s.t.gl,hS'.s.t.ln⟩,hS.s.nt,hS.s.df⟩,hS'.ll,fun p hp=>?_,fun j hj=>?_,G9 hS.ns hns⟩
     ·obtain⟨h1,h2,h3⟩:=hS.s.t.tm t v hv;exact⟨by rw[SV.den_ag hag h3];exact h1,SV.ok_ag hag h3 h2,SV.lt_mono hns (fun l hl'=>(hkp l hl').1) h3⟩
     ·obtain⟨k1,k2⟩:=hS.kp p hp;exact⟨(hkp _ k1).1,by rw[(hkp _ k1).2];exact k2⟩
     ·rw[hS'.ks j (zcg hj hS.ns)];exact hS.ks j hj
    have hp2:St.put { ({ st' with lc:=st.lc,tm:=st.tm,nt:=st.nt }:St) with rg:=st'.rg,ln:=st'.ln,nv:=st'.nv,nl:=st'.nl } dst (Rk tvs)=some Δ:=hp;have hS2:=Ho.put (E:=E) (nb:=0) (er:=false) (bv:=st'.nv) hSb (XL.same hSb.s.m hSb.s.scp) (.inl rfl) (JP _) (JP _) hSb.s.t.ln hSb.ll q2 hp2;refine hK Δ V' _ w' hS2 ?_;have:Δ.nv=st'.nv:=by
     cases dst with
     |none=>simp only[St.put,Am] at hp;subst hp;rfl
     |some t=>
      unfold St.put at hp;simp only at hp
      cases hb':(Nat.blt t st.nt&&(Rk tvs).lt st'.nv (Db st'.rg)) with
      |false=>rw[hb'] at hp;cases hp
      |true=>rw[hb',cond_true,Am] at hp;subst hp;rfl
    rw[this];exact hH
   cases hx with
   |normal=>exact key fun ρ' h=>(hΦ ρ' h).2
   |exit id=>exact ((hΦ V'.ρ (Jt.refl _ _)).2).elim
   |ret=>exact key fun ρ' h=>(hΦ ρ' h).2
  ·cases hi
 ·cases hi
theorem Xl{run:Code→St→Bc}(hR:AAb E run)(hI:qf E){o:Oper}{st:St}{κ:St→Bc}{V:Vl}{a:Act}{w:World}(hS:Ho E st V a w)(hT:(AFT E.C run o st κ).HoldsA E.C.T Φ st.nv V.ρ)
  {K:Act→World→Prop} {Q:Exit→Act→World→Prop} (hK:Nxt E Φ κ K):o.wp E.P a w K Q:=by
 unfold AFT at hT
 split at hT
 ·rename_i f i args h;exact ACV hE hR hI hS h hT hK
 ·exact ASk hE hS hT hK
def AIK(E:En)(Φ:Bl→Ex→St→Prop)(κ:St→Bc)(K:Act→World→Prop):Prop:=
 ∀ st V a w,st.lc= []→Ho E st V a w→(κ st).HoldsA E.C.T Φ st.nv V.ρ→K a w
omit hE in
theorem iZ{st:St}{V:Vl}{a:Act}{w:World}(hS:Ho E st V a w){t:Nat}{x:X}(h:st.look t=some (.t (.l (.bool x)))):
  a.tmps[t]? = some (.bool (x.den V.ρ != 0))∧x.lt st.nv=true:=by
 obtain⟨h1,-,h3⟩:=hS.s.t.tm t _ h;refine⟨?_,h3⟩;simp only[SV.den_t,TV.den_l,LV.den_bool] at h1
 by_cases hlt:t<a.tmps.size
 ·rw[Array.getElem?_eq_getElem hlt];simp[Array.getD,hlt] at h1;rw[h1]
 ·simp[Array.getD,hlt,undef] at h1
omit hE in
theorem Yx{ops:Array Oper}{o g:Oper}{j t:Nat}{want:Bool}{tmps:Array Value}{b:Bool}(hg:o.guard=some (j,want))(hj:ops[j]? = some g)(hd:g.dst=some t)(ht:tmps[t]? = some (.bool b)):
  Region.wanted o (yielded ops tmps)=(b == want):=by
 unfold Region.wanted;rw[hg];have hy:yielded ops tmps j=some b:=by
  unfold yielded;rw[hj];simp only[Option.bind_some,hd,ht]
 simp only[hy];rfl
omit hE in
theorem Ho.setB{st:St}{V:Vl}{a:Act}{w:World}(h:Ho E st V a w){t:Nat}{x:X}{n:Int}(hl:st.look t=some (.t (.l (.bool x))))(hx:(x.den V.ρ != 0)=(n != 0)):Ho E (st.setB t n) V a w:=by
 refine⟨⟨h.s.m,h.s.scp,⟨fun u v hv=>?_,h.s.t.gl,h.s.t.ln⟩,h.s.nt,h.s.df⟩,h.ll,h.kp,h.ks,h.ns⟩;have hv':(if t=u then some (SV.t (.l (.bool (.lit n)))) else st.look u)=some v:=by rw[← hv];exact RY.symm
 by_cases e:t=u
 ·subst e;rw[if_pos rfl] at hv'
  cases hv'
  obtain⟨h1,-, -⟩:=h.s.t.tm t _ hl;exact⟨by rw[h1];simp only[SV.den_t,TV.den_l,LV.den_bool,X.den_lit,hx],trivial,rfl⟩
 ·rw[if_neg e] at hv';exact h.s.t.tm u v hv'
theorem jU {run:Code→St→Bc} (hR:AAb E run) (hI:qf E) {ops:Array Oper} {κ:St→Bc} {Q:Exit→Act→World→Prop} (hκ:AIK E Φ κ (Q .normal)):∀ (l:List Oper) (st:St) (V:Vl) (a:Act) (w:World),Ho E st V a w→
  (Tn E.C run ops κ l st).HoldsA E.C.T Φ st.nv V.ρ→wpList E.P ops Q l a w
 | [],st,V,a,w,hS,hT=>hκ st.flush V a w rfl hS.flush hT
 | o :: r,st,V,a,w,hS,hT=>by
  have hN:Nxt E Φ (Tn E.C run ops κ r) (wpList E.P ops Q r):=fun st' V' a' w' h1 h2=>jU hR hI hκ r st' V' a' w' h1 h2
  refine wpList_step fun K hK=>?_
  have hN':Nxt E Φ (Tn E.C run ops κ r) K:=fun st' V' a' w' h1 h2=>hK _ _ (hN st' V' a' w' h1 h2)
  have hskip:∀ st,Ho E st V a w→(match st.put o.dst (.tup []) with
   |some st'=>Tn E.C run ops κ r st'
   |none=>.bad 5).HoldsA E.C.T Φ st.nv V.ρ→K (a.put o.dst undef) w:=fun st hS hH=>by
   split at hH
   ·rename_i st' hp
    have hS':=hS.skip hp;refine hN' st' V _ w hS' ?_;have:st'.nv=st.nv:=by
     cases hd:o.dst with
     |none=>rw[hd] at hp;simp only[St.put,Am] at hp;subst hp;rfl
     |some t=>
      rw[hd] at hp;unfold St.put at hp;simp only at hp
      cases hb:(Nat.blt t st.nt&&SV.lt st.nv (Db st.rg) (.tup [])) with
      |false=>rw[hb] at hp;cases hp
      |true=>rw[hb,cond_true,Am] at hp;subst hp;rfl
    rw[this];exact hH
   ·exact (hH V.ρ (Jt.refl _ _)).elim
  unfold Tn at hT;simp only at hT
  cases hg:o.guard with
  |none=>
   rw[hg] at hT;rw[if_pos (by simp[Region.wanted,hg])];exact Xl hE hR hI hS hT hN'
  | some p=>
   obtain⟨j,want⟩:=p;rw[hg] at hT;simp only at hT
   split at hT
   ·rename_i g hj
    split at hT
    ·rename_i t hd
     split at hT
     ·rename_i n hl
      obtain⟨h1,-⟩:=iZ hS hl;rw[Yx hg hj hd h1];have hbe:(X.den V.ρ (.lit n) != 0)= !(JD n 0):=by
       rw[X.den_lit]
       cases hb:JD n 0 with
       |true=>rw[NP hb];rfl
       |false=>simpa using QV hb
      rw[hbe]
      cases hb:JD n 0<;>cases want<;>rw[hb] at hT<;>simp at hT ⊢ <;> first|exact Xl hE hR hI hS hT hN'|exact hskip st hS hT
     ·rename_i x _ hl
      obtain⟨h1,h2⟩:=iZ hS hl;rw[Yx hg hj hd h1]
      cases want with
      | true=>
       simp only[cond_true] at hT
       by_cases hx:x.den V.ρ=0
       ·rw[if_neg (by simp[hx])];exact hskip _ (hS.setB (n:=0) hl (by simp[hx])) fun ρ' hρ=>(Lb (hT ρ' hρ)).2 (by rw[X.den_agE hρ h2];exact hx)
       ·rw[if_pos (by simp[hx])];exact Xl hE hR hI (hS.setB (n:=1) hl (by simp[hx])) (fun ρ' hρ=>(Lb (hT ρ' hρ)).1 (by rw[X.den_agE hρ h2];exact hx)) hN'
      | false=>
       simp only[cond_false] at hT
       by_cases hx:x.den V.ρ=0
       ·rw[if_pos (by simp[hx])];exact Xl hE hR hI (hS.setB (n:=0) hl (by simp[hx])) (fun ρ' hρ=>(Lb (hT ρ' hρ)).2 (by rw[X.den_agE hρ h2];exact hx)) hN'
       ·rw[if_neg (by simp[hx])];exact hskip _ (hS.setB (n:=1) hl (by simp[hx])) fun ρ' hρ=>(Lb (hT ρ' hρ)).1 (by rw[X.den_agE hρ h2];exact hx)
     ·exact (hT V.ρ (Jt.refl _ _)).elim
    ·exact (hT V.ρ (Jt.refl _ _)).elim
   ·exact (hT V.ρ (Jt.refl _ _)).elim
end
end
section
open Go
section
variable{P:Program}{ops:Array Oper}{Q:Exit→Act→World→Prop}{md:Region.Mode}{Inv:World→Prop}
def wpI(P:Program)(md:Region.Mode)(ops:Array Oper)(Q:Exit→Act→World→Prop)(Inv:World→Prop):Nat→Array Bool→Act→World→Prop
 |0,listed,a,w=>Inv w∧Region.ready md ops listed= []∧Q .normal a w
 |fuel+1,listed,a,w=>Inv w∧(Region.ready md ops listed= []→Q .normal a w)∧
  ∀ i∈Region.ready md ops listed,wpOp P ops Q i (wpI P md ops Q Inv fuel (listed.setIfInBounds i true)) a w
theorem Zj{n:Nat}{listed:Array Bool}{a:Act}{w:World}(h:wpI P md ops Q Inv n listed a w):Inv w:=by
 cases n<;>exact h.1
theorem zy:∀ (n:Nat) (listed:Array Bool) (a:Act) (w:World),wpI P md ops Q Inv n listed a w→wpAny P md ops Q n listed a w
 |0,_,_,_,h=>h.2
 |n+1,_listed,_a,_w,h=>⟨h.2.1,fun i hi=>wpOp_mono (fun a' w' h'=>zy n _ a' w' h') (h.2.2 i hi)⟩
def O0(P:Program)(Inv:World→Prop)(o:Oper)(v:Value)(a:Act):Prop:=∀ w,Inv w→(execOp a.eval o).run P w= .ok (.value v) w
theorem O0.wpOp{i:Nat}{o:Oper}{v:Value}{a:Act}(hi:ops[i]? = some o)(hg:o.guard=none)(hy:O0 P Inv o v a){K:Act→World→Prop}{w:World}(hI:Inv w)(h:K (a.put o.dst v) w):
  wpOp P ops Q i K a w:=by
 unfold Go.wpOp;simp only[hi,Region.wanted,hg,if_true];refine .inl ?_;simp only[Oper.wp,hy w hI,Oper.upon];exact h
theorem AAq{j:Nat}{oi oj:Oper}{v:Value}(hj:ops[j]? = some oj)(hap:oi.apart ops oj=true)
  (hsi:∀ cs b,oi.op ≠ .select cs b) (hsj:∀ cs b,oj.op ≠ .select cs b)
  (hQ:∀ c a w,Q (.panic c) (a.put oi.dst v) w→Q (.panic c) a w) {K:Act→World→Prop} {a:Act} {w:World}
  (hy:O0 P Inv oi v a) (h:wpOp P ops Q j K (a.put oi.dst v) w):
  wpOp P ops Q j (fun a' w'=>O0 P Inv oi v a'∧K (a'.put oi.dst v) w') a w:=by
 obtain⟨h1,h2,h3⟩:=Oper.apart_spec hap;have keep:∀ (a:Act),O0 P Inv oi v a→∀ u,O0 P Inv oi v (a.put oj.dst u):=fun a hy u w hI=>by
  rw[execOp_put oi hsi a oj.dst u h3];exact hy w hI
 have keepD:∀ d,O0 P Inv oi v { a with defers:=d::a.defers }:=fun d=>hy
 unfold wpOp at *
 simp only[hj] at *
 rw[wanted_put oj a oi.dst v h1] at h
 split
 ·rename_i hw
  simp only[hw,if_true] at h
  rcases h with h|⟨hasks,hlets⟩
  case inr=>exact .inr ⟨by unfold Oper.asks at *;rw[execOp_put oj hsj a oi.dst v h1] at hasks;exact hasks,hlets⟩
  refine .inl ?_;unfold Oper.wp at *
  rw[execOp_put oj hsj a oi.dst v h1] at h;generalize (execOp a.eval oj).run P w=r at *
  cases r with
  | ok n w'=>
   cases n<;>simp only[Oper.upon] at h ⊢
   case value u=>exact⟨keep a hy u,by rw[← Act.put_comm a v u h2];exact h⟩
   case skip=>exact⟨keep a hy _,by rw[← Act.put_comm a v undef h2];exact h⟩
   case defer d=>
    refine⟨keep _ (keepD d) _,?_⟩;rw[← Act.put_comm _ v undef h2, ← Act.put_defers];exact h
   case enter f args=>
    refine Calls.mono h fun e w'' he=>?_
    cases e with
    |returned u=>exact⟨keep a hy u,by rw[← Act.put_comm a v u h2];exact he⟩
    |panicked c=>exact hQ _ _ _ he
    |outgrown=>exact he
   case row row args=>exact Rows.mono h fun u w'' he=>⟨keep a hy u,by rw[← Act.put_comm a v u h2];exact he⟩
  |halt x w'=>
   cases x<;>simp only[Oper.upon] at h ⊢
   case panic u=>exact hQ _ _ _ h
 ·rename_i hw
  simp only[hw] at h;exact⟨keep a hy _,by rw[← Act.put_comm a v undef h2];exact h⟩
theorem AAt{i:Nat}{oi:Oper}{v:Value}(hi:ops[i]? = some oi)(hgi:oi.guard=none)(hsel:∀ (j:Nat) (o:Oper) cs b,ops[j]? = some o→o.op ≠ .select cs b)
  (hQ:∀ c a w,Q (.panic c) (a.put oi.dst v) w→Q (.panic c) a w):
  ∀ (fuel:Nat) (listed:Array Bool) (a:Act) (w:World),
   (∀ j oj,ops[j]? = some oj→j≠i→listed.getD j true=false→(∀ e∈oj.after,Region.binds md e=true→e.on≠i)→oi.apart ops oj=true)→
   i∈Region.ready md ops listed→O0 P Inv oi v a→
   wpI P md ops Q Inv fuel (listed.setIfInBounds i true) (a.put oi.dst v) w→wpI P md ops Q Inv (fuel+1) listed a w:=by
 intro fuel
 induction fuel with
 | zero=>
  intro listed a w _ hr hy H
  refine⟨Zj H,fun h=>(by rw[h] at hr;cases hr),fun j hj=>?_⟩
  by_cases hji:j=i
  ·subst hji;exact hy.wpOp hi hgi (Zj H) H
  ·have:=ready_mono hj hji;rw[H.2.1] at this
   cases this
 | succ fuel ih=>
  intro listed a w abJ hr hy H
  refine⟨Zj H,fun h=>(by rw[h] at hr;cases hr),fun j hj=>?_⟩
  by_cases hji:j=i
  ·subst hji;exact hy.wpOp hi hgi (Zj H) H
  ·have h1:=H.2.2 j (ready_mono hj hji);obtain⟨acD,oj,hoj,hall⟩:=mem_ready.1 hj;have hnot:∀ e∈oj.after,Region.binds md e=true→e.on≠i:=fun e he hb heq=>by
    have h1:=hall e he hb;have h0:=(mem_ready.1 hr).1;rw[heq] at h1
    rcases nG i listed.size with h'|h'
    ·simp[h'] at h0 h1;rw[h0] at h1;cases h1
    ·simp[vR h'] at h1
   have h2:=AAq hoj (abJ j oj hoj hji acD hnot) (fun cs b=>hsel i oi cs b hi) (fun cs b=>hsel j oj cs b hoj) hQ hy h1;have hfree':∀ k ok,ops[k]? = some ok→k≠i→(listed.setIfInBounds j true).getD k true=false→
     (∀ e∈ok.after,Region.binds md e=true→e.on≠i)→oi.apart ops ok=true:=fun k ok hk hki hun hno=>by
    refine abJ k ok hk hki ?_ hno
    by_cases hjk:j=k
    ·subst hjk;exact acD
    ·rw[getD_set_ne true hjk] at hun;exact hun
   refine wpOp_mono (fun a' w' h3=>ih (listed.setIfInBounds j true) a' w' hfree' (ready_mono hr (Ne.symm hji)) h3.1 ?_) h2;rw[Array.setIfInBounds_comm _ _ hji];exact h3.2
end
theorem St.put_spec{st st':St}{d:Option Nat}{v:SV}(h:st.put d v=some st'):st'= { st with lc:=st'.lc }:=by
 cases d with
 |none=>simp only[St.put,Am] at h;subst h;rfl
 |some t=>
  unfold St.put at h;simp only at h
  cases hb:(Nat.blt t st.nt&&v.lt st.nv (Db st.rg)) with
  |false=>rw[hb] at h;cases h
  |true=>rw[hb,cond_true,Am] at h;subst h;rfl
theorem iU{rg:List Rg}:∀ {kp:List Rg},AF4 rg kp=true→∀ r∈kp,r∈rg
 | [],_,r,hr=>by cases hr
 | r0::rs,h,r,hr=>by
  simp only[AF4,Bd] at h
  rcases J4.1 hr with rfl|hr
  ·cases hf:kI r.id rg with
   |none=>rw[hf] at h;cases h.1
   |some r'=>
    rw[hf] at h;have:=Rg.beq_eq h.1;rw[this];exact (Kc hf).1
  ·exact iU h.2 r hr
theorem Pw.sub{E:En}{nv:Nat}{rg Ry kp:List Rg}{V V0 V':Vl}{w w0:World}(h0:Pw E Ry V0 w0)(hs:Zl nv Ry)(hk0:∀ r∈kp,r∈Ry)(ha0:Ag nv (Db Ry) V0 V')(hk:∀ r∈kp,r∈rg)
  (hm:Pw E rg V w) (ha:Ag nv (Db Ry) V V'):Pw E kp V' w where
 rgs r hr:=by
  intro i c hc
  obtain⟨v,h1,h2⟩:=hm.rgs r (hk r hr) i c hc;rw[ha.2.2 r.id (Gh (hk0 r hr))];refine⟨v,h1,fun lv e=>?_⟩;subst e;obtain⟨h3,h4⟩:=h2 lv rfl;have hl:=hs r (hk0 r hr) lv (OZ hc);exact⟨by rw[LV.den_ag ha hl];exact h3,LV.ok_ag ha hl h4⟩
 one r hr r' hr' h:=h0.one r (hk0 r hr) r' (hk0 r' hr') h
 sep r hr r' hr' hw hne:=by
  have:=h0.sep r (hk0 r hr) r' (hk0 r' hr') hw hne;unfold wK at *
  rw[ha0.2.2 r.id (Gh (hk0 r hr)),ha0.2.2 r'.id (Gh (hk0 r' hr'))];exact this
 cov r hr hw:=by
  have:=h0.cov r (hk0 r hr) hw;rw[ha0.2.2 r.id (Gh (hk0 r hr))];exact this
 frm:=hm.frm
 gw:=hm.gw
def DS.st(s:DS)(st:St):St:= { st with lc:=s.lc,rg:=s.rg }
structure sV (E:En) (Ry kp:List Rg) (τ:St) (V1:Vl) (s:DS) (V:Vl) (a:Act) (w:World):Prop where
 sat:Ho E (s.st τ) V a w
 ρ:V.ρ=V1.ρ
 σ:V.σ=V1.σ
 ν:∀ l,EH l (Db Ry)=true→V.ν l=V1.ν l∧EH l (Db s.rg)=true
 kp:∀ r∈kp,r∈s.rg
section
variable{E:En}(hE:Qs E){τ:St}{V1:Vl}{Ry kp:List Rg}{w0:World}{ops:Array Oper}{rfs:List Rf}{nv nl:Nat}
 (h0:Pw E Ry V1 w0) (hs0:Zl τ.nv Ry) (hk0:∀ r∈kp,r∈Ry)
 (hd:VJ E.C.T V1.ρ (rfs.flatMap (·.ds))) (ho:∀ q∈rfs.flatMap (·.ob),q.den E.C.T V1.ρ)
include hE h0 hs0 hk0 hd ho
omit hE hd ho in
theorem sV.inv{s:DS}{V:Vl}{a:Act}{w:World}(h:sV E Ry kp τ V1 s V a w):Pw E kp V1 w:=
 Pw.sub h0 hs0 hk0 (Ag.refl _ _ _) h.kp h.sat.s.m ⟨fun i _=>by rw[h.ρ],fun i _=>by rw[h.σ],fun l hl=>((h.ν l hl).1).symm⟩
omit hE hd ho in
theorem sV.inv'{s:DS}{V:Vl}{a:Act}{w w':World}(h:sV E Ry kp τ V1 s V a w)(hI:Pw E kp V1 w'):Pw E kp V w':=
 Pw.sub h0 hs0 hk0 ⟨fun i _=>by rw[h.ρ],fun i _=>by rw[h.σ],fun l hl=>(h.ν l hl).1⟩ (fun _ h=>h) hI ⟨fun i _=>by rw[h.ρ],fun i _=>by rw[h.σ],fun l hl=>(h.ν l hl).1⟩
theorem AD4 {o:Oper} {rf:Rf} {i:Nat} (hrf:rf∈rfs) {s s':DS} {V:Vl} {a:Act} {w:World} (hD:sV E Ry kp τ V1 s V a w) (_hnl:nv+16*i+16≤τ.nv)
  (h:UO E.C o rf i nv nl τ.nv kp τ false s=some s') {K:Act→World→Prop} {Q:Exit→Act→World→Prop} (hK:∀ V' a' w',sV E Ry kp τ V1 s' V' a' w'→K a' w'):o.wp E.P a w K Q:=by
 have _:=h0;have _:=hs0;have _:=hk0;unfold UO at h;simp only at h
 split at h
 ·cases h
 rename_i h2
 simp only[cond_false] at h
 split at h
 ·cases h
 rename_i m hm
 split at hm
 ·rename_i m' hm'
  cases hb:(AF4 m'.rg kp && !m'.er) with
  |false=>rw[hb] at hm;cases hm
  | true=>
   rw[hb,cond_true,Am] at hm;subst hm;simp only[Bd,Bool.not_eq_true'] at hb
   cases hc:(Wz m'.o.ds rf.ds&&Po JM.beq m'.o.ob rf.ob) with
   |false=>rw[hc] at h;cases h
   | true=>
    rw[hc,cond_true] at h;simp only[Bd] at hc;have e1:=aJ hc.1;have e2:=HV (fun _ _=>JM.beq_eq) hc.2
    split at h
    ·rename_i st2 hp
     simp only[Am] at h;subst h;have hρ:=hD.ρ;refine o6 hE hD.sat.s.m (bv:=τ.nv) hD.sat.s.scp hD.sat.s.t (JP _) hm' ?_ ?_ ?_ (.inl hb.2) ?_
     ·intro p hp'
      rw[hρ];rw[e1] at hp';exact hd p (List.mem_flatMap.2 ⟨rf,hrf,hp'⟩)
     ·intro q hq
      rw[hρ];rw[e2] at hq;exact ho q (List.mem_flatMap.2 ⟨rf,hrf,hq⟩)
     ·intro f args ψ vs fe as k1 _ k3 _
      exact dn hE h2 k1 k3 _
     ·intro V' w' hr hv
      rw[hb.2] at hr;have hp2:St.put { (s.st τ) with rg:=m'.rg,ln:=(s.st τ).ln,nv:=τ.nv,nl:=τ.nl } o.dst m'.o.v=some st2:=hp;have hS:=Ho.put (E:=E) hD.sat hr (.inl rfl) (JP _) (JP _) (by rw[hr.ρ];exact hD.sat.s.t.ln) hD.sat.ll hv hp2;have hst2:=St.put_spec hp2;have hrg:st2.rg=m'.rg:=by rw[hst2]
      refine hK V' _ w' ⟨?_,by rw[hr.ρ,hρ],?_,?_,?_⟩
      ·have:(DS.st ⟨s.ls.setIfInBounds i true,st2.lc,st2.rg⟩ τ)=st2:=by
        rw[hst2];rfl
       rw[this];exact hS
      ·rw[← hD.σ];funext j;exact hr.σ j (.inr rfl)
      ·intro l hl
       obtain⟨k1,k2⟩:=hD.ν l hl;obtain⟨k3,k4⟩:=hr.ν l k2;exact⟨by rw[k3,k1],by rw[hrg];exact k4⟩
      ·intro r hr'
       rw[hrg];exact iU hb.1 r hr'
    ·cases h
 ·cases hm
theorem ABZ{o:Oper}{rf:Rf}{i:Nat}(hrf:rf∈rfs){s s':DS}{V:Vl}{a:Act}{w:World}(hD:sV E Ry kp τ V1 s V a w)
  (h:UO E.C o rf i nv nl τ.nv kp τ true s=some s'):
  ∃ v,O0 E.P (Pw E kp V1) o v a∧sV E Ry kp τ V1 s' V (a.put o.dst v) w:=by
 unfold UO at h;simp only at h
 split at h
 ·cases h
 rename_i h2
 simp only[cond_true] at h
 split at h
 ·cases h
 rename_i m hm
 split at hm
 ·rename_i r hr
  simp only[Am] at hm;subst hm;simp only at h
  cases hc:(Wz r.ds rf.ds&&Po JM.beq r.ob rf.ob) with
  |false=>rw[hc] at h;cases h
  | true=>
   rw[hc,cond_true] at h;simp only[Bd] at hc;have e1:=aJ hc.1;have e2:=HV (fun _ _=>JM.beq_eq) hc.2;have hρ:=hD.ρ;have hds:DsH E.C.T V r.ds:=fun p hp'=>by
    rw[hρ];rw[e1] at hp';exact hd p (List.mem_flatMap.2 ⟨rf,hrf,hp'⟩)
   have hob:ObH E.C.T V r.ob:=fun q hq=>by
    rw[hρ];rw[e2] at hq;exact ho q (List.mem_flatMap.2 ⟨rf,hrf,hq⟩)
   have hy:O0 E.P (Pw E kp V1) o (r.v.den V) a∧r.v.ok V:=by
    unfold ALd at hr
    split at hr
    ·rename_i t x hop
     split at hr
     ·rename_i v hx
      obtain⟨k1,k2,-⟩:=hD.sat.s.t.opd (st:=s.st τ) hx;have hkey:∀ w',Pw E kp V w'→(Instr.loadAt t (v.den V)).run E.P w'= .ok (r.v.den V) w'∧r.v.ok V:=fun w' hI=>
       bi (st:= { (s.st τ) with rg:=kp }) hE hI hD.sat.s.t.ln hr k2 hds
      refine⟨fun w' hI=>?_,(hkey w (hD.inv' h0 hs0 hk0 (hD.inv h0 hs0 hk0))).2⟩;have:=(hkey w' (hD.inv' h0 hs0 hk0 hI)).1;obtain⟨dst,op,type,pos,after,guard⟩:=o;simp only at hop;subst hop;have h1':a.eval x=v.den V:=k1;simp only[execOp,h1',I1,this,IB,KD]
     ·cases hr
    ·obtain⟨k1,k2,-⟩:=o5 hE.tt hD.sat.s.t hr hds hob;exact⟨fun w' _=>k1 w',k2⟩
   split at h
   ·rename_i st2 hp
    simp only[Am] at h;subst h;have hp2:St.put { (s.st τ) with rg:=(s.st τ).rg,ln:=(s.st τ).ln,nv:=τ.nv,nl:=τ.nl } o.dst r.v=some st2:=hp;have hS:=Ho.put (E:=E) (nb:=0) (er:=false) hD.sat (XL.same hD.sat.s.m hD.sat.s.scp) (.inl rfl) (JP _) (JP _) hD.sat.s.t.ln hD.sat.ll hy.2 hp2;have hst2:=St.put_spec hp2;have hrg:st2.rg=s.rg:=by rw[hst2];rfl
    refine⟨_,hy.1,⟨?_,hρ,hD.σ,fun l hl=>?_,fun r' hr'=>?_⟩⟩
    ·have:(DS.st ⟨s.ls.setIfInBounds i true,st2.lc,st2.rg⟩ τ)=st2:=by
      rw[hst2];rfl
     rw[this];exact hS
    ·obtain⟨k1,k2⟩:=hD.ν l hl;exact⟨k1,by rw[hrg];exact k2⟩
    ·rw[hrg];exact hD.kp r' hr'
   ·cases h
 ·cases hm
end
end
section
open Go
theorem ul{a b:Bool}(h:mf a b=true):a=b:=by cases a<;>cases b<;>first|rfl|cases h
theorem Vw{new:List (Nat×SV)}:∀ {old:List (Nat×SV)},XB new old=true→∀ t v,(t,v)∈old→lk t new=some v
 | [],_,t,v,h=>by cases h
 | (t0,v0)::r,hh,t,v,h=>by
  simp only[XB,Bd] at hh
  rcases J4.1 h with e|h
  ·simp only[Prod.mk.injEq] at e;obtain⟨e1,e2⟩:=e;subst e1;subst e2
   cases hl:lk t new with
   |none=>rw[hl] at hh;cases hh.1
   |some u=>rw[hl] at hh;rw[SV.beq_eq hh.1]
  ·exact Vw hh.2 t v h
theorem AGP{a b:List (Nat×SV)}(h1:XB a b=true)(h2:XB b a=true)(t:Nat):lk t a=lk t b:=by
 cases hb:lk t b with
 |some v=>exact Vw h1 t v (Oo hb)
 |none=>
  cases ha:lk t a with
  |none=>rfl
  |some u=>have:=Vw h2 t u (Oo ha);rw[hb] at this;cases this
structure DEq (s e:DS):Prop where
 ls:e.ls=s.ls
 lc:∀ t,lk t e.lc=lk t s.lc
 rg:e.rg=s.rg
theorem DEq.refl(s:DS):DEq s s:=⟨rfl,fun _=>rfl,rfl⟩
theorem DEq.trans{a b c:DS}(h:DEq a b)(h':DEq b c):DEq a c:=⟨h'.ls.trans h.ls,fun t=>(h'.lc t).trans (h.lc t),h'.rg.trans h.rg⟩
theorem sV.eq{E:En}{Ry kp:List Rg}{τ:St}{V1:Vl}{s e:DS}{V:Vl}{a:Act}{w:World}(h:DEq s e)(hD:sV E Ry kp τ V1 s V a w):sV E Ry kp τ V1 e V a w:=by
 obtain⟨els,elc,erg⟩:=e;obtain⟨h1,h2,h3⟩:=h;simp only at h1 h2 h3;subst h1;subst h3;refine⟨⟨⟨hD.sat.s.m,hD.sat.s.scp,⟨fun t v hv=>hD.sat.s.t.tm t v ?_,hD.sat.s.t.gl,hD.sat.s.t.ln⟩,hD.sat.s.nt,hD.sat.s.df⟩,hD.sat.ll,hD.sat.kp,hD.sat.ks,hD.sat.ns⟩,hD.ρ,hD.σ,hD.ν,hD.kp⟩;simp only[St.look,DS.st] at hv ⊢;rw[← h2 t];exact hv
theorem iV{s:DS}:∀ {L L':List DS},AGQ s L=some L'→(∃ e∈L',DEq s e)∧∀ e∈L,e∈L'
 | [],L',h=>by
  simp only[AGQ,Am] at h;subst h;exact⟨⟨s,LA,DEq.refl s⟩,fun e he=>by cases he⟩
 | e::r,L',h=>by
  unfold AGQ at h
  cases hb:Po mf e.ls.toList s.ls.toList with
  | true=>
   rw[hb,cond_true] at h
   cases hc:(XB s.lc e.lc&&XB e.lc s.lc&&Po Rg.beq s.rg e.rg) with
   |false=>rw[hc] at h;cases h
   |true=>
    rw[hc,cond_true,Am] at h;subst h;simp only[Bd] at hc;have e1:=HV (fun _ _=>ul) hb;have e2:=HV (fun _ _=>Rg.beq_eq) hc.2;refine⟨⟨e,LA,⟨Array.ext' e1,fun t=>(AGP hc.1.1 hc.1.2 t).symm,e2.symm⟩⟩,fun x hx=>hx⟩
  | false=>
   rw[hb,cond_false] at h
   split at h
   ·rename_i r' hr
    simp only[Am] at h;subst h;obtain⟨⟨x,hx,hxe⟩,h2⟩:=iV hr;refine⟨⟨x,MQ _ hx,hxe⟩,fun y hy=>?_⟩
    rcases J4.1 hy with rfl|hy
    ·exact LA
    ·exact MQ _ (h2 y hy)
   ·cases h
theorem We:∀ {ss L L':List DS},XU ss L=some L'→(∀ s∈ss,∃ e∈L',DEq s e)∧∀ e∈L,e∈L'
 | [],L,L',h=>by
  simp only[XU,Am] at h;subst h;exact⟨fun s hs=>(by cases hs),fun e he=>he⟩
 | s::r,L,L',h=>by
  unfold XU at h
  split at h
  ·rename_i L1 h1
   obtain⟨⟨x,hx,hxe⟩,h2⟩:=iV h1;obtain⟨h3,h4⟩:=We h;refine⟨fun y hy=>?_,fun e he=>h4 e (h2 e he)⟩
   rcases J4.1 hy with rfl|hy
   ·exact⟨x,h4 x hx,hxe⟩
   ·exact h3 y hy
  ·cases h
theorem Yt{C:Cx}{ops:Array Oper}{rfs:List Rf}{nv nl bv:Nat}{kp:List Rg}{st:St}:∀ {L acc L':List DS},Z6 C ops rfs nv nl bv kp st L acc=some L'→
  (∀ s∈L,∃ ss,AC7 C ops rfs nv nl bv kp st s=some ss∧∀ s'∈ss,∃ e∈L',DEq s' e)∧∀ e∈acc,e∈L'
 | [],acc,L',h=>by
  simp only[Z6,Am] at h;subst h;exact⟨fun s hs=>(by cases hs),fun e he=>he⟩
 | s :: r,acc,L',h=>by
  unfold Z6 at h
  split at h
  ·rename_i ss hss
   split at h
   ·rename_i acP ha
    obtain⟨h1,h2⟩:=We ha;obtain⟨h3,h4⟩:=Yt h;refine⟨fun x hx=>?_,fun e he=>h4 e (h2 e he)⟩
    rcases J4.1 hx with rfl|hx
    ·refine⟨ss,hss,fun s' hs'=>?_⟩;obtain⟨e,he,hee⟩:=h1 s' hs';exact⟨e,h4 e he,hee⟩
    ·exact h3 x hx
   ·cases h
  ·cases h
theorem aH{C:Cx}{ops:Array Oper}{rfs:List Rf}{nv nl bv:Nat}{kp:List Rg}{st:St}{s s':DS}:∀ {R:List Nat},jO C ops rfs nv nl bv kp st s R=some s'→
  ∃ i∈R,∃ o rf,ops[i]? = some o∧rfs[i]? = some rf∧UO C o rf i nv nl bv kp st true s=some s'∧Region.free .any ops s.ls i=true
 | [],h=>by cases h
 | i :: r,h=>by
  unfold jO at h;have hr:jO C ops rfs nv nl bv kp st s r=some s'→∃ j∈i::r,∃ o rf,ops[j]? = some o∧rfs[j]? = some rf∧UO C o rf j nv nl bv kp st true s=some s'∧Region.free .any ops s.ls j=true:=fun h=>by
   obtain⟨j,hj,hh⟩:=aH h;exact⟨j,MQ _ hj,hh⟩
  split at h
  ·rename_i o rf ho hrf
   split at h
   ·rename_i s1 hs1
    cases hf:Region.free .any ops s.ls i with
    |false=>rw[hf] at h;exact hr h
    |true=>
     rw[hf,cond_true,Am] at h;subst h;exact⟨i,LA,o,rf,ho,hrf,hs1,hf⟩
   ·exact hr h
  ·cases h
theorem iD{C:Cx}{ops:Array Oper}{rfs:List Rf}{nv nl bv:Nat}{kp:List Rg}{st:St}{s:DS}:∀ {R:List Nat} {ss:List DS},AHX C ops rfs nv nl bv kp st s R=some ss→
  ∀ i∈R,∃ o rf s',ops[i]? = some o∧rfs[i]? = some rf∧UO C o rf i nv nl bv kp st false s=some s'∧s'∈ss
 | [],ss,h,i,hi=>by cases hi
 | i :: r,ss,h,j,hj=>by
  unfold AHX at h
  split at h
  ·rename_i o rf ho hrf
   split at h
   ·rename_i s1 ss1 h1 h2
    simp only[Am] at h;subst h
    rcases J4.1 hj with rfl|hj
    ·exact⟨o,rf,s1,ho,hrf,h1,LA⟩
    ·obtain⟨o',rf',s',k1,k2,k3,k4⟩:=iD h2 j hj;exact⟨o',rf',s',k1,k2,k3,MQ _ k4⟩
   ·cases h
  ·cases h
theorem rU{C:Cx}{o:Oper}{rf:Rf}{i nv nl bv:Nat}{kp:List Rg}{st:St}{b:Bool}{s s':DS}(h:UO C o rf i nv nl bv kp st b s=some s'):s'.ls=s.ls.setIfInBounds i true:=by
 unfold UO at h;simp only at h
 split at h
 ·cases h
 split at h
 ·cases h
 rename_i m hm
 cases hc:(Wz m.o.ds rf.ds&&Po JM.beq m.o.ob rf.ob) with
 |false=>rw[hc] at h;cases h
 | true=>
  rw[hc,cond_true] at h
  split at h
  ·simp only[Am] at h;subst h;rfl
  ·cases h
def QN(Qn:Act→World→Prop):Exit→Act→World→Prop
 | .normal,a,w=>Qn a w
 |_,_,_=>False
section
variable{E:En}(hE:Qs E){τ:St}{V1:Vl}{Ry kp:List Rg}{w0:World}{ops:Array Oper}{rfs:List Rf}{nv nl:Nat}
 (h0:Pw E Ry V1 w0) (hs0:Zl τ.nv Ry) (hk0:∀ r∈kp,r∈Ry)
 (hd:VJ E.C.T V1.ρ (rfs.flatMap (·.ds))) (ho:∀ q∈rfs.flatMap (·.ob),q.den E.C.T V1.ρ)
 (hg:∀ o∈ops,o.guard=none) (hsel:Region.noSelect ops=true) (hnv:nv+16*ops.size≤τ.nv)
include hE h0 hs0 hk0 hd ho hg hsel hnv
theorem wV{Qn:Act→World→Prop}{sf:DS}(hQ:∀ V a w,sV E Ry kp τ V1 sf V a w→Qn a w):∀ (n:Nat) (L:List DS),AA0 E.C ops rfs nv nl τ.nv kp τ n L=some sf→
  ∀ s∈L,∀ V a w,sV E Ry kp τ V1 s V a w→wpI E.P .any ops (QN Qn) (Pw E kp V1) n s.ls a w
 | 0,L,h,s,hs,V,a,w,hD=>by
  cases L with
  |nil=>cases hs
  | cons s0 r=>
   cases r with
   |cons s1 r=>simp only[AA0] at h;cases h
   | nil=>
    simp only[AA0] at h
    cases hb:(Region.ready .any ops s0.ls).isEmpty with
    |false=>rw[hb] at h;cases h
    |true=>
     rw[hb,cond_true,Am] at h;subst h;have:s=s0:=by simpa using hs
     subst this;exact⟨hD.inv h0 hs0 hk0,by simpa using hb,hQ V a w hD⟩
 | n+1,L,h,s,hs,V,a,w,hD=>by
  unfold AA0 at h
  split at h
  ·rename_i L' hL
   obtain⟨h1,-⟩:=Yt hL;obtain⟨ss,hss,hse⟩:=h1 s hs;have ih:=wV hQ n L' h;have next:∀ s'∈ss,∀ V' a' w',sV E Ry kp τ V1 s' V' a' w'→wpI E.P .any ops (QN Qn) (Pw E kp V1) n s'.ls a' w':=fun s' hs' V' a' w' hD'=>by
    obtain⟨e,he,hee⟩:=hse s' hs';have:=ih e he V' a' w' (hD'.eq hee);rw[hee.ls] at this;exact this
   unfold AC7 at hss;simp only at hss
   split at hss
   ·cases hss
   rename_i hne
   split at hss
   ·rename_i s' hf
    simp only[Am] at hss;subst hss;obtain⟨i,hi,o,rf,k1,k2,k3,k4⟩:=aH hf;obtain⟨v,hy,hD'⟩:=ABZ hE h0 hs0 hk0 hd ho (OZ k2) hD k3;have hmem:o∈ops:=Array.mem_of_getElem? k1;refine AAt k1 (hg o hmem) (Region.noSelect_spec hsel) (fun c a' w' h=>h) n s.ls a w (Region.free_spec k1 k4) hi hy ?_;have:=next s' LA V _ w hD';rw[rU k3] at this;exact this
   ·refine⟨hD.inv h0 hs0 hk0,fun h=>absurd h hne,fun i hi=>?_⟩;obtain⟨o,rf,s',k1,k2,k3,k4⟩:=iD hss i hi;have hmem:o∈ops:=Array.mem_of_getElem? k1;have hlt:i<ops.size:=(Array.getElem?_eq_some_iff.1 k1).1;unfold Go.wpOp;simp only[k1,Region.wanted,hg o hmem,if_true];refine .inl (AD4 hE h0 hs0 hk0 hd ho (OZ k2) hD (by omega) k3 fun V' a' w' hD'=>?_);have:=next s' k4 V' a' w' hD';rw[rU k3] at this;exact this
  ·cases h
end
theorem dP{C:Cx}{bv:Nat}:∀ {l:List Oper} {nv nl:Nat} {st:St} {rfs:List Rf},AI4 C nv nl bv l st=some rfs→∀ o∈l,o.guard=none
 | [],_,_,_,_,_,o,ho=>by cases ho
 | o :: r,nv,nl,st,rfs,h,o',ho'=>by
  unfold AI4 at h
  split at h
  ·rename_i m hg hm
   split at h
   ·rename_i st' hp
    split at h
    ·rename_i rs hr
     rcases J4.1 ho' with rfl|ho'
     ·exact hg
     ·exact dP hr o' ho'
    ·cases h
   ·cases h
  ·cases h
theorem Pw.of_heap{E:En}{rg:List Rg}{V:Vl}{w w':World}(h:Pw E rg V w)(e:w'.heap=w.heap)(e1:w'.os=w.os)(e2:w'.output=w.output)(e3:w'.tape=w.tape):Pw E rg V w' where
 rgs r hr i c hc:=by
  obtain⟨v,h1,h2⟩:=h.rgs r hr i c hc;exact⟨v,h1.of_heap e,h2⟩
 one:=h.one
 sep:=h.sep
 cov:=h.cov
 frm:=h.frm.of_heap e e1 e2 e3
 gw b o v hb:=by
  have:=h.gw b o v hb;simp only[World.cell?] at this ⊢;rw[e];exact this
theorem Ho.of_heap{E:En}{st:St}{V:Vl}{a:Act}{w w':World}(h:Ho E st V a w)(e:w'.heap=w.heap)(e1:w'.os=w.os)(e2:w'.output=w.output)(e3:w'.tape=w.tape):Ho E st V a w':=
 ⟨⟨h.s.m.of_heap e e1 e2 e3,h.s.scp,h.s.t,h.s.nt,h.s.df⟩,h.ll,h.kp,h.ks,h.ns⟩
theorem vI{E:En}(hE:Qs E){Φ:Bl→Ex→St→Prop}{ops:Array Oper}{κ:St→Bc}{Q:Exit→Act→World→Prop}(hκ:AIK E Φ κ (Q .normal)){id:Nat}{st:St}{V:Vl}{a:Act}{w:World}(υ:st.lc= [])
  (hS:Ho E st V a w) (hT:(mQ E.C ops st κ).HoldsA E.C.T Φ st.nv V.ρ):(Code.region id ops true).wp E.P Q a w:=by
 unfold mQ at hT;simp only at hT
 cases hsel:Region.noSelect ops with
 |false=>rw[hsel] at hT;exact (hT V.ρ (Jt.refl _ _)).elim
 |true=>
 rw[hsel] at hT;simp only[Bool.not_true,cond_false] at hT
 split at hT
 ·exact (hT V.ρ (Jt.refl _ _)).elim
 rename_i rfs aer
 split at hT
 ·exact (hT V.ρ (Jt.refl _ _)).elim
 rename_i sf hrun
 generalize hds:rfs.flatMap (·.ds)=ds at hT hrun;generalize hob:rfs.flatMap (·.ob)=ob at hT hrun;generalize hkp:AOf st.rg rfs=kp at hT hrun;have hk0:∀ r∈kp,r∈st.rg:=fun r hr=>by
  rw[← hkp] at hr;unfold AOf at hr
  split at hr
  ·cases hr
  ·exact (List.mem_filter.1 hr).1
 have hbv:st.nv≤st.nv+16*ops.size:=by omega
 generalize hst2:St.flush { st with lc:=sf.lc,rg:=sf.rg,ln:=KN E.C.T st.ln ds,nv:=st.nv+16*ops.size,nl:=st.nl+16*ops.size }=st2 at hT;have key:∃ ρ1,Jt st.nv V.ρ ρ1∧VJ E.C.T ρ1 ds∧(∀ q∈ob,q.den E.C.T ρ1)∧(κ st2).HoldsA E.C.T Φ (st.nv+16*ops.size) ρ1∧(∀ p∈KN E.C.T st.ln ds,p.1<st.nv+16*ops.size):=by
  have hge:∀ p∈st.ln,p.1<st.nv+16*ops.size:=fun p hp=>by have:=hS.ll p hp;omega
  by_cases hno:ds= []∧ob= []
  ·rw[hno.1,hno.2] at hT;simp only at hT;rw[hno.1,hno.2];exact⟨V.ρ,Jt.refl _ _,fun p hp=>(by cases hp),fun q hq=>(by cases hq),fun ρ' h=>hT ρ' (fun i hi=>h i (by omega)),hge⟩
  ·have hT2:(bif GM st.nv (st.nv+16*ops.size) ds&&J7 (st.nv+16*ops.size) ob then Bc.evs ds ob (κ st2) else .bad 13).HoldsA E.C.T Φ st.nv V.ρ:=by
    revert hT
    cases ds with
    |nil=>
     cases ob with
     |nil=>exact absurd ⟨rfl,rfl⟩ hno
     |cons q r=>exact fun h=>h
    |cons p r=>exact fun h=>h
   cases hb:(GM st.nv (st.nv+16*ops.size) ds&&J7 (st.nv+16*ops.size) ob) with
   |false=>rw[hb] at hT2;exact (hT2 V.ρ (Jt.refl _ _)).elim
   |true=>
    rw[hb,cond_true] at hT2;simp only[Bd] at hb;obtain⟨ρ1,g1,g2⟩:=XC E.C.T V.ρ hb.1;have h1:=hT2 ρ1 g1 g2;refine⟨ρ1,g1,g2,h1.1,fun ρ' h=>?_,SG hb.1 hge⟩;exact (hT2 ρ' (g1.trans h hbv) (g2.agE hb.1 h)).2
 obtain⟨ρ1,g1,g2,g3,g4,g5⟩:=key;have hS1:=(Sat.env hS g1).of_heap (w':= { w with drawn:=w.drawn+1 }) rfl rfl rfl rfl;have hTb:∀ f fe,lk f E.C.T=some fe→∀ b,PX (fe.sel b):=fun f fe h=>(hE.tb f fe h).2
 have hln:=SB (ρ:=ρ1) hTb hS1.s.t.ln g2;have hp0:St.put { st with rg:=st.rg,ln:=KN E.C.T st.ln ds,nv:=st.nv+16*ops.size,nl:=st.nl+16*ops.size } none (.tup [])=some { st with ln:=KN E.C.T st.ln ds,nv:=st.nv+16*ops.size,nl:=st.nl+16*ops.size }:=rfl;have hS2:=Ho.put (E:=E) (nb:=0) (er:=false) (v:=.tup []) hS1 (XL.same hS1.s.m hS1.s.scp) (.inl rfl) hbv hbv hln g5 (fun t ht=>(by cases ht)) hp0;rw[← hds] at g2;rw[← hob] at g3;have hD0:sV E st.rg kp { st with ln:=KN E.C.T st.ln ds,nv:=st.nv+16*ops.size,nl:=st.nl+16*ops.size } { V with ρ:=ρ1 } ⟨Array.replicate ops.size false,[],st.rg⟩ { V with ρ:=ρ1 } a { w with drawn:=w.drawn+1 }:=by
  refine⟨?_,rfl,rfl,fun l hl=>⟨rfl,hl⟩,hk0⟩;have:(DS.st ⟨Array.replicate ops.size false,[],st.rg⟩ { st with ln:=KN E.C.T st.ln ds,nv:=st.nv+16*ops.size,nl:=st.nl+16*ops.size })= { st with ln:=KN E.C.T st.ln ds,nv:=st.nv+16*ops.size,nl:=st.nl+16*ops.size }:=by
   simp only[DS.st];rw[υ]
  rw[this];exact hS2
 refine wp_mono (wp_region_any hE.mx (zy _ _ _ _ (wV hE hS2.s.m (nv:=st.nv) (nl:=st.nl) (rfs:=rfs) hS2.s.scp hk0 g2 g3 (fun o ho=>dP aer o (by simpa using ho)) hsel (JP _) (Qn:=Q .normal) ?_ ops.size _ hrun _ (Nc.2 rfl) _ _ _ hD0))) ?_
 ·intro V' a' w' hD
  refine hκ st2 V' a' w' (by rw[← hst2];rfl) ?_ ?_
  ·rw[← hst2];exact Ho.flush hD.sat
  ·have:st2.nv=st.nv+16*ops.size:=by rw[← hst2];rfl
   rw[this,hD.ρ];exact g4
 ·intro e a' w' h
  cases e<;>first|exact h|exact h.elim
end
section
open Go
def dM(E:En)(d:LD)(id:Nat)(body:Code):Prop:=
 ∀ (fe:FE),lk d.lid E.C.T=some fe→∀ (a:Act) (w:World) (ins:List (List Int)) (bs:List (Nat×Nat)),GW E.GC w→E.GB≤w.heap.size→
  Kt E.GB w (fe.sel true).params (d.ps.map fun t=>a.tmps.getD t undef) ins bs→G8 (fe.sel true).params bs→((fe.sel true).hp=true→(fe.sel true).pre ins)→a.defers= []→a.tmps.size=d.nt→
  (Code.block id body).wp E.P (fun e a' w'=>e= .normal∧∃ fb vals,Yp E.GC (fe.sel true) (d.ps.map fun t=>a.tmps.getD t undef) ins bs w fb vals w'∧a'.tmps.size=a.tmps.size∧a'.defers= []∧
   (∀ t,EH t d.cl=false→t ∉ d.ss→a'.tmps.getD t undef=a.tmps.getD t undef)∧∀ (i t:Nat) (v:Value),d.ss[i]? = some t→vals[i]? = some v→a'.tmps.getD t undef=v) a w
theorem Qo{st:St}{V:Vl}{a:Act}{w:World}{E:En}(hS:Ho E st V a w):∀ {ts:List Nat} {vs:List SV},looks st ts=some vs→
  (ts.map fun t=>a.tmps.getD t undef)=vs.map (·.den V)∧∀ v∈vs,v.ok V∧v.lt st.nv (Db st.rg)=true
 | [],vs,h=>by
  simp only[looks,Am] at h;subst h;exact⟨rfl,fun v hv=>(by cases hv)⟩
 | t::r,vs,h=>by
  unfold looks at h
  split at h
  ·rename_i v vs' h1 h2
   simp only[Am] at h;subst h;obtain⟨k1,k2,k3⟩:=hS.s.t.tm t v h1;obtain⟨g1,g2⟩:=Qo hS h2;refine⟨by simp only[NT,k1,g1],fun u hu=>?_⟩
   rcases J4.1 hu with rfl|hu
   ·exact⟨k2,k3⟩
   ·exact g2 u hu
  ·cases h
theorem iW:∀ {ts:List Nat} {vs:List TV} {st st':St},wE st ts vs=some st'→st'= { st with lc:=st'.lc }∧ts.length=vs.length∧
  (∀ u x,st'.look u=some x→(∃ (i:Nat) (tv:TV),ts[i]? = some u∧vs[i]? = some tv∧x= .t tv)∨(u ∉ ts∧st.look u=some x))∧(∀ v∈vs,(SV.t v).lt st.nv (Db st.rg)=true)
 | [],[],st,st',h=>by
  simp only[wE,Am] at h;subst h;exact⟨rfl,rfl,fun u x hx=>.inr ⟨by simp,hx⟩,fun v hv=>(by cases hv)⟩
 | [],_::_,st,st',h=>by simp[wE] at h
 |_::_,[],st,st',h=>by simp[wE] at h
 | t :: ts,v::vs,st,st',h=>by
  unfold wE at h
  split at h
  ·rename_i τ h1
   obtain⟨g1,g2,g3,g4⟩:=iW h;have e1:=St.put_spec h1;unfold St.put at h1;simp only at h1
   cases hb:(Nat.blt t st.nt&&SV.lt st.nv (Db st.rg) (.t v)) with
   |false=>rw[hb] at h1;cases h1
   | true=>
    rw[hb,cond_true,Am] at h1;simp only[Bd] at hb;refine⟨by rw[g1,e1],by simp[g2],fun u x hx=>?_,fun v' hv'=>?_⟩
    ·rcases g3 u x hx with ⟨i,tv,k1,k2,k3⟩|⟨k1,k2⟩
     ·exact .inl ⟨i+1,tv,by simpa using k1,by simpa using k2,k3⟩
     ·rw[← h1,RY] at k2
      by_cases e:t=u
      ·rw[if_pos e,Am] at k2;exact .inl ⟨0,v,by simp[e],by simp,k2.symm⟩
      ·rw[if_neg e] at k2;exact .inr ⟨by simp[k1,Ne.symm e],k2⟩
    ·rcases J4.1 hv' with rfl|hv'
     ·exact hb.2
     ·have:=g4 v' hv';rw[e1] at this;exact this
  ·cases h
theorem YB(ts:List Nat)(u:Nat):∀ (tm:List (Nat×SV)) (x:SV),lk u (AG7 ts tm)=some x→lk u tm=some x∧EH u ts=false
 | [],x,h=>by simp[AG7,lk] at h
 | (k,v)::r,x,h=>by
  unfold AG7 at h;rw[List.filter_cons] at h
  split at h
  ·rename_i hk
   simp only[lk] at h ⊢
   cases hb:Nat.beq k u with
   |true=>
    rw[hb] at h;have:=CL hb;subst this;refine⟨h,by simpa using hk⟩
   |false=>
    rw[hb] at h;exact YB ts u r x h
  ·rename_i hk
   obtain⟨h1,h2⟩:=YB ts u r x h;refine⟨?_,h2⟩;simp only[lk]
   cases hb:Nat.beq k u with
   |true=>
    have:=CL hb;subst this;simp[h2] at hk
   |false=>exact h1
section
variable{E:En}(hE:Qs E){Φ:Bl→Ex→St→Prop}
include hE
theorem sw{d:LD}{id:Nat}{body:Code}(hL:dM E d id body)(_hone:∀ fe,lk d.lid E.C.T=some fe→∀ x,fe.cnd x=true){κ:St→Bc}{Q:Exit→Act→World→Prop}(hκ:AIK E Φ κ (Q .normal)){st:St}{V:Vl}{a:Act}{w:World}(υ:st.lc= [])
  (hS:Ho E st V a w) (hT:(lT E.C d st κ).HoldsA E.C.T Φ st.nv V.ρ):(Code.block id body).wp E.P Q a w:=by
 unfold lT at hT
 cases hbn:Nat.beq st.nt d.nt with
 |false=>rw[hbn] at hT;exact (hT V.ρ (Jt.refl _ _)).elim
 |true=>
 rw[hbn] at hT;simp only[Bool.not_true,cond_false] at hT;have adH:=CL hbn
 split at hT
 ·exact (hT V.ρ (Jt.refl _ _)).elim
 rename_i vs hvs
 split at hT
 ·exact (hT V.ρ (Jt.refl _ _)).elim
 rename_i r hr
 split at hT
 ·exact (hT V.ρ (Jt.refl _ _)).elim
 rename_i st' hp
 have key:∃ ρ1,Jt st.nv V.ρ ρ1∧VJ E.C.T ρ1 r.ds∧(∀ q∈r.ob,q.den E.C.T ρ1)∧(κ st'.flush).HoldsA E.C.T Φ (st.nv+16) ρ1∧(∀ p∈KN E.C.T st.ln r.ds,p.1<st.nv+16):=by
  have hge:∀ p∈st.ln,p.1<st.nv+16:=fun p hp=>by have:=hS.ll p hp;omega
  by_cases hno:r.ds= []∧r.ob= []
  ·rw[hno.1,hno.2] at hT;simp only at hT;rw[hno.1,hno.2];exact⟨V.ρ,Jt.refl _ _,fun p hp=>(by cases hp),fun q hq=>(by cases hq),fun ρ' h=>hT ρ' (fun i hi=>h i (by omega)),hge⟩
  ·have hT2:(bif GM st.nv (st.nv+16) r.ds&&J7 (st.nv+16) r.ob then Bc.evs r.ds r.ob (κ st'.flush) else .bad 23).HoldsA E.C.T Φ st.nv V.ρ:=by
    revert hT
    cases hds:r.ds with
    |nil=>
     cases hob:r.ob with
     |nil=>exact absurd ⟨hds,hob⟩ hno
     |cons q r=>exact fun h=>h
    |cons p r=>exact fun h=>h
   cases hb:(GM st.nv (st.nv+16) r.ds&&J7 (st.nv+16) r.ob) with
   |false=>rw[hb] at hT2;exact (hT2 V.ρ (Jt.refl _ _)).elim
   |true=>
    rw[hb,cond_true] at hT2;simp only[Bd] at hb;obtain⟨ρ1,g1,g2⟩:=XC E.C.T V.ρ hb.1;have h1:=hT2 ρ1 g1 g2;refine⟨ρ1,g1,g2,h1.1,fun ρ' h=>?_,SG hb.1 hge⟩;exact (hT2 ρ' (g1.trans h (by omega)) (g2.agE hb.1 h)).2
 obtain⟨ρ1,g1,g2,g3,g4,g5⟩:=key;have hS1:=Sat.env hS g1;have hTb:∀ f fe,lk f E.C.T=some fe→∀ b,PX (fe.sel b):=fun f fe h=>(hE.tb f fe h).2
 have hln:=SB (ρ:=ρ1) hTb hS1.s.t.ln g2;obtain⟨q1,q2⟩:=Qo hS1 hvs;obtain⟨fe,as,bs,c1,c2,c3,c4,c5,c6⟩:=rP hE hS1.s.m (bv:=st.nv+16) (fun r hr lv hlv=>LV.lt_mono (by omega) (fun _ h=>h) (hS1.s.scp r hr lv hlv)) hS1.s.t.ln hr
  (fun v hv=>⟨(q2 v hv).1,SV.lt_mono (by omega) (fun _ h=>h) (q2 v hv).2⟩) (.inr ⟨hS1.s.scp,fun v hv=>(q2 v hv).2⟩) g2 g3
 have hGw:E.GB≤w.heap.size:=G9 hE.gb hS1.s.m.frm.1;rw[← q1] at c3;refine wp_mono (hL fe c1 a w _ bs hS1.s.m.gw hGw c3 c4 c5 hS1.s.df (hS1.s.nt.trans adH)) ?_
 rintro e a' w' ⟨rfl,fb,vals,hP,hsz,hdf,hold,ab6⟩
 rw[q1] at hP;obtain⟨V',hr',k2,k3⟩:=c6 fb vals w' hP;have hag:Ag st.nv (Db st.rg) { V with ρ:=ρ1 } V':=⟨fun i _=>by rw[hr'.ρ],fun i hi=>hr'.σ i (.inl hi),fun l hl=>(hr'.ν l hl).1⟩;have hids:∀ l,EH l (Db st.rg)=true→EH l (Db r.rg)=true:=fun l hl=>(hr'.ν l hl).2
 obtain⟨p1,p2,p3,p4⟩:=iW hp;have hnt:st'.nt=st.nt:=by rw[p1]
 have hrg:st'.rg=r.rg:=by rw[p1]
 have hnv:st'.nv=st.nv+16:=by rw[p1]
 have hS':Ho E st' V' a' w':=by
  refine⟨⟨by rw[hrg];exact hr'.mok,by rw[hrg,hnv];exact hr'.scp,⟨fun u x hx=>?_,fun g l hg=>?_,by rw[p1,hr'.ρ];exact hln⟩,by rw[hsz,hnt];exact hS.s.nt,hdf⟩,by rw[p1];exact g5,fun p hp'=>by
   obtain⟨k1,k2⟩:=hS.kp p hp';rw[hrg];exact⟨hids _ k1,by rw[hag.2.2 _ k1];exact k2⟩,fun i hi=>by rw[hag.2.1 i (zcg hi hS.ns)];exact hS.ks i hi,by rw[hnv];have:=hS.ns;omega⟩
  ·rw[hrg,hnv]
   rcases p3 u x hx with ⟨i,tv,i1,i2,rfl⟩|⟨i1,i2⟩
   ·refine⟨ab6 i u _ i1 ?_,k3 tv (OZ i2),p4 tv (OZ i2)⟩;rw[← k2,OX,i2];rfl
   ·simp only[St.look,lk] at i2;obtain⟨j1,j2⟩:=YB _ _ _ _ i2;obtain⟨h1,h2,h3⟩:=hS1.s.t.tm u x (by simp only[St.look,υ,lk];exact j1);rw[hold u j2 i1];exact⟨by rw[SV.den_ag hag h3];exact h1,SV.ok_ag hag h3 h2,SV.lt_mono (by omega) hids h3⟩
  ·have hg':lk g st.gl=some l:=by rw[p1] at hg;exact hg
   obtain⟨h1,h2⟩:=hS1.s.t.gl g l hg';rw[hrg];exact⟨by rw[hag.2.2 l h2];exact h1,hids l h2⟩
 refine hκ st'.flush V' a' w' rfl hS'.flush ?_;have:st'.flush.nv=st.nv+16:=hnv;rw[this,hr'.ρ];exact g4
end
def Yf(P:Program)(n:Nat)(c:Code)(Q:Exit→Act→World→Prop)(a:Act)(w:World):Prop:=
 match c with
 | .loop b=>Code.rounds P b Q n a w
 |c=>c.wp P Q a w
def QK(E:En)(Φ:Bl→Ex→St→Prop):List (K×Nat)→Exit→Act→World→Prop
 | []=>ATE E Φ
 |(.code c,n)::k=>Exit.then (Yf E.P n c (QK E Φ k)) (QK E Φ k)
 |(.blk id,_)::k=>Exit.inBlock id (QK E Φ k)
theorem Wi{P:Program}{c:Code}{Q:Exit→Act→World→Prop}:∀ {n:Nat} {a:Act} {w:World},Code.rounds P c Q n a w→Code.rounds P c Q (n+1) a w
 |0,_,_,h=>h.elim
 |n+1,a,w,h=>by
  rw[rounds_succ] at h ⊢;refine wp_mono h fun e a' w' h'=>?_
  cases e<;>first|exact h'|exact Wi h'
theorem pY{P:Program}{c:Code}{Q:Exit→Act→World→Prop}{n m:Nat}{a:Act}{w:World}(hnm:n≤m)(h:Code.rounds P c Q n a w):Code.rounds P c Q m a w:=by
 induction hnm with
 |refl=>exact h
 |step _ ih=>exact Wi ih
theorem sZ{P:Program}{n m:Nat}{c:Code}{Q:Exit→Act→World→Prop}{a:Act}{w:World}(hnm:n≤m)(h:Yf P n c Q a w):Yf P m c Q a w:=by
 cases c<;>first|exact h|exact pY hnm h
theorem Kg{P:Program}{n:Nat}{c:Code}{Q:Exit→Act→World→Prop}{a:Act}{w:World}(h:Yf P n c Q a w):c.wp P Q a w:=by
 cases c<;>first|exact h|exact wp_loop_rounds n h
def Ju(E:En):Code→Prop
 | .seq a b=>Ju E a∧Ju E b
 | .cond _ t e=>Ju E t∧Ju E e
 | .block id body=>Ju E body∧∀ d,lk id E.C.loops=some d→dM E d id body∧∀ fe,lk d.lid E.C.T=some fe→∀ x,fe.cnd x=true
 | .loop body=>Ju E body
 |_=>True
theorem Ju.of_nil{E:En}(h:E.C.loops= []):∀ c,Ju E c
 | .seq a b=>⟨Ju.of_nil h a,Ju.of_nil h b⟩
 | .cond _ t e=>⟨Ju.of_nil h t,Ju.of_nil h e⟩
 | .block id body=>⟨Ju.of_nil h body,fun d hd=>by rw[h] at hd;cases hd⟩
 | .loop body=>Ju.of_nil h body
 | .skip=>trivial
 | .region .. => trivial
 | .exit _=>trivial
 | .ret=>trivial
 | .goto _=>trivial
 | .label _=>trivial
 | .scope _=>trivial
 | .rangeFunc .. => trivial
 | .refuse _=>trivial
def Me(i:Nat):Code→List Code
 | .seq a b=>Me i a++Me i b
 | .cond _ t e=>Me i t++Me i e
 | .block id body=>(bif Nat.beq id i then [body] else [])++Me i body
 | .loop body=>Me i body
 |_=>[]
theorem Ju.of_blocks{E:En}:∀ (c:Code),(∀ id d,lk id E.C.loops=some d→(∀ body∈Me id c,dM E d id body)∧∀ fe,lk d.lid E.C.T=some fe→∀ x,fe.cnd x=true)→Ju E c
 | .seq a b,h=>⟨Ju.of_blocks a fun id d hd=>⟨fun x hx=>(h id d hd).1 x (List.mem_append_left _ hx),(h id d hd).2⟩,Ju.of_blocks b fun id d hd=>⟨fun x hx=>(h id d hd).1 x (vH _ hx),(h id d hd).2⟩⟩
 | .cond _ a b,h=>⟨Ju.of_blocks a fun id d hd=>⟨fun x hx=>(h id d hd).1 x (List.mem_append_left _ hx),(h id d hd).2⟩,Ju.of_blocks b fun id d hd=>⟨fun x hx=>(h id d hd).1 x (vH _ hx),(h id d hd).2⟩⟩
 | .block id body,h=>⟨Ju.of_blocks body fun id' d hd=>⟨fun x hx=>(h id' d hd).1 x (vH _ hx),(h id' d hd).2⟩,fun d hd=>⟨(h id d hd).1 body (List.mem_append_left _ (by rw[Nat.beq_refl];exact Nc.2 rfl)),(h id d hd).2⟩⟩
 | .loop body,h=>Ju.of_blocks body h
 | .skip,_=>trivial
 | .region .., _=>trivial
 | .exit _,_=>trivial
 | .ret,_=>trivial
 | .goto _,_=>trivial
 | .label _,_=>trivial
 | .scope _,_=>trivial
 | .rangeFunc .., _=>trivial
 | .refuse _,_=>trivial
def vC(E:En):List (K×Nat)→Prop
 | []=>True
 |(.code c,_)::k=>Ju E c∧vC E k
 |(.blk _,_)::k=>vC E k
section
variable{E:En}(hE:Qs E){Φ:Bl→Ex→St→Prop}
def AOs(C:Cx)(n:Nat)(k:List K)(st:St):Bc:=match APD k with
 |none=>.leaf .normal st
 |some (c,k')=>Pd C n k' c st
theorem sK{n:Nat} (ih:∀ (ks:List (K×Nat)) (c:Code) (st:St) (V:Vl) (a:Act) (w:World),(∀ x∈ks,n≤x.2)→vC E ks→Ju E c→st.lc= []→Ho E st V a w→
  (Pd E.C n (ks.map (·.1)) c st).HoldsA E.C.T Φ st.nv V.ρ→Yf E.P n c (QK E Φ ks) a w):
  ∀ (ks:List (K×Nat)) (st:St) (V:Vl) (a:Act) (w:World),(∀ x∈ks,n≤x.2)→vC E ks→st.lc= []→Ho E st V a w→(AOs E.C n (ks.map (·.1)) st).HoldsA E.C.T Φ st.nv V.ρ→QK E Φ ks .normal a w
 | [],st,V,a,w,_,_,υ,hS,hT=>⟨.normal,st,V,.normal,υ,hS,fun ρ' h=>hT ρ' h⟩
 |(.code c,m)::k,st,V,a,w,hk,hC,υ,hS,hT=>by
  show Yf E.P m c (QK E Φ k) a w;exact sZ (hk _ LA) (ih k c st V a w (fun x hx=>hk x (MQ _ hx)) hC.2 hC.1 υ hS hT)
 |(.blk id,m)::k,st,V,a,w,hk,hC,υ,hS,hT=>sK ih k st V a w (fun x hx=>hk x (MQ _ hx)) hC υ hS hT
theorem lC{n:Nat} (ih:∀ (ks:List (K×Nat)) (c:Code) (st:St) (V:Vl) (a:Act) (w:World),(∀ x∈ks,n≤x.2)→vC E ks→Ju E c→st.lc= []→Ho E st V a w→
  (Pd E.C n (ks.map (·.1)) c st).HoldsA E.C.T Φ st.nv V.ρ→Yf E.P n c (QK E Φ ks) a w) (id:Nat):
  ∀ (ks:List (K×Nat)) (st:St) (V:Vl) (a:Act) (w:World),(∀ x∈ks,n≤x.2)→vC E ks→st.lc= []→Ho E st V a w→(match oJ id (ks.map fun (x:K×Nat)=>x.1) with
   |none=>Bc.leaf (.exit id) st
   |some k'=>AOs E.C n k' st).HoldsA E.C.T Φ st.nv V.ρ→QK E Φ ks (.exit id) a w
 | [],st,V,a,w,_,_,υ,hS,hT=>⟨.exit id,st,V,.exit id,υ,hS,fun ρ' h=>hT ρ' h⟩
 |(.code c,m)::k,st,V,a,w,hk,hC,υ,hS,hT=>lC ih id k st V a w (fun x hx=>hk x (MQ _ hx)) hC.2 υ hS hT
 | (.blk j,m)::k,st,V,a,w,hk,hC,υ,hS,hT=>by
  show (if id=j then QK E Φ k .normal a w else QK E Φ k (.exit id) a w);simp only[NT,oJ] at hT
  by_cases e:id=j
  ·subst e;rw[if_pos rfl];rw[Nat.beq_refl] at hT;exact sK ih k st V a w (fun x hx=>hk x (MQ _ hx)) hC υ hS hT
  ·rw[if_neg e];have hb:Nat.beq j id=false:=by cases hh:Nat.beq j id with|false=>rfl|true=>exact absurd (CL hh).symm e
   rw[hb] at hT;exact lC ih id k st V a w (fun x hx=>hk x (MQ _ hx)) hC υ hS hT
theorem wB{st:St}{V:Vl}{a:Act}{w:World}(υ:st.lc= [])(hS:Ho E st V a w)(hT:(Bc.leaf .ret st).HoldsA E.C.T Φ st.nv V.ρ):∀ ks:List (K×Nat),QK E Φ ks .ret a w
 | []=>⟨.ret,st,V,.ret,υ,hS,fun ρ' h=>hT ρ' h⟩
 |(.code _,_)::k=>wB υ hS hT k
 |(.blk _,_)::k=>wB υ hS hT k
end
abbrev Ev (E:En) (I:List (Nat×(Nat×Nat))) (sn:Nat) (σ0:Nat→Value):En:= { E with I:=I,sn:=sn,σ0:=σ0 }
theorem Qs.ev{E:En}(hE:Qs E)(I:List (Nat×(Nat×Nat)))(sn:Nat)(σ0:Nat→Value):Qs (Ev E I sn σ0):=⟨hE.tt,hE.gc,hE.gb,hE.tb,hE.mx,hE.a64,hE.s64,hE.en,hE.eq⟩
theorem Ju.ev{E:En}{I:List (Nat×(Nat×Nat))}{sn:Nat}{σ0:Nat→Value}:∀ {c:Code},Ju E c→Ju (Ev E I sn σ0) c
 | .seq _ _,h=>⟨Ju.ev h.1,Ju.ev h.2⟩
 | .cond _ _ _,h=>⟨Ju.ev h.1,Ju.ev h.2⟩
 | .block _ _,h=>⟨Ju.ev h.1,h.2⟩
 | .loop _,h=>by unfold Ju at h ⊢;exact Ju.ev h
 | .skip,_=>trivial
 | .region .., _=>trivial
 | .exit _,_=>trivial
 | .ret,_=>trivial
 | .goto _,_=>trivial
 | .label _,_=>trivial
 | .scope _,_=>trivial
 | .rangeFunc .., _=>trivial
 | .refuse _,_=>trivial
theorem Zv{E0:En}(hE0:Qs E0)(hI0:qf E0)(hCI:∀ f i,lk f E0.C.inl=some i→Ju E0 i.c):∀ (n:Nat) (I:List (Nat×(Nat×Nat))) (sn:Nat) (σ0:Nat→Value) (Φ:Bl→Ex→St→Prop) (ks:List (K×Nat)) (c:Code) (st:St) (V:Vl) (a:Act) (w:World),(∀ x∈ks,n≤x.2)→vC (Ev E0 I sn σ0) ks→Ju (Ev E0 I sn σ0) c→st.lc= []→Ho (Ev E0 I sn σ0) st V a w→
  (Pd E0.C n (ks.map (·.1)) c st).HoldsA E0.C.T Φ st.nv V.ρ→Yf E0.P n c (QK (Ev E0 I sn σ0) Φ ks) a w
 |0,_,_,_,_,_,_,_,V,_,_,_,_,_,_,_,hT=>(hT V.ρ (Jt.refl _ _)).elim
 | n + 1,I,sn,σ0,Φ,ks,c,st,V,a,w,hk,hC,hc,υ,hS,hT=>by
  have ih0:=Zv hE0 hI0 hCI n;have hE:=hE0.ev I sn σ0;have hI:qf (Ev E0 I sn σ0):=hI0;have hR:AAb (Ev E0 I sn σ0) (Pd E0.C n []):=fun I2 sn2 σ2 Φ2 f i st2 V2 a2 w2 hl h1 h2 h3=>
   Kg (ih0 I2 sn2 σ2 Φ2 [] i.c st2 V2 a2 w2 (fun x hx=>by cases hx) trivial (Ju.ev (hCI f i hl)) h1 h2 h3)
  have ih:=ih0 I sn σ0 Φ;clear ih0
  revert hE hI hR ih hS hT hC hc
  generalize hEE:Ev E0 I sn σ0=E;have e1:E0.C=E.C:=by rw[← hEE]
  have e2:E0.P=E.P:=by rw[← hEE]
  rw[e1,e2]
  intro hC hc hS hT hE hI hR ih
  have hk':∀ x∈ks,n≤x.2:=fun x hx=>by have:=hk x hx;omega
  have hfin:AIK E Φ (AOs E.C n (ks.map (·.1))) (QK E Φ ks .normal):=fun st' V' a' w' h1 h2 h3=>sK (fun ks c st V a w h1 h2 h3 h4 h5 h6=>ih ks c st V a w h1 h2 h3 h4 h5 h6) ks st' V' a' w' hk' hC h1 h2 h3
  have bad:∀ {k:Nat} {G:Prop},(Bc.bad k).HoldsA E.C.T Φ st.nv V.ρ→G:=fun h=>(h V.ρ (Jt.refl _ _)).elim
  cases c with
  |skip=>exact wp_skip (hfin st V a w υ hS hT)
  |region id ops draw=>
   cases draw with
   |true=>exact vI hE hfin υ hS hT
   |false=>exact wp_region_list (jU hE hR hI hfin ops.toList st V a w hS hT)
  | seq x y=>
   refine wp_seq (wp_mono (Kg (ih ((.code y,n)::ks) x st V a w (fun z hz=>?_) ⟨hc.2,hC⟩ hc.1 υ hS hT)) fun e a' w' hq=>?_)
   ·rcases J4.1 hz with h|hz
    ·rw[h];exact JP _
    ·exact hk' z hz
   ·cases e<;>first|exact Kg hq|exact hq
  | cond x t e=>
   simp only[Pd] at hT
   split at hT
   ·rename_i m hx
    obtain⟨h1,-, -⟩:=hS.s.t.opd hx
    cases hb:JD m 0 with
    |true=>
     rw[hb] at hT;refine wp_cond_false ?_ (Kg (ih ks e st V a w hk' hC hc.2 υ hS hT));rw[h1];simp only[SV.den_t,TV.den_l,LV.den_bool,X.den_lit,NP hb];rfl
    |false=>
     rw[hb] at hT;refine wp_cond_true ?_ (Kg (ih ks t st V a w hk' hC hc.1 υ hS hT));rw[h1];simp only[SV.den_t,TV.den_l,LV.den_bool,X.den_lit];have:=QV hb;simp[this]
   ·rename_i y _ hx
    obtain⟨h1,-,h3⟩:=hS.s.t.opd hx;have h3':y.lt st.nv=true:=h3
    by_cases hy:y.den V.ρ=0
    ·refine wp_cond_false ?_ (Kg (ih ks e st V a w hk' hC hc.2 υ hS (fun ρ' hρ=>(Lb (hT ρ' hρ)).2 (by rw[X.den_agE hρ h3'];exact hy))));rw[h1];simp only[SV.den_t,TV.den_l,LV.den_bool,hy];rfl
    ·refine wp_cond_true ?_ (Kg (ih ks t st V a w hk' hC hc.1 υ hS (fun ρ' hρ=>(Lb (hT ρ' hρ)).1 (by rw[X.den_agE hρ h3'];exact hy))));rw[h1];simp[SV.den_t,TV.den_l,LV.den_bool,hy]
   ·exact bad hT
  | block id body=>
   simp only[Pd] at hT
   split at hT
   ·rename_i d hd
    obtain⟨k1,k2⟩:=hc.2 d hd;exact sw hE k1 k2 hfin υ hS hT
   ·exact wp_block (Kg (ih ((.blk id,n)::ks) body st V a w (fun z hz=>by
     rcases J4.1 hz with rfl|hz
     ·exact JP _
     ·exact hk' z hz) hC hc.1 υ hS hT))
  | loop body=>
   show Code.rounds E.P body (QK E Φ ks) (n+1) a w;rw[rounds_succ];have:=Kg (ih ((.code (.loop body),n)::ks) body st V a w (fun z hz=>by
    rcases J4.1 hz with rfl|hz
    ·exact JP _
    ·exact hk' z hz) ⟨hc,hC⟩ hc υ hS hT)
   exact this
  |exit id=>exact wp_exit (lC ih id ks st V a w hk' hC υ hS hT)
  |ret=>exact wp_ret (wB υ hS hT ks)
  |goto l=>exact bad hT
  |label l=>exact bad hT
  |scope c=>exact bad hT
  |rangeFunc f p x y=>exact bad hT
  |refuse s=>exact bad hT
end
section
open Go
def GL(np i:Nat):GG→SV
 | .int k=>.t (.l (.int k (.v i 0)))
 | .bool=>.t (.l (.bool (.v i 0)))
 | .mem _ _ _=>.t (.l (.ptr i 0))
 | .agg ks=>.t (.a (JR i ks))
 | .sl ks _ _=>.t (.l (.sl i 0 ks.length (.n (.v (np+i) 0)) 0))
 | .slm ks _ _=>.t (.l (.slm i 0 ks.length i))
def tm0(np:Nat):Nat→List GG→List (Nat×SV)
 |_,[]=>[]
 |i,p::ps=>(i,GL np i p)::tm0 np (i+1) ps
def Ry:Nat→List GG→List Rg
 |_,[]=>[]
 |i,.mem ks g wr::ps=>⟨i,g,wr,(JR i ks).map some⟩::Ry (i+1) ps
 |i,.sl ks g wr::ps=>⟨i,g,wr,(JR i ks).map some⟩::Ry (i+1) ps
 |i,.slm ks g wr::ps=>⟨i,g,wr,(JR i ks).map some⟩::Ry (i+1) ps
 |i,_::ps=>Ry (i+1) ps
def ln0:Nat→List GG→List (Nat×Nat)
 |_,[]=>[]
 |i,p::ps=>(i,p.len)::ln0 (i+1) ps
abbrev gY:=List (Nat×List LV)
def Gw(ad:Nat→Nat×Nat)(n:Nat):Nat×Nat:=if n<1000000 then (n,0) else ad (n-1000000)
def gl0:Nat→gY→List (Nat×Nat)
 |_,[]=>[]
 |i,(g,_)::r=>bif Nat.blt g 1000000 then (g,i)::gl0 (i+1) r else gl0 (i+1) r
def glr:Nat→gY→List Rg
 |_,[]=>[]
 |i,(_,cs)::r=>⟨i,0,false,cs.map some⟩::glr (i+1) r
def cz(ps:List GG)(gls:gY)(nt:Nat):St:=
 ⟨[],tm0 ps.length 0 ps,Ry 0 ps++glr 500 gls,gl0 500 gls,ln0 0 ps,nt,2*ps.length,1000⟩
def Yn(m:Nat):LV→Bool
 | .ptr l _=>Nat.ble 500 l&&Nat.blt l (500+m)
 | .int k (.lit n)=>bR k n
 | .bool (.lit _)=>true
 | .nil=>true
 | .nsl=>true
 | .nilI=>true
 |_=>false
def gν(ad:Nat→Nat×Nat)(gls:gY)(l:Nat):Nat×Nat:=Gw ad (gls.getD (l-500) (0,[])).1
def v0(ad:Nat→Nat×Nat)(np:Nat)(args:List Value)(ins:List (List Int))(bs:List (Nat×Nat))(gls:gY):Vl where
 ρ i:=if i<np then ins.getD i [] else [((AII (args.getD (i-np) undef):Nat):Int)]
 ν i:=if i<500 then bs.getD i (0,0) else gν ad gls i
 σ i:=args.getD i undef
def i0(bs:List (Nat×Nat)):Nat→List GG→List (Nat×(Nat×Nat))
 |_,[]=>[]
 |i,.mem _ _ _::ps=>(i,bs.getD i (0,0))::i0 bs (i+1) ps
 |i,.sl _ _ _::ps=>(i,bs.getD i (0,0))::i0 bs (i+1) ps
 |i,.slm _ _ _::ps=>(i,bs.getD i (0,0))::i0 bs (i+1) ps
 |i,_::ps=>i0 bs (i+1) ps
theorem Q7{GB:Nat}{w:World}:∀ {ps:List GG} {vs:List Value} {xs:List (List Int)} {bs:List (Nat×Nat)},Kt GB w ps vs xs bs→∀ (i:Nat) (p:GG),ps[i]? = some p→
  ∃ v x b,vs[i]? = some v∧xs[i]? = some x∧bs[i]? = some b∧PM GB w p v x b
 | [],[],[],[],_,i,p,h=>by simp at h
 |p::ps,v::vs,x::xs,b::bs,h,0,q,hq=>by
  simp only[VT,Am] at hq;subst hq;exact⟨v,x,b,rfl,rfl,rfl,h.1⟩
 |p::ps,v::vs,x::xs,b::bs,h,i+1,q,hq=>by
  obtain⟨v',x',b',h1,h2,h3,h4⟩:=Q7 h.2 i q (by simpa using hq);exact⟨v',x',b',by simpa using h1,by simpa using h2,by simpa using h3,h4⟩
theorem X0:∀ {ps:List GG} {bs:List (Nat×Nat)},G8 ps bs→∀ (i j:Nat) (p q:GG) (b c:Nat×Nat),ps[i]? = some p→ps[j]? = some q→bs[i]? = some b→bs[j]? = some c→i<j→YR p q b c
 | [],_,_,i,j,p,q,b,c,h,_,_,_,_=>by simp at h
 |_::_,[],_,i,j,p,q,b,c,_,_,h,_,_=>by simp at h
 | p0::ps,b0::bs,h,i,j,p,q,b,c,hp,hq,hb,hc,hij=>by
  cases j with
  |zero=>omega
  | succ j=>
   cases i with
   |zero=>
    simp only[VT,Am] at hp hb;subst hp;subst hb;simp only[zbv] at hq hc;refine h.1 (q,c) ?_;rw[List.mem_iff_getElem?];exact⟨j,by rw[List.getElem?_zip_eq_some];exact⟨hq,hc⟩⟩
   |succ i=>exact X0 h.2 i j p q b c (by simpa using hp) (by simpa using hq) (by simpa using hb) (by simpa using hc) (by omega)
theorem ja{np:Nat}:∀ {ps:List GG} {i t:Nat} {v:SV},lk t (tm0 np i ps)=some v→∃ j p,t=i+j∧ps[j]? = some p∧v=GL np t p
 | [],i,t,v,h=>by simp[tm0,lk] at h
 | p::ps,i,t,v,h=>by
  simp only[tm0,lk] at h
  cases hb:Nat.beq i t with
  |true=>
   rw[hb,cond_true,Am] at h;have:=CL hb;subst this;exact⟨0,p,rfl,rfl,h.symm⟩
  |false=>
   rw[hb,cond_false] at h;obtain⟨j,q,h1,h2,h3⟩:=ja h;exact⟨j+1,q,by omega,by simpa using h2,h3⟩
theorem jb:∀ {ps:List GG} {i:Nat} {x:Nat×Nat},x∈ln0 i ps→∃ j p,x.1=i+j∧ps[j]? = some p∧x.2=p.len
 | [],i,x,h=>by cases h
 | p::ps,i,x,h=>by
  rcases J4.1 h with rfl|h
  ·exact⟨0,p,rfl,rfl,rfl⟩
  ·obtain⟨j,q,h1,h2,h3⟩:=jb h;exact⟨j+1,q,by omega,by simpa using h2,h3⟩
theorem RG:∀ {ps:List GG} {i:Nat} {r:Rg},r∈Ry i ps→∃ j p ks,r.id=i+j∧ps[j]? = some p∧p.reg=some (r.grp,r.wr,ks)∧p.len=ks∧∃ kl,kl.length=ks∧r.cs=(JR r.id kl).map some∧
   (p= .mem kl r.grp r.wr∨p= .sl kl r.grp r.wr∨p= .slm kl r.grp r.wr)
 | [],i,r,h=>by cases h
 | .mem ks g wr::ps,i,r,h=>by
  rcases J4.1 h with rfl|h
  ·exact⟨0,_,_,rfl,rfl,rfl,rfl,ks,rfl,rfl,.inl rfl⟩
  ·obtain⟨j,q,μ,h1,h2,h3⟩:=RG h;exact⟨j+1,q,μ,by omega,by simpa using h2,h3⟩
 | .sl ks g wr::ps,i,r,h=>by
  rcases J4.1 h with rfl|h
  ·exact⟨0,_,_,rfl,rfl,rfl,rfl,ks,rfl,rfl,.inr (.inl rfl)⟩
  ·obtain⟨j,q,μ,h1,h2,h3⟩:=RG h;exact⟨j+1,q,μ,by omega,by simpa using h2,h3⟩
 | .slm ks g wr::ps,i,r,h=>by
  rcases J4.1 h with rfl|h
  ·exact⟨0,_,_,rfl,rfl,rfl,rfl,ks,rfl,rfl,.inr (.inr rfl)⟩
  ·obtain⟨j,q,μ,h1,h2,h3⟩:=RG h;exact⟨j+1,q,μ,by omega,by simpa using h2,h3⟩
 | .int _::ps,i,r,h=>by
  obtain⟨j,q,μ,h1,h2,h3⟩:=RG (i:=i+1) h;exact⟨j+1,q,μ,by omega,by simpa using h2,h3⟩
 | .bool::ps,i,r,h=>by
  obtain⟨j,q,μ,h1,h2,h3⟩:=RG (i:=i+1) h;exact⟨j+1,q,μ,by omega,by simpa using h2,h3⟩
 | .agg _::ps,i,r,h=>by
  obtain⟨j,q,μ,h1,h2,h3⟩:=RG (i:=i+1) h;exact⟨j+1,q,μ,by omega,by simpa using h2,h3⟩
theorem wz:∀ {ps:List GG} {i j:Nat} {p:GG},ps[j]? = some p→p.reg≠none→∃ r∈Ry i ps,r.id=i+j
 | [],i,j,p,h,_=>by simp at h
 |q::ps,i,0,p,h,hn=>by
  simp only[VT,Am] at h;subst h
  cases q<;>first|exact absurd rfl hn|exact⟨_,LA,rfl⟩
 |q::ps,i,j+1,p,h,hn=>by
  obtain⟨r,hr,he⟩:=wz (i:=i+1) (j:=j) (by simpa using h) hn;refine⟨r,?_,by omega⟩
  cases q<;>first|exact hr|exact MQ _ hr
theorem ku:∀ {gls:gY} {i:Nat} {r:Rg},r∈glr i gls→∃ j g cs,r.id=i+j∧gls[j]? = some (g,cs)∧r=⟨r.id,0,false,cs.map some⟩
 | [],i,r,h=>by cases h
 | (g,cs)::gls,i,r,h=>by
  rcases J4.1 h with rfl|h
  ·exact⟨0,g,cs,rfl,rfl,rfl⟩
  ·obtain⟨j,g',cs',h1,h2,h3⟩:=ku h;exact⟨j+1,g',cs',by omega,by simpa using h2,h3⟩
theorem lD:∀ {gls:gY} {i j:Nat} {x:Nat×List LV},gls[j]? = some x→∃ r∈glr i gls,r.id=i+j
 | [],i,j,x,h=>by simp at h
 |(g,cs)::gls,i,0,x,h=>⟨_,LA,rfl⟩
 |(g,cs)::gls,i,j+1,x,h=>by
  obtain⟨r,hr,he⟩:=lD (i:=i+1) (j:=j) (by simpa using h);exact⟨r,MQ _ hr,by omega⟩
theorem wy:∀ {gls:gY} {i g l:Nat},lk g (gl0 i gls)=some l→∃ j cs,l=i+j∧gls[j]? = some (g,cs)∧g<1000000
 | [],i,g,l,h=>by simp[gl0,lk] at h
 | (g0,cs)::gls,i,g,l,h=>by
  have next:lk g (gl0 (i+1) gls)=some l→∃ j cs',l=i+j∧((g0,cs)::gls)[j]? = some (g,cs')∧g<1000000:=fun h=>by
   obtain⟨j,cs',h1,h2,h3⟩:=wy h;exact⟨j+1,cs',by omega,by simpa using h2,h3⟩
  unfold gl0 at h
  cases hm:Nat.blt g0 1000000 with
  |false=>rw[hm,cond_false] at h;exact next h
  | true=>
   rw[hm,cond_true] at h;simp only[lk] at h
   cases hb:Nat.beq g0 g with
   |true=>
    rw[hb,cond_true,Am] at h;have:=CL hb;subst this;exact⟨0,cs,by omega,rfl,EF hm⟩
   |false=>rw[hb,cond_false] at h;exact next h
theorem WN{bs:List (Nat×Nat)}:∀ {ps:List GG} {i:Nat} {x:Nat×(Nat×Nat)},x∈i0 bs i ps→∃ j p,x.1=i+j∧ps[j]? = some p∧p.reg≠none∧x.2=bs.getD x.1 (0,0)
 | [],i,x,h=>by cases h
 | .mem ks g wr::ps,i,x,h=>by
  rcases J4.1 h with rfl|h
  ·exact⟨0,_,rfl,rfl,by simp[GG.reg],rfl⟩
  ·obtain⟨j,q,h1,h2,h3⟩:=WN h;exact⟨j+1,q,by omega,by simpa using h2,h3⟩
 | .sl ks g wr::ps,i,x,h=>by
  rcases J4.1 h with rfl|h
  ·exact⟨0,_,rfl,rfl,by simp[GG.reg],rfl⟩
  ·obtain⟨j,q,h1,h2,h3⟩:=WN h;exact⟨j+1,q,by omega,by simpa using h2,h3⟩
 | .slm ks g wr::ps,i,x,h=>by
  rcases J4.1 h with rfl|h
  ·exact⟨0,_,rfl,rfl,by simp[GG.reg],rfl⟩
  ·obtain⟨j,q,h1,h2,h3⟩:=WN h;exact⟨j+1,q,by omega,by simpa using h2,h3⟩
 | .int _::ps,i,x,h=>by
  obtain⟨j,q,h1,h2,h3⟩:=WN (i:=i+1) h;exact⟨j+1,q,by omega,by simpa using h2,h3⟩
 | .bool::ps,i,x,h=>by
  obtain⟨j,q,h1,h2,h3⟩:=WN (i:=i+1) h;exact⟨j+1,q,by omega,by simpa using h2,h3⟩
 | .agg _::ps,i,x,h=>by
  obtain⟨j,q,h1,h2,h3⟩:=WN (i:=i+1) h;exact⟨j+1,q,by omega,by simpa using h2,h3⟩
theorem YF{bs:List (Nat×Nat)}:∀ {ps:List GG} {i j:Nat} {p:GG},ps[j]? = some p→p.reg≠none→(i+j,bs.getD (i+j) (0,0))∈i0 bs i ps
 | [],i,j,p,h,_=>by simp at h
 |q::ps,i,0,p,h,hn=>by
  simp only[VT,Am] at h;subst h
  cases q<;>first|exact absurd rfl hn|exact LA
 |q::ps,i,j+1,p,h,hn=>by
  have:=YF (bs:=bs) (i:=i+1) (j:=j) (by simpa using h) hn;rw[show i+1+j=i+(j+1) by omega] at this
  cases q<;>first|exact this|exact MQ _ this
def J2(outs:List (Nat×List IntKind×PF)):Nat→List GG→Bool
 |_,[]=>true
 |i,p::ps=>(match p.reg with
  |some (_,true,n)=>outs.any fun o=>Nat.beq o.1 i&&Nat.beq o.2.1.length n
  |_=>true)&&J2 outs (i+1) ps
theorem ae{outs:List (Nat×List IntKind×PF)}:∀ {ps:List GG} {i j:Nat} {p:GG} {g n:Nat},J2 outs i ps=true→ps[j]? = some p→p.reg=some (g,true,n)→∃ o∈outs,o.1=i+j∧o.2.1.length=n
 | [],i,j,p,g,n,_,h,_=>by simp at h
 |q::ps,i,0,p,g,n,hw,h,hn=>by
  simp only[VT,Am] at h;subst h;simp only[J2,hn,Bd,List.any_eq_true] at hw;obtain⟨o,ho,h1,h2⟩:=hw.1;exact⟨o,ho,by have:=CL h1;omega,CL h2⟩
 |q::ps,i,j+1,p,g,n,hw,h,hn=>by
  simp only[J2,Bd] at hw;obtain⟨o,ho,h1,h2⟩:=ae hw.2 (by simpa using h) hn;exact⟨o,ho,by omega,h2⟩
def gV(ad:Nat→Nat×Nat)(gls:gY):Vl:=⟨fun _=>[],gν ad gls,fun _=>undef⟩
def SH(GC:Nat→Nat→Option Value)(ad:Nat→Nat×Nat)(gls:gY):Prop:=∀ x∈gls,∀ (i:Nat) (lv:LV),x.2[i]? = some lv→Yn gls.length lv=true∧GC (Gw ad x.1).1 ((Gw ad x.1).2+i)=some (lv.den (gV ad gls))
end
section
open Go
theorem He{α:Type}{l:List α}{i:Nat}{x d:α}(h:l[i]? = some x):l.getD i d=x:=by simp[List.getD,h]
theorem iI{m:Nat}{lv:LV}(h:Yn m lv=true)(V:Vl)(nv:Nat)(ids:List Nat)(hid:∀ l,500≤l→l<500+m→EH l ids=true):lv.ok V∧lv.lt nv ids=true:=by
 cases lv with
 |int k x=>cases x with
  |lit n=>simp only[Yn] at h;exact⟨aV.1 h,rfl⟩
  |v i j=>cases h
 |bool x=>cases x with
  |lit n=>exact⟨trivial,rfl⟩
  |v i j=>cases h
 |nil=>exact⟨trivial,rfl⟩
 |nsl=>exact⟨trivial,rfl⟩
 |nilI=>exact⟨trivial,rfl⟩
 |ptr l o=>
  simp only[Yn,Bd] at h;exact⟨trivial,hid l (Na h.1) (EF h.2)⟩
 |sl l o n c d=>cases h
 |se l o s c d a=>cases h
 |str xs=>cases h
 |val v=>cases h
 |opq i=>cases h
 |err i=>cases h
 |pd l o n s x=>cases h
 |slm l o n i=>cases h
theorem tq{m:Nat}{lv:LV}(h:Yn m lv=true){V V':Vl}(hν:∀ l,500≤l→V.ν l=V'.ν l):lv.den V=lv.den V':=by
 cases lv with
 |int k x=>cases x with
  |lit n=>rfl
  |v i j=>cases h
 |bool x=>cases x with
  |lit n=>rfl
  |v i j=>cases h
 |ptr l o=>
  simp only[Yn,Bd] at h;simp only[LV.den,hν l (Na h.1)]
 |sl l o n c d=>cases h
 |se l o s c d a=>cases h
 |str xs=>cases h
 |val v=>cases h
 |opq i=>cases h
 |err i=>cases h
 |pd l o n s x=>cases h
 |slm l o n i=>cases h
 |nil=>rfl
 |nsl=>rfl
 |nilI=>rfl
theorem YA{a b:Nat}(h:a<b):Nat.blt a b=true:=zh h
section
variable{P:Program}{C:Cx}{GB:Nat}{GC:Nat→Nat→Option Value}{s:Az}{gls:gY}{args:List Value}{ins:List (List Int)}{bs:List (Nat×Nat)}{w:World}{nt:Nat}{ad:Nat→Nat×Nat}
 (hgc:∀ b o v,GC b o=some v→b<GB) (ε:GW GC w) (δ:GB≤w.heap.size) (hP:Kt GB w s.params args ins bs) (hS:G8 s.params bs) (hwr:J2 s.outs 0 s.params=true) (hgl:SH GC ad gls)
 (hgb:∀ x∈gls,(Gw ad x.1).1<GB) (hnt:s.params.length≤nt) (hnp:s.params.length≤500)
include hgc ε δ hP hS hwr hgl hgb hnt hnp
def e0(P:Program)(C:Cx)(GB:Nat)(GC:Nat→Nat→Option Value)(s:Az)(args:List Value)(bs:List (Nat×Nat))(w:World):En:=⟨P,C,w,YP s bs,GB,GC,i0 bs 0 s.params,s.params.length,fun i=>args.getD i undef⟩
theorem kv:Ho (e0 P C GB GC s args bs w) (cz s.params gls nt) (v0 ad s.params.length args ins bs gls) ⟨args.toArray++Array.replicate (nt-args.length) undef,[]⟩ w:=by
 have _:=hgc;have _:=δ;obtain⟨l1,l2,l3⟩:=UU hP;have hρ:∀ i,i<s.params.length→(v0 ad s.params.length args ins bs gls).ρ i=ins.getD i []:=fun i hi=>by simp[v0,hi]
 have hν:∀ i,i<s.params.length→(v0 ad s.params.length args ins bs gls).ν i=bs.getD i (0,0):=fun i hi=>by simp[v0,show i<500 by omega]
 have hνg:∀ (j:Nat) (x:Nat×List LV),gls[j]? = some x→(v0 ad s.params.length args ins bs gls).ν (500+j)=Gw ad x.1:=fun j x hx=>by
  simp only[v0,gν];rw[if_neg (by omega),show 500+j-500=j by omega,He hx]
 have hlen:∀ (i:Nat) (p:GG),s.params[i]? = some p→i<s.params.length:=fun i p h=>(Pi.1 h).1
 have hR:∀ r∈Ry 0 s.params,∃ p kl b x,s.params[r.id]? = some p∧bs[r.id]? = some b∧ins[r.id]? = some x∧r.cs=(JR r.id kl).map some∧p.reg=some (r.grp,r.wr,kl.length)∧Ar r.wr w b kl x∧(r.wr=true→GB≤b.1)∧
   (v0 ad s.params.length args ins bs gls).ν r.id=b∧(v0 ad s.params.length args ins bs gls).ρ r.id=x∧r.id<s.params.length:=fun r hr=>by
  obtain⟨j,p,ks,h1,h2,h3,h4,kl,h5,h6,h7⟩:=RG hr;rw[NU] at h1;subst h1;obtain⟨v,x,b,q1,q2,q3,q4⟩:=Q7 hP _ p h2;have hlt:=hlen _ _ h2;refine⟨p,kl,b,x,h2,q3,q2,h6,by rw[h3,h5],?_,?_,by rw[hν _ hlt,He q3],by rw[hρ _ hlt,He q2],hlt⟩
  ·rcases h7 with rfl|rfl|rfl
   ·exact q4.2.1
   ·obtain⟨c,-, -,k,-⟩:=q4;exact k
   ·obtain⟨m,c,-, -,k,-⟩:=q4;exact k
  ·rcases h7 with rfl|rfl|rfl
   ·exact q4.2.2
   ·obtain⟨c,-, -, -,k⟩:=q4;exact k
   ·obtain⟨m,c,-, -, -,k⟩:=q4;exact k
 have hG:∀ r∈glr 500 gls,∃ j g cs,r.id=500+j∧gls[j]? = some (g,cs)∧r.wr=false∧r.cs=cs.map some∧(v0 ad s.params.length args ins bs gls).ν r.id=Gw ad g∧(Gw ad g).1<GB:=fun r hr=>by
  obtain⟨j,g,cs,h1,h2,h3⟩:=ku hr;refine⟨j,g,cs,h1,h2,by rw[h3],by rw[h3],by rw[h1,hνg j _ h2],hgb _ (OZ h2)⟩
 have hmem:∀ r,r∈(cz s.params gls nt).rg→r∈Ry 0 s.params∨r∈glr 500 gls:=fun r hr=>iQ.1 hr
 have hid1:∀ (ps:List GG) (i:Nat) (r r':Rg),r∈Ry i ps→r'∈Ry i ps→r.id=r'.id→r=r':=by
  intro ps
  induction ps with
  |nil=>intro i r r' h;cases h
  | cons p ps ih=>
   intro i r r' h h' he
   have hge:∀ q∈Ry (i+1) ps,i<q.id:=fun q hq=>by
    obtain⟨j,_,_,k,_⟩:=RG hq;omega
   cases p<;>simp only[Ry,J4] at h h'
   case mem ks g wr=>
    rcases h with rfl|h<;>rcases h' with rfl|h'
    ·rfl
    ·have:=hge _ h';simp at he;omega
    ·have:=hge _ h;simp at he;omega
    ·exact ih _ r r' h h' he
   case sl ks g wr=>
    rcases h with rfl|h<;>rcases h' with rfl|h'
    ·rfl
    ·have:=hge _ h';simp at he;omega
    ·have:=hge _ h;simp at he;omega
    ·exact ih _ r r' h h' he
   case slm ks g wr=>
    rcases h with rfl|h<;>rcases h' with rfl|h'
    ·rfl
    ·have:=hge _ h';simp at he;omega
    ·have:=hge _ h;simp at he;omega
    ·exact ih _ r r' h h' he
   all_goals exact ih _ r r' h h' he
 have hid2:∀ (gl:gY) (i:Nat) (r r':Rg),r∈glr i gl→r'∈glr i gl→r.id=r'.id→r=r':=by
  intro gl
  induction gl with
  |nil=>intro i r r' h;cases h
  | cons p ps ih=>
   intro i r r' h h' he
   obtain⟨g,cs⟩:=p;have hge:∀ q∈glr (i+1) ps,i<q.id:=fun q hq=>by
    obtain⟨j,_,_,k,_⟩:=ku hq;omega
   simp only[glr,J4] at h h'
   rcases h with rfl|h<;>rcases h' with rfl|h'
   ·rfl
   ·have:=hge _ h';simp at he;omega
   ·have:=hge _ h;simp at he;omega
   ·exact ih _ r r' h h' he
 have hsz:args.toArray.size=s.params.length:=by simpa using l1
 have htm:∀ (i:Nat) (v:Value),args[i]? = some v→(args.toArray++Array.replicate (nt-args.length) undef).getD i undef=v:=fun i v hv=>by
  have hi:=(Pi.1 hv).1;rw[Ti,Array.getElem?_append_left (by simpa using hi)];simp[hv]
 have hidp:∀ (i:Nat) (p:GG),s.params[i]? = some p→p.reg≠none→EH i (Db (cz s.params gls nt).rg)=true:=fun i p hp hn=>by
  obtain⟨r,hr,he⟩:=wz (i:=0) hp hn;rw[NU] at he;exact PZ.2 ⟨r,List.mem_append_left _ hr,he⟩
 have hidg:∀ l,500≤l→l<500+gls.length→EH l (Db (cz s.params gls nt).rg)=true:=fun l h1 h2=>by
  have hj:l-500<gls.length:=by omega
  obtain⟨r,hr,he⟩:=lD (i:=500) (Jo hj);exact PZ.2 ⟨r,vH _ hr,by omega⟩
 refine⟨⟨⟨?_,?_,?_,?_,CV.refl _ _,ε⟩,?_,⟨?_,?_,?_⟩,?_,rfl⟩,?_,?_,fun _ _=>rfl,show s.params.length≤2*s.params.length by omega⟩
 ·intro r hr i c hc
  rcases hmem r hr with hr|hr
  ·obtain⟨p,kl,b,x,h1,h2,h3,h4,h5,h6,h7,h8,h9,h10⟩:=hR r hr;rw[h4,OX,Ya] at hc;obtain⟨lv,e1,rfl⟩:=hc;obtain⟨k,e2,rfl⟩:=QW e1;have hi:i<kl.length:=(Pi.1 e2).1;have hxi:x[i]? = some (x[i]'(by have:=h6.1.1;omega)):=Jo _;rw[h8];refine⟨_,h6.2 i k _ e2 hxi,fun lv e=>?_⟩
   cases e
   have hd:X.den (v0 ad s.params.length args ins bs gls).ρ (.v r.id i)=x[i]'(by have:=h6.1.1;omega):=by
    show ((v0 ad s.params.length args ins bs gls).ρ r.id).getD i 0=_;rw[h9,He hxi]
   refine⟨by simp only[LV.den,hd],?_⟩;simp only[LV.ok,hd];exact h6.1.2 i k _ e2 hxi
  ·obtain⟨j,g,cs,h1,h2,h3,h4,h5,h6⟩:=hG r hr;rw[h4,OX,Ya] at hc;obtain⟨lv,e1,rfl⟩:=hc;obtain⟨k1,k2⟩:=hgl _ (OZ h2) i lv e1;rw[h5,h3];have hsame:lv.den (gV ad gls)=lv.den (v0 ad s.params.length args ins bs gls):=tq k1 fun l hl=>by
    simp only[gV,v0];rw[if_neg (by omega)]
   refine⟨lv.den (v0 ad s.params.length args ins bs gls),⟨?_,fun h=>by cases h⟩,fun lv' e=>?_⟩
   ·rw[← hsame];exact ε _ _ _ k2
   ·cases e;exact⟨rfl,(iI k1 _ 0 _ hidg).1⟩
 ·intro r hr r' hr' he
  rcases hmem r hr with hr|hr<;>rcases hmem r' hr' with hr'|hr'
  ·exact hid1 _ _ r r' hr hr' he
  ·obtain⟨j,_,_,k,_⟩:=hG r' hr';obtain⟨_,_,_,_,_,_,_,_,_,_,_,_,_,k'⟩:=hR r hr;omega
  ·obtain⟨j,_,_,k,_⟩:=hG r hr;obtain⟨_,_,_,_,_,_,_,_,_,_,_,_,_,k'⟩:=hR r' hr';omega
  ·exact hid2 _ _ r r' hr hr' he
 ·intro r hr r' hr' hw hne
  rcases hmem r hr with hr|hr
  ·obtain⟨p,kl,b,x,h1,h2,h3,h4,h5,h6,h7,h8,h9,h10⟩:=hR r hr
   rcases hmem r' hr' with hr'|hr'
   ·obtain⟨p',kl',b',x',h1',h2',h3',h4',h5',h6',h7',h8',h9',ags⟩:=hR r' hr';unfold wK;rw[h8,h8',h4,h4'];simp only[Vj,JR,List.length_zipIdx]
    rcases Nat.lt_or_gt_of_ne hne with hlt|hlt
    ·have:=X0 hS _ _ p p' b b' h1 h1' h2 h2' hlt;unfold YR at this;rw[h5,h5'] at this
     rcases this (.inl hw) with ⟨q1,q2,q3,q4⟩|q
     ·exact .inl ⟨q1,q2,q3,q4⟩
     ·exact .inr q
    ·have:=X0 hS _ _ p' p b' b h1' h1 h2' h2 hlt;unfold YR at this;rw[h5,h5'] at this
     rcases this (.inr hw) with ⟨q1,q2,q3,q4⟩|q
     ·exact .inl ⟨q1.symm,by rw[← q1];exact q2,q3.symm,q4.symm⟩
     ·right;unfold fM at *;omega
   ·obtain⟨j,g,cs,k1,k2,k3,k4,k5,k6⟩:=hG r' hr'
    right
    rw[h8,k5];have:=h7 hw;unfold fM
    left
    show b.1≠(Gw ad g).1;omega
  ·obtain⟨j,g,cs,k1,k2,k3,k4,k5,k6⟩:=hG r hr;rw[k3] at hw;cases hw
 ·intro r hr hw
  rcases hmem r hr with hr|hr
  ·obtain⟨p,kl,b,x,h1,h2,h3,h4,h5,h6,h7,h8,h9,h10⟩:=hR r hr;rw[h8];refine⟨h7 hw,fun i hi=>.inr ?_⟩;rw[hw] at h5;obtain⟨o,ho,e1,e2⟩:=ae hwr h1 h5;rw[NU] at e1;refine⟨o,ho,?_,?_,?_⟩
   ·rw[e1,He h2]
   ·rw[e1,He h2];show b.2≤b.2+i;omega
   ·rw[e1,He h2,e2];have:i<kl.length:=by rw[h4] at hi;simpa[JR] using hi
    show b.2+i<b.2+kl.length;omega
  ·obtain⟨j,g,cs,k1,k2,k3,k4,k5,k6⟩:=hG r hr;rw[k3] at hw;cases hw
 ·intro r hr lv hlv
  rcases hmem r hr with hr|hr
  ·obtain⟨p,kl,b,x,h1,h2,h3,h4,h5,h6,h7,h8,h9,h10⟩:=hR r hr;rw[h4] at hlv;simp only[VI,Am,exists_eq_right] at hlv;obtain⟨i,hi,rfl⟩:=lu hlv;obtain⟨k,e2,e3⟩:=QW (Jo hi);rw[e3];show Nat.blt r.id (2*s.params.length)=true;exact YA (by omega)
  ·obtain⟨j,g,cs,k1,k2,k3,k4,k5,k6⟩:=hG r hr;rw[k4] at hlv;simp only[VI,Am,exists_eq_right] at hlv;obtain⟨i,hi,rfl⟩:=lu hlv;exact (iI (hgl _ (OZ k2) i _ (Jo hi)).1 ⟨fun _=>[],fun _=>(0,0),fun _=>undef⟩ _ _ hidg).2
 ·intro t v hv
  have hv':lk t (tm0 s.params.length 0 s.params)=some v:=hv;obtain⟨j,p,h1,h2,h3⟩:=ja hv';rw[NU] at h1;subst h1;obtain⟨u,x,b,q1,q2,q3,q4⟩:=Q7 hP _ p h2;have hlt:=hlen _ _ h2;rw[htm _ _ q1];have hd0:(v0 ad s.params.length args ins bs gls).ρ t=x:=by rw[hρ _ hlt,He q2]
  have hn0:(v0 ad s.params.length args ins bs gls).ν t=b:=by rw[hν _ hlt,He q3]
  have hb2:Nat.blt t (2*s.params.length)=true:=YA (by omega);subst h3
  cases p with
  |int k=>
   obtain⟨y,rfl,rfl,hy⟩:=q4;have hX:X.den (v0 ad s.params.length args ins bs gls).ρ (.v t 0)=y:=by show ((v0 ad s.params.length args ins bs gls).ρ t).getD 0 0=_;rw[hd0];rfl
   exact⟨by simp only[GL,SV.den_t,TV.den_l,LV.den_int,hX],by simp only[GL,SV.ok,TV.ok,LV.ok,hX];exact hy,hb2⟩
  |bool=>
   obtain⟨y,rfl,rfl⟩:=q4;have hX:X.den (v0 ad s.params.length args ins bs gls).ρ (.v t 0)=y:=by show ((v0 ad s.params.length args ins bs gls).ρ t).getD 0 0=_;rw[hd0];rfl
   exact⟨by simp only[GL,SV.den_t,TV.den_l,LV.den_bool,hX],trivial,hb2⟩
  |mem ks g wr=>
   obtain⟨rfl,q5,q6⟩:=q4;exact⟨by simp only[GL,SV.den_t,TV.den_l,LV.den_ptr,hn0,Q3],trivial,hidp _ _ h2 (by simp[GG.reg])⟩
  | agg ks=>
   obtain⟨q5,rfl⟩:=q4;refine⟨?_,?_,?_⟩
   ·simp only[GL,SV.den_t,TV.den_a];rw[UL hd0 q5.1]
   ·exact X6 hd0 q5
   ·simp only[GL,SV.lt,TV.lt,Ll]
    intro c hc
    obtain⟨i,hi,rfl⟩:=lu hc;obtain⟨k,e2,e3⟩:=QW (Jo hi);rw[e3];exact hb2
  | sl ks g wr=>
   obtain⟨c,rfl,q5,q6,q7⟩:=q4;have hX:X.den (v0 ad s.params.length args ins bs gls).ρ (.v (s.params.length+t) 0)=(c:Int):=by
    show ((v0 ad s.params.length args ins bs gls).ρ (s.params.length+t)).getD 0 0=_;simp only[v0];rw[if_neg (by omega),show s.params.length+t-s.params.length=t by omega,He q1];rfl
   refine⟨?_,?_,?_⟩
   ·simp only[GL,SV.den_t,TV.den_l,LV.den_sl,hn0,CX.den_n,hX,Q3,Nat.sub_zero,TJ]
   ·simp only[GL,SV.ok,TV.ok,LV.ok,CX.den_n,hX];omega
   ·simp only[GL,SV.lt,TV.lt,LV.lt,Bd];exact⟨hidp _ _ h2 (by simp[GG.reg]),YA (show s.params.length+t<2*s.params.length by omega)⟩
  | slm ks g wr=>
   obtain⟨m,c,q4,q5,q6,q7⟩:=q4;refine⟨?_,?_,?_⟩
   ·simp only[GL,SV.den_t,TV.den_l,LV.den];show u=args.getD t undef;rw[He q1]
   ·simp only[GL,SV.ok,TV.ok,LV.ok];refine⟨m,c,?_,q5⟩;show args.getD t undef=_;rw[He q1,q4,hn0];rfl
   ·simp only[GL,SV.lt,TV.lt,LV.lt,Bd];exact⟨hidp _ _ h2 (by simp[GG.reg]),YA (show t<2*s.params.length by omega)⟩
 ·intro g l hg
  have hg':lk g (gl0 500 gls)=some l:=hg;obtain⟨j,cs,rfl,h2,h3⟩:=wy hg';refine⟨by rw[hνg j _ h2,Gw,if_pos h3],?_⟩;obtain⟨r,hr,he⟩:=lD (i:=500) h2;exact PZ.2 ⟨r,vH _ hr,he⟩
 ·intro x hx
  have hx':x∈ln0 0 s.params:=hx;obtain⟨j,p,h1,h2,h3⟩:=jb hx';rw[NU] at h1;obtain⟨u,y,b,q1,q2,q3,q4⟩:=Q7 hP _ p h2;rw[h3,h1,hρ _ (hlen _ _ h2),He q2]
  cases p with
  |int k=>obtain⟨y,rfl,rfl,hy⟩:=q4;rfl
  |bool=>obtain⟨y,rfl,rfl⟩:=q4;rfl
  |mem ks g wr=>exact q4.2.1.1.1
  |agg ks=>exact q4.1.1
  |sl ks g wr=>obtain⟨c,-, -,k,-⟩:=q4;exact k.1.1
  |slm ks g wr=>obtain⟨m,c,-, -,k,-⟩:=q4;exact k.1.1
 ·simp only[Array.size_append,Array.size_replicate,List.size_toArray];show args.length+(nt-args.length)=nt;omega
 ·intro x hx
  have hx':x∈ln0 0 s.params:=hx;obtain⟨j,p,h1,h2,h3⟩:=jb hx';have:=hlen _ _ h2;show x.1<2*s.params.length;omega
 ·intro x hx
  have hx':x∈i0 bs 0 s.params:=hx;obtain⟨j,p,h1,h2,h3,h4⟩:=WN hx';rw[NU] at h1;refine⟨by rw[h1];exact hidp _ _ h2 h3,?_⟩;rw[h4,h1,hν _ (hlen _ _ h2)]
end
end
section
open Go
abbrev TP:=List (List X×PF)
def Sa(ρ:Bl)(ins:List (List Int)):TP→Prop
 | []=>True
 |(xs,f)::r=>xs.map (·.den ρ)=f ins∧Sa ρ ins r
def Sn(tm:List (Nat×SV))(fr:List Nat):Qr→TV→Option TP
 | .int k f,.l (.int k' x)=>bif ui k k' then some [([x],fun a=>[f a])] else none
 | .bool f,.l (.bool x)=>some [([x],fun a=>[f a])]
 | .ptrP i,.l v=>(match lk i tm with
  |some (.t (.l u))=>bif u.beq v then some [] else none
  |_=>none)
 | .ptrF j,.l (.ptr l o)=>(match fr[j]? with
  |some l'=>bif Nat.beq l l'&&Nat.beq o 0 then some [] else none
  |none=>none)
 | .agg ks f,.a cs=>(match KO cs with
  |some (μ,xs)=>bif Ky ks μ then some [(xs,f)] else none
  |none=>none)
 | .nil,.l .nil=>some []
 | .nilI,.l .nilI=>some []
 | .slF j n c,.l (.sl l o n' (.n (.lit (.ofNat c'))) d)=>(match fr[j]? with
  |some l'=>bif Nat.beq l l'&&Nat.beq o 0&&Nat.beq n n'&&Nat.beq c c'&&Nat.beq d 0 then some [] else none
  |none=>none)
 | .err,.l (.err _)=>some []
 | .slG j n,.l (.sl l o n' _ _)=>(match fr[j]? with
  |some l'=>bif Nat.beq l l'&&Nat.beq o 0&&Nat.beq n n' then some [] else none
  |none=>none)
 | .slP i n c,.l (.sl l o n' (.n (.lit (.ofNat c'))) d)=>(match lk i tm with
  |some (.t (.l (.ptr l' o')))=>bif Nat.beq l' l&&Nat.beq o' o&&Nat.beq n n'&&Nat.beq c c'&&Nat.beq d 0 then some [] else none
  |_=>none)
 |_,_=>none
def Pz(tm:List (Nat×SV))(fr:List Nat):List Qr→List TV→Option TP
 | [],[]=>some []
 |r::rs,v::vs=>match Sn tm fr r v,Pz tm fr rs vs with
  |some e,some es=>some (e++es)
  |_,_=>none
 |_,_=>none
def jy(j:Nat):List Qr→List TV→Option Nat
 | .ptrF i::rs,.l (.ptr l _)::vs=>bif Nat.beq i j then some l else jy j rs vs
 | .slF i _ _::rs,.l (.sl l _ _ _ _)::vs=>bif Nat.beq i j then some l else jy j rs vs
 | .slG i _::rs,.l (.sl l _ _ _ _)::vs=>bif Nat.beq i j then some l else jy j rs vs
 |_::rs,_::vs=>jy j rs vs
 |_,_=>none
def oC(rs:List Qr)(vs:List TV):Nat→Nat→Option (List Nat)
 |0,_=>some []
 |n+1,j=>match jy j rs vs,oC rs vs n (j+1) with
  |some l,some ls=>some (l::ls)
  |_,_=>none
def Ub(rg:List Rg)(l:Nat)(ks:List IntKind):Option (List X):=
 match kI l rg with
 | some r=>bif r.wr then (match Kz rg l 0 ks.length with
  |some cs=>(match KO cs with
   |some (μ,xs)=>bif Ky ks μ then some xs else none
   |none=>none)
  |none=>none) else none
 |none=>none
def ow(ps:List GG)(i:Nat):Bool:=match ps[i]? with
 |some p=>p.reg.isSome
 |none=>false
def mV(ps:List GG)(rg:List Rg):List (Nat×List IntKind×PF)→Option TP
 | []=>some []
 |(i,ks,f)::r=>match Ub rg i ks,mV ps rg r with
  |some xs,some es=>bif ow ps i then some ((xs,f)::es) else none
  |_,_=>none
def frC(rg:List Rg)(np l:Nat)(ls:List Nat)(n:Nat):Bool:=Nat.ble np l && !(EH l ls)&&Nat.blt 0 n&&(match kI l rg with
   |some g=>Nat.beq g.grp 0&&Nat.beq g.cs.length n
   |none=>false)
def Od(rg:List Rg)(np:Nat):List Nat→List (List IntKind×PF)→Option TP
 | [],[]=>some []
 |l::ls,(ks,f)::r=>bif frC rg np l ls ks.length then (match Ub rg l ks,Od rg np ls r with
  |some xs,some es=>some ((xs,f)::es)
  |_,_=>none) else none
 |_,_=>none
def Lr(C:Cx)(s:Az)(rvs:List ResultVar)(st:St):Option TP:=
 match UH C st rvs with
 |none=>none
 | some vs=>match oC s.ret vs s.fresh.length 0 with
  |none=>none
  |some fr=>match mV s.params st.rg s.outs,Od st.rg s.params.length fr s.fresh,Pz (tm0 s.params.length 0 s.params) fr s.ret vs with
   |some e1,some e2,some e3=>some (e1++e2++e3)
   |_,_,_=>none
def xV(C:Cx)(s:Az)(rvs:List ResultVar)(ins:List (List Int))(ρ:Bl)(ex:Ex)(st:St):Prop:=
 match ex with
 | .exit _=>False
 |_=>match Lr C s rvs st with
  |some es=>Sa ρ ins es
  |none=>False
theorem NS{ρ:Bl}{ins:List (List Int)}:∀ {a b:TP},Sa ρ ins (a++b)↔Sa ρ ins a∧Sa ρ ins b
 | [],b=>⟨fun h=>⟨trivial,h⟩,fun h=>h.2⟩
 |(xs,f)::a,b=>by
  show (_∧Sa ρ ins (a++b))↔(_∧Sa ρ ins a)∧_;rw[NS,and_assoc]
theorem Eh{l:Nat}:∀ {is:List Nat},EH l is=true↔l∈is
 | []=>by simp[EH]
 | i::r=>by
  simp only[EH,Bool.or_eq_true,J4,Eh (is:=r)]
  constructor
  ·rintro (h|h)
   ·exact .inl (CL h).symm
   ·exact .inr h
  ·rintro (h|h)
   ·subst h;exact .inl (Nat.beq_refl _)
   ·exact .inr h
end
section
open Go
theorem YC{E:En}{rg:List Rg}{V:Vl}{w:World}(hm:Pw E rg V w){l:Nat}{ks:List IntKind}{xs:List X}(h:Ub rg l ks=some xs):
  ∃ r∈rg,r.id=l∧r.wr=true∧kI l rg=some r∧ks.length≤r.cs.length∧Ar true w (V.ν l) ks (xs.map (·.den V.ρ)):=by
 unfold Ub at h
 split at h
 ·rename_i r hr
  cases hw:r.wr with
  |false=>rw[hw] at h;cases h
  | true=>
   rw[hw,cond_true] at h
   split at h
   ·rename_i cs hcs
    split at h
    ·rename_i μ xs' hx
     cases hk:Ky ks μ with
     |false=>rw[hk] at h;cases h
     | true=>
      rw[hk,cond_true,Am] at h;subst h;obtain⟨hl,r',hr',hid,hle,hcell⟩:=GR hcs;obtain⟨hmem,ad4⟩:=Kc hr;have:r'=r:=hm.one r' hr' r hmem (by rw[hid,ad4]);subst this;obtain⟨k1,k2,k3⟩:=NC (V:=V) hx hk;have hok:∀ c∈cs,c.ok V:=fun c hc=>by
       obtain⟨i,hi,rfl⟩:=lu hc;exact (hm.read hcs i _ (Jo hi)).2
      refine⟨r',hmem,hid,hw,hr,by omega,Oh hx hk hok,fun i k x hki hxi=>?_⟩;have hv:(cs.map (·.den V))[i]? = some (.int k x):=by
       rw[k1];unfold AZ;rw[List.getElem?_zipWith,hki,hxi]
      rw[OX,Ya] at hv;obtain⟨c,hc,hcd⟩:=hv;obtain⟨v,g1,g2⟩:=hm.rgs r' hr' (0+i) (some c) (hcell i c hc);rw[hw,hid,NU] at g1;rw[← hcd, ← (g2 c rfl).1];exact g1
    ·cases h
   ·cases h
 ·cases h
theorem AAH{ps:List GG}{rg:List Rg}{ρ:Bl}{ins:List (List Int)}:∀ {outs:List (Nat×List IntKind×PF)} {es:TP},mV ps rg outs=some es→Sa ρ ins es→
  ∀ p∈outs,ow ps p.1=true∧∃ xs,Ub rg p.1 p.2.1=some xs∧xs.map (·.den ρ)=p.2.2 ins
 | [],es,_,_,p,hp=>by cases hp
 | (i,ks,f)::r,es,h,he,p,hp=>by
  unfold mV at h
  split at h
  ·rename_i xs es' h1 h2
   cases hb:ow ps i with
   |false=>rw[hb] at h;cases h
   |true=>
    rw[hb,cond_true,Am] at h;subst h
    rcases J4.1 hp with rfl|hp
    ·exact⟨hb,xs,h1,he.1⟩
    ·exact AAH h2 he.2 p hp
  ·cases h
theorem jN{rg:List Rg}{np:Nat}{ρ:Bl}{ins:List (List Int)}:∀ {ls:List Nat} {fr:List (List IntKind×PF)} {es:TP},Od rg np ls fr=some es→Sa ρ ins es→
  ls.length=fr.length∧(∀ (j:Nat) (l:Nat) (p:List IntKind×PF),ls[j]? = some l→fr[j]? = some p→np≤l∧0<p.1.length∧(∃ g,kI l rg=some g∧g.grp=0∧g.cs.length=p.1.length)∧∃ xs,Ub rg l p.1=some xs∧xs.map (·.den ρ)=p.2 ins)∧
  (∀ (i j:Nat) (l m:Nat),ls[i]? = some l→ls[j]? = some m→i<j→l≠m)
 | [],[],es,_,_=>⟨rfl,fun j l p h=>by simp at h,fun i j l m h=>by simp at h⟩
 | [],_::_,es,h,_=>by simp[Od] at h
 |_::_,[],es,h,_=>by simp[Od] at h
 | l :: ls,(ks,f)::r,es,h,he=>by
  unfold Od at h;generalize hc:frC rg np l ls ks.length=c at h
  cases c with
  |false=>cases h
  | true=>
   rw[cond_true] at h;simp only[frC,Bd,Bool.not_eq_true'] at hc
   split at h
   ·rename_i xs es' h1 h2
    simp only[Am] at h;subst h;obtain⟨g1,g2,g3⟩:=jN h2 he.2;refine⟨by simp[g1],fun j l' p hl hp=>?_,fun i j l' m hl hm hij=>?_⟩
    ·cases j with
     | zero=>
      simp only[VT,Am] at hl hp;subst hl;subst hp;refine⟨Na hc.1.1.1,EF hc.1.2,?_,xs,h1,he.1⟩
      cases hg:kI l rg with
      |none=>rw[hg] at hc;cases hc.2
      |some g=>
       rw[hg] at hc;have h4:=hc.2;simp only[Bd] at h4;exact⟨g,rfl,CL h4.1,CL h4.2⟩
     |succ j=>exact g2 j l' p (by simpa using hl) (by simpa using hp)
    ·cases j with
     |zero=>omega
     | succ j=>
      cases i with
      |zero=>
       simp only[VT,Am] at hl;subst hl;simp only[zbv] at hm
       intro e
       subst e;have:=Eh.2 (OZ hm);rw[this] at hc;cases hc.1.1.2
      |succ i=>exact g3 i j l' m (by simpa using hl) (by simpa using hm) (by omega)
   ·cases h
theorem AId{tm:List (Nat×SV)}{fr:List Nat}{V:Vl}{ins:List (List Int)}{args:List Value}(htm:∀ i u,lk i tm=some (.t (.l u))→args[i]? = some (u.den V)){r:Qr}{v:TV}{es:TP}(h:Sn tm fr r v=some es)(he:Sa V.ρ ins es)(hv:v.ok V):
  RV r ins args (fr.map V.ν) (v.den V):=by
 unfold Sn at h
 split at h
 ·rename_i k f k' x
  cases hk:ui k k' with
  |false=>rw[hk] at h;cases h
  |true=>
   rw[hk,cond_true,Am] at h;subst h;have:=N9 hk;subst this;have h1:=he.1;simp only[NT,Vi,List.cons.injEq,and_true] at h1;simp only[RV,TV.den_l,LV.den_int];rw[← h1];exact⟨rfl,hv⟩
 ·rename_i f x
  simp only[Am] at h;subst h;have h1:=he.1;simp only[NT,Vi,List.cons.injEq,and_true] at h1;simp only[RV,TV.den_l,LV.den_bool];rw[← h1]
 ·rename_i i v
  split at h
  ·rename_i u hu
   cases hb:u.beq v with
   |false=>rw[hb] at h;cases h
   |true=>
    have:=LV.beq_eq hb;subst this;exact htm i u hu
  ·cases h
 ·rename_i j l o
  split at h
  ·rename_i l' hl
   cases hb:(Nat.beq l l'&&Nat.beq o 0) with
   |false=>rw[hb] at h;cases h
   |true=>
    simp only[Bd] at hb;have e1:=CL hb.1;have e2:=CL hb.2;subst e1;subst e2;exact⟨V.ν l,by rw[OX,hl];rfl,by simp only[TV.den_l,LV.den_ptr,Q3]⟩
  ·cases h
 ·rename_i ks f cs
  split at h
  ·rename_i μ xs hx
   cases hk:Ky ks μ with
   |false=>rw[hk] at h;cases h
   |true=>
    rw[hk,cond_true,Am] at h;subst h;have h1:=he.1;obtain⟨k1,k2,k3⟩:=NC (V:=V) hx hk;have h2:=Oh (V:=V) hx hk hv;simp only[RV,TV.den_a];rw[← h1,k1];exact⟨h2,rfl⟩
  ·cases h
 ·rfl
 ·rfl
 ·rename_i j n c l o n' c' d
  split at h
  ·rename_i l' hl
   cases hb:(Nat.beq l l'&&Nat.beq o 0&&Nat.beq n n'&&Nat.beq c c'&&Nat.beq d 0) with
   |false=>rw[hb] at h;cases h
   |true=>
    simp only[Bd] at hb;have e1:=CL hb.1.1.1.1;have e2:=CL hb.1.1.1.2;have e3:=CL hb.1.1.2;have e4:=CL hb.1.2;have e5:=CL hb.2;subst e1;subst e2;subst e3;subst e4;subst e5;exact⟨V.ν l,by rw[OX,hl];rfl,by simp only[TV.den_l,LV.den_sl,Q3,CX.den_n,X.den_lit,Nat.sub_zero];rfl⟩
  ·cases h
 ·exact hv
 ·rename_i j n l o n' c d
  split at h
  ·rename_i l' hl
   cases hb:(Nat.beq l l'&&Nat.beq o 0&&Nat.beq n n') with
   |false=>rw[hb] at h;cases h
   |true=>
    simp only[Bd] at hb;have e1:=CL hb.1.1;have e2:=CL hb.1.2;have e3:=CL hb.2;subst e1;subst e2;subst e3;have hv':((n+d:Nat):Int)≤c.den V:=hv;exact⟨V.ν l,(c.den V).toNat-d,by rw[OX,hl];rfl,by omega,by simp only[TV.den_l,LV.den_sl,Q3]⟩
  ·cases h
 ·rename_i i n c l o n' c' d
  split at h
  ·rename_i l' o' hu
   cases hb:(Nat.beq l' l&&Nat.beq o' o&&Nat.beq n n'&&Nat.beq c c'&&Nat.beq d 0) with
   |false=>rw[hb] at h;cases h
   |true=>
    simp only[Bd] at hb;have e1:=CL hb.1.1.1.1;have e2:=CL hb.1.1.1.2;have e3:=CL hb.1.1.2;have e4:=CL hb.1.2;have e5:=CL hb.2;subst e1;subst e2;subst e3;subst e4;subst e5;have:=htm i _ hu;rw[LV.den_ptr] at this;exact⟨((V.ν l').1,(V.ν l').2+o'),this,by simp only[TV.den_l,LV.den_sl,CX.den_n,X.den_lit,Nat.sub_zero];rfl⟩
  ·cases h
 ·cases h
theorem om{tm:List (Nat×SV)}{fr:List Nat}{V:Vl}{ins:List (List Int)}{args:List Value}(htm:∀ i u,lk i tm=some (.t (.l u))→args[i]? = some (u.den V)):∀ {rs:List Qr} {vs:List TV} {es:TP},Pz tm fr rs vs=some es→Sa V.ρ ins es→(∀ v∈vs,v.ok V)→
  RVs ins args (fr.map V.ν) rs (vs.map (·.den V))
 | [],[],es,_,_,_=>trivial
 | [],_::_,es,h,_,_=>by simp[Pz] at h
 |_::_,[],es,h,_,_=>by simp[Pz] at h
 | r::rs,v::vs,es,h,he,hv=>by
  unfold Pz at h
  split at h
  ·rename_i e1 e2 h1 h2
   simp only[Am] at h;subst h;have:=NS.1 he;exact⟨AId htm h1 this.1 (hv v LA),om htm h2 this.2 fun u hu=>hv u (MQ _ hu)⟩
  ·cases h
structure Sb (P:Program) (C:Cx) (GB:Nat) (GC:Nat→Nat→Option Value):Prop where
 ok:∀ (B:World) (S:Nat→Nat→Prop) (I:List (Nat×(Nat×Nat))) (sn:Nat) (σ0:Nat→Value),GB≤B.heap.size→Qs ⟨P,C,B,S,GB,GC,I,sn,σ0⟩
 il:∀ f i,lk f C.inl=some i→(∀ args w,(callFunc f args).run P w= .ok (.enter f args) w)∧∃ fn,P.funcs[f]? = some fn∧fn.body=some i.c∧fn.ntmps=i.nt∧fn.results.toList=i.rvs
def PIn:GG→List Int→Prop
 | .int k,xs=>∃ x,xs= [x]∧JC k x
 | .bool,xs=>∃ x,xs= [x]
 | .mem ks _ _,xs=>Hf ks xs
 | .agg ks,xs=>Hf ks xs
 | .sl ks _ _,xs=>Hf ks xs
 | .slm ks _ _,xs=>Hf ks xs
def Ka:List GG→List (List Int)→Prop
 | [],[]=>True
 |p::ps,x::xs=>PIn p x∧Ka ps xs
 |_,_=>False
theorem ZY{GB:Nat}{w:World}:∀ {ps:List GG} {vs:List Value} {xs:List (List Int)} {bs:List (Nat×Nat)},Kt GB w ps vs xs bs→Ka ps xs
 | [],[],[],[],_=>trivial
 |p::ps,v::vs,x::xs,b::bs,h=>by
  refine⟨?_,ZY h.2⟩;have h1:=h.1
  cases p with
  |int k=>obtain⟨y,h2,_,h3⟩:=h1;exact⟨y,h2,h3⟩
  |bool=>obtain⟨y,h2,_⟩:=h1;exact⟨y,h2⟩
  |mem ks g wr=>exact h1.2.1.1
  |agg ks=>exact h1.1
  |sl ks g wr=>obtain⟨c,_,_,h2,_⟩:=h1;exact h2.1
  |slm ks g wr=>obtain⟨m,c,_,_,h2,_⟩:=h1;exact h2.1
def aY(C:Cx)(n:Nat)(c:Code)(nt:Nat)(rvs:List ResultVar)(gls:gY)(s:Az)(hyp:List (List Int)→Prop):Prop:=
 ∀ (ins:List (List Int)) (ρ:Bl),Ka s.params ins→hyp ins→(∀ i,i<s.params.length→ρ i=ins.getD i [])→
  (Pd C n [] c (cz s.params gls nt)).Holds C.T (xV C s rvs ins) ρ
theorem AKQ{P:Program}{C:Cx}{GB:Nat}{GC:Nat→Nat→Option Value}(hC:Sb P C GB GC){f:Nat}{fn:Func}{c:Code}{s:Az}{gls:gY}{hyp:List (List Int)→Prop}{n:Nat}{ad:Nat→Nat×Nat}
  (hf:P.funcs[f]? = some fn) (hb:fn.body=some c) (ι:∀ E:En,E.P=P→E.C=C→E.GB=GB→E.GC=GC→Ju E c∧∀ f i,lk f C.inl=some i→Ju E i.c) (hwr:J2 s.outs 0 s.params=true) (hgl:SH GC ad gls) (hgb:∀ x∈gls,(Gw ad x.1).1<GB) (hnt:s.params.length≤fn.ntmps) (hnp:s.params.length≤500)
  (ht:aY C n c fn.ntmps fn.results.toList gls s hyp):
  ∀ (args:List Value) (ins:List (List Int)) (bs:List (Nat×Nat)) (w:World),GW GC w→GB≤w.heap.size→Kt GB w s.params args ins bs→G8 s.params bs→hyp ins→
   Calls P f args.toArray w fun e w'=>∃ fb vs,e= .returned (TU vs)∧Yp GC s args ins bs w fb vs w':=by
 intro args ins bs w ε δ hP hS hy
 have hE:=hC.ok w (YP s bs) (i0 bs 0 s.params) s.params.length (fun i=>args.getD i undef) δ;have hS0:=kv (P:=P) (C:=C) (gls:=gls) (nt:=fn.ntmps) hE.gc ε δ hP hS hwr hgl hgb hnt hnp;refine calls_of_wp hf hb ?_;have hρ0:∀ ρ',Jt (2*s.params.length) (v0 ad s.params.length args ins bs gls).ρ ρ'→∀ i,i<s.params.length→ρ' i=ins.getD i []:=fun ρ' h i hi=>by
  rw[h i (by omega)];simp[v0,hi]
 have hT:(Pd C n [] c (cz s.params gls fn.ntmps)).HoldsA C.T (fun ρ ex st=>Jt (2*s.params.length) (v0 ad s.params.length args ins bs gls).ρ ρ∧xV C s fn.results.toList ins ρ ex st) (2*s.params.length) (v0 ad s.params.length args ins bs gls).ρ:=fun ρ' h=>
  KE (fun ex st hh=>⟨h,hh⟩) (ht ins ρ' (ZY hP) hy (hρ0 ρ' h))
 have hcv:=ι ⟨P,C,w,YP s bs,GB,GC,i0 bs 0 s.params,s.params.length,fun i=>args.getD i undef⟩ rfl rfl rfl rfl;have hex:=Zv hE hC.il hcv.2 n (i0 bs 0 s.params) s.params.length (fun i=>args.getD i undef) _ [] c _ _ _ _ (fun x hx=>(by cases hx)) trivial hcv.1 rfl hS0 hT;have hsz:args.toArray.size=args.length:=by simp
 rw[hsz];refine wp_mono (Kg hex) ?_
 rintro e a' w' ⟨ex,st,V,hx,υ,hSt,hΦ⟩
 obtain⟨hag,hL⟩:=hΦ V.ρ (Jt.refl _ _);have key:∀ es,Lr C s fn.results.toList st=some es→Sa V.ρ ins es→a'.defers= []∧∃ v,(results fn a'.tmps).run P w'= .ok v w'∧∃ fb vs,Ending.returned v= .returned (TU vs)∧Yp GC s args ins bs w fb vs w':=by
  intro es Θ heq
  refine⟨hSt.s.df,?_⟩;unfold Lr at Θ
  split at Θ
  ·cases Θ
  rename_i vs hvs
  split at Θ
  ·cases Θ
  rename_i fr hfr
  split at Θ
  ·rename_i e1 e2 e3 h1 h2 h3
   simp only[Am] at Θ;subst Θ;obtain⟨h12,q3⟩:=NS.1 heq;obtain⟨q1,q2⟩:=NS.1 h12;obtain⟨r1,r2⟩:=YU hE υ hSt hvs;have hm:Pw ⟨P,C,w,YP s bs,GB,GC,i0 bs 0 s.params,s.params.length,fun i=>args.getD i undef⟩ st.rg V w':=hSt.s.m;have aa8:=AAH h1 q1;obtain⟨g1,g2,g3⟩:=jN h2 q2;have hνp:∀ (i:Nat) (p:GG),s.params[i]? = some p→p.reg≠none→V.ν i=bs.getD i (0,0):=fun i p hp hn=>by
    have:=YF (bs:=bs) (i:=0) hp hn;rw[NU] at this;exact (hSt.kp _ this).2
   have hνo:∀ p∈s.outs,V.ν p.1=bs.getD p.1 (0,0)∧p.1<s.params.length:=fun p hp=>by
    have:=(aa8 p hp).1;unfold ow at this
    split at this
    ·rename_i q hq
     exact⟨hνp _ q hq (fun e=>by rw[e] at this;cases this),(Pi.1 hq).1⟩
    ·cases this
   have hfresh:∀ (j l:Nat) (p:List IntKind×PF),fr[j]? = some l→s.fresh[j]? = some p→∃ r∈st.rg,r.id=l∧r.wr=true∧r.grp=0∧r.cs.length=p.1.length∧0<p.1.length∧s.params.length≤l∧Ar true w' (V.ν l) p.1 (p.2 ins):=fun j l p hl hp=>by
    obtain⟨k1,k2,⟨g,k3,k4,k5⟩,xs,k6,k7⟩:=g2 j l p hl hp;obtain⟨r,m1,m2,m3,m4,m5,m6⟩:=YC hm k6;rw[k3] at m4;cases m4;rw[k7] at m6;exact⟨g,m1,m2,m3,k4,k5,k2,k1,m6⟩
   refine⟨TU (vs.map (·.den V)),?_,fr.map V.ν,vs.map (·.den V),rfl,?_,?_,?_,hSt.s.m.frm,?_,?_,?_,hSt.s.m.gw⟩
   ·have hres:results fn a'.tmps=(do
      let vs ← fn.results.mapM (WA a')
      pure (if h:vs.size=1 then vs[0] else .tuple vs)):=by
     unfold results
     congr 1
    rw[hres];rw[Array.mapM_eq_mapM_toList];simp only[map_eq_pure_bind,bind_assoc,pure_bind,I1,r1,IB,KD]
    cases vs with
    |nil=>rfl
    |cons v vs=>
     cases vs with
     |nil=>rfl
     |cons u vs=>rfl
   ·simp[g1]
   ·intro b hb
    obtain⟨l,hl,rfl⟩:=VI.1 hb;obtain⟨j,hj,rfl⟩:=lu hl;have hj2:j<s.fresh.length:=by omega
    obtain⟨r,m1,m2,m3,m4,m5,m6,m7,m8⟩:=hfresh j _ _ (Jo hj) (Jo hj2);obtain⟨c1,c2⟩:=hm.cov r m1 m3;rw[m2] at c2
    rcases c2 0 (by omega) with h|⟨p,hp,s1,s2,s3⟩
    ·exact h
    ·exfalso;obtain⟨hp1,xs,hp2,hp3⟩:=aa8 p hp;obtain⟨r2,n1,n2,n3,n4,n5,n6⟩:=YC hm hp2;obtain⟨o1,o2⟩:=hνo p hp;have hsep:=hm.sep r m1 r2 n1 m3 (by omega);unfold wK at hsep
     rcases hsep with ⟨_,h,_⟩|hd
     ·exact h m4
     ·rw[m2,n2,o1] at hd;unfold fM at hd;omega
   ·intro i j p q b c hp hq hb hc hij
    rw[OX,Ya] at hb hc;obtain⟨l,hl,rfl⟩:=hb;obtain⟨m,hm',rfl⟩:=hc;obtain⟨r,m1,m2,m3,m4,m5,m6,m7,m8⟩:=hfresh i l p hl hp;obtain⟨r',m1',m2',m3',m4',m5',m6',m7',m8'⟩:=hfresh j m q hm' hq;have hne:l≠m:=by
     rcases Nat.lt_or_gt_of_ne hij with h|h
     ·exact g3 i j l m hl hm' h
     ·exact (g3 j i m l hm' hl h).symm
    have hsep:=hm.sep r m1 r' m1' m3 (by omega);unfold wK at hsep
    rcases hsep with ⟨_,h,_⟩|hd
    ·exact absurd m4 h
    ·rw[m2,m2',m5,m5'] at hd;exact hd
   ·intro p hp
    obtain⟨hp1,xs,hp2,hp3⟩:=aa8 p hp;obtain⟨r2,n1,n2,n3,n4,n5,n6⟩:=YC hm hp2;rw[(hνo p hp).1,hp3] at n6;exact n6
   ·intro j p b hp hb
    rw[OX,Ya] at hb;obtain⟨l,hl,rfl⟩:=hb;obtain⟨r,m1,m2,m3,m4,m5,m6,m7,m8⟩:=hfresh j l p hl hp;exact m8
   ·refine om (fun i u hu=>?_) h3 q3 r2;obtain⟨j,p,e1,e2,e3⟩:=ja hu;rw[NU] at e1;subst e1;obtain⟨v,x,b,p1,p2,p3,p4⟩:=Q7 hP _ p e2;have hlt:i<s.params.length:=(Pi.1 e2).1;rw[p1];have hi:V.ρ i=x:=by rw[hag i (by omega)];simp only[v0,hlt,if_true];exact He p2
    cases p with
    |int k=>
     simp only[GL,SV.t.injEq,TV.l.injEq] at e3;subst e3;obtain⟨y,rfl,rfl,_⟩:=p4;simp only[LV.den_int,X.den,hi];rfl
    |bool=>
     simp only[GL,SV.t.injEq,TV.l.injEq] at e3;subst e3;obtain⟨y,rfl,rfl⟩:=p4;simp only[LV.den_bool,X.den,hi];rfl
    |mem ks g wr=>
     simp only[GL,SV.t.injEq,TV.l.injEq] at e3;subst e3;obtain⟨rfl,_⟩:=p4;rw[LV.den_ptr,hνp _ _ e2 (by simp[GG.reg]),He p3];rfl
    |agg ks=>simp[GL] at e3
    | sl ks g wr=>
     simp only[GL,SV.t.injEq,TV.l.injEq] at e3;subst e3;obtain⟨c,rfl,_⟩:=p4;have hc:V.ρ (s.params.length+i)= [(c:Int)]:=by
      rw[hag _ (by omega)];simp only[v0];rw[if_neg (by omega),show s.params.length+i-s.params.length=i by omega,He p1];rfl
     rw[LV.den_sl,hνp _ _ e2 (by simp[GG.reg]),He p3];simp only[CX.den,X.den,hc,Q3,Nat.sub_zero];rfl
    |slm ks g wr=>
     simp only[GL,SV.t.injEq,TV.l.injEq] at e3;subst e3;simp only[LV.den];rw[hSt.ks i (show i<s.params.length from hlt)];show some v=some (args.getD i undef);rw[He p1]
  ·cases Θ
 cases hx with
 |normal=>
  simp only[xV] at hL
  split at hL
  ·rename_i es Θ;exact key es Θ hL
  ·exact hL.elim
 |exit id=>exact hL.elim
 |ret=>
  simp only[xV] at hL
  split at hL
  ·rename_i es Θ;exact key es Θ hL
  ·exact hL.elim
end
section
open Go
def Dc(T:Tb):Bl→List (Nat×FR)→Bl
 |ρ,[]=>ρ
 |ρ,(n,d)::r=>Dc T (fun i=>if i=n then d.den T ρ else ρ i) r
def Xq(T:Tb):Bc→Bl→Option (Bl×St)
 | .leaf _ st,ρ=>some (ρ,st)
 | .evs ds _ t,ρ=>Xq T t (Dc T ρ ds)
 | .br x t f,ρ=>if x.den ρ=0 then Xq T f ρ else Xq T t ρ
 | .brc f as t e,ρ=>match lk f T with
  |some fe=>cond (fe.cnd (as.map (·.den ρ))) (Xq T t ρ) (Xq T e ρ)
  |none=>none
 | .chk _ k,ρ=>Xq T k ρ
 | .bad _,_=>none
def Cn(T:Tb):Bc→Bl→Prop
 | .leaf _ _,_=>True
 | .evs ds ob t,ρ=>(∀ q∈ob,q.den T (Dc T ρ ds))∧Cn T t (Dc T ρ ds)
 | .br x t f,ρ=>(x.den ρ=0→Cn T f ρ)∧(x.den ρ≠0→Cn T t ρ)
 | .brc f as t e,ρ=>match lk f T with
  |some fe=>(fe.cnd (as.map (·.den ρ))=true→Cn T t ρ)∧(fe.cnd (as.map (·.den ρ))=false→Cn T e ρ)
  |none=>False
 | .chk t k,ρ=>Cn T t ρ∧Cn T k ρ
 | .bad _,_=>False
def A8(ins:List (List Int)):Bl:=fun i=>ins.getD i []
def inM(m i:Nat):Bool:=Nat.beq (Nat.land (Nat.shiftRight m i) 1) 1
def X.inM(m:Nat):X→Bool
 | .lit _=>true
 | .v i _=>Go.Proofs.YtloibefkijfdlaaGreatDoor.inM m i
def Iq.inM(m:Nat):Iq→Bool
 | .vec j=>Go.Proofs.YtloibefkijfdlaaGreatDoor.inM m j
 | .xs l=>l.all (·.inM m)
def nZ(m n:Nat):Nat:=Nat.lor m (Nat.shiftLeft 1 n)
def sH:Nat→List (Nat×FR)→Option Nat
 |m,[]=>some m
 |m,(n,d)::r=>bif d.args.all (·.inM m) then sH (nZ m n) r else none
def JM.inM(m:Nat):JM→Bool
 | .rng x _=>x.inM m
 | .ge0 x=>x.inM m
 | .c01 x=>x.inM m
 | .nz x=>x.inM m
 | .zr x=>x.inM m
 | .pre _ as=>as.all (·.inM m)
def mU(T:Tb):Nat→Bc→Bool
 |_,.leaf _ _=>true
 |m,.evs ds ob t=>(match sH m ds with
  |some m'=>ob.all (·.inM m')&&mU T m' t
  |none=>false)
 |m,.br x t f=>x.inM m&&mU T m t&&mU T m f
 |m,.brc f as t e=>as.all (·.inM m)&&(lk f T).isSome&&mU T m t&&mU T m e
 |m,.chk t k=>mU T m t&&mU T m k
 |_,.bad _=>false
def VR(T:Tb)(L:Ex→St→Option TP):Nat→Bc→Bool
 |m,.leaf e st=>(match L e st with
  |some es=>es.all fun e=>e.1.all (·.inM m)
  |none=>false)
 |m,.evs ds ob t=>(match sH m ds with
  |some m'=>ob.all (·.inM m')&&VR T L m' t
  |none=>false)
 |m,.br x t f=>x.inM m&&VR T L m t&&VR T L m f
 |m,.brc f as t e=>as.all (·.inM m)&&(lk f T).isSome&&VR T L m t&&VR T L m e
 |m,.chk t k=>mU T m t&&VR T L m k
 |_,.bad _=>false
def sQ:Nat→List (Nat×FR)→Option Nat
 |m,[]=>some m
 |m,(n,d)::r=>match d.op with
  | .add64=>sQ (nZ m n) r
  | .sub64=>sQ (nZ m n) r
  |_=>bif inM m n then none else sQ m r
def kg(m:Nat):JM→Bool
 | .c01 (.lit n)=>JD n 0||JD n 1
 | .c01 (.v n k)=>Nat.beq k 1&&inM m n
 |_=>false
def OY:Nat→Bc→Bool
 |_,.leaf _ _=>true
 |m,.evs ds ob t=>(match sQ m ds with
  |some m'=>ob.all (kg m')&&OY m' t
  |none=>false)
 |m,.br _ t f=>OY m t&&OY m f
 |m,.brc _ _ t e=>OY m t&&OY m e
 |m,.chk t k=>OY m t&&OY m k
 |_,.bad _=>true
def AGF(t:Bc):Bool:=OY 0 t
def RM(m:Nat)(ρ ρc:Bl):Prop:=∀ i,inM m i=true→ρ i=ρc i
theorem X.den_RM{m:Nat}{ρ ρc:Bl}(h:RM m ρ ρc){x:X}(hx:x.inM m=true):x.den ρ=x.den ρc:=by
 cases x with
 |lit n=>rfl
 |v i k=>simp only[X.den];rw[h i hx]
theorem Iq.den_RM{m:Nat}{ρ ρc:Bl}(h:RM m ρ ρc){x:Iq}(hx:x.inM m=true):x.den ρ=x.den ρc:=by
 cases x with
 |vec j=>exact h j hx
 |xs l=>
  simp only[Iq.den];exact fU fun x hx'=>X.den_RM h (Ll.1 hx x hx')
theorem Args.den_RM{m:Nat}{ρ ρc:Bl}(h:RM m ρ ρc){l:List Iq}(hx:l.all (·.inM m)=true):l.map (·.den ρ)=l.map (·.den ρc):=
 fU fun x hx'=>Iq.den_RM h (Ll.1 hx x hx')
theorem Tj(m i:Nat):inM m i=m.testBit i:=by
 unfold inM Nat.testBit;show Nat.beq ((m >>> i) &&& 1) 1=(1 &&& (m >>> i) != 0);rw[Nat.and_comm 1];have h:(m >>> i) &&& 1=(m >>> i)%2:=Nat.and_one_is_mod _;rw[h]
 rcases Nat.mod_two_eq_zero_or_one (m >>> i) with h|h<;>rw[h]<;>rfl
theorem zN(m n i:Nat):inM (nZ m n) i=(inM m i||decide (i=n)):=by
 rw[Tj,Tj];show (m ||| 1 <<< n).testBit i=_;rw[Nat.testBit_or,Nat.shiftLeft_eq,Nat.one_mul,Nat.testBit_two_pow]
 congr 1
 by_cases h:n=i
 ·subst h;simp
 ·simp[h,Ne.symm h]
theorem Zt{T:Tb}:∀ {ds:List (Nat×FR)} {m m':Nat} {ρ ρc:Bl},sH m ds=some m'→RM m ρ ρc→VJ T ρ ds→RM m' ρ (Dc T ρc ds)
 | [],m,m',ρ,ρc,h,hr,_=>by
  simp only[sH,Am] at h;subst h;exact hr
 | (n,d)::r,m,m',ρ,ρc,h,hr,hd=>by
  unfold sH at h
  cases hb:d.args.all (·.inM m) with
  |false=>rw[hb] at h;cases h
  | true=>
   rw[hb,cond_true] at h;show RM m' ρ (Dc T (fun i=>if i=n then d.den T ρc else ρc i) r);refine Zt h (fun i hi=>?_) (fun p hp=>hd p (MQ _ hp));rw[zN] at hi
   by_cases e:i=n
   ·subst e;simp only[if_true];rw[hd (i,d) LA];simp only[FR.den,Args.den_RM hr hb]
   ·simp only[e,if_false];exact hr i (by simpa[e] using hi)
theorem JM.den_RM{T:Tb}{m:Nat}{ρ ρc:Bl}(h:RM m ρ ρc){q:JM}(hq:q.inM m=true):q.den T ρ↔q.den T ρc:=by
 cases q with
 |rng x n=>simp only[JM.den];rw[X.den_RM h hq]
 |ge0 x=>simp only[JM.den];rw[X.den_RM h hq]
 |c01 x=>simp only[JM.den];rw[X.den_RM h hq]
 |nz x=>simp only[JM.den];rw[X.den_RM h hq]
 |zr x=>simp only[JM.den];rw[X.den_RM h hq]
 |pre f as=>simp only[JM.den];rw[Args.den_RM h hq]
theorem Li{T:Tb}{ρ:Bl}:∀ {t:Bc} {m:Nat} {ρc:Bl},mU T m t=true→RM m ρ ρc→Cn T t ρc→t.HoldsC T ρ
 | .leaf e st,m,ρc,h,hr,_=>trivial
 | .evs ds ob t,m,ρc,h,hr,ho=>fun hd=>by
  unfold mU at h
  split at h
  ·rename_i m' hm
   simp only[Bd] at h;have hr':=Zt hm hr hd;exact⟨fun q hq=>(JM.den_RM hr' (Ll.1 h.1 q hq)).2 (ho.1 q hq),Li h.2 hr' ho.2⟩
  ·cases h
 | .br x t f,m,ρc,h,hr,ho=>by
  simp only[mU,Bd] at h;have hx:=X.den_RM hr h.1.1;refine⟨fun hne=>?_,fun he=>?_⟩
  ·rw[hx] at hne;exact Li h.1.2 hr (ho.2 hne)
  ·rw[hx] at he;exact Li h.2 hr (ho.1 he)
 | .brc f as t e,m,ρc,h,hr,ho=>by
  simp only[mU,Bd] at h;have hx:=Args.den_RM hr h.1.1.1;unfold Cn at ho;unfold Bc.HoldsC
  cases hf:lk f T with
  |none=>rw[hf] at ho;exact ho.elim
  |some fe=>
   rw[hf] at ho;simp only at ho ⊢;rw[hx];exact⟨fun hc=>Li h.1.2 hr (ho.1 hc),fun hc=>Li h.2 hr (ho.2 hc)⟩
 | .chk t k,m,ρc,h,hr,ho=>by
  simp only[mU,Bd] at h;exact⟨Li h.1 hr ho.1,Li h.2 hr ho.2⟩
 | .bad _,m,ρc,h,_,_=>by cases h
theorem NK{T:Tb}{L:Ex→St→Option TP}{Φ:Bl→Ex→St→Prop}{ρ:Bl}{ρL:Bl}{stL:St}
  (hΦ:∀ ex st m,VR T L m (.leaf ex st)=true→RM m ρ ρL→st=stL→Φ ρ ex st):∀ {t:Bc} {m:Nat} {ρc:Bl},VR T L m t=true→RM m ρ ρc→Cn T t ρc→Xq T t ρc=some (ρL,stL)→t.Holds T Φ ρ
 | .leaf e st,m,ρc,h,hr,_,hv=>by
  simp only[Xq,Am,Prod.mk.injEq] at hv;obtain⟨rfl,rfl⟩:=hv;exact hΦ e st m h hr rfl
 | .evs ds ob t,m,ρc,h,hr,ho,hv=>fun hd=>by
  unfold VR at h
  split at h
  ·rename_i m' hm
   simp only[Bd] at h;have hr':=Zt hm hr hd;exact⟨fun q hq=>(JM.den_RM hr' (Ll.1 h.1 q hq)).2 (ho.1 q hq),NK hΦ h.2 hr' ho.2 hv⟩
  ·cases h
 | .br x t f,m,ρc,h,hr,ho,hv=>by
  simp only[VR,Bd] at h;have hx:=X.den_RM hr h.1.1;refine⟨fun hne=>?_,fun he=>?_⟩
  ·rw[hx] at hne;simp only[Xq,if_neg hne] at hv;exact NK hΦ h.1.2 hr (ho.2 hne) hv
  ·rw[hx] at he;simp only[Xq,if_pos he] at hv;exact NK hΦ h.2 hr (ho.1 he) hv
 | .brc f as t e,m,ρc,h,hr,ho,hv=>by
  simp only[VR,Bd] at h;have hx:=Args.den_RM hr h.1.1.1;unfold Cn at ho;unfold Xq at hv;unfold Bc.Holds
  cases hf:lk f T with
  |none=>rw[hf] at ho;exact ho.elim
  |some fe=>
   rw[hf] at ho hv;simp only at ho hv ⊢;rw[hx];refine⟨fun hc=>?_,fun hc=>?_⟩
   ·rw[hc] at hv;exact NK hΦ h.1.2 hr (ho.1 hc) hv
   ·rw[hc] at hv;exact NK hΦ h.2 hr (ho.2 hc) hv
 | .chk t k,m,ρc,h,hr,ho,hv=>by
  simp only[VR,Bd] at h;exact⟨Li h.1 hr ho.1,NK hΦ h.2 hr ho.2 hv⟩
 | .bad _,m,ρc,h,_,_,_=>by cases h
theorem Pf{T:Tb}{L:Ex→St→Option TP}:∀ {t:Bc} {m:Nat} {ρc:Bl},VR T L m t=true→∃ ρL stL,Xq T t ρc=some (ρL,stL)
 | .leaf e st,m,ρc,_=>⟨_,_,rfl⟩
 | .evs ds ob t,m,ρc,h=>by
  unfold VR at h
  split at h
  ·simp only[Bd] at h;show ∃ ρL stL,Xq T t (Dc T ρc ds)=some (ρL,stL);exact Pf h.2
  ·cases h
 | .br x t f,m,ρc,h=>by
  simp only[VR,Bd] at h;unfold Xq
  split
  ·exact Pf h.2
  ·exact Pf h.1.2
 | .brc f as t e,m,ρc,h=>by
  simp only[VR,Bd] at h;unfold Xq
  cases hf:lk f T with
  |none=>rw[hf] at h;simp at h
  |some fe=>
   simp only
   cases fe.cnd (as.map (·.den ρc)) with
   |true=>exact Pf h.1.2
   |false=>exact Pf h.2
 | .chk t k,m,ρc,h=>by
  simp only[VR,Bd] at h;exact Pf (t:=k) h.2
 | .bad _,m,ρc,h=>by cases h
def oM(m:Nat)(ρ:Bl):Prop:=∀ n,inM m n=true→(ρ n).getD 1 0=0∨(ρ n).getD 1 0=1
theorem XI{T:Tb}:∀ {ds:List (Nat×FR)} {m m':Nat} {ρ:Bl},sQ m ds=some m'→oM m ρ→oM m' (Dc T ρ ds)
 | [],m,m',ρ,h,hc=>by
  simp only[sQ,Am] at h;subst h;exact hc
 | (n,d)::r,m,m',ρ,h,hc=>by
  show oM m' (Dc T (fun i=>if i=n then d.den T ρ else ρ i) r);have carry:((d.den T ρ).getD 1 0=0∨(d.den T ρ).getD 1 0=1)→oM (nZ m n) (fun i=>if i=n then d.den T ρ else ρ i):=fun hd i hi=>by
   rw[zN] at hi
   by_cases e:i=n
   ·simp only[e,if_true];exact hd
   ·simp only[e,if_false];exact hc i (by simpa[e] using hi)
  have old:inM m n=false→oM m (fun i=>if i=n then d.den T ρ else ρ i):=fun hn i hi=>by
   by_cases e:i=n
   ·rw[e,hn] at hi;cases hi
   ·simp only[e,if_false];exact hc i hi
  obtain⟨op,args⟩:=d;unfold sQ at h;simp only at h
  split at h
  ·refine XI h (carry ?_);simp only[FR.den,OP.den,Ze,Qu]
   split<;>simp
  ·refine XI h (carry ?_);simp only[FR.den,OP.den,Ze,Qu]
   split<;>simp
  ·cases hb:inM m n with
   |true=>rw[hb] at h;cases h
   |false=>rw[hb,cond_false] at h;exact XI h (old hb)
theorem jC{T:Tb}{m:Nat}{ρ:Bl}(hc:oM m ρ){q:JM}(h:kg m q=true):q.den T ρ:=by
 cases q with
 | c01 x=>
  cases x with
  |lit n=>
   simp only[kg,Bool.or_eq_true] at h
   rcases h with h|h
   ·exact .inl (NP h)
   ·exact .inr (NP h)
  |v n k=>
   simp only[kg,Bd] at h;have:=CL h.1;subst this;exact hc n h.2
 |rng x n=>cases h
 |ge0 x=>cases h
 |nz x=>cases h
 |zr x=>cases h
 |pre f as=>cases h
theorem NG{T:Tb}:∀ {t:Bc} {m c:Nat} {ρ:Bl},mU T m t=true→OY c t=true→oM c ρ→Cn T t ρ
 | .leaf _ _,m,c,ρ,_,_,_=>trivial
 | .evs ds ob t,m,c,ρ,h,hn,hc=>by
  unfold mU at h
  split at h
  ·simp only[Bd] at h;unfold OY at hn
   split at hn
   ·rename_i c' ω
    simp only[Bd] at hn;have:=XI (T:=T) ω hc;exact⟨fun q hq=>jC this (Ll.1 hn.1 q hq),NG h.2 hn.2 this⟩
   ·cases hn
  ·cases h
 | .br x t f,m,c,ρ,h,hn,hc=>by
  simp only[mU,Bd] at h;simp only[OY,Bd] at hn;exact⟨fun _=>NG h.2 hn.2 hc,fun _=>NG h.1.2 hn.1 hc⟩
 | .brc f as t e,m,c,ρ,h,hn,hc=>by
  simp only[mU,Bd] at h;simp only[OY,Bd] at hn;unfold Cn
  cases hf:lk f T with
  |none=>rw[hf] at h;simp at h
  |some fe=>exact⟨fun _=>NG h.1.2 hn.1 hc,fun _=>NG h.2 hn.2 hc⟩
 | .chk t k,m,c,ρ,h,hn,hc=>by
  simp only[mU,Bd] at h;simp only[OY,Bd] at hn;exact⟨NG h.1 hn.1 hc,NG h.2 hn.2 hc⟩
 | .bad _,m,c,ρ,h,_,_=>by cases h
theorem Qg{T:Tb}{L:Ex→St→Option TP}:∀ {t:Bc} {m c:Nat} {ρ:Bl},VR T L m t=true→OY c t=true→oM c ρ→Cn T t ρ
 | .leaf _ _,m,c,ρ,_,_,_=>trivial
 | .evs ds ob t,m,c,ρ,h,hn,hc=>by
  unfold VR at h
  split at h
  ·simp only[Bd] at h;unfold OY at hn
   split at hn
   ·rename_i c' ω
    simp only[Bd] at hn;have:=XI (T:=T) ω hc;exact⟨fun q hq=>jC this (Ll.1 hn.1 q hq),Qg h.2 hn.2 this⟩
   ·cases hn
  ·cases h
 | .br x t f,m,c,ρ,h,hn,hc=>by
  simp only[VR,Bd] at h;simp only[OY,Bd] at hn;exact⟨fun _=>Qg h.2 hn.2 hc,fun _=>Qg h.1.2 hn.1 hc⟩
 | .brc f as t e,m,c,ρ,h,hn,hc=>by
  simp only[VR,Bd] at h;simp only[OY,Bd] at hn;unfold Cn
  cases hf:lk f T with
  |none=>rw[hf] at h;simp at h
  |some fe=>exact⟨fun _=>Qg h.1.2 hn.1 hc,fun _=>Qg h.2 hn.2 hc⟩
 | .chk t k,m,c,ρ,h,hn,hc=>by
  simp only[VR,Bd] at h;simp only[OY,Bd] at hn;exact⟨NG h.1 hn.1 hc,Qg h.2 hn.2 hc⟩
 | .bad _,m,c,ρ,h,_,_=>by cases h
theorem AJY{T:Tb}{L:Ex→St→Option TP}{t:Bc}{m:Nat}{ρ:Bl}(h:VR T L m t=true)(hn:AGF t=true):Cn T t ρ:=
 Qg h hn (fun n hn=>by simp[inM,Nat.zero_shiftRight] at hn)
end
section
open Go
def Aw(n:Nat)(xs:List Int):List Int:=(List.range n).map fun i=>xs.getD i 0
theorem R9(n:Nat)(xs:List Int):(Aw n xs).length=n:=by simp[Aw]
theorem Au{n:Nat}{xs:List Int}(h:xs.length=n):Aw n xs=xs:=by
 apply List.ext_getElem?
 intro i
 unfold Aw
 by_cases hi:i<n
 ·rw[OX,List.getElem?_range hi,Jo (by omega)];simp[List.getD,Jo (show i<xs.length by omega)]
 ·rw[List.getElem?_eq_none (by simp;omega),List.getElem?_eq_none (by omega)]
abbrev TZ:=Nat→List (List Int)→List Int
def Q6(F:TZ):Nat→List (Nat×List IntKind×PF)→List (Nat×List IntKind×PF)
 |_,[]=>[]
 |k,(i,ks,_)::r=>(i,ks,fun a=>Aw ks.length (F k a))::Q6 F (k+1) r
def Zz(F:TZ):Nat→List (List IntKind×PF)→List (List IntKind×PF)
 |_,[]=>[]
 |k,(ks,_)::r=>(ks,fun a=>Aw ks.length (F k a))::Zz F (k+1) r
def KA(F:TZ):Nat→List Qr→List Qr
 |_,[]=>[]
 |k,.int κ _::r=>.int κ (fun a=>d1 (F k a))::KA F (k+1) r
 |k,.bool _::r=>.bool (fun a=>d1 (F k a))::KA F (k+1) r
 |k,.agg ks _::r=>.agg ks (fun a=>Aw ks.length (F k a))::KA F (k+1) r
 |k,.ptrP i::r=>.ptrP i::KA F k r
 |k,.ptrF j::r=>.ptrF j::KA F k r
 |k,.nil::r=>.nil::KA F k r
 |k,.nilI::r=>.nilI::KA F k r
 |k,.slF j n c::r=>.slF j n c::KA F k r
 |k,.slP j n c::r=>.slP j n c::KA F k r
 |k,.err::r=>.err::KA F k r
 |k,.slG j n::r=>.slG j n::KA F k r
def Lu(s0:Az)(F:TZ)(hp:Bool)(pre:List (List Int)→Prop):Az where
 params:=s0.params
 hp:=hp
 pre:=pre
 outs:=Q6 F 0 s0.outs
 fresh:=Zz F s0.outs.length s0.fresh
 ret:=KA F (s0.outs.length+s0.fresh.length) s0.ret
def SF(C:Cx)(s0:Az)(rvs:List ResultVar)(t:Bc):TZ:=fun k ins=>
 match Xq C.T t (A8 ins) with
 | some (ρ,st)=>(match Lr C s0 rvs st with
  |some es=>(match es[k]? with
   |some e=>e.1.map (·.den ρ)
   |none=>[])
  |none=>[])
 |none=>[]
theorem FO(s0:Az)(F:TZ)(hp:Bool)(pre:List (List Int)→Prop):PX (Lu s0 F hp pre):=by
 have ho:∀ (l:List (Nat×List IntKind×PF)) (k:Nat) (ins:List (List Int)),∀ p∈Q6 F k l,(p.2.2 ins).length=p.2.1.length:=by
  intro l
  induction l with
  |nil=>intro k ins p hp;cases hp
  |cons x r ih=>
   intro k ins p hp
   obtain⟨i,ks,f⟩:=x
   rcases J4.1 hp with rfl|hp
   ·exact R9 _ _
   ·exact ih _ ins p hp
 have hf:∀ (l:List (List IntKind×PF)) (k:Nat) (ins:List (List Int)),∀ p∈Zz F k l,(p.2 ins).length=p.1.length:=by
  intro l
  induction l with
  |nil=>intro k ins p hp;cases hp
  |cons x r ih=>
   intro k ins p hp
   obtain⟨ks,f⟩:=x
   rcases J4.1 hp with rfl|hp
   ·exact R9 _ _
   ·exact ih _ ins p hp
 have hr:∀ (l:List Qr) (k:Nat) (ins:List (List Int)),∀ ks f,Qr.agg ks f∈KA F k l→(f ins).length=ks.length:=by
  intro l
  induction l with
  |nil=>intro k ins ks f h;cases h
  | cons x r ih=>
   intro k ins ks f h
   cases x<;>simp only[KA,J4] at h
   case agg μ f'=>
    rcases h with h|h
    ·simp only[Qr.agg.injEq] at h;obtain⟨rfl,rfl⟩:=h;exact R9 _ _
    ·exact ih _ ins ks f h
   all_goals
    rcases h with h|h
    ·cases h
    ·exact ih _ ins ks f h
 exact fun ins _=>⟨ho _ _ ins,hf _ _ ins,hr _ _ ins⟩
theorem fI{rg:List Rg}{l:Nat}{ks:List IntKind}{xs:List X}(h:Ub rg l ks=some xs):xs.length=ks.length:=by
 unfold Ub at h
 split at h
 ·rename_i r hr
  cases hw:r.wr with
  |false=>rw[hw] at h;cases h
  | true=>
   rw[hw,cond_true] at h
   split at h
   ·rename_i cs hcs
    split at h
    ·rename_i μ xs' hx
     cases hk:Ky ks μ with
     |false=>rw[hk] at h;cases h
     |true=>
      rw[hk,cond_true,Am] at h;subst h;have:=(NC (V:=⟨fun _=>[],fun _=>(0,0),fun _=>undef⟩) hx hk).2.2
      simpa using this
    ·cases h
   ·cases h
 ·cases h
def UF(F:TZ)(k:Nat)(φ:TP)(ins:List (List Int))(ρ:Bl):Prop:=∀ (j:Nat) (e:List X×PF),φ[j]? = some e→F (k+j) ins=e.1.map (·.den ρ)
theorem UF.tail{F:TZ}{k:Nat}{e:List X×PF}{es:TP}{ins:List (List Int)}{ρ:Bl}(h:UF F k (e::es) ins ρ):UF F (k+1) es ins ρ:=fun j e' hj=>by
 have:=h (j+1) e' (by simpa using hj)
 rwa [show k+(j+1)=k+1+j by omega] at this
theorem UF.app1{F:TZ}{k:Nat}{a b:TP}{ins:List (List Int)}{ρ:Bl}(h:UF F k (a++b) ins ρ):UF F k a ins ρ:=fun j e hj=>
 h j e (by rw[gI (Pi.1 hj).1];exact hj)
theorem UF.app2{F:TZ}{k:Nat}{a b:TP}{ins:List (List Int)}{ρ:Bl}(h:UF F k (a++b) ins ρ):UF F (k+a.length) b ins ρ:=fun j e hj=>by
 have:=h (a.length+j) e (by rw[mH (by omega)];simpa using hj)
 rwa [← XN] at this
theorem iJ{F:TZ}{ps:List GG}{rg:List Rg}:∀ {outs:List (Nat×List IntKind×PF)} {φ:TP} {k:Nat},mV ps rg outs=some φ→
  φ.length=outs.length∧∃ es,mV ps rg (Q6 F k outs)=some es∧∀ ins ρ,UF F k φ ins ρ→Sa ρ ins es
 | [],φ,k,h=>by
  simp only[mV,Am] at h;subst h;exact⟨rfl,[],rfl,fun _ _ _=>trivial⟩
 | (i,ks,f)::r,φ,k,h=>by
  unfold mV at h
  split at h
  ·rename_i xs es' h1 h2
   cases hb:ow ps i with
   |false=>rw[hb] at h;cases h
   | true=>
    rw[hb,cond_true,Am] at h;subst h;obtain⟨g0,es,g1,g2⟩:=iJ (F:=F) (k:=k+1) h2;refine⟨by simp[g0],(xs,fun a=>Aw ks.length (F k a))::es,?_,fun ins ρ hs=>⟨?_,g2 ins ρ hs.tail⟩⟩
    ·simp only[Q6,mV,h1,g1,hb,cond_true]
    ·have:=hs 0 (xs,f) rfl;rw[Q3] at this;simp only[this];rw[Au (by rw[Vj];exact fI h1)]
  ·cases h
theorem Yq{F:TZ}{rg:List Rg}{np:Nat}:∀ {ls:List Nat} {fr:List (List IntKind×PF)} {φ:TP} {k:Nat},Od rg np ls fr=some φ→
  φ.length=fr.length∧∃ es,Od rg np ls (Zz F k fr)=some es∧∀ ins ρ,UF F k φ ins ρ→Sa ρ ins es
 | [],[],φ,k,h=>by
  simp only[Od,Am] at h;subst h;exact⟨rfl,[],rfl,fun _ _ _=>trivial⟩
 | [],_::_,φ,k,h=>by simp[Od] at h
 |_::_,[],φ,k,h=>by simp[Od] at h
 | l :: ls,(ks,f)::r,φ,k,h=>by
  unfold Od at h;generalize hc:frC rg np l ls ks.length=c at h
  cases c with
  |false=>cases h
  | true=>
   rw[cond_true] at h
   split at h
   ·rename_i xs es' h1 h2
    simp only[Am] at h;subst h;obtain⟨g0,es,g1,g2⟩:=Yq (F:=F) (k:=k+1) h2;refine⟨by simp[g0],(xs,fun a=>Aw ks.length (F k a))::es,?_,fun ins ρ hs=>⟨?_,g2 ins ρ hs.tail⟩⟩
    ·unfold Zz Od;rw[hc,cond_true,h1,g1]
    ·have:=hs 0 (xs,f) rfl;rw[Q3] at this;simp only[this];rw[Au (by rw[Vj];exact fI h1)]
   ·cases h
theorem X3{F:TZ}{j:Nat}:∀ {rs:List Qr} {vs:List TV} {k:Nat},jy j (KA F k rs) vs=jy j rs vs
 | [],vs,k=>rfl
 |r::rs,[],k=>by cases r<;>rfl
 |r::rs,v::vs,k=>by
  cases v with
  |a cs=>cases r<;>simp only[KA,jy,X3]
  |l u=>cases r<;>cases u<;>simp only[KA,jy,X3]
theorem bS{F:TZ}{rs:List Qr}{vs:List TV}{k:Nat}:∀ {n j:Nat},oC (KA F k rs) vs n j=oC rs vs n j
 |0,j=>rfl
 |n+1,j=>by simp only[oC,X3,bS]
theorem ADG{tm:List (Nat×SV)}{fr:List Nat}{k:IntKind}{f:PI}{v:TV}{e:TP}(h:Sn tm fr (.int k f) v=some e):∃ x,e= [([x],fun a=>[f a])]∧∀ g,Sn tm fr (.int k g) v=some [([x],fun a=>[g a])]:=by
 cases v with
 |a cs=>simp[Sn] at h
 | l u=>
  cases u<;>simp only[Sn,reduceCtorEq] at h
  rename_i k' x
  cases hk:ui k k' with
  |false=>rw[hk] at h;cases h
  |true=>
   rw[hk,cond_true,Am] at h;exact⟨x,h.symm,fun g=>by simp only[Sn,hk,cond_true]⟩
theorem ABO{tm:List (Nat×SV)}{fr:List Nat}{f:PI}{v:TV}{e:TP}(h:Sn tm fr (.bool f) v=some e):∃ x,e= [([x],fun a=>[f a])]∧∀ g,Sn tm fr (.bool g) v=some [([x],fun a=>[g a])]:=by
 cases v with
 |a cs=>simp[Sn] at h
 |l u=>
  cases u<;>simp only[Sn,reduceCtorEq,Am] at h
  rename_i x
  exact⟨x,h.symm,fun g=>rfl⟩
theorem AEM{tm:List (Nat×SV)}{fr:List Nat}{ks:List IntKind}{f:PF}{v:TV}{e:TP}(h:Sn tm fr (.agg ks f) v=some e):∃ xs,xs.length=ks.length∧e= [(xs,f)]∧∀ g,Sn tm fr (.agg ks g) v=some [(xs,g)]:=by
 cases v with
 |l u=>cases u<;>simp[Sn] at h
 | a cs=>
  simp only[Sn] at h
  split at h
  ·rename_i μ xs hx
   cases hk:Ky ks μ with
   |false=>rw[hk] at h;cases h
   |true=>
    rw[hk,cond_true,Am] at h;have:=(NC (V:=⟨fun _=>[],fun _=>(0,0),fun _=>undef⟩) hx hk).2.2;exact⟨xs,by simpa using this,h.symm,fun g=>by simp only[Sn,hx,hk,cond_true]⟩
  ·cases h
def AK1:Qr→Bool
 | .int _ _=>false
 | .bool _=>false
 | .agg _ _=>false
 |_=>true
theorem AGv{tm:List (Nat×SV)}{fr:List Nat}{r:Qr}{v:TV}{e:TP}(hn:AK1 r=true)(h:Sn tm fr r v=some e):e= []:=by
 unfold Sn at h
 split at h
 ·cases hn
 ·cases hn
 ·split at h
  ·rename_i u hu
   revert h
   generalize u.beq _=b
   intro h
   cases b with
   |false=>cases h
   |true=>rw[cond_true,Am] at h;exact h.symm
  ·cases h
 ·rename_i j l o
  split at h
  ·rename_i l' hl
   cases hb:(Nat.beq l l'&&Nat.beq o 0) with
   |false=>rw[hb] at h;cases h
   |true=>rw[hb,cond_true,Am] at h;exact h.symm
  ·cases h
 ·cases hn
 ·simp only[Am] at h;exact h.symm
 ·simp only[Am] at h;exact h.symm
 ·rename_i j n c l o n' c' d
  split at h
  ·rename_i l' hl
   cases hb:(Nat.beq l l'&&Nat.beq o 0&&Nat.beq n n'&&Nat.beq c c'&&Nat.beq d 0) with
   |false=>rw[hb] at h;cases h
   |true=>rw[hb,cond_true,Am] at h;exact h.symm
  ·cases h
 ·simp only[Am] at h;exact h.symm
 ·rename_i j n l o n' c d
  split at h
  ·rename_i l' hl
   cases hb:(Nat.beq l l'&&Nat.beq o 0&&Nat.beq n n') with
   |false=>rw[hb] at h;cases h
   |true=>rw[hb,cond_true,Am] at h;exact h.symm
  ·cases h
 ·rename_i i n c l o n' c' d
  split at h
  ·rename_i l' o' hu
   cases hb:(Nat.beq l' l&&Nat.beq o' o&&Nat.beq n n'&&Nat.beq c c'&&Nat.beq d 0) with
   |false=>rw[hb] at h;cases h
   |true=>rw[hb,cond_true,Am] at h;exact h.symm
  ·cases h
 ·cases h
theorem Qe{F:TZ}{tm:List (Nat×SV)}{fr:List Nat}:∀ {rs:List Qr} {vs:List TV} {φ:TP} {k:Nat},Pz tm fr rs vs=some φ→
  ∃ es,Pz tm fr (KA F k rs) vs=some es∧∀ ins ρ,UF F k φ ins ρ→Sa ρ ins es
 | [],[],φ,k,h=>⟨[],rfl,fun _ _ _=>trivial⟩
 | [],_::_,φ,k,h=>by simp[Pz] at h
 |_::_,[],φ,k,h=>by simp[Pz] at h
 | r::rs,v::vs,φ,k,h=>by
  unfold Pz at h
  split at h
  ·rename_i e1 e2 h1 h2
   simp only[Am] at h;subst h;have no:AK1 r=true→KA F k (r::rs)=r::KA F k rs→∃ es,Pz tm fr (KA F k (r::rs)) (v::vs)=some es∧∀ ins ρ,UF F k (e1++e2) ins ρ→Sa ρ ins es:=fun hn hw=>by
    have:=AGv hn h1;subst this;obtain⟨es,g1,g2⟩:=Qe (F:=F) (k:=k) h2;exact⟨[]++es,by rw[hw];simp only[Pz,h1,g1],fun ins ρ hs=>g2 ins ρ (by simpa using hs)⟩
   cases r with
   |int κ f=>
    obtain⟨x,rfl,hx⟩:=ADG h1;obtain⟨es,g1,g2⟩:=Qe (F:=F) (k:=k+1) h2;refine⟨[([x],fun a=>[d1 (F k a)])]++es,by simp only[KA,Pz,hx,g1],fun ins ρ hs=>⟨?_,g2 ins ρ (UF.tail (by simpa using hs))⟩⟩;have:=hs 0 ([x],_) rfl;rw[Q3] at this;simp only[this,NT,Vi,d1]
   |bool f=>
    obtain⟨x,rfl,hx⟩:=ABO h1;obtain⟨es,g1,g2⟩:=Qe (F:=F) (k:=k+1) h2;refine⟨[([x],fun a=>[d1 (F k a)])]++es,by simp only[KA,Pz,hx,g1],fun ins ρ hs=>⟨?_,g2 ins ρ (UF.tail (by simpa using hs))⟩⟩;have:=hs 0 ([x],_) rfl;rw[Q3] at this;simp only[this,NT,Vi,d1]
   |agg ks f=>
    obtain⟨xs,hl,rfl,hx⟩:=AEM h1;obtain⟨es,g1,g2⟩:=Qe (F:=F) (k:=k+1) h2;refine⟨[(xs,fun a=>Aw ks.length (F k a))]++es,by simp only[KA,Pz,hx,g1],fun ins ρ hs=>⟨?_,g2 ins ρ (UF.tail (by simpa using hs))⟩⟩;have:=hs 0 (xs,_) rfl;rw[Q3] at this;simp only[this];rw[Au (by rw[Vj];exact hl)]
   |ptrP i=>exact no rfl rfl
   |ptrF j=>exact no rfl rfl
   |nil=>exact no rfl rfl
   |nilI=>exact no rfl rfl
   |slF j n c=>exact no rfl rfl
   |slP j n c=>exact no rfl rfl
   |slG j n=>exact no rfl rfl
   |err=>exact no rfl rfl
  ·cases h
theorem fA{F:TZ}{C:Cx}{s0:Az}{rvs:List ResultVar}{st:St}{φ:TP}{hp:Bool}{pre:List (List Int)→Prop}(h:Lr C s0 rvs st=some φ):
  ∃ es,Lr C (Lu s0 F hp pre) rvs st=some es∧∀ ins ρ,UF F 0 φ ins ρ→Sa ρ ins es:=by
 unfold Lr at h
 split at h
 ·cases h
 rename_i vs hvs
 split at h
 ·cases h
 rename_i fr hfr
 split at h
 ·rename_i e1 e2 e3 h1 h2 h3
  simp only[Am] at h;subst h;obtain⟨a0,f1,a1,a2⟩:=iJ (F:=F) (k:=0) h1;obtain⟨b0,f2,b1,b2⟩:=Yq (F:=F) (k:=s0.outs.length) h2;obtain⟨f3,c1,c2⟩:=Qe (F:=F) (k:=s0.outs.length+s0.fresh.length) h3;refine⟨f1++f2++f3,?_,fun ins ρ hs=>?_⟩
  ·unfold Lr;simp only[hvs];have hl:(Lu s0 F hp pre).fresh.length=s0.fresh.length:=by
    show (Zz F s0.outs.length s0.fresh).length=_;generalize s0.outs.length=k
    induction s0.fresh generalizing k with
    |nil=>rfl
    |cons x r ih=>obtain⟨ks,f⟩:=x;simp[Zz,ih]
   rw[hl];simp only[Lu,bS,hfr,a1,b1,c1]
  ·refine NS.2 ⟨NS.2 ⟨a2 ins ρ hs.app1.app1,b2 ins ρ ?_⟩,c2 ins ρ ?_⟩
   ·have:=hs.app1.app2
    rwa [a0,NU] at this
   ·have:=hs.app2
    rwa [K6,a0,b0,NU] at this
 ·cases h
def Va(C:Cx)(s0:Az)(rvs:List ResultVar)(ex:Ex)(st:St):Option TP:=match ex with
 | .exit _=>none
 |_=>Lr C s0 rvs st
def oU(np:Nat):Nat:=2^np-1
theorem Zi{np i:Nat}(h:inM (oU np) i=true):i<np:=by
 rw[Tj] at h;unfold oU at h;rw[Nat.testBit_two_pow_sub_one] at h
 simpa using h
theorem AJW{C:Cx}{n:Nat}{c:Code}{nt:Nat}{rvs:List ResultVar}{gls:gY}{s0:Az}{hp:Bool}{pre:List (List Int)→Prop}
  (hok:VR C.T (Va C s0 rvs) (oU s0.params.length) (Pd C n [] c (cz s0.params gls nt))=true) {hyp:List (List Int)→Prop}
  (hob:∀ ins,Ka s0.params ins→hyp ins→Cn C.T (Pd C n [] c (cz s0.params gls nt)) (A8 ins)):
  aY C n c nt rvs gls (Lu s0 (SF C s0 rvs (Pd C n [] c (cz s0.params gls nt))) hp pre) hyp:=by
 intro ins ρ hI hy hρ
 show (Pd C n [] c (cz s0.params gls nt)).Holds C.T _ ρ;generalize hF:SF C s0 rvs (Pd C n [] c (cz s0.params gls nt))=F;obtain⟨ρL,stL,hev⟩:=Pf (ρc:=A8 ins) hok;refine NK (ρL:=ρL) (stL:=stL) ?_ hok (fun i hi=>?_) (hob ins hI hy) hev
 ·intro ex st m hm hr hst
  subst hst;have hs:∀ φ,Lr C s0 rvs st=some φ→(φ.all fun e=>e.1.all (·.inM m))=true→(match Lr C (Lu s0 F hp pre) rvs st with
    |some es=>Sa ρ ins es
    |none=>False):=fun φ he hall=>by
   obtain⟨es,h1,h2⟩:=fA (F:=F) (hp:=hp) (pre:=pre) he;rw[h1];refine h2 ins ρ fun j e hj=>?_
   rw[NU, ← hF];unfold SF;rw[hev];simp only[he,hj];have hx:=Ll.1 hall e (OZ hj);exact fU fun x hx'=>(X.den_RM hr (Ll.1 hx x hx')).symm
  cases ex with
  |exit id=>simp[VR,Va] at hm
  |normal=>
   simp only[VR,Va] at hm
   split at hm
   ·rename_i φ he;exact hs φ he hm
   ·cases hm
  |ret=>
   simp only[VR,Va] at hm
   split at hm
   ·rename_i φ he;exact hs φ he hm
   ·cases hm
 ·exact hρ i (Zi hi)
end
section
open Go
def Ab(fn:Func):Code:=fn.body.getD .skip
theorem Bp.one{P:Program}{GB:Nat}{GC:Nat→Nat→Option Value}{f:Nat}{s:Az}
  (h:∀ (args:List Value) (ins:List (List Int)) (bs:List (Nat×Nat)) (w:World),GW GC w→GB≤w.heap.size→Kt GB w s.params args ins bs→G8 s.params bs→(s.hp=true→s.pre ins)→
   Calls P f args.toArray w fun e w'=>∃ fb vs,e= .returned (TU vs)∧Yp GC s args ins bs w fb vs w'):Bp P GB GC f (.one s):=
 fun _ args ins bs w h1 h2 h3 h4 h5 _=>h args ins bs w h1 h2 h3 h4 h5
structure AQ where
 n:Nat
 c:Code
 nt:Nat
 rvs:List ResultVar
 gls:gY
 s0:Az
def AQ.tree(i:AQ)(C:Cx):Bc:=Pd C i.n [] i.c (cz i.s0.params i.gls i.nt)
def AQ.raw(i:AQ)(C:Cx):TZ:=SF C i.s0 i.rvs (i.tree C)
def AQ.chk(i:AQ)(C:Cx):Bool:=VR C.T (Va C i.s0 i.rvs) (oU i.s0.params.length) (i.tree C)&&J2 i.s0.outs 0 i.s0.params&&Nat.ble i.s0.params.length i.nt&&Nat.ble i.s0.params.length 500
def AQ.sum(i:AQ)(C:Cx):Az:=Lu i.s0 (i.raw C) false (fun _=>True)
def AQ.sumP(i:AQ)(C:Cx):Az:=Lu i.s0 (i.raw C) true (fun ins=>Cn C.T (i.tree C) (A8 ins))
theorem AQ.gen{i:AQ}{P:Program}{C:Cx}{GB:Nat}{GC:Nat→Nat→Option Value}{ad:Nat→Nat×Nat}(hC:Sb P C GB GC){f:Nat}{fn:Func}(hf:P.funcs[f]? = some fn)(hb:fn.body=some i.c)(hn:fn.ntmps=i.nt)(hr:fn.results.toList=i.rvs)
  (ι:∀ E:En,E.P=P→E.C=C→E.GB=GB→E.GC=GC→Ju E i.c∧∀ f i,lk f C.inl=some i→Ju E i.c) (hgl:SH GC ad i.gls) (hgb:∀ x∈i.gls,(Gw ad x.1).1<GB) (hk:i.chk C=true) {hp:Bool} {pre hyp:List (List Int)→Prop}
  (hob:∀ ins,Ka i.s0.params ins→hyp ins→Cn C.T (i.tree C) (A8 ins)):
  ∀ (args:List Value) (ins:List (List Int)) (bs:List (Nat×Nat)) (w:World),GW GC w→GB≤w.heap.size→Kt GB w i.s0.params args ins bs→G8 i.s0.params bs→hyp ins→
   Calls P f args.toArray w fun e w'=>∃ fb vs,e= .returned (TU vs)∧Yp GC (Lu i.s0 (i.raw C) hp pre) args ins bs w fb vs w':=by
 unfold AQ.chk at hk;simp only[Bd] at hk;have ht:aY C i.n i.c fn.ntmps fn.results.toList i.gls (Lu i.s0 (i.raw C) hp pre) hyp:=by
  rw[hn,hr];exact AJW hk.1.1.1 hob
 have hwr:J2 (Lu i.s0 (i.raw C) hp pre).outs 0 (Lu i.s0 (i.raw C) hp pre).params=true:=by
  have:∀ (l:List (Nat×List IntKind×PF)) (k j:Nat) (ps:List GG),J2 (Q6 (i.raw C) k l) j ps=J2 l j ps:=by
   intro l k j ps
   induction ps generalizing j with
   |nil=>rfl
   | cons p ps ih=>
    have h2:∀ (l:List (Nat×List IntKind×PF)) (k:Nat) (q:Nat×List IntKind→Bool),(Q6 (i.raw C) k l).any (fun o=>q (o.1,o.2.1))=l.any fun o=>q (o.1,o.2.1):=by
     intro l
     induction l with
     |nil=>intro k q;rfl
     |cons x r ihl=>intro k q;obtain⟨a,b,c⟩:=x;simp only[Q6,List.any_cons,ihl]
    simp only[J2,ih]
    congr 1
    split
    ·rename_i n _
     exact h2 l k (fun x=>Nat.beq x.1 j&&Nat.beq x.2.length n)
    ·rfl
  show J2 (Q6 (i.raw C) 0 i.s0.outs) 0 i.s0.params=true;rw[this];exact hk.1.1.2
 exact AKQ hC hf hb ι hwr hgl hgb (by rw[hn];exact Na hk.1.2) (Na hk.2) ht
theorem AQ.ok{i:AQ}{P:Program}{C:Cx}{GB:Nat}{GC:Nat→Nat→Option Value}{ad:Nat→Nat×Nat}(hC:Sb P C GB GC){f:Nat}{fn:Func}(hf:P.funcs[f]? = some fn)(hb:fn.body=some i.c)(hn:fn.ntmps=i.nt)(hr:fn.results.toList=i.rvs)
  (hl:C.loops= []) (hgl:SH GC ad i.gls) (hgb:∀ x∈i.gls,(Gw ad x.1).1<GB) (hk:i.chk C=true) (hno:AGF (i.tree C)=true):Bp P GB GC f (.one (i.sum C)):=by
 have hk':=hk;unfold AQ.chk at hk';simp only[Bd] at hk';exact Bp.one fun args ins bs w h1 h2 h3 h4 _=>AQ.gen (hp:=false) (pre:=fun _=>True) (hyp:=fun _=>True) hC hf hb hn hr (fun E _ hE _ _=>⟨Ju.of_nil (by rw[hE];exact hl) _,fun _ _ _=>Ju.of_nil (by rw[hE];exact hl) _⟩) hgl hgb hk (fun ins _ _=>AJY hk'.1.1.1 hno) args ins bs w h1 h2 h3 h4 trivial
theorem AQ.okP{i:AQ}{P:Program}{C:Cx}{GB:Nat}{GC:Nat→Nat→Option Value}{ad:Nat→Nat×Nat}(hC:Sb P C GB GC){f:Nat}{fn:Func}(hf:P.funcs[f]? = some fn)(hb:fn.body=some i.c)(hn:fn.ntmps=i.nt)(hr:fn.results.toList=i.rvs)
  (hl:C.loops= []) (hgl:SH GC ad i.gls) (hgb:∀ x∈i.gls,(Gw ad x.1).1<GB) (hk:i.chk C=true):Bp P GB GC f (.one (i.sumP C)):=
 Bp.one fun args ins bs w h1 h2 h3 h4 h5=>AQ.gen (hyp:=fun ins=>Cn C.T (i.tree C) (A8 ins)) hC hf hb hn hr (fun E _ hE _ _=>⟨Ju.of_nil (by rw[hE];exact hl) _,fun _ _ _=>Ju.of_nil (by rw[hE];exact hl) _⟩) hgl hgb hk (fun ins _ h=>h) args ins bs w h1 h2 h3 h4 (h5 rfl)
def AQ.sumH(i:AQ)(C:Cx)(pre:List (List Int)→Prop):Az:=Lu i.s0 (i.raw C) true pre
theorem AQ.lenH(i:AQ)(C:Cx)(pre:List (List Int)→Prop)(b:Bool):PX ((FE.one (i.sumH C pre)).sel b):=FO _ _ _ _
theorem AQ.len(i:AQ)(C:Cx)(b:Bool):PX ((FE.one (i.sum C)).sel b):=FO _ _ _ _
theorem AQ.lenP(i:AQ)(C:Cx)(b:Bool):PX ((FE.one (i.sumP C)).sel b):=FO _ _ _ _
end
section
open Go
def XR(T:Tb):Bc→Bl→Option (Bl×Ex×St)
 | .leaf e st,ρ=>some (ρ,e,st)
 | .evs ds _ t,ρ=>XR T t (Dc T ρ ds)
 | .br x t f,ρ=>if x.den ρ=0 then XR T f ρ else XR T t ρ
 | .brc f as t e,ρ=>match lk f T with
  |some fe=>cond (fe.cnd (as.map (·.den ρ))) (XR T t ρ) (XR T e ρ)
  |none=>none
 | .chk _ k,ρ=>XR T k ρ
 | .bad _,_=>none
def nD(T:Tb)(p:Nat→Ex→St→Bool):Nat→Bc→Bool
 |m,.leaf e st=>p m e st
 |m,.evs ds ob t=>(match sH m ds with
  |some m'=>ob.all (·.inM m')&&nD T p m' t
  |none=>false)
 |m,.br x t f=>x.inM m&&nD T p m t&&nD T p m f
 |m,.brc f as t e=>as.all (·.inM m)&&(lk f T).isSome&&nD T p m t&&nD T p m e
 |m,.chk t k=>mU T m t&&nD T p m k
 |_,.bad _=>false
theorem NJ{T:Tb}{p:Nat→Ex→St→Bool}{Φ:Bl→Ex→St→Prop}{ρ:Bl}{ρL:Bl}{eL:Ex}{stL:St}
  (hΦ:∀ m,p m eL stL=true→RM m ρ ρL→Φ ρ eL stL):∀ {t:Bc} {m:Nat} {ρc:Bl},nD T p m t=true→RM m ρ ρc→Cn T t ρc→XR T t ρc=some (ρL,eL,stL)→t.Holds T Φ ρ
 | .leaf e st,m,ρc,h,hr,_,hv=>by
  simp only[XR,Am,Prod.mk.injEq] at hv;obtain⟨rfl,rfl,rfl⟩:=hv;exact hΦ m h hr
 | .evs ds ob t,m,ρc,h,hr,ho,hv=>fun hd=>by
  unfold nD at h
  split at h
  ·rename_i m' hm
   simp only[Bd] at h;have hr':=Zt hm hr hd;exact⟨fun q hq=>(JM.den_RM hr' (Ll.1 h.1 q hq)).2 (ho.1 q hq),NJ hΦ h.2 hr' ho.2 hv⟩
  ·cases h
 | .br x t f,m,ρc,h,hr,ho,hv=>by
  simp only[nD,Bd] at h;have hx:=X.den_RM hr h.1.1;refine⟨fun hne=>?_,fun he=>?_⟩
  ·rw[hx] at hne;simp only[XR,if_neg hne] at hv;exact NJ hΦ h.1.2 hr (ho.2 hne) hv
  ·rw[hx] at he;simp only[XR,if_pos he] at hv;exact NJ hΦ h.2 hr (ho.1 he) hv
 | .brc f as t e,m,ρc,h,hr,ho,hv=>by
  simp only[nD,Bd] at h;have hx:=Args.den_RM hr h.1.1.1;unfold Cn at ho;unfold XR at hv;unfold Bc.Holds
  cases hf:lk f T with
  |none=>rw[hf] at ho;exact ho.elim
  |some fe=>
   rw[hf] at ho hv;simp only at ho hv ⊢;rw[hx];refine⟨fun hc=>?_,fun hc=>?_⟩
   ·rw[hc] at hv;exact NJ hΦ h.1.2 hr (ho.1 hc) hv
   ·rw[hc] at hv;exact NJ hΦ h.2 hr (ho.2 hc) hv
 | .chk t k,m,ρc,h,hr,ho,hv=>by
  simp only[nD,Bd] at h;exact⟨Li h.1 hr ho.1,NJ hΦ h.2 hr ho.2 hv⟩
 | .bad _,m,ρc,h,_,_,_=>by cases h
structure I7 where
 n:Nat
 c:Code
 nt:Nat
 id:Nat
 gls:gY
 s0:Az
 ps:List Nat
 cl:List Nat
 fuel:List (List Int)→Nat
def ABn(np:Nat):Nat→List Nat→List GG→List (Nat×SV)
 |i,t::ts,p::ps=>(t,GL np i p)::ABn np (i+1) ts ps
 |_,_,_=>[]
def Tu(t:Nat)(l:List Nat):Bool:= !(EH t l)
def I7.keep(i:I7):List Nat:=(List.range i.nt).filter fun t=>Tu t i.cl&&Tu t i.ps
def I7.st(i:I7):St:=
 let s:=cz i.s0.params i.gls i.nt
 { s with tm:=ABn i.s0.params.length 0 i.ps i.s0.params++i.keep.map fun t=>(t,.any (2*i.s0.params.length+t)),nv:=2*i.s0.params.length+i.nt }
def I7.tree(i:I7)(C:Cx):Bc:=Pd C i.n [] i.c i.st
def VW(np:Nat):Nat→List GG→List SV→List (Option MP)→Bool
 |i,p::ps,v::vs,m::ms=>(match p.reg,m with
  |some _,some x=>Nat.beq x.l i&&Nat.beq x.o 0&&v.beq (GL np i p)
  |some _,none=>false
  |none,_=>true)&&VW np (i+1) ps vs ms
 |_,[],[],[]=>true
 |_,_,_,_=>false
def pq(np:Nat)(st:St)(t:Nat):Bool:=match lk t st.tm with
 |some (.any j)=>Nat.beq j (2*np+t)
 |_=>false
def I7.leaf(i:I7)(e:Ex)(st:St):Option (Bool×List Iq):=
 match (match e with
  | .normal=>some true
  | .exit j=>bif Nat.beq j i.id then some false else none
  | .ret=>none) with
 |none=>none
 | some b=>match looks st i.ps with
  |none=>none
  |some vs=>match Py st i.s0.params vs with
   |none=>none
   |some (as,ms)=>bif WY st.rg ms&&VW i.s0.params.length 0 i.s0.params vs ms&&i.keep.all (pq i.s0.params.length st)&&Nat.beq st.nt i.nt then some (b,as) else none
def I7.leafB(i:I7)(m:Nat)(e:Ex)(st:St):Bool:=match i.leaf e st with
 |some (_,as)=>as.all (·.inM m)
 |none=>false
def I7.step(i:I7)(C:Cx)(ins:List (List Int)):Option (Bool×List (List Int)):=
 match XR C.T (i.tree C) (A8 ins) with
 |some (ρ,e,st)=>(match i.leaf e st with
  |some (b,as)=>some (b,as.map (·.den ρ))
  |none=>none)
 |none=>none
def Gf(step:List (List Int)→Option (Bool×List (List Int))):Nat→List (List Int)→List (List Int)
 |0,ins=>ins
 |n+1,ins=>match step ins with
  |some (true,r)=>Gf step n r
  |some (false,r)=>r
  |none=>ins
def Rj(step:List (List Int)→Option (Bool×List (List Int)))(ob:List (List Int)→Prop):Nat→List (List Int)→Prop
 |0,_=>False
 |n+1,ins=>ob ins∧match step ins with
  |some (true,r)=>Rj step ob n r
  |some (false,_)=>True
  |none=>False
def ZL(v:List (List Int)→List (List Int)):Nat→List GG→List Qr
 |_,[]=>[]
 |i,.int k::r=>.int k (fun a=>d1 ((v a).getD i []))::ZL v (i+1) r
 |i,.bool::r=>.bool (fun a=>d1 ((v a).getD i []))::ZL v (i+1) r
 |i,.agg ks::r=>.agg ks (fun a=>Aw ks.length ((v a).getD i []))::ZL v (i+1) r
 |i,.mem _ _ _::r=>ZL v (i+1) r
 |i,.sl _ _ _::r=>ZL v (i+1) r
 |i,.slm _ _ _::r=>ZL v (i+1) r
def ssL:List Nat→List GG→List Nat
 |_t::ts,.mem _ _ _::r=>ssL ts r
 |_t::ts,.sl _ _ _::r=>ssL ts r
 |_t::ts,.slm _ _ _::r=>ssL ts r
 |t::ts,_::r=>t::ssL ts r
 |_,_=>[]
def I7.ss(i:I7):List Nat:=ssL i.ps i.s0.params
def I7.val(i:I7)(C:Cx)(ins:List (List Int)):List (List Int):=Gf (i.step C) (i.fuel ins) ins
def I7.pre(i:I7)(C:Cx)(ins:List (List Int)):Prop:=Rj (i.step C) (fun ins=>Cn C.T (i.tree C) (A8 ins)) (i.fuel ins) ins
def I7.sum(i:I7)(C:Cx)(pre:List (List Int)→Prop):Az where
 params:=i.s0.params
 hp:=true
 pre:=pre
 outs:=i.s0.outs.map fun p=>(p.1,p.2.1,fun a=>Aw p.2.1.length ((i.val C a).getD p.1 []))
 fresh:=[]
 ret:=ZL (i.val C) 0 i.s0.params
def ACs:List Nat→Bool
 | []=>true
 |t::r=>Tu t r&&ACs r
def ACp(ps:List GG)(outs:List (Nat×List IntKind×PF)):Bool:=outs.all fun p=>match ps[p.1]? with
 |some (.mem ks _ true)=>Ky ks p.2.1
 |some (.sl ks _ true)=>Ky ks p.2.1
 |some (.slm ks _ true)=>Ky ks p.2.1
 |_=>false
def I7.chk(i:I7)(C:Cx):Bool:=nD C.T (i.leafB) (oU i.s0.params.length) (i.tree C)&&J2 i.s0.outs 0 i.s0.params&&ACp i.s0.params i.s0.outs&&Nat.ble i.s0.params.length i.nt&&Nat.ble i.s0.params.length 500&&Nat.beq i.ps.length i.s0.params.length&&ACs i.ps&&i.ps.all (fun t=>Nat.blt t i.nt&&Tu t i.cl)
theorem ng(i:I7)(C:Cx)(pre:List (List Int)→Prop):PX (i.sum C pre):=by
 intro ins _
 refine⟨fun p hp=>?_,fun p hp=>(by cases hp),fun ks f hf=>?_⟩
 ·simp only[I7.sum,VI] at hp;obtain⟨q,_,rfl⟩:=hp;exact R9 _ _
 ·have:∀ (v:List (List Int)→List (List Int)) (ps:List GG) (j:Nat),Qr.agg ks f∈ZL v j ps→(f ins).length=ks.length:=by
   intro v ps
   induction ps with
   |nil=>intro j h;cases h
   | cons p r ih=>
    intro j h
    cases p with
    |int k=>simp only[ZL,J4,reduceCtorEq,false_or] at h;exact ih _ h
    |bool=>simp only[ZL,J4,reduceCtorEq,false_or] at h;exact ih _ h
    |agg μ=>
     simp only[ZL,J4,Qr.agg.injEq] at h
     rcases h with ⟨rfl,rfl⟩|h
     ·exact R9 _ _
     ·exact ih _ h
    |mem a b c=>exact ih _ h
    |sl a b c=>exact ih _ h
    |slm a b c=>exact ih _ h
  exact this _ _ _ hf
end
section
open Go
theorem Pg{T:Tb}{p:Nat→Ex→St→Bool}:∀ {t:Bc} {m:Nat} {ρc:Bl},nD T p m t=true→∃ ρL eL stL m',XR T t ρc=some (ρL,eL,stL)∧p m' eL stL=true
 | .leaf e st,m,ρc,h=>⟨_,_,_,m,rfl,h⟩
 | .evs ds ob t,m,ρc,h=>by
  unfold nD at h
  split at h
  ·simp only[Bd] at h;exact Pg (t:=t) (ρc:=Dc T ρc ds) h.2
  ·cases h
 | .br x t f,m,ρc,h=>by
  simp only[nD,Bd] at h;unfold XR
  split
  ·exact Pg h.2
  ·exact Pg h.1.2
 | .brc f as t e,m,ρc,h=>by
  simp only[nD,Bd] at h;unfold XR
  cases hf:lk f T with
  |none=>rw[hf] at h;simp at h
  |some fe=>
   simp only
   cases fe.cnd (as.map (·.den ρc)) with
   |true=>exact Pg h.1.2
   |false=>exact Pg h.2
 | .chk t k,m,ρc,h=>by
  simp only[nD,Bd] at h;exact Pg (t:=k) h.2
 | .bad _,m,ρc,h=>by cases h
theorem cZ{np:Nat}{rest:List (Nat×SV)}:∀ {ts:List Nat} {ps:List GG} {k t:Nat} {v:SV},lk t (ABn np k ts ps++rest)=some v→
  (∃ j p,ts[j]? = some t∧ps[j]? = some p∧v=GL np (k+j) p)∨lk t rest=some v
 | [],_,k,t,v,h=>.inr h
 |_::_,[],k,t,v,h=>.inr h
 | u::ts,p::ps,k,t,v,h=>by
  simp only[ABn,zcm,lk] at h
  cases hb:Nat.beq u t with
  |true=>
   rw[hb,cond_true,Am] at h;have:=CL hb;subst this;exact .inl ⟨0,p,rfl,rfl,h.symm⟩
  |false=>
   rw[hb,cond_false] at h
   rcases cZ h with ⟨j,q,h1,h2,h3⟩|h
   ·exact .inl ⟨j+1,q,by simpa using h1,by simpa using h2,by rw[h3];congr 1;omega⟩
   ·exact .inr h
theorem dC{f:Nat→SV}:∀ {l:List Nat} {t:Nat} {v:SV},lk t (l.map fun t=>(t,f t))=some v→t∈l∧v=f t
 | [],t,v,h=>by simp[lk] at h
 | u::l,t,v,h=>by
  simp only[NT,lk] at h
  cases hb:Nat.beq u t with
  |true=>
   rw[hb,cond_true,Am] at h;have:=CL hb;subst this;exact⟨LA,h.symm⟩
  |false=>
   rw[hb,cond_false] at h;obtain⟨h1,h2⟩:=dC h;exact⟨MQ _ h1,h2⟩
theorem Z7{np:Nat}:∀ {ps:List GG} {i j:Nat} {p:GG},ps[j]? = some p→lk (i+j) (tm0 np i ps)=some (GL np (i+j) p)
 | [],i,j,p,h=>by simp at h
 |q::ps,i,0,p,h=>by
  simp only[VT,Am] at h;subst h;simp only[tm0,lk,Q3,Nat.beq_refl,cond_true]
 |q::ps,i,j+1,p,h=>by
  have:=Z7 (np:=np) (ps:=ps) (i:=i+1) (j:=j) (p:=p) (by simpa using h);rw[show i+(j+1)=i+1+j by omega];simp only[tm0,lk];have hb:Nat.beq i (i+1+j)=false:=by cases hh:Nat.beq i (i+1+j) with|false=>rfl|true=>have:=CL hh;omega
  rw[hb,cond_false];exact this
theorem uM{GB:Nat}{w:World}:∀ {ps:List GG} {vs:List Value} {xs:List (List Int)} {bs cs:List (Nat×Nat)},Kt GB w ps vs xs bs→cs.length=ps.length→
  (∀ (i:Nat) (p:GG),ps[i]? = some p→p.reg≠none→bs.getD i (0,0)=cs.getD i (0,0))→Kt GB w ps vs xs cs
 | [],[],[],[],[],_,_,_=>trivial
 |p::ps,v::vs,x::xs,b::bs,c::cs,h,hl,he=>by
  refine⟨?_,uM h.2 (by simpa using hl) fun i q hq hn=>by simpa using he (i+1) q (by simpa using hq) hn⟩;have h0:=he 0 p rfl;have h1:=h.1
  cases p with
  |int k=>exact h1
  |bool=>exact h1
  |agg ks=>exact h1
  |mem ks g wr=>have:=h0 (by simp[GG.reg]);simp only[Qu] at this;subst this;exact h1
  |sl ks g wr=>have:=h0 (by simp[GG.reg]);simp only[Qu] at this;subst this;exact h1
  |slm ks g wr=>have:=h0 (by simp[GG.reg]);simp only[Qu] at this;subst this;exact h1
 | [],[],[],[],_::_,_,hl,_=>by simp at hl
 |_::_,_::_,_::_,_::_,[],_,hl,_=>by simp at hl
 | [],_::_,_,_,_,h,_,_=>by simp[Kt] at h
 | [],[],_::_,_,_,h,_,_=>by simp[Kt] at h
 | [],[],[],_::_,_,h,_,_=>by simp[Kt] at h
 |_::_,[],_,_,_,h,_,_=>by simp[Kt] at h
 |_::_,_::_,[],_,_,h,_,_=>by simp[Kt] at h
 |_::_,_::_,_::_,[],_,h,_,_=>by simp[Kt] at h
theorem X5{np:Nat}{V:Vl}:∀ {ps:List GG} {vs:List SV} {ms:List (Option MP)} {k:Nat},VW np k ps vs ms=true→ms.length=ps.length∧∀ (i:Nat) (p:GG),ps[i]? = some p→p.reg≠none→
  (ms.map (Ux V)).getD i (0,0)=V.ν (k+i)∧vs[i]? = some (GL np (k+i) p)
 | [],[],[],k,_=>⟨rfl,fun i p h=>by simp at h⟩
 | p :: ps,v::vs,m::ms,k,h=>by
  simp only[VW,Bd] at h;obtain⟨h0,h1⟩:=h;obtain⟨g1,g2⟩:=X5 (V:=V) h1;refine⟨by simp[g1],fun i q hq hn=>?_⟩
  cases i with
  | zero=>
   simp only[VT,Am] at hq;subst hq
   cases hr:p.reg with
   |none=>exact absurd hr hn
   | some r=>
    rw[hr] at h0
    cases m with
    |none=>cases h0
    |some x=>
     simp only[Bd] at h0;have e1:=CL h0.1.1;have e2:=CL h0.1.2;have e3:=SV.beq_eq h0.2;subst e3;refine⟨?_,by simp⟩;simp only[NT,Qu,Ux,e1,e2,Q3]
  |succ i=>
   obtain⟨e1,e2⟩:=g2 i q (by simpa using hq) hn;refine⟨?_,?_⟩
   ·simp only[NT,Ze,e1];congr 1;omega
   ·rw[zbv,e2];congr 2;omega
 | [],[],_::_,_,h=>by simp[VW] at h
 | [],_::_,_,_,h=>by simp[VW] at h
 |_::_,[],_,_,h=>by simp[VW] at h
 |_::_,_::_,[],_,h=>by simp[VW] at h
section
variable{P:Program}{C:Cx}{GB:Nat}{GC:Nat→Nat→Option Value}(hC:Sb P C GB GC){i:I7}{ad:Nat→Nat×Nat}(hk:i.chk C=true)(hgl:SH GC ad i.gls)(hgb:∀ x∈i.gls,(Gw ad x.1).1<GB)
 (ι:∀ E:En,E.P=P→E.C=C→E.GB=GB→E.GC=GC→Ju E i.c∧∀ f j,lk f C.inl=some j→Ju E j.c)
include hC hk hgl hgb ι
theorem AD3{a:Act}{w:World}{ins:List (List Int)}{bs:List (Nat×Nat)}(ε:GW GC w)(δ:GB≤w.heap.size)(hP:Kt GB w i.s0.params (i.ps.map fun t=>a.tmps.getD t undef) ins bs)(hS:G8 i.s0.params bs)
  (hsz:a.tmps.size=i.nt) (hdf:a.defers= []) (ho:Cn C.T (i.tree C) (A8 ins)):
  i.c.wp P (fun e a' w'=>∃ b r,i.step C ins=some (b,r)∧(b=true∧e= .normal∨b=false∧e= .exit i.id)∧Kt GB w' i.s0.params (i.ps.map fun t=>a'.tmps.getD t undef) r bs∧CV w w' (YP i.s0 bs)∧
   a'.tmps.size=i.nt∧a'.defers= []∧(∀ t,t∈i.keep→a'.tmps.getD t undef=a.tmps.getD t undef)∧
   (∀ (j t:Nat) (p:GG),i.s0.params[j]? = some p→p.reg≠none→i.ps[j]? = some t→a'.tmps.getD t undef=a.tmps.getD t undef)∧GW GC w') a w:=by
 unfold I7.chk at hk;simp only[Bd] at hk;obtain⟨⟨⟨⟨⟨⟨⟨k1,k2⟩,k3⟩,k4⟩,k5⟩,k6⟩,k7⟩,k8⟩:=hk;have hnt:=Na k4;have hnp:=Na k5;have hlen:=CL k6;have hE0:=hC.ok w (YP i.s0 bs) (i0 bs 0 i.s0.params) i.s0.params.length (fun j=>(i.ps.map fun t=>a.tmps.getD t undef).getD j undef) δ;have hS0:=kv (P:=P) (C:=C) (gls:=i.gls) (nt:=i.nt) hE0.gc ε δ hP hS k2 hgl hgb hnt hnp;generalize hargs:(i.ps.map fun t=>a.tmps.getD t undef)=args at hP hS0 hE0
 let np:=i.s0.params.length
 let V0:=v0 ad np args ins bs i.gls
 let V:Vl:= { V0 with σ:=fun j=>if j<2*np then V0.σ j else a.tmps.getD (j-2*np) undef }
 let nv:=2*np+i.nt
 let E0:En:=e0 P C GB GC i.s0 args bs w
 let E:En:=Ev E0 (i0 bs 0 i.s0.params) nv V.σ
 have hE:Qs E:=Qs.ev hE0 _ _ _;have hag:Ag (2*np) (Db (cz i.s0.params i.gls i.nt).rg) V0 V:=⟨fun _ _=>rfl,fun j hj=>if_pos hj,fun _ _=>rfl⟩;have hm0:=hS0.s.m.ag hag hS0.s.scp;have hargl:args.length=np:=by rw[← hargs,Vj,hlen]
 have hSt:Ho E i.st V a w:=by
  refine⟨⟨⟨hm0.rgs,hm0.one,hm0.sep,hm0.cov,hm0.frm,hm0.gw⟩,fun r hr lv hlv=>LV.lt_mono (show 2*np≤nv by omega) (fun _ h=>h) (hS0.s.scp r hr lv hlv),⟨fun t v hv=>?_,fun g l hg=>?_,fun p hp=>hS0.s.t.ln p hp⟩,hsz,hdf⟩,fun p hp=>?_,fun p hp=>hS0.kp p hp,fun _ _=>rfl,JP _⟩
  ·have hv':lk t (ABn np 0 i.ps i.s0.params++i.keep.map fun t=>(t,SV.any (2*np+t)))=some v:=hv
   rcases cZ hv' with ⟨j,p,h1,h2,h3⟩|h
   ·rw[NU] at h3;subst h3;have h4:=Z7 (np:=np) (i:=0) h2;rw[NU] at h4;obtain⟨g1,g2,g3⟩:=hS0.s.t.tm j (GL np j p) (by simp only[St.look,cz,lk];exact h4);have hj:j<args.length:=by have:=(Pi.1 h2).1;omega
    refine⟨?_,SV.ok_ag hag g3 g2,SV.lt_mono (show 2*np≤nv by omega) (fun _ h=>h) g3⟩;rw[SV.den_ag hag g3, ← g1,Ti,Ti,Array.getElem?_append_left (by simpa using hj)];have:args[j]? = some (a.tmps.getD t undef):=by rw[← hargs,OX,h1];rfl
    rw[List.getElem?_toArray (xs:=args),this,Ti];rfl
   ·obtain⟨h1,h2⟩:=dC h;subst h2;have hlt:t<i.nt:=by
     have:=(List.mem_filter.1 h1).1;exact fD.1 this
    refine⟨?_,trivial,?_⟩
    ·show _=(if 2*np+t<2*np then V0.σ (2*np+t) else a.tmps.getD (2*np+t-2*np) undef);rw[if_neg (by omega),Nat.add_sub_cancel_left]
    ·exact YA (show 2*np+t<nv by omega)
  ·exact hS0.s.t.gl g l hg
  ·exact zcg (hS0.ll p hp) (show 2*np≤nv by omega)
 obtain⟨ρL,eL,stL,m0,hev,hlf⟩:=Pg (ρc:=A8 ins) k1;have aaL:=hlf;unfold I7.leafB at aaL
 cases hleaf:i.leaf eL stL with
 |none=>rw[hleaf] at aaL;cases aaL
 |some q=>
 obtain⟨b,as⟩:=q;have hstep:i.step C ins=some (b,as.map (·.den ρL)):=by
  unfold I7.step;rw[hev];simp only[hleaf]
 have hT:(i.tree C).HoldsA C.T (fun ρ ex st=>Jt nv V.ρ ρ∧ex=eL∧st=stL∧as.map (·.den ρ)=as.map (·.den ρL)) nv V.ρ:=fun ρ' hρ=>by
  refine NJ (fun m hm hr=>⟨hρ,rfl,rfl,by
   unfold I7.leafB at hm;rw[hleaf] at hm;exact Args.den_RM hr hm⟩) k1 ?_ ho hev
  ·intro j hj
   have hj':=Zi hj;rw[hρ j (show j<nv by omega)];show V0.ρ j=_;simp only[V0,v0,np,hj',if_true];rfl
 have hcv:=ι E rfl rfl rfl rfl;have ab9:=ι E0 rfl rfl rfl rfl;have hex:=Zv (E0:=E0) hE0 hC.il ab9.2 i.n (i0 bs 0 i.s0.params) nv V.σ _ [] i.c i.st V a w (fun x hx=>(by cases hx)) trivial hcv.1 rfl hSt hT;refine wp_mono (Kg hex) ?_
 rintro e a' w' ⟨ex,st',V',hx,υ,hS',hΦ⟩
 obtain⟨ab3,rfl,rfl,hden⟩:=hΦ V'.ρ (Jt.refl _ _);refine⟨b,as.map (·.den ρL),hstep,?_⟩;unfold I7.leaf at hleaf
 split at hleaf
 ·cases hleaf
 rename_i b0 hb0
 split at hleaf
 ·cases hleaf
 rename_i vs hvs
 split at hleaf
 ·cases hleaf
 rename_i as' ms hA
 cases hb:(WY st'.rg ms&&VW i.s0.params.length 0 i.s0.params vs ms&&i.keep.all (pq i.s0.params.length st')&&Nat.beq st'.nt i.nt) with
 |false=>rw[hb] at hleaf;cases hleaf
 |true=>
 rw[hb,cond_true,Am,Prod.mk.injEq] at hleaf;obtain⟨rfl,rfl⟩:=hleaf;simp only[Bd] at hb;have acb:=CL hb.2;replace hb:=hb.1;obtain⟨q1,q2⟩:=Qo hS' hvs;obtain⟨r1,-, -, -, -⟩:=Tv (E:=E) hS'.s.m hS'.s.t.ln hA (fun v hv=>(q2 v hv).1) hb.1.1;obtain⟨u1,u2⟩:=X5 (V:=V') hb.1.2;have hνp:∀ (j:Nat) (p:GG),i.s0.params[j]? = some p→p.reg≠none→V'.ν j=bs.getD j (0,0):=fun j p hp hn=>by
  have:=YF (bs:=bs) (i:=0) hp hn;rw[NU] at this;exact (hS'.kp _ this).2
 obtain⟨l1,l2,l3⟩:=UU hP;refine⟨?_,?_,hS'.s.m.frm,hS'.s.nt.trans acb,hS'.s.df,fun t ht=>?_,fun j t p hp hn ht=>?_,hS'.s.m.gw⟩
 ·cases hx with
  |normal=>simp only[Am] at hb0;exact .inl ⟨hb0.symm,rfl⟩
  | exit j=>
   simp only at hb0
   cases hj:Nat.beq j i.id with
   |false=>rw[hj] at hb0;cases hb0
   |true=>
    rw[hj,cond_true,Am] at hb0;have:=CL hj;subst this;exact .inr ⟨hb0.symm,rfl⟩
  |ret=>cases hb0
 ·rw[q1, ← hden];refine uM r1 l3 fun j p hp hn=>?_
  rw[(u2 j p hp hn).1,NU,hνp j p hp hn]
 ·have h1:=Ll.1 hb.2 t ht;unfold pq at h1
  split at h1
  ·rename_i j hj
   have:=CL h1;subst this;have hlt:t<i.nt:=fD.1 (List.mem_filter.1 ht).1;obtain⟨g1,-, -⟩:=hS'.s.t.tm t _ (by simp only[St.look,υ,lk];exact hj);rw[g1];show V'.σ (2*np+t)=_;rw[hS'.ks (2*np+t) (show 2*np+t<nv by omega)];show (if 2*np+t<2*np then V0.σ (2*np+t) else a.tmps.getD (2*np+t-2*np) undef)=_;rw[if_neg (by omega),Nat.add_sub_cancel_left]
  ·cases h1
 ·have h1:=(u2 j p hp hn).2;rw[NU] at h1;have h2:a'.tmps.getD t undef=(GL np j p).den V':=by
   have e1:(i.ps.map fun t=>a'.tmps.getD t undef)[j]? = some (a'.tmps.getD t undef):=by rw[OX,ht];rfl
   rw[q1,OX,h1] at e1;exact (SY e1).symm
  have h4:=Z7 (np:=np) (i:=0) hp;rw[NU] at h4;obtain⟨g1,g2,g3⟩:=hS0.s.t.tm j (GL np j p) (by simp only[St.look,cz,lk];exact h4);have hj:j<args.length:=by have:=(Pi.1 hp).1;omega
  have h5:a.tmps.getD t undef=(GL np j p).den V0:=by
   rw[← g1,Ti (xs:=args.toArray++_),Array.getElem?_append_left (by simpa using hj)];have:args[j]? = some (a.tmps.getD t undef):=by rw[← hargs,OX,ht];rfl
   rw[List.getElem?_toArray (xs:=args),this];rfl
  rw[h2,h5];have hlt:j<np:=by omega
  have hν:V'.ν j=V0.ν j:=by
   rw[hνp j p hp hn];have:=(hS0.kp _ (by have:=YF (bs:=bs) (i:=0) hp hn;rw[NU] at this;exact this)).2;exact this.symm
  have hρ:V'.ρ (np+j)=V0.ρ (np+j):=ab3 (np+j) (show np+j<nv by omega);have hσ:V'.σ j=V0.σ j:=by
   rw[hS'.ks j (show j<nv by omega)];exact if_pos (show j<2*np by omega)
  cases p with
  |mem ks g wr=>simp only[GL,SV.den_t,TV.den_l,LV.den_ptr,hν]
  |sl ks g wr=>simp only[GL,SV.den_t,TV.den_l,LV.den_sl,CX.den_n,X.den,hν,hρ]
  |slm ks g wr=>simp only[GL,SV.den_t,TV.den_l,LV.den];exact hσ
  |int k=>exact absurd rfl hn
  |bool=>exact absurd rfl hn
  |agg ks=>exact absurd rfl hn
omit hC hk hgl hgb ι in
theorem AJS{t:Nat}(h1:t<i.nt)(h2:EH t i.cl=false)(h3:t ∉ i.ps):t∈i.keep:=by
 have h4:EH t i.ps=false:=by
  cases hh:EH t i.ps with
  |false=>rfl
  |true=>exact absurd (Eh.1 hh) h3
 unfold I7.keep;exact List.mem_filter.2 ⟨fD.2 h1,by simp[Tu,h2,h4]⟩
def yU(i:I7)(_C:Cx)(GB:Nat)(GC:Nat→Nat→Option Value)(a0:Act)(w0:World)(bs:List (Nat×Nat))(r:List (List Int))(a':Act)(w':World):Prop:=
 Kt GB w' i.s0.params (i.ps.map fun t=>a'.tmps.getD t undef) r bs∧CV w0 w' (YP i.s0 bs)∧a'.tmps.size=i.nt∧a'.defers= []∧(∀ t,t∈i.keep→a'.tmps.getD t undef=a0.tmps.getD t undef)∧
  (∀ (j t:Nat) (p:GG),i.s0.params[j]? = some p→p.reg≠none→i.ps[j]? = some t→a'.tmps.getD t undef=a0.tmps.getD t undef)∧GW GC w'
theorem gZ{a0:Act}{w0:World}{bs:List (Nat×Nat)}(hS:G8 i.s0.params bs)(acI:GB≤w0.heap.size):∀ (n:Nat) (a:Act) (w:World) (ins:List (List Int)),yU i C GB GC a0 w0 bs ins a w→Rj (i.step C) (fun ins=>Cn C.T (i.tree C) (A8 ins)) n ins→
  Code.rounds P i.c (Exit.inBlock i.id fun e a' w'=>e= .normal∧yU i C GB GC a0 w0 bs (Gf (i.step C) n ins) a' w') n a w
 |0,a,w,ins,_,ho=>ho.elim
 | n+1,a,w,ins,hI,ho=>by
  obtain⟨h1,h2,h3,h4,h5,h6,h7⟩:=hI;obtain⟨o1,o2⟩:=ho;rw[rounds_succ];refine wp_mono (AD3 hC hk hgl hgb ι h7 (G9 acI h2.1) h1 hS h3 h4 o1) ?_
  rintro e a' w' ⟨b,r,hst,hbe,g1,g2,g3,g4,g5,g6,g7⟩
  have hend:yU i C GB GC a0 w0 bs r a' w':=⟨g1,h2.trans g2,g3,g4,fun t ht=>(g5 t ht).trans (h5 t ht),fun j t p hp hn ht=>(g6 j t p hp hn ht).trans (h6 j t p hp hn ht),g7⟩;rw[hst] at o2;unfold Gf;rw[hst]
  rcases hbe with ⟨rfl,rfl⟩|⟨rfl,rfl⟩
  ·exact gZ hS acI n a' w' r hend o2
  ·show (if i.id=i.id then _ else _);rw[if_pos rfl];exact⟨rfl,hend⟩
omit hC hk hgl hgb ι in
theorem yT{v:List (List Int)→List (List Int)}{ins r:List (List Int)}(hv:v ins=r){args:List Value}{w:World}{bs:List (Nat×Nat)}{f:Nat→Value}:∀ {ps:List GG} {ts:List Nat} {xs:List (List Int)} {cs:List (Nat×Nat)} {k:Nat},Kt GB w ps (ts.map f) xs cs→(∀ (j:Nat),xs[j]? = r[k+j]?)→
  RVs ins args [] (ZL v k ps) ((ssL ts ps).map f)
 | [],[],[],[],k,_,_=>trivial
 | p::ps,t::ts,x::xs,c::cs,k,h,hx=>by
  have ih:=yT hv (args:=args) (w:=w) (bs:=bs) (f:=f) (ps:=ps) (ts:=ts) (xs:=xs) (cs:=cs) (k:=k+1) h.2 (fun j=>by have:=hx (j+1);rw[zbv] at this;rw[this];congr 1;omega);have h0:=hx 0;rw[VT,Q3] at h0;have hg:r.getD k []=x:=by rw[List.getD, ← h0];rfl
  have h1:=h.1
  cases p with
  |int κ=>
   obtain⟨y,rfl,e,hr⟩:=h1;refine⟨?_,ih⟩;show f t= .int κ (d1 ((v ins).getD k []))∧JC κ (d1 ((v ins).getD k []));rw[hv,hg];exact⟨e,hr⟩
  |bool=>
   obtain⟨y,rfl,e⟩:=h1;refine⟨?_,ih⟩;show f t= .bool (d1 ((v ins).getD k []) != 0);rw[hv,hg];exact e
  |agg ks=>
   refine⟨?_,ih⟩;show Hf ks (Aw ks.length ((v ins).getD k []))∧f t= .agg (AZ ks (Aw ks.length ((v ins).getD k []))).toArray;rw[hv,hg,Au h1.1.1];exact h1
  |mem ks g wr=>exact ih
  |sl ks g wr=>exact ih
  |slm ks g wr=>exact ih
 | [],_::_,_,_,_,h,_=>by simp[Kt] at h
 | [],[],_::_,_,_,h,_=>by simp[Kt] at h
 | [],[],[],_::_,_,h,_=>by simp[Kt] at h
 |_::_,[],_,_,_,h,_=>by simp[Kt] at h
 |_::_,_::_,[],_,_,h,_=>by simp[Kt] at h
 |_::_,_::_,_::_,[],_,h,_=>by simp[Kt] at h
omit hC hk hgl hgb ι in
theorem zG{t:Nat}:∀ {ts:List Nat} {ps:List GG},ts.length=ps.length→t∈ts→t ∉ ssL ts ps→∃ (j:Nat) (p:GG),ps[j]? = some p∧p.reg≠none∧ts[j]? = some t
 | [],_,_,h,_=>by cases h
 |u::ts,[],hl,_,_=>by simp at hl
 | u::ts,p::ps,hl,h,hn=>by
  have next:t∈ts→t ∉ ssL ts ps→∃ (j:Nat) (q:GG),(p::ps)[j]? = some q∧q.reg≠none∧(u::ts)[j]? = some t:=fun h hn=>by
   obtain⟨j,q,h1,h2,h3⟩:=zG (by simpa using hl) h hn;exact⟨j+1,q,by simpa using h1,h2,by simpa using h3⟩
  rcases J4.1 h with rfl|h
  ·cases p with
   |int k=>exact absurd LA hn
   |bool=>exact absurd LA hn
   |agg ks=>exact absurd LA hn
   |mem ks g wr=>exact⟨0,_,rfl,by simp[GG.reg],rfl⟩
   |sl ks g wr=>exact⟨0,_,rfl,by simp[GG.reg],rfl⟩
   |slm ks g wr=>exact⟨0,_,rfl,by simp[GG.reg],rfl⟩
  ·refine next h fun hh=>hn ?_
   cases p<;>first|exact MQ _ hh|exact hh
theorem I7.ok{E:En}(e1:E.P=P)(e2:E.GB=GB)(e3:E.GC=GC){d:LD}(d1:d.ps=i.ps)(d2:d.ss=i.ss)(d3:d.cl=i.cl)(d4:d.nt=i.nt){pre:List (List Int)→Prop}(hT:∀ fe,lk d.lid E.C.T=some fe→fe= .one (i.sum C pre))
  (aaM:∀ ins,Ka i.s0.params ins→pre ins→i.pre C ins):dM E d i.id (.loop i.c):=by
 intro fe hfe a w ins bs ε δ hP hS hpr hdf hsz
 rw[hT fe hfe] at hP hS hpr ⊢;rw[e2] at δ hP;rw[e3] at ε ⊢;rw[e1];rw[d1] at hP ⊢;rw[d4] at hsz;have hP0:Kt GB w i.s0.params (i.ps.map fun t=>a.tmps.getD t undef) ins bs:=hP;have hS0:G8 i.s0.params bs:=hS;have hpr0:i.pre C ins:=aaM ins (ZY hP0) (hpr rfl);have hI:yU i C GB GC a w bs ins a w:=⟨hP0,CV.refl _ _,hsz,hdf,fun _ _=>rfl,fun _ _ _ _ _ _=>rfl,ε⟩;have hr:=gZ hC hk hgl hgb ι hS0 δ (i.fuel ins) a w ins hI hpr0;refine wp_mono (wp_block (wp_loop_rounds _ hr)) ?_
 rintro e a' w' ⟨rfl,g1,g2,g3,g4,g5,g6,g7⟩
 have hval:i.val C ins=Gf (i.step C) (i.fuel ins) ins:=rfl;have hk':=hk;unfold I7.chk at hk';simp only[Bd] at hk';obtain⟨⟨⟨⟨⟨⟨⟨k1,k2⟩,k3⟩,k4⟩,k5⟩,k6⟩,k7⟩,k8⟩:=hk';have hlen:=CL k6;refine⟨rfl,[],(i.ss.map fun t=>a'.tmps.getD t undef),⟨rfl,fun b hb=>(by cases hb),fun x y p q b c hp=>(by simp[FE.sel,I7.sum] at hp),?_,fun p hp=>?_,fun j p b hp=>(by simp[FE.sel,I7.sum] at hp),?_,g7⟩,g3.trans hsz.symm,g4,fun t ht hn=>?_,fun j t v hj hv=>?_⟩
 ·have:YP (FE.sel (.one (i.sum C pre)) true) bs=YP i.s0 bs:=by
   funext b o
   apply propext
   unfold YP;simp only[FE.sel,I7.sum,VI]
   constructor
   ·rintro⟨p,⟨q,hq,rfl⟩,h⟩;exact⟨q,hq,h⟩
   ·rintro⟨q,hq,h⟩;exact⟨_,⟨q,hq,rfl⟩,h⟩
  rw[this];exact g2
 ·simp only[FE.sel,I7.sum,VI] at hp;obtain⟨q,hq,rfl⟩:=hp;have h1:=Ll.1 k3 q hq;simp only[hval]
  split at h1
  ·rename_i ks g hp
   obtain⟨v,x,b,p1,p2,p3,p4⟩:=Q7 g1 _ _ hp;have:=HV (fun _ _=>N9) h1;subst this;have hx:(Gf (i.step C) (i.fuel ins) ins).getD q.1 []=x:=by rw[List.getD,p2];rfl
   rw[He p3,hx,Au p4.2.1.1.1];exact p4.2.1
  ·rename_i ks g hp
   obtain⟨v,x,b,p1,p2,p3,p4⟩:=Q7 g1 _ _ hp;have:=HV (fun _ _=>N9) h1;subst this;obtain⟨c,_,_,p5,_⟩:=p4;have hx:(Gf (i.step C) (i.fuel ins) ins).getD q.1 []=x:=by rw[List.getD,p2];rfl
   rw[He p3,hx,Au p5.1.1];exact p5
  ·rename_i ks g hp
   obtain⟨v,x,b,p1,p2,p3,p4⟩:=Q7 g1 _ _ hp;have:=HV (fun _ _=>N9) h1;subst this;obtain⟨m,c,_,_,p5,_⟩:=p4;have hx:(Gf (i.step C) (i.fuel ins) ins).getD q.1 []=x:=by rw[List.getD,p2];rfl
   rw[He p3,hx,Au p5.1.1];exact p5
  ·cases h1
 ·exact yT (v:=i.val C) (r:=i.val C ins) rfl (w:=w') (bs:=bs) g1 (fun j=>by rw[NU];rfl)
 ·rw[d3] at ht;rw[d2] at hn
  by_cases hlt:t<i.nt
  ·by_cases hps:t∈i.ps
   ·obtain⟨j,p,h1,h2,h3⟩:=zG hlen hps hn;exact g6 j t p h1 h2 h3
   ·exact g5 t (AJS hlt ht hps)
  ·simp[Array.getD,g3,hsz,hlt]
 ·rw[d2] at hj;rw[OX,hj] at hv;exact SY hv
end
end
section
open Go
def RS(id:Nat):Code→List Code
 | .seq a b=>RS id a++RS id b
 | .cond _ t e=>RS id t++RS id e
 | .block j (.loop c)=>(bif Nat.beq j id then [c] else [])++RS id c
 | .block _ c=>RS id c
 | .loop c=>RS id c
 |_=>[]
def Sj(id:Nat)(c:Code):Code:=match RS id c with
 | [b]=>b
 |_=>.skip
def Uj(ids:List Nat):Code→Bool
 | .seq a b=>Uj ids a&&Uj ids b
 | .cond _ t e=>Uj ids t&&Uj ids e
 | .block id c=>Tu id ids&&Uj ids c
 | .loop c=>Uj ids c
 |_=>true
theorem Ju.of_noBlk{E:En}:∀ (c:Code),Uj (E.C.loops.map (·.1)) c=true→Ju E c
 | .seq a b,h=>by simp only[Uj,Bd] at h;exact⟨Ju.of_noBlk a h.1,Ju.of_noBlk b h.2⟩
 | .cond _ a b,h=>by simp only[Uj,Bd] at h;exact⟨Ju.of_noBlk a h.1,Ju.of_noBlk b h.2⟩
 | .block id c,h=>by
  simp only[Uj,Bd] at h;refine⟨Ju.of_noBlk c h.2,fun d hd=>?_⟩;have h1:=h.1;have:EH id (E.C.loops.map (·.1))=true:=Eh.2 (VI.2 ⟨_,Oo hd,rfl⟩);simp[Tu,this] at h1
 | .loop c,h=>Ju.of_noBlk c h
 | .skip,_=>trivial
 | .region .., _=>trivial
 | .exit _,_=>trivial
 | .ret,_=>trivial
 | .goto _,_=>trivial
 | .label _,_=>trivial
 | .scope _,_=>trivial
 | .rangeFunc .., _=>trivial
 | .refuse _,_=>trivial
theorem Ju.one{E:En}{id:Nat}{d:LD}{c b:Code}(hl:E.C.loops= [(id,d)])(hb:Me id c= [.loop b])(hL:dM E d id (.loop b))(h1:∀ fe,lk d.lid E.C.T=some fe→∀ x,fe.cnd x=true):Ju E c:=
 Ju.of_blocks c fun j e he=>by
  rw[hl] at he;simp only[lk] at he
  cases hj:Nat.beq id j with
  |false=>rw[hj] at he;cases he
  |true=>
   rw[hj,cond_true,Am] at he;have:=CL hj;subst this;subst he;refine⟨fun body hbd=>?_,h1⟩;rw[hb,Nc] at hbd;subst hbd;exact hL
theorem AQ.okHL{i:AQ}{P:Program}{C:Cx}{GB:Nat}{GC:Nat→Nat→Option Value}{ad:Nat→Nat×Nat}(hC:Sb P C GB GC){f:Nat}{fn:Func}(hf:P.funcs[f]? = some fn)(hb:fn.body=some i.c)(hn:fn.ntmps=i.nt)(hr:fn.results.toList=i.rvs)
  (ι:∀ E:En,E.P=P→E.C=C→E.GB=GB→E.GC=GC→Ju E i.c∧∀ f i,lk f C.inl=some i→Ju E i.c) (hgl:SH GC ad i.gls) (hgb:∀ x∈i.gls,(Gw ad x.1).1<GB) (hk:i.chk C=true) {pre:List (List Int)→Prop} (hpd:∀ ins,Ka i.s0.params ins→pre ins→Cn C.T (i.tree C) (A8 ins)):Bp P GB GC f (.one (i.sumH C pre)):=
 Bp.one fun args ins bs w h1 h2 h3 h4 h5=>AQ.gen (hyp:=pre) hC hf hb hn hr ι hgl hgb hk hpd args ins bs w h1 h2 h3 h4 (h5 rfl)
end
end Go.Proofs.YtloibefkijfdlaaGreatDoor
