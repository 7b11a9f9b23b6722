/- verifyWithDom: the walk, for any key, message and signature. -/
import Derived.Test.YtloibefkijfdlaaGreatDoorVra
namespace Go.Proofs.YtloibefkijfdlaaGreatDoor
open Go Ma Go.RowKit Go.Lib
def vK(d R lP m:List Int):Nat:=(Ct (MC (((d++R)++lP)++m))%Qm).toNat
def kz(d lP:List Int)(A:Pt)(m sg:List Int):Prop:=sg.length=64/\Ct (sg.drop 32)<Qm/\sg.take 32=JD ((A.neg.zm (vK d (sg.take 32) lP m:Nat)).add (JS.zm ((Ct (sg.drop 32)).toNat:Nat)))
structure VfP (GC:Nat->Nat->Option Value) (V:Prop) (w:World) (e:Ending) (w':World):Prop where
 ex:(V/\e= .returned .nilIface)\/(¬V/\∃t x,e= .returned (.iface t x))
 an:BM w w' (λ_ _=>False)
 gw:GW GC w'
theorem yR:∀n:Nat,n<32->Ah .and .u8 (n:Int) 224=0:=by decide
theorem AMN{v:Int}(h0:0<=v)(h:Ah .and .u8 v 224≠0):32<=v:=by
 rcases Int.lt_or_le v 32 with h1|h1
 ·exfalso;have h2:=yR v.toNat (by omega);rw[Int.toNat_of_nonneg h0] at h2;exact h h2
 ·exact h1
theorem za{l:List Int}(hl:l.length=32)(h:cM l)(ht:32<=l.getD 31 0):¬Ct l<Qm:=by
 match l,hl,h with
 | [b0,b1,b2,b3,b4,b5,b6,b7,b8,b9,Ξ,Ψ,υ,τ,b14,b15,b16,b17,Ω,ψ,b20,b21,b22,b23,Δ,Γ,Θ,b27,b28,b29,b30,χ],_,h=>
  have ht:32<=χ:=ht;have e: [b0,b1,b2,b3,b4,b5,b6,b7,b8,b9,Ξ,Ψ,υ,τ,b14,b15,b16,b17,Ω,ψ,b20,b21,b22,b23,Δ,Γ,Θ,b27,b28,b29,b30,χ]= [b0,b1,b2,b3,b4,b5,b6,b7,b8,b9,Ξ,Ψ,υ,τ,b14,b15,b16,b17,Ω,ψ,b20,b21,b22,b23,Δ,Γ,Θ,b27,b28,b29,b30] ++ [χ]:=rfl;have h8:cM [b0,b1,b2,b3,b4,b5,b6,b7,b8,b9,Ξ,Ψ,υ,τ,b14,b15,b16,b17,Ω,ψ,b20,b21,b22,b23,Δ,Γ,Θ,b27,b28,b29,b30]:=λx hx=>h x (by rw[e];exact List.mem_append_left _ hx)
  have hb:=(KV h8).1;rw[e,QQ];show ¬Ct _+256^31*(χ+256*0)<Qm;have hp:(256:Int)^31=452312848583266388373324160190187140051835877600158453279131187530910662656:=by decide +kernel
  rw[hp];unfold Qm;generalize Ct [b0,b1,b2,b3,b4,b5,b6,b7,b8,b9,Ξ,Ψ,υ,τ,b14,b15,b16,b17,Ω,ψ,b20,b21,b22,b23,Δ,Γ,Θ,b27,b28,b29,b30]=t at *
  omega
section
variable{ρ:Operand->Value}{d:Option Tmp}{x y:Operand}{ty t t':TypeId}{pos:String}{af:Array Edge}{w:World}
theorem AIc{i j:Int}(hx:ρ x= .int .u8 i)(hy:ρ y= .int .u8 j):(execOp ρ ⟨d,.binOp .and t x y t',ty,pos,af,none⟩).run Tryz.prog w= .ok (.value (.int .u8 (Ah .and .u8 i j))) w:=by
 simp[execOp,go_sem,hx,hy];rfl
theorem AIv{i j:Int}(hx:ρ x= .int .u8 i)(hy:ρ y= .int .u8 j):(execOp ρ ⟨d,.binOp .neq t x y t',ty,pos,af,none⟩).run Tryz.prog w= .ok (.value (.bool (i != j))) w:=by
 simp[execOp,go_sem,hx,hy]
end
set_option maxRecDepth 100000 in
set_option maxHeartbeats 4000000 in
theorem AKX{GB:Nat}{GC:Nat->Nat->Option Value}{ad:Nat->Nat×Nat}(hG:Gw GB GC ad){w:World}{B bs os cs:Nat}{xA lP sg msg:List Int}{A:Pt}{vm:Value}{p c:ByteArray}(ε:GW GC w)(δ:GB<=w.heap.size)(hS:C8 w 5 0 R9)(mA:AQ true w (B,0) (KU 20) xA)(hA:R3 A xA)(mP:AQ true w (B,20) (List.replicate 32 .u8) lP)(hm:IX w vm msg)(gr:msg.length<1099511627776)(C2:p.size<1099511627776)(kj:c.size<1099511627776)(hx:C8 w bs os sg)(hl:sg.length=64)(cS:64<=cs):
  Calls Tryz.prog 83 #[pp B,vm,.slice (some ⟨bs,os,none⟩) 64 cs,.string p,.string c] w (VfP GC (kz (Jg p c) lP A msg sg) w):=by
 have aky:bs<w.heap.size:=hx.lt (by omega);have hBl:B<w.heap.size:=mA.ltK (by decide);have hdl:(Jg p c).length<3298534883328:=by
  unfold Jg;split
  ·simp
  ·simp only[MN,JB,Uk,SM];omega
 refine enter (args:=[pp B,vm,.slice (some ⟨bs,os,none⟩) 64 cs,.string p,.string c]) Tryz.func83 rfl (n:=105) rfl λa F=>?_
 refine AO (AX F rfl λa F=>AJ ?_);refine wp_seq (AO (AA F rfl λa F=>AZ F rfl (NL (p:=some ⟨bs,os,none⟩) (m:=64) (c:=cs) (F.ev (t:=19) rfl)) λa F=>AB F rfl λa F=>AJ ?_));refine AO (AA F rfl λa F=>AZ F rfl (OV (i:=64) (j:=64) F.e rfl) λa F=>AJ ?_);refine wp_cond (t:=false) F.e (wp_skip ?_);have hd:(sg.drop 32).length=32:=by rw[Uj,hl]
 have h63:(sg.drop 32).getD 31 0=sg.getD 63 0:=by simp[List.getD,List.getElem?_drop]
 have hd8:cM (sg.drop 32):=λx h=>hx.1 x (LL h)
 have aiP:0<=sg.getD 63 0:=(ADQ hx.1 63).1;refine wp_seq (AO (AA F rfl λa F=>AZ F rfl (uC (k:=63) F.e rfl (by decide)) λa F=>AZ F rfl (tH F.e (hx.2 63 (by omega))) λa F=>AZ F rfl (AIc F.e rfl) λa F=>AZ F rfl (AIv F.e rfl) λa F=>AJ (fw F rfl (λhb=>?_) λ_=>wp_skip ?_)))
 ·have aeV:Ah .and .u8 (sg.getD 63 0) 224≠0:=by simpa using hb
  have iz:¬kz (Jg p c) lP A msg sg:=λh=>za hd hd8 (by rw[h63];exact AMN aiP aeV) h.2.1
  refine AO (DI F rfl (Ar rfl rfl Tryz.call81) (NU hG ε δ _) λe w2 h2=>?_);obtain⟨t,v,he⟩:=h2.ret;refine⟨_,he,λa F=>AB F rfl λa F=>AJ ?_⟩;refine DC ⟨F.df,.iface t v,?_,.inr ⟨iz,t,v,rfl⟩,h2.an,h2.gw⟩;simp[results,Tryz.results83,go_sem];exact F.gd rfl
 obtain⟨f,F,e0,e1,e2,e3,e4⟩:∃f,Fr a 105 f/\f 0=pp B/\f 1=vm/\f 2= .slice (some ⟨bs,os,none⟩) 64 cs/\f 3= .string p/\f 4= .string c:=⟨_,F,rfl,rfl,rfl,rfl,rfl⟩;refine AO (DI F rfl (LJ rfl Tryz.call92) (bX hG ε δ) λe w1 h1=>?_);obtain⟨D,o,he,hB,PB⟩:=h1.ret;refine⟨_,he,λa F=>AB F rfl λa F=>AJ ?_⟩;have g1:=h1.an;have qk:GB<=D:=z8 δ hB;refine Jy (J:=λa w'=>∃f,Fr a 105 f/\f 0=pp B/\f 1=vm/\f 2= .slice (some ⟨bs,os,none⟩) 64 cs/\f 12= .pointer (some ⟨D,o,none⟩)/\HG w' D o (Jg p c)/\BM w w' (λ_ _=>False)/\GW GC w') ?_ ?_
 ·refine AO (AA F rfl λa F=>AZ F rfl (qW (t:=⟨#[]⟩) (F.ev (t:=34) e3) rfl) λa F=>AJ (fw F rfl (λhb=>?_) λhb=>?_))
  ·have Hi:Jg p c=([]++Ue p ++ [IntKind.u8.wrap (c.size:Int)])++Ue c:=by
    unfold Jg;rw[if_neg];intro h;have e:=QO;rw[e,h] at hb;cases hb
   have D0:D<w1.heap.size:=by obtain⟨x,D,_⟩:=PB.ex;exact D.hs.lt
   refine AO (AA F rfl λa F=>AA F rfl λa F=>AZ F rfl (aR (F.ev (t:=37) e3)) λa F=>
    DI F rfl (Au rfl (F.ev (t:=36) rfl) F.e Tryz.call93) (Eo hG (LF hG h1.gw (II _ _)) (z8 (z8 δ g1.1) (II w1 p).1) qk (PB.an (II _ _) λ_ h=>h) (WM D0) (by rw[JB];simp;omega)) λe w2 h2=>⟨_,h2.ret,λa F=>AJ ?_⟩)
   have g2:=Kj (g1.trans (II w1 p)) h2.an (λb _ h=>by omega);have GF:D<w2.heap.size:=by obtain⟨x,D,_⟩:=h2.ov.ex;exact D.hs.lt
   have f2:=BI w2 (.cells #[.int .u8 (IntKind.u8.wrap (c.size:Int))] 5) (λ_ _=>False);refine AO (AA F rfl λa F=>AA F rfl λa F=>AZ F rfl (UC (F.ev (t:=41) e4)) λa F=>AZ F rfl (ADG F.e) λa F=>AZ F rfl (ACN F.e) λa F=>
    DI F rfl (Au rfl (F.ev (t:=40) rfl) F.e Tryz.call93) (Eo hG (LF hG h2.gw f2) (z8 (z8 δ g2.1) f2.1) qk (h2.ov.an f2 λ_ h=>h) (gY GF (u8w _)) (by simp[JB];omega)) λe w3 h3=>⟨_,h3.ret,λa F=>AJ ?_⟩)
   have g3:=Kj (g2.trans f2) h3.an (λb _ h=>by omega);have FG:D<w3.heap.size:=by obtain⟨x,D,_⟩:=h3.ov.ex;exact D.hs.lt
   refine cE (AA F rfl λa F=>AA F rfl λa F=>AZ F rfl (aR (F.ev (t:=47) e4)) λa F=>
    DI F rfl (Au rfl (F.ev (t:=46) rfl) F.e Tryz.call93) (Eo hG (LF hG h3.gw (II _ _)) (z8 (z8 δ g3.1) (II w3 c).1) qk (h3.ov.an (II _ _) λ_ h=>h) (WM FG) (by simp[JB];omega)) λe w4 h4=>⟨_,h4.ret,λa F=>EM ?_⟩)
   have g4:=Kj (g3.trans (II w3 c)) h4.an (λb _ h=>by omega);exact⟨rfl,_,F,e0,e1,e2,rfl,by rw[Hi];exact h4.ov,g4,h4.gw⟩
  ·have Hi:Jg p c= []:=by
    unfold Jg;rw[if_pos];have e:=QO;rw[e] at hb;simpa using hb
   exact Mg ⟨rfl,_,F,e0,e1,e2,rfl,by rw[Hi];exact PB,g1,h1.gw⟩
 clear F g1 PB e0 e1 e2 e3 e4;rintro a w4 ⟨f,F,e0,e1,e2,hU,hD4,g4,gw4⟩;have akP:C8 w bs os (sg.take 32):=hx.sub (i:=0) (k:=32) (by omega);have HJ:(sg.take 32).length=32:=by rw[Rk,hl];rfl
 refine AO (AA F rfl λa F=>AA F rfl λa F=>AZ F rfl (Yh (k:=32) (F.ev (t:=51) e2) rfl (by omega)) λa F=>
  DI F rfl (Au rfl (F.ev (t:=50) hU) F.e Tryz.call93) (Eo hG gw4 (z8 δ g4.1) qk hD4 (XY.cR (akP.bc g4) HJ (by omega) (by omega)) (by rw[HJ];omega)) λe w5 h5=>⟨_,h5.ret,λa F=>AJ ?_⟩)
 have g5:=Kj g4 h5.an (λb _ h=>by omega);refine AO (AA F rfl λa F=>AA F rfl λa F=>FI F e0 rfl λa F=>AZ F rfl (AQI (F.ev (t:=56) rfl)) λa F=>AZ F rfl (jv F.e) λa F=>
  DI F rfl (Au rfl (F.ev (t:=54) hU) F.e Tryz.call93) (Eo hG h5.gw (z8 δ g5.1) qk h5.ov (XY.cV (f:=true) (mP.fn g5) (KA _) (by omega)) (by rw[MN,HJ,mP.len8];omega)) λe w6 h6=>⟨_,h6.ret,λa F=>AJ ?_⟩)
 have g6:=Kj g5 h6.an (λb _ h=>by omega);obtain⟨f,F,e0,e1,e2,hU⟩:∃f,Fr a 105 f/\f 0=pp B/\f 1=vm/\f 2= .slice (some ⟨bs,os,none⟩) 64 cs/\f 12= .pointer (some ⟨D,o,none⟩):=⟨_,F,e0,e1,e2,hU⟩;refine AO (AA F rfl λa F=>AA F rfl λa F=>
  DI F rfl (Au rfl (F.ev (t:=60) hU) (F.ev (t:=61) e1) Tryz.call93) (Eo hG h6.gw (z8 δ g6.1) qk h6.ov (hm.psl g6 hB) (by rw[MN,MN,HJ,mP.len8];omega)) λe w7 h7=>⟨_,h7.ret,λa F=>AJ ?_⟩)
 have g7:=Kj g6 h7.an (λb _ h=>by omega);refine AO (AZ F rfl (AIZ rfl rfl) λa F=>AB F rfl λa F=>AJ ?_);have N7:=Ey w7 64 .u8 5 ⟨by decide,by decide⟩;have f7:BM w7 (w7.alloc (.cells (Array.replicate 64 (.int .u8 0)) 5)) (λ_ _=>False):=BI _ _ _;generalize w7.alloc (.cells (Array.replicate 64 (.int .u8 0)) 5)=w8 at N7 f7 ⊢;have g8:=g7.trans f7;have hs7:w.heap.size<=w7.heap.size:=g7.1;generalize hB7:w7.heap.size=B7 at N7 F hs7;refine AO (AA F rfl λa F=>AA F rfl λa F=>DI F rfl (Au rfl (F.ev (t:=64) hU) (F.ev (t:=65) rfl) Tryz.call94) (gU hG (LF hG ε g8) (z8 δ g8.1) (h7.ov.an f7 λ_ h=>h) (by rw[MN,MN,MN,HJ,mP.len8];omega) (z8 δ hs7) N7 (KA _)) λe w9 h9=>⟨_,h9.ret,λa F=>AB F rfl λa F=>AJ ?_⟩);have g9:=Kj g8 h9.an (λb _ h=>by omega);obtain⟨f,F,e0,e2,μ⟩:∃f,Fr a 105 f/\f 0=pp B/\f 2= .slice (some ⟨bs,os,none⟩) 64 cs/\f 13= .slice (some ⟨B7,0,none⟩) 64 64:=⟨_,F,e0,e2,rfl⟩;refine AO (DI F rfl (LJ rfl Tryz.call98) (Xd hG h9.gw (z8 δ g9.1)) λe pZ lE=>?_);obtain⟨B9,o9,he9,hB9,hM9⟩:=lE.ret;have g10:=g9.trans lE.an;have aic:B7<w9.heap.size:=(h9.mem.at8 (i:=0) (by omega)).1.lt;have hs9:=g9.1;refine⟨_,he9,λa F=>AA F rfl λa F=>DI F rfl (Au rfl (F.ev (t:=68) rfl) (F.ev (t:=69) μ) Tryz.call99) (oM hG lE.gw (z8 δ g10.1) hM9 (by omega) (h9.mem.fn lE.an).ro (KA _) (by omega)) λe w11 xF=>⟨_,xF.ret,λa F=>?_⟩⟩;refine AA F rfl λa F=>AZ F rfl (EZ F.e) λa F=>AZ F rfl (DW F.e) λa F=>AB F rfl λa F=>AB F rfl λa F=>AJ ?_
 have g11:=Kj g10 xF.an (λb _ h=>by omega);have hk:=zl (T:=[(99,.one BJ)]) EL (v:=yo) h9.mem.j9 (J6 _);have MK:AQ true w11 (B9,o9) U4 (K0 (MC (((Jg p c++sg.take 32)++lP)++msg))):=xF.mem;have hk:MO (K0 (MC (((Jg p c++sg.take 32)++lP)++msg))) (Ct (MC (((Jg p c++sg.take 32)++lP)++msg))):=hk;refine wp_seq (AO (AA F rfl λa F=>AZ F rfl (Pm F.e rfl) λa F=>AJ (wp_cond_false F.e (wp_skip ?_))));show Code.wp _ _ _ _ _;obtain⟨f,F,e0,e2,BT⟩:∃f,Fr a 105 f/\f 0=pp B/\f 2= .slice (some ⟨bs,os,none⟩) 64 cs/\f 14= .pointer (some ⟨B9,o9,none⟩):=⟨_,F,e0,e2,rfl⟩;refine Jy (AJx hG F xF.gw (z8 δ g11.1) (hS.bc g11) e2 (hx.bc g11) hl cS) ?_;rintro a yb ⟨f',F,aaO,hex,f12,afv⟩;have g12:=g11.trans f12;have e0:=(aaO 0 (by decide)).trans e0;have e2:=(aaO 2 (by decide)).trans e2;have BT:=(aaO 14 (by decide)).trans BT;rcases hex with⟨cf,CH,⟨B16,o16⟩,s,OK,ms,hs⟩|⟨oR,t,v,CH⟩
 ·refine wp_seq (AO (AA F rfl λa F=>AZ F rfl (Pm (F.ev (t:=83) CH) rfl) λa F=>AJ (wp_cond_false F.e (wp_skip ?_))));show Code.wp _ _ _ _ _;refine AO (AZ F rfl oI λa F=>AZ F rfl (qG F.e) λa F=>?_);have N13:=Lu yb (List.replicate 20 .u64) Vs 97 (Ot (by decide));have f13:BM yb (yb.alloc (.cells (Aj (List.replicate 20 .u64) Vs).toArray 97)) (λ_ _=>False):=BI _ _ _;generalize yb.alloc (.cells (Aj (List.replicate 20 .u64) Vs).toArray 97)=SO at N13 f13 ⊢;have g13:=g12.trans f13;have acU:w.heap.size<=yb.heap.size:=g12.1;generalize ar0:yb.heap.size=B13 at N13 F acU;refine AA F rfl λa F=>FI F e0 rfl λa F=>AZ F rfl (AO4 (F.ev (t:=89) rfl)) λa F=>DI F rfl (Au rfl (F.ev (t:=87) rfl) (F.ev (t:=90) rfl) Tryz.call101) (AFb hG (LF hG ε g13) (z8 δ g13.1) N13 (z8 δ acU) (mA.fn g13) hA (by omega)) λe rm Ge=>⟨_,Ge.ret,λa F=>AB F rfl λa F=>AJ ?_⟩
  have g14:=Kj g13 Ge.an (λb _ h=>by omega);obtain⟨xn,mn,hn⟩:=Ge.mem;obtain⟨f,F,e2,BT,OK,e17⟩:∃f,Fr a 105 f/\f 2= .slice (some ⟨bs,os,none⟩) 64 cs/\f 14= .pointer (some ⟨B9,o9,none⟩)/\f 16= .pointer (some ⟨B16,o16,none⟩)/\f 17=pp B13:=⟨_,F,e2,BT,OK,rfl⟩;refine AO (AZ F rfl oI λa F=>AZ F rfl (qG F.e) λa F=>?_);have N15:=Lu rm (List.replicate 20 .u64) Vs 97 (Ot (by decide));have f15:BM rm (rm.alloc (.cells (Aj (List.replicate 20 .u64) Vs).toArray 97)) (λ_ _=>False):=BI _ _ _;have z15:=Gr rm (.cells (Aj (List.replicate 20 .u64) Vs).toArray 97);generalize rm.alloc (.cells (Aj (List.replicate 20 .u64) Vs).toArray 97)=w15 at N15 f15 z15 ⊢;have g15:=g14.trans f15;have aaP:w.heap.size<=rm.heap.size:=g14.1;have ack:B13<rm.heap.size:=mn.ltK (by decide);have atQ:B16<yb.heap.size:=(ms.kq (i:=0) (by omega)).1.lt;have adK:B9<w11.heap.size:=(MK.kq (i:=0) (by omega)).1.lt;have aia:=f12.1;have ae3:=(((MK.fn f12).fn f13).an Ge.an λ_ _ (h:B9=B13)=>by omega).fn f15;have afl:=((ms.fn f13).an Ge.an λ_ _ (h:B16=B13)=>by omega).fn f15;have th:0<=Ct (sg.drop 32):=(KV hd8).1;have hna:((vK (Jg p c) (sg.take 32) lP msg:Nat):Int)=Ct (MC (((Jg p c++sg.take 32)++lP)++msg))%Qm:=Int.toNat_of_nonneg (Int.emod_nonneg _ (by decide +kernel));have At:(((Ct (sg.drop 32)).toNat:Nat):Int)=Ct (sg.drop 32)%Qm:=by rw[Int.toNat_of_nonneg th,Th th cf]
  generalize akQ:rm.heap.size=B15 at N15 F aaP ack z15;refine AA F rfl λa F=>AA F rfl λa F=>AA F rfl λa F=>DI F rfl (QF rfl (F.ev (t:=93) rfl) (F.ev (t:=94) BT) (F.ev (t:=95) e17) (F.ev (t:=96) OK) Tryz.call102) (AIp hG (LF hG ε g15) (z8 δ g15.1) N15 (z8 δ aaP) (by omega) ae3.ro hk hna afl.ro hs At (mn.fn f15) hn (by omega)) λe w16 nc=>⟨_,nc.ret,λa F=>AB F rfl λa F=>AJ ?_⟩
  have g16:=Kj g15 nc.an (λb _ h=>by omega);obtain⟨xq,mq,hq⟩:=nc.mem;obtain⟨f,F,e2,e18⟩:∃f,Fr a 105 f/\f 2= .slice (some ⟨bs,os,none⟩) 64 cs/\f 18=pp B15:=⟨_,F,e2,rfl⟩;refine wp_seq (Jy (AKc hG F nc.gw (z8 δ g16.1) e2 (hx.bc g16) hl cS e18 mq hq) ?_);rintro a w17 ⟨f',F,abV,f17,adA⟩;have g17:=g16.trans f17;by_cases heq:sg.take 32=JD ((A.neg.zm (vK (Jg p c) (sg.take 32) lP msg:Nat)).add (JS.zm ((Ct (sg.drop 32)).toNat:Nat)))
  ·rw[decide_eq_true heq] at abV;refine wp_cond (t:=false) (F.ev abV) (wp_skip ?_);refine AO (AX F rfl λa F=>AJ ?_);refine DC ⟨F.df,.nilIface,?_,.inl ⟨⟨hl,cf,heq⟩,rfl⟩,g17,adA⟩;simp[results,Tryz.results83,go_sem];exact F.gd rfl
  ·rw[decide_eq_false heq] at abV;refine wp_cond (t:=true) (F.ev abV) ?_;refine AO (DI F rfl (Ar rfl rfl Tryz.call81) (NU hG adA (z8 δ g17.1) _) λe w2 h2=>?_);obtain⟨t,v,he⟩:=h2.ret;refine⟨_,he,λa F=>AB F rfl λa F=>AJ ?_⟩;refine DC ⟨F.df,.iface t v,?_,.inr ⟨λh=>heq h.2.2,t,v,rfl⟩,g17.trans h2.an,h2.gw⟩;simp[results,Tryz.results83,go_sem];exact F.gd rfl
 ·refine wp_seq (AO (AA F rfl λa F=>AZ F rfl (YA (F.ev (t:=83) CH) rfl) λa F=>AJ ?_));refine wp_cond (t:=true) F.e ?_;refine AO (DI F rfl (Ar rfl rfl Tryz.call81) (NU hG afv (z8 δ g12.1) _) λe w2 h2=>?_);obtain⟨t,v,he⟩:=h2.ret;refine⟨_,he,λa F=>AB F rfl λa F=>AJ ?_⟩;refine DC ⟨F.df,.iface t v,?_,.inr ⟨λh=>oR h.2.1,t,v,rfl⟩,g12.trans h2.an,h2.gw⟩;simp[results,Tryz.results83,go_sem];exact F.gd rfl
end Go.Proofs.YtloibefkijfdlaaGreatDoor
