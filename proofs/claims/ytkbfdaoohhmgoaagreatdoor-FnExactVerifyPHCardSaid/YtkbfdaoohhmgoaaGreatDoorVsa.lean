/- verifyWithDom: the walk, for any key, message and signature. -/
import Derived.Test.YtkbfdaoohhmgoaaGreatDoorVra
namespace Go.Proofs.YtkbfdaoohhmgoaaGreatDoor
open Go Ma Go.RowKit Go.Lib
def vK(d R lP m:List Int):Nat:=(Cm (Qt (((d++R)++lP)++m))%Vu).toNat
def DG(d lP:List Int)(A:Pt)(m sg:List Int):Prop:=sg.length=64/\Cm (sg.drop 32)<Vu/\sg.take 32=S9 ((A.neg.zm (vK d (sg.take 32) lP m:Nat)).add (Um.zm ((Cm (sg.drop 32)).toNat:Nat)))
structure VfP (GC:Nat->Nat->Option Value) (V:Prop) (w:World) (e:Ending) (w':World):Prop where
 ex:(V/\e= .returned .nilIface)\/(¬V/\∃t x,e= .returned (.iface t x))
 an:BD w w' (λ_ _=>False)
 gw:GW GC w'
theorem AAS:∀n:Nat,n<32->Ak .and .u8 (n:Int) 224=0:=by decide
theorem AM5{v:Int}(h0:0<=v)(h:Ak .and .u8 v 224≠0):32<=v:=by
 rcases Int.lt_or_le v 32 with h1|h1
 ·exfalso;have h2:=AAS v.toNat (by omega);rw[Int.toNat_of_nonneg h0] at h2;exact h h2
 ·exact h1
theorem ADc{l:List Int}(hl:l.length=32)(h:cI l)(ht:32<=l.getD 31 0):¬Cm l<Vu:=by
 match l,hl,h with
 | [b0,b1,b2,b3,b4,b5,b6,b7,b8,b9,b10,b11,ω,Γ,b14,b15,b16,b17,b18,Δ,b20,b21,b22,b23,Θ,Ψ,Ξ,b27,b28,b29,b30,b31],_,h=>
  have ht:32<=b31:=ht;have e: [b0,b1,b2,b3,b4,b5,b6,b7,b8,b9,b10,b11,ω,Γ,b14,b15,b16,b17,b18,Δ,b20,b21,b22,b23,Θ,Ψ,Ξ,b27,b28,b29,b30,b31]= [b0,b1,b2,b3,b4,b5,b6,b7,b8,b9,b10,b11,ω,Γ,b14,b15,b16,b17,b18,Δ,b20,b21,b22,b23,Θ,Ψ,Ξ,b27,b28,b29,b30] ++ [b31]:=rfl;have h8:cI [b0,b1,b2,b3,b4,b5,b6,b7,b8,b9,b10,b11,ω,Γ,b14,b15,b16,b17,b18,Δ,b20,b21,b22,b23,Θ,Ψ,Ξ,b27,b28,b29,b30]:=λx hx=>h x (by rw[e];exact List.mem_append_left _ hx)
  have hb:=(NT h8).1;rw[e,QF];show ¬Cm _+256^31*(b31+256*0)<Vu;have hp:(256:Int)^31=452312848583266388373324160190187140051835877600158453279131187530910662656:=by decide +kernel
  rw[hp];unfold Vu;generalize Cm [b0,b1,b2,b3,b4,b5,b6,b7,b8,b9,b10,b11,ω,Γ,b14,b15,b16,b17,b18,Δ,b20,b21,b22,b23,Θ,Ψ,Ξ,b27,b28,b29,b30]=t at *
  omega
section
variable{ρ:Operand->Value}{d:Option Tmp}{x y:Operand}{ty t t':TypeId}{pos:String}{af:Array Edge}{w:World}
theorem ANt{i j:Int}(hx:ρ x= .int .u8 i)(hy:ρ y= .int .u8 j):(execOp ρ ⟨d,.binOp .and t x y t',ty,pos,af,none⟩).run Tryz.prog w= .ok (.value (.int .u8 (Ak .and .u8 i j))) w:=by
 simp[execOp,go_sem,hx,hy];rfl
theorem AN6{i j:Int}(hx:ρ x= .int .u8 i)(hy:ρ y= .int .u8 j):(execOp ρ ⟨d,.binOp .neq t x y t',ty,pos,af,none⟩).run Tryz.prog w= .ok (.value (.bool (i != j))) w:=by
 simp[execOp,go_sem,hx,hy]
end
set_option maxRecDepth 100000 in
set_option maxHeartbeats 4000000 in
theorem ALz{GB:Nat}{GC:Nat->Nat->Option Value}{ad:Nat->Nat×Nat}(hG:GI GB GC ad){w:World}{B bs os cs:Nat}{xA lP sg msg:List Int}{A:Pt}{vm:Value}{p c:ByteArray}(ε:GW GC w)(δ:GB<=w.heap.size)(hS:DD w 5 0 bO)(mA:AO true w (B,0) (KU 20) xA)(hA:R3 A xA)(mP:AO true w (B,20) (List.replicate 32 .u8) lP)(hm:Ku w vm msg)(wv:msg.length<1099511627776)(CH:p.size<1099511627776)(kx:c.size<1099511627776)(hx:DD w bs os sg)(hl:sg.length=64)(cS:64<=cs):
  Calls Tryz.prog 45 #[pp B,vm,.slice (some ⟨bs,os,none⟩) 64 cs,.string p,.string c] w (VfP GC (DG (Px p c) lP A msg sg) w):=by
 have aFu:bs<w.heap.size:=hx.lt (by omega);have hBl:B<w.heap.size:=mA.ltK (by decide);have hdl:(Px p c).length<3298534883328:=by
  unfold Px;split
  ·simp
  ·simp only[NC,MZ,NY,HM];omega
 refine enter (args:=[pp B,vm,.slice (some ⟨bs,os,none⟩) 64 cs,.string p,.string c]) Tryz.func45 rfl (n:=105) rfl λa F=>?_
 refine AP (Aj F rfl λa F=>AJ ?_);refine wp_seq (AP (AA F rfl λa F=>AZ F rfl (OE (p:=some ⟨bs,os,none⟩) (m:=64) (c:=cs) (F.ev (t:=19) rfl)) λa F=>AB F rfl λa F=>AJ ?_));refine AP (AA F rfl λa F=>AZ F rfl (Qd (i:=64) (j:=64) F.e rfl) λa F=>AJ ?_);refine wp_cond (t:=false) F.e (wp_skip ?_);have hd:(sg.drop 32).length=32:=by rw[VK,hl]
 have h63:(sg.drop 32).getD 31 0=sg.getD 63 0:=by simp[List.getD,List.getElem?_drop]
 have hd8:cI (sg.drop 32):=λx h=>hx.1 x (HK h)
 have aih:0<=sg.getD 63 0:=(AFl hx.1 63).1;refine wp_seq (AP (AA F rfl λa F=>AZ F rfl (mE (k:=63) F.e rfl (by decide)) λa F=>AZ F rfl (lH F.e (hx.2 63 (by omega))) λa F=>AZ F rfl (ANt F.e rfl) λa F=>AZ F rfl (AN6 F.e rfl) λa F=>AJ (ry F rfl (λhb=>?_) λ_=>wp_skip ?_)))
 ·have ae1:Ak .and .u8 (sg.getD 63 0) 224≠0:=by simpa using hb
  have ij:¬DG (Px p c) lP A msg sg:=λh=>ADc hd hd8 (by rw[h63];exact AM5 aih ae1) h.2.1
  refine AP (EG F rfl (BJ rfl rfl Tryz.call43) (Mi hG ε δ _) λe w2 h2=>?_);obtain⟨t,v,he⟩:=h2.ret;refine⟨_,he,λa F=>AB F rfl λa F=>AJ ?_⟩;refine Cn ⟨F.df,.iface t v,?_,.inr ⟨ij,t,v,rfl⟩,h2.an,h2.gw⟩;simp[results,Tryz.results45,go_sem];exact F.gd rfl
 obtain⟨f,F,e0,e1,e2,e3,e4⟩:∃f,Fr a 105 f/\f 0=pp B/\f 1=vm/\f 2= .slice (some ⟨bs,os,none⟩) 64 cs/\f 3= .string p/\f 4= .string c:=⟨_,F,rfl,rfl,rfl,rfl,rfl⟩;refine AP (EG F rfl (LG rfl Tryz.call53) (AHn hG ε δ) λe w1 h1=>?_);obtain⟨D,o,he,hB,hD1⟩:=h1.ret;refine⟨_,he,λa F=>AB F rfl λa F=>AJ ?_⟩;have g1:=h1.an;have CC:GB<=D:=EX δ hB;refine GM (J:=λa w'=>∃f,Fr a 105 f/\f 0=pp B/\f 1=vm/\f 2= .slice (some ⟨bs,os,none⟩) 64 cs/\f 12= .pointer (some ⟨D,o,none⟩)/\JT w' D o (Px p c)/\BD w w' (λ_ _=>False)/\GW GC w') ?_ ?_
 ·refine AP (AA F rfl λa F=>AZ F rfl (AMS (t:=⟨#[]⟩) (F.ev (t:=34) e3) rfl) λa F=>AJ (ry F rfl (λhb=>?_) λhb=>?_))
  ·have aca:Px p c=([]++TC p ++ [IntKind.u8.wrap (c.size:Int)])++TC c:=by
    unfold Px;rw[if_neg];intro h;have e:=iw;rw[e,h] at hb;cases hb
   have aiJ:D<w1.heap.size:=by obtain⟨x,D,_⟩:=hD1.ex;exact D.hs.lt
   refine AP (AA F rfl λa F=>AA F rfl λa F=>AZ F rfl (AKI (F.ev (t:=37) e3)) λa F=>
    EG F rfl (Bg rfl (F.ev (t:=36) rfl) F.e Tryz.call54) (Nc hG (AA8 hG h1.gw (Tg _ _)) (EX (EX δ g1.1) (Tg w1 p).1) CC (hD1.an (Tg _ _) λ_ h=>h) (ADn aiJ) (by rw[MZ];simp;omega)) λe w2 h2=>⟨_,h2.ret,λa F=>AJ ?_⟩)
   have g2:=Ut (g1.trans (Tg w1 p)) h2.an (λb _ h=>by omega);have aip:D<w2.heap.size:=by obtain⟨x,D,_⟩:=h2.Cd.ex;exact D.hs.lt
   have f2:=BC w2 (.cells #[.int .u8 (IntKind.u8.wrap (c.size:Int))] 5) (λ_ _=>False);refine AP (AA F rfl λa F=>AA F rfl λa F=>AZ F rfl (jF (F.ev (t:=41) e4)) λa F=>AZ F rfl (APs F.e) λa F=>AZ F rfl (ow F.e) λa F=>
    EG F rfl (Bg rfl (F.ev (t:=40) rfl) F.e Tryz.call54) (Nc hG (AA8 hG h2.gw f2) (EX (EX δ g2.1) f2.1) CC (h2.Cd.an f2 λ_ h=>h) (AGp aip (u8w _)) (by simp[MZ];omega)) λe w3 h3=>⟨_,h3.ret,λa F=>AJ ?_⟩)
   have g3:=Ut (g2.trans f2) h3.an (λb _ h=>by omega);have aiU:D<w3.heap.size:=by obtain⟨x,D,_⟩:=h3.Cd.ex;exact D.hs.lt
   refine cp (AA F rfl λa F=>AA F rfl λa F=>AZ F rfl (AKI (F.ev (t:=47) e4)) λa F=>
    EG F rfl (Bg rfl (F.ev (t:=46) rfl) F.e Tryz.call54) (Nc hG (AA8 hG h3.gw (Tg _ _)) (EX (EX δ g3.1) (Tg w3 c).1) CC (h3.Cd.an (Tg _ _) λ_ h=>h) (ADn aiU) (by simp[MZ];omega)) λe w4 h4=>⟨_,h4.ret,λa F=>CY ?_⟩)
   have g4:=Ut (g3.trans (Tg w3 c)) h4.an (λb _ h=>by omega);exact⟨rfl,_,F,e0,e1,e2,rfl,by rw[aca];exact h4.Cd,g4,h4.gw⟩
  ·have aca:Px p c= []:=by
    unfold Px;rw[if_pos];have e:=iw;rw[e] at hb;simpa using hb
   exact PW ⟨rfl,_,F,e0,e1,e2,rfl,by rw[aca];exact hD1,g1,h1.gw⟩
 clear F g1 hD1 e0 e1 e2 e3 e4;rintro a w4 ⟨f,F,e0,e1,e2,sy,hD4,g4,gw4⟩;have ahX:DD w bs os (sg.take 32):=hx.sub (i:=0) (k:=32) (by omega);have Hv:(sg.take 32).length=32:=by rw[Qw,hl];rfl
 refine AP (AA F rfl λa F=>AA F rfl λa F=>AZ F rfl (gL (k:=32) (F.ev (t:=51) e2) rfl (by omega)) λa F=>
  EG F rfl (Bg rfl (F.ev (t:=50) sy) F.e Tryz.call54) (Nc hG gw4 (EX δ g4.1) CC hD4 (bY.i6 (ahX.cr g4) Hv (by omega) (by omega)) (by rw[Hv];omega)) λe w5 h5=>⟨_,h5.ret,λa F=>AJ ?_⟩)
 have g5:=Ut g4 h5.an (λb _ h=>by omega);refine AP (AA F rfl λa F=>AA F rfl λa F=>Eu F e0 rfl λa F=>AZ F rfl (AQE (F.ev (t:=56) rfl)) λa F=>AZ F rfl (wC F.e) λa F=>
  EG F rfl (Bg rfl (F.ev (t:=54) sy) F.e Tryz.call54) (Nc hG h5.gw (EX δ g5.1) CC h5.Cd (bY.iz (f:=true) (mP.fn g5) (Ie _) (by omega)) (by rw[NC,Hv,mP.len8];omega)) λe w6 h6=>⟨_,h6.ret,λa F=>AJ ?_⟩)
 have g6:=Ut g5 h6.an (λb _ h=>by omega);obtain⟨f,F,e0,e1,e2,sy⟩:∃f,Fr a 105 f/\f 0=pp B/\f 1=vm/\f 2= .slice (some ⟨bs,os,none⟩) 64 cs/\f 12= .pointer (some ⟨D,o,none⟩):=⟨_,F,e0,e1,e2,sy⟩;refine AP (AA F rfl λa F=>AA F rfl λa F=>
  EG F rfl (Bg rfl (F.ev (t:=60) sy) (F.ev (t:=61) e1) Tryz.call54) (Nc hG h6.gw (EX δ g6.1) CC h6.Cd (hm.psl g6 hB) (by rw[NC,NC,Hv,mP.len8];omega)) λe w7 h7=>⟨_,h7.ret,λa F=>AJ ?_⟩)
 have g7:=Ut g6 h7.an (λb _ h=>by omega);refine AP (AZ F rfl (AUC rfl rfl) λa F=>AB F rfl λa F=>AJ ?_);have N7:=Dj w7 64 .u8 5 ⟨by decide,by decide⟩;have f7:BD w7 (w7.alloc (.cells (Array.replicate 64 (.int .u8 0)) 5)) (λ_ _=>False):=BC _ _ _;generalize w7.alloc (.cells (Array.replicate 64 (.int .u8 0)) 5)=w8 at N7 f7 ⊢;have g8:=g7.trans f7;have hs7:w.heap.size<=w7.heap.size:=g7.1;generalize hB7:w7.heap.size=B7 at N7 F hs7;refine AP (AA F rfl λa F=>AA F rfl λa F=>EG F rfl (Bg rfl (F.ev (t:=64) sy) (F.ev (t:=65) rfl) Tryz.call55) (AGq hG (AA8 hG ε g8) (EX δ g8.1) (h7.Cd.an f7 λ_ h=>h) (by rw[NC,NC,NC,Hv,mP.len8];omega) (EX δ hs7) N7 (Ie _)) λe w9 h9=>⟨_,h9.ret,λa F=>AB F rfl λa F=>AJ ?_⟩);have g9:=Ut g8 h9.an (λb _ h=>by omega);obtain⟨f,F,e0,e2,ψ⟩:∃f,Fr a 105 f/\f 0=pp B/\f 2= .slice (some ⟨bs,os,none⟩) 64 cs/\f 13= .slice (some ⟨B7,0,none⟩) 64 64:=⟨_,F,e0,e2,rfl⟩;refine AP (EG F rfl (LG rfl Tryz.call56) (zZ hG h9.gw (EX δ g9.1)) λe tI iu=>?_);obtain⟨B9,o9,he9,hB9,hM9⟩:=iu.ret;have g10:=g9.trans iu.an;have axs:B7<w9.heap.size:=(h9.mem.at8 (i:=0) (by omega)).1.lt;have hs9:=g9.1;refine⟨_,he9,λa F=>AA F rfl λa F=>EG F rfl (Bg rfl (F.ev (t:=68) rfl) (F.ev (t:=69) ψ) Tryz.call57) (AOS hG iu.gw (EX δ g10.1) hM9 (by omega) (h9.mem.fn iu.an).ro (Ie _) (by omega)) λe w11 A5=>⟨_,A5.ret,λa F=>?_⟩⟩;refine AA F rfl λa F=>AZ F rfl (Ik F.e) λa F=>AZ F rfl (FZ F.e) λa F=>AB F rfl λa F=>AB F rfl λa F=>AJ ?_
 have g11:=Ut g10 A5.an (λb _ h=>by omega);have hk:=ASY (T:=[(57,.one Ba)]) Ec (v:=KB) h9.mem.jz (JN _);have MK:AO true w11 (B9,o9) U4 (suF (Qt (((Px p c++sg.take 32)++lP)++msg))):=A5.mem;have hk:Qu (suF (Qt (((Px p c++sg.take 32)++lP)++msg))) (Cm (Qt (((Px p c++sg.take 32)++lP)++msg))):=hk;refine wp_seq (AP (AA F rfl λa F=>AZ F rfl (ZT F.e rfl) λa F=>AJ (wp_cond_false F.e (wp_skip ?_))));show Code.wp _ _ _ _ _;obtain⟨f,F,e0,e2,e14⟩:∃f,Fr a 105 f/\f 0=pp B/\f 2= .slice (some ⟨bs,os,none⟩) 64 cs/\f 14= .pointer (some ⟨B9,o9,none⟩):=⟨_,F,e0,e2,rfl⟩;refine GM (ALh hG F A5.gw (EX δ g11.1) (hS.cr g11) e2 (hx.cr g11) hl cS) ?_;rintro a sL ⟨f',F,aaI,hex,f12,aem⟩;have g12:=g11.trans f12;have e0:=(aaI 0 (by decide)).trans e0;have e2:=(aaI 2 (by decide)).trans e2;have e14:=(aaI 14 (by decide)).trans e14;rcases hex with⟨bj,e15,⟨B16,o16⟩,s,Zs,ms,hs⟩|⟨lE,t,v,e15⟩
 ·refine wp_seq (AP (AA F rfl λa F=>AZ F rfl (ZT (F.ev (t:=83) e15) rfl) λa F=>AJ (wp_cond_false F.e (wp_skip ?_))));show Code.wp _ _ _ _ _;refine AP (AZ F rfl ACT λa F=>AZ F rfl (AEH F.e) λa F=>?_);have N13:=Jr sL (List.replicate 20 .u64) dh 62 (O8 (by decide));have f13:BD sL (sL.alloc (.cells (AL (List.replicate 20 .u64) dh).toArray 62)) (λ_ _=>False):=BC _ _ _;generalize sL.alloc (.cells (AL (List.replicate 20 .u64) dh).toArray 62)=w13 at N13 f13 ⊢;have g13:=g12.trans f13;have acz:w.heap.size<=sL.heap.size:=g12.1;generalize aFi:sL.heap.size=B13 at N13 F acz;refine AA F rfl λa F=>Eu F e0 rfl λa F=>AZ F rfl (AQd (F.ev (t:=89) rfl)) λa F=>EG F rfl (Bg rfl (F.ev (t:=87) rfl) (F.ev (t:=90) rfl) Tryz.call59) (AIX hG (AA8 hG ε g13) (EX δ g13.1) N13 (EX δ acz) (mA.fn g13) hA (by omega)) λe pD tx=>⟨_,tx.ret,λa F=>AB F rfl λa F=>AJ ?_⟩
  have g14:=Ut g13 tx.an (λb _ h=>by omega);obtain⟨xn,mn,hn⟩:=tx.mem;obtain⟨f,F,e2,e14,Zs,e17⟩:∃f,Fr a 105 f/\f 2= .slice (some ⟨bs,os,none⟩) 64 cs/\f 14= .pointer (some ⟨B9,o9,none⟩)/\f 16= .pointer (some ⟨B16,o16,none⟩)/\f 17=pp B13:=⟨_,F,e2,e14,Zs,rfl⟩;refine AP (AZ F rfl ACT λa F=>AZ F rfl (AEH F.e) λa F=>?_);have N15:=Jr pD (List.replicate 20 .u64) dh 62 (O8 (by decide));have f15:BD pD (pD.alloc (.cells (AL (List.replicate 20 .u64) dh).toArray 62)) (λ_ _=>False):=BC _ _ _;have z15:=EC pD (.cells (AL (List.replicate 20 .u64) dh).toArray 62);generalize pD.alloc (.cells (AL (List.replicate 20 .u64) dh).toArray 62)=w15 at N15 f15 z15 ⊢;have g15:=g14.trans f15;have acB:w.heap.size<=pD.heap.size:=g14.1;have afe:B13<pD.heap.size:=mn.ltK (by decide);have aui:B16<sL.heap.size:=(ms.sB (i:=0) (by omega)).1.lt;have azD:B9<w11.heap.size:=(MK.sB (i:=0) (by omega)).1.lt;have ag0:=f12.1;have ael:=(((MK.fn f12).fn f13).an tx.an λ_ _ (h:B9=B13)=>by omega).fn f15;have aet:=((ms.fn f13).an tx.an λ_ _ (h:B16=B13)=>by omega).fn f15;have sC:0<=Cm (sg.drop 32):=(NT hd8).1;have hna:((vK (Px p c) (sg.take 32) lP msg:Nat):Int)=Cm (Qt (((Px p c++sg.take 32)++lP)++msg))%Vu:=Int.toNat_of_nonneg (Int.emod_nonneg _ (by decide +kernel));have xp:(((Cm (sg.drop 32)).toNat:Nat):Int)=Cm (sg.drop 32)%Vu:=by rw[Int.toNat_of_nonneg sC,uu sC bj]
  generalize aHD:pD.heap.size=B15 at N15 F acB afe z15;refine AA F rfl λa F=>AA F rfl λa F=>AA F rfl λa F=>EG F rfl (Rs rfl (F.ev (t:=93) rfl) (F.ev (t:=94) e14) (F.ev (t:=95) e17) (F.ev (t:=96) Zs) Tryz.call60) (ALb hG (AA8 hG ε g15) (EX δ g15.1) N15 (EX δ acB) (by omega) ael.ro hk hna aet.ro hs xp (mn.fn f15) hn (by omega)) λe w16 wq=>⟨_,wq.ret,λa F=>AB F rfl λa F=>AJ ?_⟩
  have g16:=Ut g15 wq.an (λb _ h=>by omega);obtain⟨xq,mq,hq⟩:=wq.mem;obtain⟨f,F,e2,e18⟩:∃f,Fr a 105 f/\f 2= .slice (some ⟨bs,os,none⟩) 64 cs/\f 18=pp B15:=⟨_,F,e2,rfl⟩;refine wp_seq (GM (AOb hG F wq.gw (EX δ g16.1) e2 (hx.cr g16) hl cS e18 mq hq) ?_);rintro a w17 ⟨f',F,abu,f17,ac2⟩;have g17:=g16.trans f17;by_cases heq:sg.take 32=S9 ((A.neg.zm (vK (Px p c) (sg.take 32) lP msg:Nat)).add (Um.zm ((Cm (sg.drop 32)).toNat:Nat)))
  ·rw[decide_eq_true heq] at abu;refine wp_cond (t:=false) (F.ev abu) (wp_skip ?_);refine AP (Aj F rfl λa F=>AJ ?_);refine Cn ⟨F.df,.nilIface,?_,.inl ⟨⟨hl,bj,heq⟩,rfl⟩,g17,ac2⟩;simp[results,Tryz.results45,go_sem];exact F.gd rfl
  ·rw[decide_eq_false heq] at abu;refine wp_cond (t:=true) (F.ev abu) ?_;refine AP (EG F rfl (BJ rfl rfl Tryz.call43) (Mi hG ac2 (EX δ g17.1) _) λe w2 h2=>?_);obtain⟨t,v,he⟩:=h2.ret;refine⟨_,he,λa F=>AB F rfl λa F=>AJ ?_⟩;refine Cn ⟨F.df,.iface t v,?_,.inr ⟨λh=>heq h.2.2,t,v,rfl⟩,g17.trans h2.an,h2.gw⟩;simp[results,Tryz.results45,go_sem];exact F.gd rfl
 ·refine wp_seq (AP (AA F rfl λa F=>AZ F rfl (bS (F.ev (t:=83) e15) rfl) λa F=>AJ ?_));refine wp_cond (t:=true) F.e ?_;refine AP (EG F rfl (BJ rfl rfl Tryz.call43) (Mi hG aem (EX δ g12.1) _) λe w2 h2=>?_);obtain⟨t,v,he⟩:=h2.ret;refine⟨_,he,λa F=>AB F rfl λa F=>AJ ?_⟩;refine Cn ⟨F.df,.iface t v,?_,.inr ⟨λh=>lE h.2.1,t,v,rfl⟩,g12.trans h2.an,h2.gw⟩;simp[results,Tryz.results45,go_sem];exact F.gd rfl
end Go.Proofs.YtkbfdaoohhmgoaaGreatDoor
