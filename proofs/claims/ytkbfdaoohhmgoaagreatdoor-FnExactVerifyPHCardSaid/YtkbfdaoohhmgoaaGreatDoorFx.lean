/- SetBytes of any 32 bytes: the number that they are modulo 2^255, modulo p. -/
import Derived.Test.YtkbfdaoohhmgoaaGreatDoorKyx
namespace Go.Proofs.YtkbfdaoohhmgoaaGreatDoor
section
open Go Ma
def mb(acc b:Int):Int:=Ak .or .u64 (Ak .shl .u64 acc 8) (IntKind.u64.wrap b)
def kg(b0 b1 b2 b3 b4 b5 b6 b7:Int):Int:=mb (mb (mb (mb (mb (mb (mb (Ak .or .u64 0 (IntKind.u64.wrap b7)) b6) b5) b4) b3) b2) b1) b0
theorem Sl{acc b:Int}(h0:0<=acc)(h1:acc<72057594037927936)(h2:0<=b)(h3:b<=255):mb acc b=256*acc+b:=by
 have e1:Ak .shl .u64 acc 8=256*acc:=by
  show IntKind.u64.wrap (acc*2^(min (8:Int).toNat 64))=_;rw[JZ rfl];show acc*256%18446744073709551616=256*acc;omega
 have e2:IntKind.u64.wrap b=b:=by
  rw[JZ rfl];show b%18446744073709551616=b;omega
 unfold mb;rw[e1,e2];have hx:IJ .u64 (256*acc):=(IA rfl).2 ⟨by omega,by show _<(18446744073709551616:Int);omega⟩;have hy:IJ .u64 b:=(IA rfl).2 ⟨h2,by show _<(18446744073709551616:Int);omega⟩;exact(Tt rfl hx hy (m:=8) ⟨acc,rfl⟩ (by show b<256;omega)).1
theorem ALp{b0 b1 b2 b3 b4 b5 b6 b7:Int}(h0:0<=b0/\b0<=255)(h1:0<=b1/\b1<=255)(h2:0<=b2/\b2<=255)(h3:0<=b3/\b3<=255)(h4:0<=b4/\b4<=255)(h5:0<=b5/\b5<=255)(h6:0<=b6/\b6<=255)(h7:0<=b7/\b7<=255):
  kg b0 b1 b2 b3 b4 b5 b6 b7=b0+256*b1+65536*b2+16777216*b3+4294967296*b4+1099511627776*b5+281474976710656*b6+72057594037927936*b7:=by
 have e0:Ak .or .u64 0 (IntKind.u64.wrap b7)=b7:=by
  have e2:IntKind.u64.wrap b7=b7:=by
   rw[JZ rfl];show b7%18446744073709551616=b7;omega
  rw[e2];have hx:IJ .u64 (0:Int):=(IA rfl).2 ⟨by omega,by decide⟩;have hy:IJ .u64 b7:=(IA rfl).2 ⟨h7.1,by show _<(18446744073709551616:Int);omega⟩;have:=(Tt rfl hx hy (m:=8) ⟨0,rfl⟩ (by show b7<256;omega)).1;rw[zde] at this;exact this
 unfold kg;rw[e0,Sl h7.1 (by omega) h6.1 h6.2,Sl (by omega) (by omega) h5.1 h5.2,Sl (by omega) (by omega) h4.1 h4.2,Sl (by omega) (by omega) h3.1 h3.2,Sl (by omega) (by omega) h2.1 h2.2,Sl (by omega) (by omega) h1.1 h1.2,Sl (by omega) (by omega) h0.1 h0.2];omega
def lm(w:Int)(s:Int):Int:=Ak .and .u64 (Ak .shr .u64 w s) 2251799813685247
theorem ZP{w:Int}(h0:0<=w)(h1:w<18446744073709551616):Ak .and .u64 w 2251799813685247=w%2251799813685248/\lm w 3=w/8%2251799813685248/\lm w 6=w/64%2251799813685248/\lm w 1=w/2%2251799813685248/\lm w 12=w/4096%2251799813685248:=by
 have hm:∀x:Int,0<=x->x<18446744073709551616->Ak .and .u64 x 2251799813685247=x%2251799813685248:=λx h0 h1=>by
  have:=VY (k:=.u64) rfl ((IA rfl).2 ⟨h0,h1⟩:IJ .u64 x) (m:=51) (by decide);exact this
 refine⟨hm w h0 h1,?_,?_,?_,?_⟩
 ·show Ak .and .u64 (w.fdiv 8) 2251799813685247=_;rw[Int.fdiv_eq_ediv_of_nonneg _ (by decide),hm _ (by omega) (by omega)]
 ·show Ak .and .u64 (w.fdiv 64) 2251799813685247=_;rw[Int.fdiv_eq_ediv_of_nonneg _ (by decide),hm _ (by omega) (by omega)]
 ·show Ak .and .u64 (w.fdiv 2) 2251799813685247=_;rw[Int.fdiv_eq_ediv_of_nonneg _ (by decide),hm _ (by omega) (by omega)]
 ·show Ak .and .u64 (w.fdiv 4096) 2251799813685247=_;rw[Int.fdiv_eq_ediv_of_nonneg _ (by decide),hm _ (by omega) (by omega)]
theorem ANK(v:List Int)(b0 b1 b2 b3 b4 b5 b6 b7 b8 b9 b10 b11 ω Γ b14 b15 b16 b17 b18 Δ b20 b21 b22 b23 Θ Ψ Ξ b27 b28 b29 b30 b31:Int):Dn.raw Dp 0 [v,[b0,b1,b2,b3,b4,b5,b6,b7,b8,b9,b10,b11,ω,Γ,b14,b15,b16,b17,b18,Δ,b20,b21,b22,b23,Θ,Ψ,Ξ,b27,b28,b29,b30,b31]]= [Ak .and .u64 (kg b0 b1 b2 b3 b4 b5 b6 b7) 2251799813685247,lm (kg b6 b7 b8 b9 b10 b11 ω Γ) 3,lm (kg ω Γ b14 b15 b16 b17 b18 Δ) 6,lm (kg Δ b20 b21 b22 b23 Θ Ψ Ξ) 1,lm (kg Θ Ψ Ξ b27 b28 b29 b30 b31) 12]:=by kernel_rfl
theorem QF:∀(a b:List Int),Cm (a++b)=Cm a+256^a.length*Cm b
 | [],b=>by simp[Cm]
 |x::a,b=>by
  rw[LS,Cm,Cm,QF a b,NY,Hi];generalize Cm a=u;generalize Cm b=v;generalize (256:Int)^a.length=q;have:q*256*v=256*(q*v):=by rw[bf q 256,YL]
  rw[this];generalize q*v=r;omega
theorem Zp{b0 b1 b2 b3 b4 b5 b6 b7:Int}(h:cI [b0,b1,b2,b3,b4,b5,b6,b7]):kg b0 b1 b2 b3 b4 b5 b6 b7=Cm [b0,b1,b2,b3,b4,b5,b6,b7]:=by
 rw[ALp (h b0 (by simp)) (h b1 (by simp)) (h b2 (by simp)) (h b3 (by simp)) (h b4 (by simp)) (h b5 (by simp)) (h b6 (by simp)) (h b7 (by simp))];simp only[Cm];omega
theorem AB6{l a w c:List Int}(h:cI l)(e:l=a++(w++c))(hw:w.length=8):∃A H:Int,0<=A/\A<256^a.length/\0<=H/\Cm l=A+256^a.length*(Cm w+18446744073709551616*H)/\0<=Cm w/\Cm w<18446744073709551616:=by
 subst e;have ha:cI a:=λx hx=>h x (List.mem_append_left _ hx)
 have hb:cI w:=λx hx=>h x (kv _ (List.mem_append_left _ hx))
 have hc:cI c:=λx hx=>h x (kv _ (kv _ hx))
 have h1:=NT ha;have h2:=NT hb;have h3:=NT hc;rw[hw] at h2;refine⟨Cm a,Cm c,h1.1,h1.2,h3.1,?_,h2.1,h2.2⟩;rw[QF,QF,hw];rfl
theorem AMb{b0 b1 b2 b3 b4 b5 b6 b7 b8 b9 b10 b11 ω Γ b14 b15 b16 b17 b18 Δ b20 b21 b22 b23 Θ Ψ Ξ b27 b28 b29 b30 b31:Int}(h:cI [b0,b1,b2,b3,b4,b5,b6,b7,b8,b9,b10,b11,ω,Γ,b14,b15,b16,b17,b18,Δ,b20,b21,b22,b23,Θ,Ψ,Ξ,b27,b28,b29,b30,b31]):Ix [Ak .and .u64 (kg b0 b1 b2 b3 b4 b5 b6 b7) 2251799813685247,lm (kg b6 b7 b8 b9 b10 b11 ω Γ) 3,lm (kg ω Γ b14 b15 b16 b17 b18 Δ) 6,lm (kg Δ b20 b21 b22 b23 Θ Ψ Ξ) 1,lm (kg Θ Ψ Ξ b27 b28 b29 b30 b31) 12]/\Oe [Ak .and .u64 (kg b0 b1 b2 b3 b4 b5 b6 b7) 2251799813685247,lm (kg b6 b7 b8 b9 b10 b11 ω Γ) 3,lm (kg ω Γ b14 b15 b16 b17 b18 Δ) 6,lm (kg Δ b20 b21 b22 b23 Θ Ψ Ξ) 1,lm (kg Θ Ψ Ξ b27 b28 b29 b30 b31) 12]=Cm [b0,b1,b2,b3,b4,b5,b6,b7,b8,b9,b10,b11,ω,Γ,b14,b15,b16,b17,b18,Δ,b20,b21,b22,b23,Θ,Ψ,Ξ,b27,b28,b29,b30,b31]%57896044618658097711785492504343953926634992332820282019728792003956564819968:=by
 obtain⟨A0,H0,a0,c0,g0,d0,r0⟩:=AB6 (a:=[]) (w:=[b0,b1,b2,b3,b4,b5,b6,b7]) (c:=[b8,b9,b10,b11,ω,Γ,b14,b15,b16,b17,b18,Δ,b20,b21,b22,b23,Θ,Ψ,Ξ,b27,b28,b29,b30,b31]) h rfl rfl;rw[Zp (λx hx=>h x (by revert hx;simp only[G9,List.not_mem_nil,or_false];intro hx;rcases hx with hx|hx|hx|hx|hx|hx|hx|hx<;>(subst hx;simp)))]
 obtain⟨A1,H1,a1,c1,g1,d1,r1⟩:=AB6 (a:=[b0,b1,b2,b3,b4,b5]) (w:=[b6,b7,b8,b9,b10,b11,ω,Γ]) (c:=[b14,b15,b16,b17,b18,Δ,b20,b21,b22,b23,Θ,Ψ,Ξ,b27,b28,b29,b30,b31]) h rfl rfl;rw[Zp (λx hx=>h x (by revert hx;simp only[G9,List.not_mem_nil,or_false];intro hx;rcases hx with hx|hx|hx|hx|hx|hx|hx|hx<;>(subst hx;simp)))]
 obtain⟨A2,H2,a2,c2,g2,d2,r2⟩:=AB6 (a:=[b0,b1,b2,b3,b4,b5,b6,b7,b8,b9,b10,b11]) (w:=[ω,Γ,b14,b15,b16,b17,b18,Δ]) (c:=[b20,b21,b22,b23,Θ,Ψ,Ξ,b27,b28,b29,b30,b31]) h rfl rfl;rw[Zp (λx hx=>h x (by revert hx;simp only[G9,List.not_mem_nil,or_false];intro hx;rcases hx with hx|hx|hx|hx|hx|hx|hx|hx<;>(subst hx;simp)))]
 obtain⟨A3,H3,a3,c3,g3,d3,r3⟩:=AB6 (a:=[b0,b1,b2,b3,b4,b5,b6,b7,b8,b9,b10,b11,ω,Γ,b14,b15,b16,b17,b18]) (w:=[Δ,b20,b21,b22,b23,Θ,Ψ,Ξ]) (c:=[b27,b28,b29,b30,b31]) h rfl rfl;rw[Zp (λx hx=>h x (by revert hx;simp only[G9,List.not_mem_nil,or_false];intro hx;rcases hx with hx|hx|hx|hx|hx|hx|hx|hx<;>(subst hx;simp)))]
 obtain⟨A4,H4,a4,c4,g4,d4,r4⟩:=AB6 (a:=[b0,b1,b2,b3,b4,b5,b6,b7,b8,b9,b10,b11,ω,Γ,b14,b15,b16,b17,b18,Δ,b20,b21,b22,b23]) (w:=[Θ,Ψ,Ξ,b27,b28,b29,b30,b31]) (c:=[]) h rfl rfl;rw[Zp (λx hx=>h x (by revert hx;simp only[G9,List.not_mem_nil,or_false];intro hx;rcases hx with hx|hx|hx|hx|hx|hx|hx|hx<;>(subst hx;simp)))]
 generalize Cm [b0,b1,b2,b3,b4,b5,b6,b7]=W0 at *
 generalize Cm [b6,b7,b8,b9,b10,b11,ω,Γ]=W1 at *
 generalize Cm [ω,Γ,b14,b15,b16,b17,b18,Δ]=W2 at *
 generalize Cm [Δ,b20,b21,b22,b23,Θ,Ψ,Ξ]=W3 at *
 generalize Cm [Θ,Ψ,Ξ,b27,b28,b29,b30,b31]=W4 at *
 generalize Cm [b0,b1,b2,b3,b4,b5,b6,b7,b8,b9,b10,b11,ω,Γ,b14,b15,b16,b17,b18,Δ,b20,b21,b22,b23,Θ,Ψ,Ξ,b27,b28,b29,b30,b31]=L at *
 have q0:(256:Int)^(List.length (α:=Int) [])=1:=by kernel_rfl
 rw[q0] at c0 d0;clear q0;have q1:(256:Int)^(List.length (α:=Int) [b0,b1,b2,b3,b4,b5])=281474976710656:=by kernel_rfl
 rw[q1] at c1 d1;clear q1;have q2:(256:Int)^(List.length (α:=Int) [b0,b1,b2,b3,b4,b5,b6,b7,b8,b9,b10,b11])=79228162514264337593543950336:=by kernel_rfl
 rw[q2] at c2 d2;clear q2;have q3:(256:Int)^(List.length (α:=Int) [b0,b1,b2,b3,b4,b5,b6,b7,b8,b9,b10,b11,ω,Γ,b14,b15,b16,b17,b18])=5708990770823839524233143877797980545530986496:=by kernel_rfl
 rw[q3] at c3 d3;clear q3;have q4:(256:Int)^(List.length (α:=Int) [b0,b1,b2,b3,b4,b5,b6,b7,b8,b9,b10,b11,ω,Γ,b14,b15,b16,b17,b18,Δ,b20,b21,b22,b23])=6277101735386680763835789423207666416102355444464034512896:=by kernel_rfl
 rw[q4] at c4 d4;clear q4;clear h;rw[(ZP r0.1 r0.2).1,(ZP r1.1 r1.2).2.1,(ZP r2.1 r2.2).2.2.1,(ZP r3.1 r3.2).2.2.2.1,(ZP r4.1 r4.2).2.2.2.2];have x0:W0%2251799813685248=L%2251799813685248:=by omega
 have x1:W1/8%2251799813685248=L/2251799813685248%2251799813685248:=by omega
 have x2:W2/64%2251799813685248=L/5070602400912917605986812821504%2251799813685248:=by omega
 have x3:W3/2%2251799813685248=L/11417981541647679048466287755595961091061972992%2251799813685248:=by omega
 have x4:W4/4096%2251799813685248=L/25711008708143844408671393477458601640355247900524685364822016%2251799813685248:=by omega
 clear d0 d1 d2 d3 d4 a0 a1 a2 a3 a4 c0 c1 c2 c3 c4 g0 g1 g2 g3 g4;rw[x0,x1,x2,x3,x4];clear x0 x1 x2 x3 x4;refine⟨⟨rfl,λk hk=>?_⟩,?_⟩
 ·match k,hk with
  |0,_=>exact⟨by show(0:Int)<=L%2251799813685248;omega,by show L%2251799813685248<=(2251799813947392:Int);omega⟩
  |1,_=>exact⟨by show(0:Int)<=L/2251799813685248%2251799813685248;omega,by show L/2251799813685248%2251799813685248<=(2251799813947392:Int);omega⟩
  |2,_=>exact⟨by show(0:Int)<=L/5070602400912917605986812821504%2251799813685248;omega,by show L/5070602400912917605986812821504%2251799813685248<=(2251799813947392:Int);omega⟩
  |3,_=>exact⟨by show(0:Int)<=L/11417981541647679048466287755595961091061972992%2251799813685248;omega,by show L/11417981541647679048466287755595961091061972992%2251799813685248<=(2251799813947392:Int);omega⟩
  |4,_=>exact⟨by show(0:Int)<=L/25711008708143844408671393477458601640355247900524685364822016%2251799813685248;omega,by show L/25711008708143844408671393477458601640355247900524685364822016%2251799813685248<=(2251799813947392:Int);omega⟩
 ·show L%2251799813685248+2251799813685248*(L/2251799813685248%2251799813685248)+5070602400912917605986812821504*(L/5070602400912917605986812821504%2251799813685248)+11417981541647679048466287755595961091061972992*(L/11417981541647679048466287755595961091061972992%2251799813685248)+25711008708143844408671393477458601640355247900524685364822016*(L/25711008708143844408671393477458601640355247900524685364822016%2251799813685248)=L%57896044618658097711785492504343953926634992332820282019728792003956564819968;omega
end
section
open Go Ma
def AOE (fi fm fb fn:Nat) (p:Vc) (es:SY):Bool:=match p.ds,es with
 | [(n0,⟨.fn f0 true 0,[.xs _,.xs zc]⟩),(n1,⟨.fn f1 true 0,[.xs _,.xs xc,.vec m1]⟩),(n2,⟨.fn f2 true 0,[.xs _,.xs yc,.vec m2]⟩),(n3,⟨.fn f3 true 0,[.vec m3]⟩),(n4,⟨.fn f4 true 0,[.vec m4]⟩),
   (n5,⟨.bin .shl .i64,[.xs [.v a5 0],.xs [.lit (.ofNat 7)]]⟩),(n6,⟨.conv .u8,[.xs [.v a6 0]]⟩),(n7,⟨.bin .or .u8,[.xs [.v a7 31],.xs [.v b7 0]]⟩)],(xs,_)::_=>
  (Nat.beq f0 fi&&Nat.beq f1 fm&&Nat.beq f2 fm&&Nat.beq f3 fb&&Nat.beq f4 fn)&&(di zc 0 10 5&&di xc 0 0 5&&di yc 0 5 5)&&(Nat.beq m1 n0&&Nat.beq m2 n0&&Nat.beq m3 n2&&Nat.beq m4 n1) &&
   (Nat.beq a5 n4&&Nat.beq a6 n5&&Nat.beq a7 n3&&Nat.beq b7 n6)&&di (xs.take 31) n3 0 31&&(match xs.drop 31 with
    | [.v c 0]=>Nat.beq c n7
    |_=>false)
 |_,_=>false
def wu(s:Int):Int:=IntKind.u8.wrap (Ak .shl .i64 s 7)
theorem AJh{i:Ac}{C:Cx}{a:List Int}{p:Vc}{es:SY}{ρ:Bu}{fi fm fb fn:Nat}(hr:Run i C [a] p es ρ)(hp:0<i.s0.params.length)(hq:AOE fi fm fb fn p es=true)(ha:a.length=20):
  ∃v0 v1 v2:List Int,∀z x y b s:List Int,z=gv C.T fi 0 [v0,(a.drop 10).take 5]->x=gv C.T fm 0 [v1,a.take 5,z]->y=gv C.T fm 0 [v2,(a.drop 5).take 5,z]->b=gv C.T fb 0 [y]->s=gv C.T fn 0 [x]->b.length=32->
   i.raw C 0 [a]=b.take 31 ++ [Ak .or .u8 (b.getD 31 0) (wu (s.getD 0 0))]:=by
 unfold AOE at hq;split at hq
 ·rename_i n0 f0 v0 zc n1 f1 v1 xc m1 n2 f2 v2 yc m2 n3 f3 m3 n4 f4 m4 n5 a5 n6 a6 n7 a7 b7 xs F rest rK;simp only[Bj] at hq;obtain⟨⟨⟨⟨⟨⟨⟨⟨⟨e1,e2⟩,e3⟩,e4⟩,e5⟩,⟨⟨c1,c2⟩,c3⟩⟩,⟨⟨⟨g1,g2⟩,g3⟩,g4⟩⟩,⟨⟨⟨k1,k2⟩,k3⟩,k4⟩⟩,w1⟩,w2⟩:=hq;replace e1:=Ca e1;replace e2:=Ca e2;replace e3:=Ca e3;replace e4:=Ca e4;replace e5:=Ca e5;replace g1:=Ca g1;replace g2:=Ca g2;replace g3:=Ca g3;replace g4:=Ca g4;replace k1:=Ca k1;replace k2:=Ca k2;replace k3:=Ca k3;replace k4:=Ca k4;subst e1 e2 e3 e4 e5 g1 g2 g3 g4 k1 k2 k3 k4;have h0:ρ 0=a:=hr.ar 0 hp;have D:∀n d,(n,d)∈p.ds->ρ n=d.den C.T ρ:=λn d hm=>hr.ds (n,d) hm
  rw[rK] at D;have hz:=Vn (ρ:=ρ) c1 (by rw[h0];omega);have hx:=Vn (ρ:=ρ) c2 (by rw[h0];omega);have hy:=Vn (ρ:=ρ) c3 (by rw[h0];omega);rw[h0] at hz hx hy;refine⟨v0.map (·.den ρ),v1.map (·.den ρ),v2.map (·.den ρ),λz x y b s ez ex ey eb es' hb=>?_⟩;have dz:ρ m2=z:=by
   rw[D m2 ⟨.fn f0 true 0,[.xs v0,.xs zc]⟩ (by simp),ez];show gv C.T f0 0 [v0.map (·.den ρ),zc.map (·.den ρ)]=_;rw[hz]
  have dx:ρ m4=x:=by
   rw[D m4 ⟨.fn f2 true 0,[.xs v1,.xs xc,.vec m2]⟩ (by simp),ex, <- dz];show gv C.T f2 0 [v1.map (·.den ρ),xc.map (·.den ρ),ρ m2]=_;rw[hx,W7]
  have dy:ρ m3=y:=by
   rw[D m3 ⟨.fn f2 true 0,[.xs v2,.xs yc,.vec m2]⟩ (by simp),ey, <- dz];show gv C.T f2 0 [v2.map (·.den ρ),yc.map (·.den ρ),ρ m2]=_;rw[hy]
  have db:ρ a7=b:=by
   rw[D a7 ⟨.fn f3 true 0,[.vec m3]⟩ (by simp),eb, <- dy];rfl
  have dsg:ρ a5=s:=by
   rw[D a5 ⟨.fn f4 true 0,[.vec m4]⟩ (by simp),es', <- dx];rfl
  have d5:ρ a6= [Ak .shl .i64 (s.getD 0 0) 7]:=by
   rw[D a6 ⟨.bin .shl .i64,[.xs [.v a5 0],.xs [.lit 7]]⟩ (by simp), <- dsg];rfl
  have d6:ρ b7= [wu (s.getD 0 0)]:=by
   rw[D b7 ⟨.conv .u8,[.xs [.v a6 0]]⟩ (by simp)];show[IntKind.u8.wrap ((ρ a6).getD 0 0)]=_;rw[d5];rfl
  have d7:ρ n7= [Ak .or .u8 (b.getD 31 0) (wu (s.getD 0 0))]:=by
   rw[D n7 ⟨.bin .or .u8,[.xs [.v a7 31],.xs [.v b7 0]]⟩ (by simp)];show[Ak .or .u8 ((ρ a7).getD 31 0) ((ρ b7).getD 0 0)]=_;rw[d6,db];rfl
  rw[hr.raw 0 _ rfl];show xs.map (·.den ρ)=_;rw[<- List.take_append_drop 31 xs,List.map_append];have h1:=Vn (ρ:=ρ) w1 (by rw[db];omega);rw[h1,db,W7]
  congr 1
  split at w2
  ·rename_i c hc;have:=Ca w2;subst this;rw[hc];show[(ρ c).getD 0 0]=_;rw[d7];rfl
  ·cases w2
 ·cases hq
theorem AMn:ALa (AOE 131 67 142 133) (Ar.tree AX) AX Ar.s0 Ar.cA [none]=true:=by kernel_rfl
theorem ADg(c:Bool):wu (bif c then 1 else 0)=bif c then 128 else 0:=by cases c<;>rfl
theorem AFc{b:List Int}(hb:cI b)(hl:b.length=32)(agO:Cm b<57896044618658097711785492504343953926634992332820282019728792003956564819968)(c:Bool):
  cI (b.take 31 ++ [Ak .or .u8 (b.getD 31 0) (bif c then 128 else 0)])/\(b.take 31 ++ [Ak .or .u8 (b.getD 31 0) (bif c then 128 else 0)]).length=32/\Cm (b.take 31 ++ [Ak .or .u8 (b.getD 31 0) (bif c then 128 else 0)])=Cm b+(bif c then 57896044618658097711785492504343953926634992332820282019728792003956564819968 else 0):=by
 have wc:=hb (b.getD 31 0) (by rw[show b.getD 31 0=b[31]'(by omega) by simp[List.getD,hl]];exact ku _);have Mp:b=b.take 31 ++ [b.getD 31 0]:=by
  have h1:b.drop 31= [b.getD 31 0]:=by
   rw[List.drop_eq_getElem_cons (by omega:31<b.length),List.drop_eq_nil_of_le (by omega)];simp[List.getD,hl]
  rw[<- h1,List.take_append_drop]
 have e0:Cm b=Cm (b.take 31)+256^31*b.getD 31 0:=by
  have:=QF (b.take 31) [b.getD 31 0];rw[<- Mp,Qw,hl] at this;rw[this];simp[Cm]
 have ht:=NT (l:=b.take 31) (λx hx=>hb x (List.mem_of_mem_take hx));have hp:(256:Int)^31=452312848583266388373324160190187140051835877600158453279131187530910662656:=by decide
 rw[hp] at e0;have PJ:b.getD 31 0<128:=by omega
 have hor:Ak .or .u8 (b.getD 31 0) (bif c then 128 else 0)=b.getD 31 0+(bif c then 128 else 0):=by
  have hx:IJ .u8 (b.getD 31 0):=⟨wc.1,wc.2⟩;cases c
  ·have:=(Tt (k:=.u8) rfl (x:=0) (y:=b.getD 31 0) ⟨by decide,by decide⟩ hx (m:=8) ⟨0,rfl⟩ (by show b.getD 31 0<256;omega)).2;show Es .or .u8 (b.getD 31 0) 0=b.getD 31 0+0;rw[this];omega
  ·have:=(Tt (k:=.u8) rfl (x:=128) (y:=b.getD 31 0) ⟨by decide,by decide⟩ hx (m:=7) ⟨1,rfl⟩ (by show b.getD 31 0<128;omega)).2;show Es .or .u8 (b.getD 31 0) 128=b.getD 31 0+128;rw[this];omega
 rw[hor];refine⟨λx hx=>?_,by rw[NC,Qw,hl];rfl,?_⟩
 ·rcases qM.1 hx with h|h
  ·exact hb x (List.mem_of_mem_take h)
  ·rw[NU] at h;subst h;cases c
   ·show 0<=b.getD 31 0+0/\b.getD 31 0+0<=255;omega
   ·show 0<=b.getD 31 0+128/\b.getD 31 0+128<=255;omega
 ·rw[QF,Qw,hl,e0,show min 31 32=31 from rfl,hp];cases c
  ·simp only[Cm,cond_false];omega
  ·simp only[Cm,cond_true];omega
theorem AOF:CO.pr 0= .l λa=>BF 32 (Ar.raw AX 0 a):=rfl
theorem AMe{T:Tb}(h:lk 62 T=some (.one CO)){P:Pt}{l:List Int}(hP:R3 P l):
  cI (gv T 62 0 [l])/\(gv T 62 0 [l]).length=32/\Cm (gv T 62 0 [l])=(P.y.val:Int)+(bif Nat.beq (P.x.val%2) 1 then 57896044618658097711785492504343953926634992332820282019728792003956564819968 else 0):=by
 have hlen:=RR.len (r:=.p3) hP;obtain⟨X,Y,Z,U,hl,hq⟩:=hP;obtain⟨u1,w1,k1,q1,u2,w2,k3,q2,u3,w3,k5,q3,u4,w4,k7,q4,k9⟩:=hl;obtain⟨p,es,ρ,hr,hc⟩:=AJW AMn (ins:=[l]) (λj l' hj=>by
  rcases j with _|j
  ·simp at hj
  ·simp at hj)
 obtain⟨v0,v1,v2,fS⟩:=AJh hr (by decide) hc hlen;have L1:=q1.1.1;have L2:=q2.1.1;have L3:=q3.1.1;have f1:l.take 5=u1:=by rw[k1, <- L1,List.take_left]
 have f2:(l.drop 5).take 5=u2:=by rw[k1, <- L1,List.drop_left,k3,L1, <- L2,List.take_left]
 have f3:(l.drop 10).take 5=u3:=by
  rw[k1,k3, <- Yt,show 10=(u1++u2).length by simp[L1,L2],List.drop_left,k5, <- L3,List.take_left]
 rw[f1,f2,f3] at fS;have hz:=(qx (T:=AX.T) rfl v0 u3 Z q3).2;have hx:=(KH (T:=AX.T) rfl v1 u1 _ X _ q1 hz).2;have hy:=(KH (T:=AX.T) rfl v2 u2 _ Y _ q2 hz).2;have hzi:Z*Ja Z eI=1:=XN hq.z;have ex:X*Ja Z eI=P.x:=by rw[hq.x,Fin.mul_assoc,hzi,Fin.mul_one]
 have ey:Y*Ja Z eI=P.y:=by rw[hq.y,Fin.mul_assoc,hzi,Fin.mul_one]
 rw[ex] at hx;rw[ey] at hy;have hb:=(kP (T:=AX.T) rfl hy).2;have hs:=(tK (T:=AX.T) rfl _ P.x hx).2;have aa6:=fS _ _ _ _ _ rfl rfl rfl rfl rfl hb.1;rw[hs] at aa6;have cV:((kT (Nat.beq (P.x.val%2) 1)).getD 0 0)=bif Nat.beq (P.x.val%2) 1 then 1 else 0:=rfl;rw[cV,ADg] at aa6;have bj:Cm (gv AX.T 142 0 [gv AX.T 67 0 [v2,u2,gv AX.T 131 0 [v0,u3]]])<57896044618658097711785492504343953926634992332820282019728792003956564819968:=by
  rw[hb.2.2];have:=P.y.isLt;have h2:(PP:Nat)<=57896044618658097711785492504343953926634992332820282019728792003956564819968:=by decide
  omega
 obtain⟨r1,r2,r3⟩:=AFc hb.2.1 hb.1 bj (Nat.beq (P.x.val%2) 1);have e:gv T 62 0 [l]=Ar.raw AX 0 [l]:=by
  rw[Bf h,AOF];show BF 32 (Ar.raw AX 0 [l])=_;exact Ay (by rw[aa6];exact r2)
 rw[e,aa6];exact⟨r1,r2,by rw[r3,hb.2.2]⟩
end
end Go.Proofs.YtkbfdaoohhmgoaaGreatDoor
