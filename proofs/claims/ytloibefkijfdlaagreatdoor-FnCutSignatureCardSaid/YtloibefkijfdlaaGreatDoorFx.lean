/- SetBytes of any 32 bytes: the number that they are modulo 2^255, modulo p. -/
import Derived.Test.YtloibefkijfdlaaGreatDoorKyx
namespace Go.Proofs.YtloibefkijfdlaaGreatDoor
section
open Go Ma
def mb(acc b:Int):Int:=Ah .or .u64 (Ah .shl .u64 acc 8) (IntKind.u64.wrap b)
def gq(b0 b1 b2 b3 b4 b5 b6 b7:Int):Int:=mb (mb (mb (mb (mb (mb (mb (Ah .or .u64 0 (IntKind.u64.wrap b7)) b6) b5) b4) b3) b2) b1) b0
theorem Sm{acc b:Int}(h0:0<=acc)(h1:acc<72057594037927936)(h2:0<=b)(h3:b<=255):mb acc b=256*acc+b:=by
 have e1:Ah .shl .u64 acc 8=256*acc:=by
  show IntKind.u64.wrap (acc*2^(min (8:Int).toNat 64))=_;rw[KC rfl];show acc*256%18446744073709551616=256*acc;omega
 have e2:IntKind.u64.wrap b=b:=by
  rw[KC rfl];show b%18446744073709551616=b;omega
 unfold mb;rw[e1,e2];have hx:IU .u64 (256*acc):=(I1 rfl).2 ⟨by omega,by show _<(18446744073709551616:Int);omega⟩;have hy:IU .u64 b:=(I1 rfl).2 ⟨h2,by show _<(18446744073709551616:Int);omega⟩;exact(UI rfl hx hy (m:=8) ⟨acc,rfl⟩ (by show b<256;omega)).1
theorem ALb{b0 b1 b2 b3 b4 b5 b6 b7:Int}(h0:0<=b0/\b0<=255)(h1:0<=b1/\b1<=255)(h2:0<=b2/\b2<=255)(h3:0<=b3/\b3<=255)(h4:0<=b4/\b4<=255)(h5:0<=b5/\b5<=255)(h6:0<=b6/\b6<=255)(h7:0<=b7/\b7<=255):
  gq b0 b1 b2 b3 b4 b5 b6 b7=b0+256*b1+65536*b2+16777216*b3+4294967296*b4+1099511627776*b5+281474976710656*b6+72057594037927936*b7:=by
 have e0:Ah .or .u64 0 (IntKind.u64.wrap b7)=b7:=by
  have e2:IntKind.u64.wrap b7=b7:=by
   rw[KC rfl];show b7%18446744073709551616=b7;omega
  rw[e2];have hx:IU .u64 (0:Int):=(I1 rfl).2 ⟨by omega,by decide⟩;have hy:IU .u64 b7:=(I1 rfl).2 ⟨h7.1,by show _<(18446744073709551616:Int);omega⟩;have:=(UI rfl hx hy (m:=8) ⟨0,rfl⟩ (by show b7<256;omega)).1;rw[zcz] at this;exact this
 unfold gq;rw[e0,Sm h7.1 (by omega) h6.1 h6.2,Sm (by omega) (by omega) h5.1 h5.2,Sm (by omega) (by omega) h4.1 h4.2,Sm (by omega) (by omega) h3.1 h3.2,Sm (by omega) (by omega) h2.1 h2.2,Sm (by omega) (by omega) h1.1 h1.2,Sm (by omega) (by omega) h0.1 h0.2];omega
def lm(w:Int)(s:Int):Int:=Ah .and .u64 (Ah .shr .u64 w s) 2251799813685247
theorem ZK{w:Int}(h0:0<=w)(h1:w<18446744073709551616):Ah .and .u64 w 2251799813685247=w%2251799813685248/\lm w 3=w/8%2251799813685248/\lm w 6=w/64%2251799813685248/\lm w 1=w/2%2251799813685248/\lm w 12=w/4096%2251799813685248:=by
 have hm:∀x:Int,0<=x->x<18446744073709551616->Ah .and .u64 x 2251799813685247=x%2251799813685248:=λx h0 h1=>by
  have:=Vw (k:=.u64) rfl ((I1 rfl).2 ⟨h0,h1⟩:IU .u64 x) (m:=51) (by decide);exact this
 refine⟨hm w h0 h1,?_,?_,?_,?_⟩
 ·show Ah .and .u64 (w.fdiv 8) 2251799813685247=_;rw[Int.fdiv_eq_ediv_of_nonneg _ (by decide),hm _ (by omega) (by omega)]
 ·show Ah .and .u64 (w.fdiv 64) 2251799813685247=_;rw[Int.fdiv_eq_ediv_of_nonneg _ (by decide),hm _ (by omega) (by omega)]
 ·show Ah .and .u64 (w.fdiv 2) 2251799813685247=_;rw[Int.fdiv_eq_ediv_of_nonneg _ (by decide),hm _ (by omega) (by omega)]
 ·show Ah .and .u64 (w.fdiv 4096) 2251799813685247=_;rw[Int.fdiv_eq_ediv_of_nonneg _ (by decide),hm _ (by omega) (by omega)]
theorem ALJ(v:List Int)(b0 b1 b2 b3 b4 b5 b6 b7 b8 b9 Ξ Ψ υ τ b14 b15 b16 b17 Ω ψ b20 b21 b22 b23 Δ Γ Θ b27 b28 b29 b30 χ:Int):DL.raw DK 0 [v,[b0,b1,b2,b3,b4,b5,b6,b7,b8,b9,Ξ,Ψ,υ,τ,b14,b15,b16,b17,Ω,ψ,b20,b21,b22,b23,Δ,Γ,Θ,b27,b28,b29,b30,χ]]= [Ah .and .u64 (gq b0 b1 b2 b3 b4 b5 b6 b7) 2251799813685247,lm (gq b6 b7 b8 b9 Ξ Ψ υ τ) 3,lm (gq υ τ b14 b15 b16 b17 Ω ψ) 6,lm (gq ψ b20 b21 b22 b23 Δ Γ Θ) 1,lm (gq Δ Γ Θ b27 b28 b29 b30 χ) 12]:=by kernel_rfl
theorem QQ:∀(a b:List Int),Ct (a++b)=Ct a+256^a.length*Ct b
 | [],b=>by simp[Ct]
 |x::a,b=>by
  rw[zct,Ct,Ct,QQ a b,Uk,RW];generalize Ct a=u;generalize Ct b=v;generalize (256:Int)^a.length=q;have:q*256*v=256*(q*v):=by rw[Xg q 256,Xt]
  rw[this];generalize q*v=r;omega
theorem X9{b0 b1 b2 b3 b4 b5 b6 b7:Int}(h:cM [b0,b1,b2,b3,b4,b5,b6,b7]):gq b0 b1 b2 b3 b4 b5 b6 b7=Ct [b0,b1,b2,b3,b4,b5,b6,b7]:=by
 rw[ALb (h b0 (by simp)) (h b1 (by simp)) (h b2 (by simp)) (h b3 (by simp)) (h b4 (by simp)) (h b5 (by simp)) (h b6 (by simp)) (h b7 (by simp))];simp only[Ct];omega
theorem ACD{l a w c:List Int}(h:cM l)(e:l=a++(w++c))(hw:w.length=8):∃A H:Int,0<=A/\A<256^a.length/\0<=H/\Ct l=A+256^a.length*(Ct w+18446744073709551616*H)/\0<=Ct w/\Ct w<18446744073709551616:=by
 subst e;have ha:cM a:=λx hx=>h x (List.mem_append_left _ hx)
 have hb:cM w:=λx hx=>h x (iB _ (List.mem_append_left _ hx))
 have hc:cM c:=λx hx=>h x (iB _ (iB _ hx))
 have h1:=KV ha;have h2:=KV hb;have h3:=KV hc;rw[hw] at h2;refine⟨Ct a,Ct c,h1.1,h1.2,h3.1,?_,h2.1,h2.2⟩;rw[QQ,QQ,hw];rfl
theorem AKZ{b0 b1 b2 b3 b4 b5 b6 b7 b8 b9 Ξ Ψ υ τ b14 b15 b16 b17 Ω ψ b20 b21 b22 b23 Δ Γ Θ b27 b28 b29 b30 χ:Int}(h:cM [b0,b1,b2,b3,b4,b5,b6,b7,b8,b9,Ξ,Ψ,υ,τ,b14,b15,b16,b17,Ω,ψ,b20,b21,b22,b23,Δ,Γ,Θ,b27,b28,b29,b30,χ]):Is [Ah .and .u64 (gq b0 b1 b2 b3 b4 b5 b6 b7) 2251799813685247,lm (gq b6 b7 b8 b9 Ξ Ψ υ τ) 3,lm (gq υ τ b14 b15 b16 b17 Ω ψ) 6,lm (gq ψ b20 b21 b22 b23 Δ Γ Θ) 1,lm (gq Δ Γ Θ b27 b28 b29 b30 χ) 12]/\NG [Ah .and .u64 (gq b0 b1 b2 b3 b4 b5 b6 b7) 2251799813685247,lm (gq b6 b7 b8 b9 Ξ Ψ υ τ) 3,lm (gq υ τ b14 b15 b16 b17 Ω ψ) 6,lm (gq ψ b20 b21 b22 b23 Δ Γ Θ) 1,lm (gq Δ Γ Θ b27 b28 b29 b30 χ) 12]=Ct [b0,b1,b2,b3,b4,b5,b6,b7,b8,b9,Ξ,Ψ,υ,τ,b14,b15,b16,b17,Ω,ψ,b20,b21,b22,b23,Δ,Γ,Θ,b27,b28,b29,b30,χ]%57896044618658097711785492504343953926634992332820282019728792003956564819968:=by
 obtain⟨A0,H0,a0,c0,g0,d0,r0⟩:=ACD (a:=[]) (w:=[b0,b1,b2,b3,b4,b5,b6,b7]) (c:=[b8,b9,Ξ,Ψ,υ,τ,b14,b15,b16,b17,Ω,ψ,b20,b21,b22,b23,Δ,Γ,Θ,b27,b28,b29,b30,χ]) h rfl rfl;rw[X9 (λx hx=>h x (by revert hx;simp only[IR,List.not_mem_nil,or_false];intro hx;rcases hx with hx|hx|hx|hx|hx|hx|hx|hx<;>(subst hx;simp)))]
 obtain⟨A1,H1,a1,c1,g1,d1,r1⟩:=ACD (a:=[b0,b1,b2,b3,b4,b5]) (w:=[b6,b7,b8,b9,Ξ,Ψ,υ,τ]) (c:=[b14,b15,b16,b17,Ω,ψ,b20,b21,b22,b23,Δ,Γ,Θ,b27,b28,b29,b30,χ]) h rfl rfl;rw[X9 (λx hx=>h x (by revert hx;simp only[IR,List.not_mem_nil,or_false];intro hx;rcases hx with hx|hx|hx|hx|hx|hx|hx|hx<;>(subst hx;simp)))]
 obtain⟨A2,H2,a2,c2,g2,d2,r2⟩:=ACD (a:=[b0,b1,b2,b3,b4,b5,b6,b7,b8,b9,Ξ,Ψ]) (w:=[υ,τ,b14,b15,b16,b17,Ω,ψ]) (c:=[b20,b21,b22,b23,Δ,Γ,Θ,b27,b28,b29,b30,χ]) h rfl rfl;rw[X9 (λx hx=>h x (by revert hx;simp only[IR,List.not_mem_nil,or_false];intro hx;rcases hx with hx|hx|hx|hx|hx|hx|hx|hx<;>(subst hx;simp)))]
 obtain⟨A3,H3,a3,c3,g3,d3,r3⟩:=ACD (a:=[b0,b1,b2,b3,b4,b5,b6,b7,b8,b9,Ξ,Ψ,υ,τ,b14,b15,b16,b17,Ω]) (w:=[ψ,b20,b21,b22,b23,Δ,Γ,Θ]) (c:=[b27,b28,b29,b30,χ]) h rfl rfl;rw[X9 (λx hx=>h x (by revert hx;simp only[IR,List.not_mem_nil,or_false];intro hx;rcases hx with hx|hx|hx|hx|hx|hx|hx|hx<;>(subst hx;simp)))]
 obtain⟨A4,H4,a4,c4,g4,d4,r4⟩:=ACD (a:=[b0,b1,b2,b3,b4,b5,b6,b7,b8,b9,Ξ,Ψ,υ,τ,b14,b15,b16,b17,Ω,ψ,b20,b21,b22,b23]) (w:=[Δ,Γ,Θ,b27,b28,b29,b30,χ]) (c:=[]) h rfl rfl;rw[X9 (λx hx=>h x (by revert hx;simp only[IR,List.not_mem_nil,or_false];intro hx;rcases hx with hx|hx|hx|hx|hx|hx|hx|hx<;>(subst hx;simp)))]
 generalize Ct [b0,b1,b2,b3,b4,b5,b6,b7]=W0 at *
 generalize Ct [b6,b7,b8,b9,Ξ,Ψ,υ,τ]=W1 at *
 generalize Ct [υ,τ,b14,b15,b16,b17,Ω,ψ]=W2 at *
 generalize Ct [ψ,b20,b21,b22,b23,Δ,Γ,Θ]=W3 at *
 generalize Ct [Δ,Γ,Θ,b27,b28,b29,b30,χ]=W4 at *
 generalize Ct [b0,b1,b2,b3,b4,b5,b6,b7,b8,b9,Ξ,Ψ,υ,τ,b14,b15,b16,b17,Ω,ψ,b20,b21,b22,b23,Δ,Γ,Θ,b27,b28,b29,b30,χ]=L at *
 have q0:(256:Int)^(List.length (α:=Int) [])=1:=by kernel_rfl
 rw[q0] at c0 d0;clear q0;have q1:(256:Int)^(List.length (α:=Int) [b0,b1,b2,b3,b4,b5])=281474976710656:=by kernel_rfl
 rw[q1] at c1 d1;clear q1;have q2:(256:Int)^(List.length (α:=Int) [b0,b1,b2,b3,b4,b5,b6,b7,b8,b9,Ξ,Ψ])=79228162514264337593543950336:=by kernel_rfl
 rw[q2] at c2 d2;clear q2;have q3:(256:Int)^(List.length (α:=Int) [b0,b1,b2,b3,b4,b5,b6,b7,b8,b9,Ξ,Ψ,υ,τ,b14,b15,b16,b17,Ω])=5708990770823839524233143877797980545530986496:=by kernel_rfl
 rw[q3] at c3 d3;clear q3;have q4:(256:Int)^(List.length (α:=Int) [b0,b1,b2,b3,b4,b5,b6,b7,b8,b9,Ξ,Ψ,υ,τ,b14,b15,b16,b17,Ω,ψ,b20,b21,b22,b23])=6277101735386680763835789423207666416102355444464034512896:=by kernel_rfl
 rw[q4] at c4 d4;clear q4;clear h;rw[(ZK r0.1 r0.2).1,(ZK r1.1 r1.2).2.1,(ZK r2.1 r2.2).2.2.1,(ZK r3.1 r3.2).2.2.2.1,(ZK r4.1 r4.2).2.2.2.2];have x0:W0%2251799813685248=L%2251799813685248:=by omega
 have x1:W1/8%2251799813685248=L/2251799813685248%2251799813685248:=by omega
 have x2:W2/64%2251799813685248=L/5070602400912917605986812821504%2251799813685248:=by omega
 have x3:W3/2%2251799813685248=L/11417981541647679048466287755595961091061972992%2251799813685248:=by omega
 have x4:W4/4096%2251799813685248=L/25711008708143844408671393477458601640355247900524685364822016%2251799813685248:=by omega
 clear d0 d1 d2 d3 d4 a0 a1 a2 a3 a4 c0 c1 c2 c3 c4 g0 g1 g2 g3 g4;rw[x0,x1,x2,x3,x4];clear x0 x1 x2 x3 x4;refine⟨⟨rfl,λk hk=>?_⟩,?_⟩
 ·match k,hk with
  |0,_=>exact⟨by show(0:Int)<=L%2251799813685248;omega,by show L%2251799813685248<=(2251799813947392:Int);omega⟩
  |1,_=>exact⟨by show(0:Int)<=L/2251799813685248%2251799813685248;omega,by show L/2251799813685248%2251799813685248<=(2251799813947392:Int);omega⟩
  |2,_=>exact⟨by show(0:Int)<=L/5070602400912917605986812821504%2251799813685248;omega,by show L/5070602400912917605986812821504%2251799813685248<=(2251799813947392:Int);omega⟩
  |3,_=>exact⟨by show(0:Int)<=L/11417981541647679048466287755595961091061972992%2251799813685248;omega,by show L/11417981541647679048466287755595961091061972992%2251799813685248<=(2251799813947392:Int);omega⟩
  |4,_=>exact⟨by show(0:Int)<=L/25711008708143844408671393477458601640355247900524685364822016%2251799813685248;omega,by show L/25711008708143844408671393477458601640355247900524685364822016%2251799813685248<=(2251799813947392:Int);omega⟩
 ·show L%2251799813685248+2251799813685248*(L/2251799813685248%2251799813685248)+5070602400912917605986812821504*(L/5070602400912917605986812821504%2251799813685248)+11417981541647679048466287755595961091061972992*(L/11417981541647679048466287755595961091061972992%2251799813685248)+25711008708143844408671393477458601640355247900524685364822016*(L/25711008708143844408671393477458601640355247900524685364822016%2251799813685248)=L%57896044618658097711785492504343953926634992332820282019728792003956564819968;omega
end
section
open Go Ma
def AJv (fi fm fb fn:Nat) (p:Pth) (es:Rt):Bool:=match p.ds,es with
 | [(n0,⟨.fn f0 true 0,[.xs _,.xs zc]⟩),(n1,⟨.fn f1 true 0,[.xs _,.xs xc,.vec m1]⟩),(n2,⟨.fn f2 true 0,[.xs _,.xs yc,.vec m2]⟩),(n3,⟨.fn f3 true 0,[.vec m3]⟩),(n4,⟨.fn f4 true 0,[.vec m4]⟩),
   (n5,⟨.bin .shl .i64,[.xs [.v a5 0],.xs [.lit (.ofNat 7)]]⟩),(n6,⟨.conv .u8,[.xs [.v a6 0]]⟩),(n7,⟨.bin .or .u8,[.xs [.v a7 31],.xs [.v b7 0]]⟩)],(xs,_)::_=>
  (Nat.beq f0 fi&&Nat.beq f1 fm&&Nat.beq f2 fm&&Nat.beq f3 fb&&Nat.beq f4 fn)&&(bH zc 0 10 5&&bH xc 0 0 5&&bH yc 0 5 5)&&(Nat.beq m1 n0&&Nat.beq m2 n0&&Nat.beq m3 n2&&Nat.beq m4 n1) &&
   (Nat.beq a5 n4&&Nat.beq a6 n5&&Nat.beq a7 n3&&Nat.beq b7 n6)&&bH (xs.take 31) n3 0 31&&(match xs.drop 31 with
    | [.v c 0]=>Nat.beq c n7
    |_=>false)
 |_,_=>false
def wF(s:Int):Int:=IntKind.u8.wrap (Ah .shl .i64 s 7)
theorem AD9{i:Ad}{C:Cx}{a:List Int}{p:Pth}{es:Rt}{ρ:Br}{fi fm fb fn:Nat}(hr:Run i C [a] p es ρ)(hp:0<i.s0.params.length)(hq:AJv fi fm fb fn p es=true)(ha:a.length=20):
  ∃v0 v1 v2:List Int,∀z x y b s:List Int,z=gv C.T fi 0 [v0,(a.drop 10).take 5]->x=gv C.T fm 0 [v1,a.take 5,z]->y=gv C.T fm 0 [v2,(a.drop 5).take 5,z]->b=gv C.T fb 0 [y]->s=gv C.T fn 0 [x]->b.length=32->
   i.raw C 0 [a]=b.take 31 ++ [Ah .or .u8 (b.getD 31 0) (wF (s.getD 0 0))]:=by
 unfold AJv at hq;split at hq
 ·rename_i n0 f0 v0 zc n1 f1 v1 xc m1 n2 f2 v2 yc m2 n3 f3 m3 n4 f4 m4 n5 a5 n6 a6 n7 a7 b7 xs F rest sL;simp only[Bl] at hq;obtain⟨⟨⟨⟨⟨⟨⟨⟨⟨e1,e2⟩,e3⟩,e4⟩,e5⟩,⟨⟨c1,c2⟩,c3⟩⟩,⟨⟨⟨g1,g2⟩,g3⟩,g4⟩⟩,⟨⟨⟨k1,k2⟩,k3⟩,k4⟩⟩,w1⟩,w2⟩:=hq;replace e1:=CR e1;replace e2:=CR e2;replace e3:=CR e3;replace e4:=CR e4;replace e5:=CR e5;replace g1:=CR g1;replace g2:=CR g2;replace g3:=CR g3;replace g4:=CR g4;replace k1:=CR k1;replace k2:=CR k2;replace k3:=CR k3;replace k4:=CR k4;subst e1 e2 e3 e4 e5 g1 g2 g3 g4 k1 k2 k3 k4;have h0:ρ 0=a:=hr.ar 0 hp;have D:∀n d,(n,d)∈p.ds->ρ n=d.den C.T ρ:=λn d hm=>hr.ds (n,d) hm
  rw[sL] at D;have hz:=Ur (ρ:=ρ) c1 (by rw[h0];omega);have hx:=Ur (ρ:=ρ) c2 (by rw[h0];omega);have hy:=Ur (ρ:=ρ) c3 (by rw[h0];omega);rw[h0] at hz hx hy;refine⟨v0.map (·.den ρ),v1.map (·.den ρ),v2.map (·.den ρ),λz x y b s ez ex ey eb es' hb=>?_⟩;have dz:ρ m2=z:=by
   rw[D m2 ⟨.fn f0 true 0,[.xs v0,.xs zc]⟩ (by simp),ez];show gv C.T f0 0 [v0.map (·.den ρ),zc.map (·.den ρ)]=_;rw[hz]
  have dx:ρ m4=x:=by
   rw[D m4 ⟨.fn f2 true 0,[.xs v1,.xs xc,.vec m2]⟩ (by simp),ex, <- dz];show gv C.T f2 0 [v1.map (·.den ρ),xc.map (·.den ρ),ρ m2]=_;rw[hx,zcw]
  have dy:ρ m3=y:=by
   rw[D m3 ⟨.fn f2 true 0,[.xs v2,.xs yc,.vec m2]⟩ (by simp),ey, <- dz];show gv C.T f2 0 [v2.map (·.den ρ),yc.map (·.den ρ),ρ m2]=_;rw[hy]
  have db:ρ a7=b:=by
   rw[D a7 ⟨.fn f3 true 0,[.vec m3]⟩ (by simp),eb, <- dy];rfl
  have dsg:ρ a5=s:=by
   rw[D a5 ⟨.fn f4 true 0,[.vec m4]⟩ (by simp),es', <- dx];rfl
  have d5:ρ a6= [Ah .shl .i64 (s.getD 0 0) 7]:=by
   rw[D a6 ⟨.bin .shl .i64,[.xs [.v a5 0],.xs [.lit 7]]⟩ (by simp), <- dsg];rfl
  have d6:ρ b7= [wF (s.getD 0 0)]:=by
   rw[D b7 ⟨.conv .u8,[.xs [.v a6 0]]⟩ (by simp)];show[IntKind.u8.wrap ((ρ a6).getD 0 0)]=_;rw[d5];rfl
  have d7:ρ n7= [Ah .or .u8 (b.getD 31 0) (wF (s.getD 0 0))]:=by
   rw[D n7 ⟨.bin .or .u8,[.xs [.v a7 31],.xs [.v b7 0]]⟩ (by simp)];show[Ah .or .u8 ((ρ a7).getD 31 0) ((ρ b7).getD 0 0)]=_;rw[d6,db];rfl
  rw[hr.raw 0 _ rfl];show xs.map (·.den ρ)=_;rw[<- List.take_append_drop 31 xs,List.map_append];have h1:=Ur (ρ:=ρ) w1 (by rw[db];omega);rw[h1,db,zcw]
  congr 1
  split at w2
  ·rename_i c hc;have:=CR w2;subst this;rw[hc];show[(ρ c).getD 0 0]=_;rw[d7];rfl
  ·cases w2
 ·cases hq
theorem ALP:ALy (AJv 180 115 200 182) (Aq.tree AY) AY Aq.s0 Aq.cF [none]=true:=by kernel_rfl
theorem AAn(c:Bool):wF (bif c then 1 else 0)=bif c then 128 else 0:=by cases c<;>rfl
theorem AAY{b:List Int}(hb:cM b)(hl:b.length=32)(aiF:Ct b<57896044618658097711785492504343953926634992332820282019728792003956564819968)(c:Bool):
  cM (b.take 31 ++ [Ah .or .u8 (b.getD 31 0) (bif c then 128 else 0)])/\(b.take 31 ++ [Ah .or .u8 (b.getD 31 0) (bif c then 128 else 0)]).length=32/\Ct (b.take 31 ++ [Ah .or .u8 (b.getD 31 0) (bif c then 128 else 0)])=Ct b+(bif c then 57896044618658097711785492504343953926634992332820282019728792003956564819968 else 0):=by
 have tg:=hb (b.getD 31 0) (by rw[show b.getD 31 0=b[31]'(by omega) by simp[List.getD,hl]];exact lY _);have G0:b=b.take 31 ++ [b.getD 31 0]:=by
  have h1:b.drop 31= [b.getD 31 0]:=by
   rw[List.drop_eq_getElem_cons (by omega:31<b.length),List.drop_eq_nil_of_le (by omega)];simp[List.getD,hl]
  rw[<- h1,List.take_append_drop]
 have e0:Ct b=Ct (b.take 31)+256^31*b.getD 31 0:=by
  have:=QQ (b.take 31) [b.getD 31 0];rw[<- G0,Rk,hl] at this;rw[this];simp[Ct]
 have ht:=KV (l:=b.take 31) (λx hx=>hb x (List.mem_of_mem_take hx));have hp:(256:Int)^31=452312848583266388373324160190187140051835877600158453279131187530910662656:=by decide
 rw[hp] at e0;have Q1:b.getD 31 0<128:=by omega
 have hor:Ah .or .u8 (b.getD 31 0) (bif c then 128 else 0)=b.getD 31 0+(bif c then 128 else 0):=by
  have hx:IU .u8 (b.getD 31 0):=⟨tg.1,tg.2⟩;cases c
  ·have:=(UI (k:=.u8) rfl (x:=0) (y:=b.getD 31 0) ⟨by decide,by decide⟩ hx (m:=8) ⟨0,rfl⟩ (by show b.getD 31 0<256;omega)).2;show Dp .or .u8 (b.getD 31 0) 0=b.getD 31 0+0;rw[this];omega
  ·have:=(UI (k:=.u8) rfl (x:=128) (y:=b.getD 31 0) ⟨by decide,by decide⟩ hx (m:=7) ⟨1,rfl⟩ (by show b.getD 31 0<128;omega)).2;show Dp .or .u8 (b.getD 31 0) 128=b.getD 31 0+128;rw[this];omega
 rw[hor];refine⟨λx hx=>?_,by rw[MN,Rk,hl];rfl,?_⟩
 ·rcases jd.1 hx with h|h
  ·exact hb x (List.mem_of_mem_take h)
  ·rw[NB] at h;subst h;cases c
   ·show 0<=b.getD 31 0+0/\b.getD 31 0+0<=255;omega
   ·show 0<=b.getD 31 0+128/\b.getD 31 0+128<=255;omega
 ·rw[QQ,Rk,hl,e0,show min 31 32=31 from rfl,hp];cases c
  ·simp only[Ct,cond_false];omega
  ·simp only[Ct,cond_true];omega
theorem AJu:BL.pr 0= .l λa=>BK 32 (Aq.raw AY 0 a):=rfl
theorem AME{T:Tb}(h:lk 104 T=some (.one BL)){P:Pt}{l:List Int}(hP:R3 P l):
  cM (gv T 104 0 [l])/\(gv T 104 0 [l]).length=32/\Ct (gv T 104 0 [l])=(P.y.val:Int)+(bif Nat.beq (P.x.val%2) 1 then 57896044618658097711785492504343953926634992332820282019728792003956564819968 else 0):=by
 have hlen:=RR.len (r:=.p3) hP;obtain⟨X,Y,Z,U,hl,hq⟩:=hP;obtain⟨u1,w1,k1,q1,u2,w2,k3,q2,u3,w3,k5,q3,u4,w4,k7,q4,k9⟩:=hl;obtain⟨p,es,ρ,hr,hc⟩:=AGg ALP (ins:=[l]) (λj l' hj=>by
  rcases j with _|j
  ·simp at hj
  ·simp at hj)
 obtain⟨v0,v1,v2,ir⟩:=AD9 hr (by decide) hc hlen;have L1:=q1.1.1;have L2:=q2.1.1;have L3:=q3.1.1;have f1:l.take 5=u1:=by rw[k1, <- L1,List.take_left]
 have f2:(l.drop 5).take 5=u2:=by rw[k1, <- L1,List.drop_left,k3,L1, <- L2,List.take_left]
 have f3:(l.drop 10).take 5=u3:=by
  rw[k1,k3, <- bU,show 10=(u1++u2).length by simp[L1,L2],List.drop_left,k5, <- L3,List.take_left]
 rw[f1,f2,f3] at ir;have hz:=(oO (T:=AY.T) rfl v0 u3 Z q3).2;have hx:=(KO (T:=AY.T) rfl v1 u1 _ X _ q1 hz).2;have hy:=(KO (T:=AY.T) rfl v2 u2 _ Y _ q2 hz).2;have hzi:Z*ND Z eI=1:=WB hq.z;have ex:X*ND Z eI=P.x:=by rw[hq.x,Fin.mul_assoc,hzi,Fin.mul_one]
 have ey:Y*ND Z eI=P.y:=by rw[hq.y,Fin.mul_assoc,hzi,Fin.mul_one]
 rw[ex] at hx;rw[ey] at hy;have hb:=(dU (T:=AY.T) rfl hy).2;have hs:=(mF (T:=AY.T) rfl _ P.x hx).2;have abj:=ir _ _ _ _ _ rfl rfl rfl rfl rfl hb.1;rw[hs] at abj;have fx:((fA (Nat.beq (P.x.val%2) 1)).getD 0 0)=bif Nat.beq (P.x.val%2) 1 then 1 else 0:=rfl;rw[fx,AAn] at abj;have cf:Ct (gv AY.T 200 0 [gv AY.T 115 0 [v2,u2,gv AY.T 180 0 [v0,u3]]])<57896044618658097711785492504343953926634992332820282019728792003956564819968:=by
  rw[hb.2.2];have:=P.y.isLt;have h2:(PP:Nat)<=57896044618658097711785492504343953926634992332820282019728792003956564819968:=by decide
  omega
 obtain⟨r1,r2,r3⟩:=AAY hb.2.1 hb.1 cf (Nat.beq (P.x.val%2) 1);have e:gv T 104 0 [l]=Aq.raw AY 0 [l]:=by
  rw[BQ h,AJu];show BK 32 (Aq.raw AY 0 [l])=_;exact Bn (by rw[abj];exact r2)
 rw[e,abj];exact⟨r1,r2,by rw[r3,hb.2.2]⟩
end
end Go.Proofs.YtloibefkijfdlaaGreatDoor
