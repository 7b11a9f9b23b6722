/- SetBytes of any 32 bytes: the number that they are modulo 2^255, modulo p. -/
import Derived.Test.YtloibefkijfdlaaGreatDoorKyx
namespace Go.Proofs.YtloibefkijfdlaaGreatDoor
section
open Go Ma
theorem ko:∀ (a b:List Int),IG (a++b)=IG a+256^a.length*IG b
 | [],b=>by simp[IG]
 |x::a,b=>by
  rw[zcm,IG,IG,ko a b,Oq,zcq];generalize IG a=u;generalize IG b=v;generalize (256:Int)^a.length=q;have:q*256*v=256*(q*v):=by rw[Y6 q 256,Xr]
  rw[this];generalize q*v=r;omega
end
section
open Go Ma
def AOO (fi fm fb fn:Nat) (p:Pth) (es:TP):Bool:=match p.ds,es with
 | [(n0,⟨.fn f0 true 0,[.xs _,.xs zc]⟩),(n1,⟨.fn f1 true 0,[.xs _,.xs xc,.vec m1]⟩),(n2,⟨.fn f2 true 0,[.xs _,.xs yc,.vec m2]⟩),(n3,⟨.fn f3 true 0,[.vec m3]⟩),(n4,⟨.fn f4 true 0,[.vec m4]⟩),
   (n5,⟨.bin .shl .i64,[.xs [.v a5 0],.xs [.lit (.ofNat 7)]]⟩),(n6,⟨.conv .u8,[.xs [.v a6 0]]⟩),(n7,⟨.bin .or .u8,[.xs [.v a7 31],.xs [.v b7 0]]⟩)],(xs,_)::_=>
  (Nat.beq f0 fi&&Nat.beq f1 fm&&Nat.beq f2 fm&&Nat.beq f3 fb&&Nat.beq f4 fn)&&(jV zc 0 10 5&&jV xc 0 0 5&&jV yc 0 5 5)&&(Nat.beq m1 n0&&Nat.beq m2 n0&&Nat.beq m3 n2&&Nat.beq m4 n1) &&
   (Nat.beq a5 n4&&Nat.beq a6 n5&&Nat.beq a7 n3&&Nat.beq b7 n6)&&jV (xs.take 31) n3 0 31&&(match xs.drop 31 with
    | [.v c 0]=>Nat.beq c n7
    |_=>false)
 |_,_=>false
def wW(s:Int):Int:=IntKind.u8.wrap (Ao .shl .i64 s 7)
theorem AGs{i:AQ}{C:Cx}{a:List Int}{p:Pth}{es:TP}{ρ:Bl}{fi fm fb fn:Nat}(hr:Run i C [a] p es ρ)(hp:0<i.s0.params.length)(hq:AOO fi fm fb fn p es=true)(ha:a.length=20):
  ∃ v0 v1 v2:List Int,∀ z x y b s:List Int,z=gv C.T fi 0 [v0,(a.drop 10).take 5]→x=gv C.T fm 0 [v1,a.take 5,z]→y=gv C.T fm 0 [v2,(a.drop 5).take 5,z]→b=gv C.T fb 0 [y]→s=gv C.T fn 0 [x]→b.length=32→
   i.raw C 0 [a]=b.take 31 ++ [Ao .or .u8 (b.getD 31 0) (wW (s.getD 0 0))]:=by
 unfold AOO at hq
 split at hq
 ·rename_i n0 f0 v0 zc n1 f1 v1 xc m1 n2 f2 v2 yc m2 n3 f3 m3 n4 f4 m4 n5 a5 n6 a6 n7 a7 b7 xs F rest hds
  simp only[Bd] at hq;obtain⟨⟨⟨⟨⟨⟨⟨⟨⟨e1,e2⟩,e3⟩,e4⟩,e5⟩,⟨⟨c1,c2⟩,c3⟩⟩,⟨⟨⟨g1,g2⟩,g3⟩,g4⟩⟩,⟨⟨⟨k1,k2⟩,k3⟩,k4⟩⟩,w1⟩,w2⟩:=hq;replace e1:=CL e1;replace e2:=CL e2;replace e3:=CL e3;replace e4:=CL e4;replace e5:=CL e5;replace g1:=CL g1;replace g2:=CL g2;replace g3:=CL g3;replace g4:=CL g4;replace k1:=CL k1;replace k2:=CL k2;replace k3:=CL k3;replace k4:=CL k4;subst e1 e2 e3 e4 e5 g1 g2 g3 g4 k1 k2 k3 k4;have h0:ρ 0=a:=hr.ar 0 hp;have D:∀ n d,(n,d)∈p.ds→ρ n=d.den C.T ρ:=fun n d hm=>hr.ds (n,d) hm
  rw[hds] at D;have hz:=Wy (ρ:=ρ) c1 (by rw[h0];omega);have hx:=Wy (ρ:=ρ) c2 (by rw[h0];omega);have hy:=Wy (ρ:=ρ) c3 (by rw[h0];omega);rw[h0] at hz hx hy;refine⟨v0.map (·.den ρ),v1.map (·.den ρ),v2.map (·.den ρ),fun z x y b s ez ex ey eb es' hb=>?_⟩;have dz:ρ m2=z:=by
   rw[D m2 ⟨.fn f0 true 0,[.xs v0,.xs zc]⟩ (by simp),ez];show gv C.T f0 0 [v0.map (·.den ρ),zc.map (·.den ρ)]=_;rw[hz]
  have dx:ρ m4=x:=by
   rw[D m4 ⟨.fn f2 true 0,[.xs v1,.xs xc,.vec m2]⟩ (by simp),ex, ← dz];show gv C.T f2 0 [v1.map (·.den ρ),xc.map (·.den ρ),ρ m2]=_;rw[hx,zda]
  have dy:ρ m3=y:=by
   rw[D m3 ⟨.fn f2 true 0,[.xs v2,.xs yc,.vec m2]⟩ (by simp),ey, ← dz];show gv C.T f2 0 [v2.map (·.den ρ),yc.map (·.den ρ),ρ m2]=_;rw[hy]
  have db:ρ a7=b:=by
   rw[D a7 ⟨.fn f3 true 0,[.vec m3]⟩ (by simp),eb, ← dy];rfl
  have dsg:ρ a5=s:=by
   rw[D a5 ⟨.fn f4 true 0,[.vec m4]⟩ (by simp),es', ← dx];rfl
  have d5:ρ a6= [Ao .shl .i64 (s.getD 0 0) 7]:=by
   rw[D a6 ⟨.bin .shl .i64,[.xs [.v a5 0],.xs [.lit 7]]⟩ (by simp), ← dsg];rfl
  have d6:ρ b7= [wW (s.getD 0 0)]:=by
   rw[D b7 ⟨.conv .u8,[.xs [.v a6 0]]⟩ (by simp)];show [IntKind.u8.wrap ((ρ a6).getD 0 0)]=_;rw[d5];rfl
  have d7:ρ n7= [Ao .or .u8 (b.getD 31 0) (wW (s.getD 0 0))]:=by
   rw[D n7 ⟨.bin .or .u8,[.xs [.v a7 31],.xs [.v b7 0]]⟩ (by simp)];show [Ao .or .u8 ((ρ a7).getD 31 0) ((ρ b7).getD 0 0)]=_;rw[d6,db];rfl
  rw[hr.raw 0 _ rfl];show xs.map (·.den ρ)=_;rw[← List.take_append_drop 31 xs,List.map_append];have h1:=Wy (ρ:=ρ) w1 (by rw[db];omega);rw[h1,db,zda]
  congr 1
  split at w2
  ·rename_i c hc
   have:=CL w2;subst this;rw[hc];show [(ρ c).getD 0 0]=_;rw[d7];rfl
  ·cases w2
 ·cases hq
theorem AP7:AMh (AOO 180 115 200 182) (Aq.tree AU) AU Aq.s0 Aq.rvs [none]=true:=by kernel_rfl
theorem ACg(c:Bool):wW (bif c then 1 else 0)=bif c then 128 else 0:=by cases c<;>rfl
theorem AEP{b:List Int}(hb:by8 b)(hl:b.length=32)(agn:IG b<57896044618658097711785492504343953926634992332820282019728792003956564819968)(c:Bool):
  by8 (b.take 31 ++ [Ao .or .u8 (b.getD 31 0) (bif c then 128 else 0)])∧(b.take 31 ++ [Ao .or .u8 (b.getD 31 0) (bif c then 128 else 0)]).length=32∧IG (b.take 31 ++ [Ao .or .u8 (b.getD 31 0) (bif c then 128 else 0)])=IG b+(bif c then 57896044618658097711785492504343953926634992332820282019728792003956564819968 else 0):=by
 have h31:=hb (b.getD 31 0) (by rw[show b.getD 31 0=b[31]'(by omega) by simp[List.getD,hl]];exact qj _);have hsp:b=b.take 31 ++ [b.getD 31 0]:=by
  have h1:b.drop 31= [b.getD 31 0]:=by
   rw[List.drop_eq_getElem_cons (by omega:31<b.length),List.drop_eq_nil_of_le (by omega)];simp[List.getD,hl]
  rw[← h1,List.take_append_drop]
 have e0:IG b=IG (b.take 31)+256^31*b.getD 31 0:=by
  have:=ko (b.take 31) [b.getD 31 0];rw[← hsp,Y3,hl] at this;rw[this];simp[IG]
 have ht:=Xy (l:=b.take 31) (fun x hx=>hb x (List.mem_of_mem_take hx));have hp:(256:Int)^31=452312848583266388373324160190187140051835877600158453279131187530910662656:=by decide
 rw[hp] at e0;have hlo:b.getD 31 0<128:=by omega
 have hor:Ao .or .u8 (b.getD 31 0) (bif c then 128 else 0)=b.getD 31 0+(bif c then 128 else 0):=by
  have hx:JC .u8 (b.getD 31 0):=⟨h31.1,h31.2⟩
  cases c
  ·have:=(aN (k:=.u8) rfl (x:=0) (y:=b.getD 31 0) ⟨by decide,by decide⟩ hx (m:=8) ⟨0,rfl⟩ (by show b.getD 31 0<256;omega)).2;show Dl .or .u8 (b.getD 31 0) 0=b.getD 31 0+0;rw[this];omega
  ·have:=(aN (k:=.u8) rfl (x:=128) (y:=b.getD 31 0) ⟨by decide,by decide⟩ hx (m:=7) ⟨1,rfl⟩ (by show b.getD 31 0<128;omega)).2;show Dl .or .u8 (b.getD 31 0) 128=b.getD 31 0+128;rw[this];omega
 rw[hor];refine⟨fun x hx=>?_,by rw[K6,Y3,hl];rfl,?_⟩
 ·rcases iQ.1 hx with h|h
  ·exact hb x (List.mem_of_mem_take h)
  ·rw[Nc] at h;subst h
   cases c
   ·show 0≤b.getD 31 0+0∧b.getD 31 0+0≤255;omega
   ·show 0≤b.getD 31 0+128∧b.getD 31 0+128≤255;omega
 ·rw[ko,Y3,hl,e0,show min 31 32=31 from rfl,hp]
  cases c
  ·simp only[IG,cond_false];omega
  ·simp only[IG,cond_true];omega
theorem AOH:BL.pr 0= .l fun a=>Aw 32 (Aq.raw AU 0 a):=rfl
theorem APM{T:Tb}(h:lk 104 T=some (.one BL)){P:Pt}{l:List Int}(hP:R3 P l):
  by8 (gv T 104 0 [l])∧(gv T 104 0 [l]).length=32∧IG (gv T 104 0 [l])=(P.y.val:Int)+(bif Nat.beq (P.x.val%2) 1 then 57896044618658097711785492504343953926634992332820282019728792003956564819968 else 0):=by
 have hlen:=RR.len (r:=.p3) hP;obtain⟨X,Y,Z,U,hl,hq⟩:=hP;obtain⟨u1,w1,k1,q1,u2,w2,k3,q2,u3,w3,k5,q3,u4,w4,k7,q4,k9⟩:=hl;obtain⟨p,es,ρ,hr,hc⟩:=AJg AP7 (ins:=[l]) (fun j l' hj=>by
  rcases j with _|j
  ·simp at hj
  ·simp at hj)
 obtain⟨v0,v1,v2,hall⟩:=AGs hr (by decide) hc hlen;have L1:=q1.1.1;have L2:=q2.1.1;have L3:=q3.1.1;have f1:l.take 5=u1:=by rw[k1, ← L1,List.take_left]
 have f2:(l.drop 5).take 5=u2:=by rw[k1, ← L1,List.drop_left,k3,L1, ← L2,List.take_left]
 have f3:(l.drop 10).take 5=u3:=by
  rw[k1,k3, ← YY,show 10=(u1++u2).length by simp[L1,L2],List.drop_left,k5, ← L3,List.take_left]
 rw[f1,f2,f3] at hall;have hz:=(sS (T:=AU.T) rfl v0 u3 Z q3).2;have hx:=(OC (T:=AU.T) rfl v1 u1 _ X _ q1 hz).2;have hy:=(OC (T:=AU.T) rfl v2 u2 _ Y _ q2 hz).2;have hzi:Z*Kl Z eI=1:=YL hq.z;have ex:X*Kl Z eI=P.x:=by rw[hq.x,Fin.mul_assoc,hzi,Fin.mul_one]
 have ey:Y*Kl Z eI=P.y:=by rw[hq.y,Fin.mul_assoc,hzi,Fin.mul_one]
 rw[ex] at hx;rw[ey] at hy;have hb:=(lJ (T:=AU.T) rfl hy).2;have hs:=(tX (T:=AU.T) rfl _ P.x hx).2;have aaX:=hall _ _ _ _ _ rfl rfl rfl rfl rfl hb.1;rw[hs] at aaX;have hb2:((kZ (Nat.beq (P.x.val%2) 1)).getD 0 0)=bif Nat.beq (P.x.val%2) 1 then 1 else 0:=rfl;rw[hb2,ACg] at aaX;have hlt:IG (gv AU.T 200 0 [gv AU.T 115 0 [v2,u2,gv AU.T 180 0 [v0,u3]]])<57896044618658097711785492504343953926634992332820282019728792003956564819968:=by
  rw[hb.2.2];have:=P.y.isLt;have h2:(PP:Nat)≤57896044618658097711785492504343953926634992332820282019728792003956564819968:=by decide
  omega
 obtain⟨r1,r2,r3⟩:=AEP hb.2.1 hb.1 hlt (Nat.beq (P.x.val%2) 1);have e:gv T 104 0 [l]=Aq.raw AU 0 [l]:=by
  rw[Bg h,AOH];show Aw 32 (Aq.raw AU 0 [l])=_;exact Au (by rw[aaX];exact r2)
 rw[e,aaX];exact⟨r1,r2,by rw[r3,hb.2.2]⟩
end
end Go.Proofs.YtloibefkijfdlaaGreatDoor
