/- Scalars: results are words. -/
import Derived.Test.YtloibefkijfdlaaGreatDoorBk6
namespace Go.Proofs.YtloibefkijfdlaaGreatDoor
section
open Go
def u4T(r:Option (List (List AV))):Bool:=match r with
 |some [d]=>Nat.beq d.length 4&&d.all λa=>Bh 0 a.lo&&Bh a.hi 18446744073709551615
 |_=>false
theorem ADf{i:Ad}{C:Cx}{M:List (Nat×FK)}(hM:Wh C.T M){ζ:List (List (Int×Int))}(h:u4T (Wd i C M ζ)=true){ins:List (List Int)}(hb:Mv ζ ins):u4 (i.raw C 0 ins):=by
 unfold u4T at h;split at h
 ·rename_i d hd;simp only[Bl] at h;have h4:=CR h.1;obtain⟨_,ρ,_,h3⟩:=gD hM hd hb;have hA:=h3 0 d rfl;refine⟨hA.1.trans h4,λk hk=>?_⟩;have h1:k<(i.raw C 0 ins).length:=by rw[hA.1];omega
  have h2:k<d.length:=by omega
  have:=hA.2 k _ _ (JC h1) (JC h2);have hb:=Mx.1 h.2 d[k] (lY h2);simp only[Bl] at hb;rw[List.getD,JC h1];exact⟨RP (A8 hb.1) this.2.1,RP this.2.2.1 (A8 hb.2)⟩
 ·cases h
def AOh:List (Int×Int):=List.replicate 32 (0,255)
theorem AHe:u4T (Wd BP BO [] [[],AOh])=true:=by kernel_rfl
theorem AQB:u4T (Wd Ay A7 mW [[],bQ])=true:=by kernel_rfl
theorem AQJ:u4T (Wd Bw Bv mW [[],bQ,bQ])=true:=by kernel_rfl
end
section
open Go
theorem AAk{n:Nat}(hn:n<=4096){ζ:List (List (Int×Int))}{ins:List (List Int)}{x:List Int}(h:cM x)(hl:x.length=n)(hb:Mv ζ ins):Mv (List.replicate n (0,255)::ζ) (x::ins):=
 Vj _ x ⟨by rw[Qs];exact hn,λk p hk=>by
  have cf:k<n:=by have:=(OQ.1 hk).1;simpa using this
  rw[iD,if_pos cf,Ai] at hk;subst hk;have h1:k<x.length:=by omega
  rw[List.getD,JC h1];exact h _ (lY h1)⟩ hb
theorem iK{T:Tb}{f:Nat}{i:Ad}{C:Cx}(hs:lk f T=some (.one (i.sum C)))(ho:(i.sum C).pr 0= .l λa=>BK 4 (i.raw C 0 a)){ins:List (List Int)}(h:u4 (i.raw C 0 ins)):LM T f ins/\u4 (gv T f 0 ins):=by
 refine⟨⟨⟨_,hs,trivial⟩⟩,?_⟩;have e:gv T f 0 ins=i.raw C 0 ins:=by
  simp only[gv,Na.den,hs];show((i.sum C).pr 0).den ins=_;rw[ho];exact Bn h.1
 rw[e];exact h
theorem wB{T:Tb}(h:lk 128 T=some (.one BN)):KW.Ok T 128 (.yn 32):=λv a ha hl=>
 iK (i:=BP) (C:=BO) h rfl (ADf (λf κ h=>by cases h) AHe (Me v (AAk (by omega) ha hl (IL _))))
theorem y8{T:Tb}(h:lk 129 T=some (.one CF)):KW.Ok T 129 .w1:=λv _a ha=>
 iK (i:=Ay) (C:=A7) h rfl (ADf (V5 rfl rfl) AQB (Me v (Qp ha (IL _))))
def AGN:List (Nat×FK):=[(174,.CN)]
theorem qp{T:Tb}(h2:lk 174 T=some (.one BF)):Wh T AGN:=λf κ h=>by
 simp only[AGN,lk] at h;cases fx:Nat.beq 174 f with
 |true=>
  rw[fx,cond_true,Ai] at h;have:=CR fx;subst this;subst h;exact rG h2
 |false=>rw[fx] at h;cases h
theorem APq:u4T (Wd BV BX AGN [[],bQ,bQ])=true:=by kernel_rfl
theorem APC{T:Tb}(h:lk 168 T=some (.one Ew)):KW.Ok T 168 .w2:=λv _a _b ha hb=>
 iK (i:=BV) (C:=BX) h rfl (ADf (qp rfl) APq (Me v (Qp ha (Qp hb (IL _)))))
theorem APh{T:Tb}(h:lk 169 T=some (.one Ez)):KW.Ok T 169 .w2:=λv _a _b ha hb=>
 iK (i:=Bw) (C:=Bv) h rfl (ADf (V5 rfl rfl) AQJ (Me v (Qp ha (Qp hb (IL _)))))
theorem ACH{T:Tb}{f:Nat}{M:List (Nat×KW)}{i:Ad}{C:Cx}{bin:List (Option (List (Nat×WX)))}(hs:lk f T=some (.one (i.sum C)))(ho:(i.sum C).pr 0= .l λa=>BK 4 (i.raw C 0 a))(hM:MW C.T M)(h:Nu (iA M) X3 i C bin=some [[.a 4 .w]]){ins:List (List Int)}(eC:Zb γW bin ins):LM T f ins/\u4 (gv T f 0 ins):=
 iK hs ho (wFn hM h eC).2
def W4:List (Nat×WX):=[(4,.w)]
theorem vG{l:List Int}(h:u4 l):Ei γW W4 l:=WX.c4 h
theorem ALX{T:Tb}(h:lk 125 T=some (.one Da)):KW.Ok T 125 .w2:=λv a b ha hb=>
 ACH (M:=[(168,.w2)]) (i:=Gj) (C:=Gm) (bin:=[none,some W4,some W4]) h rfl (.cons (APC rfl) .nil) (by kernel_rfl) (ins:=[v,a,b]) (.no (.yes (vG ha) (.yes (vG hb) .nil)))
theorem AJV{T:Tb}(h:lk 126 T=some (.one Ci)):KW.Ok T 126 .w2:=λv a b ha hb=>
 ACH (M:=[(169,.w2)]) (i:=Ec) (C:=Eb) (bin:=[none,some W4,some W4]) h rfl (.cons (APh rfl) .nil) (by kernel_rfl) (ins:=[v,a,b]) (.no (.yes (vG ha) (.yes (vG hb) .nil)))
def APD:List (Nat×KW):=[(128,.yn 32),(129,.w1)]
theorem APS{T:Tb}(h:lk 124 T=some (.one Ca)):KW.Ok T 124 (.yn 21):=λv a ha hl=>
 wOk (M:=APD) (i:=Du) (C:=DN) (bin:=[none,some (UK 21)]) h rfl (.cons (wB rfl) (.cons (y8 rfl) .nil)) (by kernel_rfl) (ins:=[v,a]) (.no (.yes (RU ha hl) .nil))
theorem AM8{T:Tb}(h:lk (10000+124) T=some (.one CB)):KW.Ok T (10000+124) (.yn 22):=λv a ha hl=>
 wOk (M:=APD) (i:=De) (C:=Cq) (bin:=[none,some (UK 22)]) h rfl (.cons (wB rfl) (.cons (y8 rfl) .nil)) (by kernel_rfl) (ins:=[v,a]) (.no (.yes (RU ha hl) .nil))
def ASp:List (Nat×KW):=[(124,.yn 21),(10000+124,.yn 22),(126,.w2),(125,.w2)]
theorem AAJ{T:Tb}(h:lk 99 T=some (.one BJ)):KW.Ok T 99 (.yn 64):=λv a ha hl=>
 wOk (M:=ASp) (i:=Bf) (C:=Ac) (bin:=[none,some (UK 64)]) h rfl (.cons (APS rfl) (.cons (AM8 rfl) (.cons (AJV rfl) (.cons (ALX rfl) .nil)))) (by kernel_rfl) (ins:=[v,a]) (.no (.yes (RU ha hl) .nil))
theorem AQl{T:Tb}(h:lk 95 T=some (.one Bb)):KW.Ok T 95 (.yn 32):=λv a ha hl=>
 wOk (M:=[(99,.yn 64)]) (i:=DF) (C:=CP) (bin:=[none,some (UK 32)]) h rfl (.cons (AAJ rfl) .nil) (by kernel_rfl) (ins:=[v,a]) (.no (.yes (RU ha hl) .nil))
end
end Go.Proofs.YtloibefkijfdlaaGreatDoor
