/- Scalars: results are words. -/
import Derived.Test.YtloibefkijfdlaaGreatDoorBk6
namespace Go.Proofs.YtloibefkijfdlaaGreatDoor
section
open Go
def u4T(r:Option (List (List AV))):Bool:=match r with
 |some [d]=>Nat.beq d.length 4&&d.all fun a=>Bj 0 a.lo&&Bj a.hi 18446744073709551615
 |_=>false
theorem ACr{i:AQ}{C:Cx}{M:List (Nat×FK)}(hM:Xx C.T M){ζ:List (List (Int×Int))}(h:u4T (X9 i C M ζ)=true){ins:List (List Int)}(hb:NR ζ ins):u4 (i.raw C 0 ins):=by
 unfold u4T at h
 split at h
 ·rename_i d hd
  simp only[Bd] at h;have h4:=CL h.1;obtain⟨_,ρ,_,h3⟩:=mF hM hd hb;have hA:=h3 0 d rfl;refine⟨hA.1.trans h4,fun k hk=>?_⟩;have h1:k<(i.raw C 0 ins).length:=by rw[hA.1];omega
  have h2:k<d.length:=by omega
  have:=hA.2 k _ _ (Jo h1) (Jo h2);have hb:=Ll.1 h.2 d[k] (qj h2);simp only[Bd] at hb;rw[List.getD,Jo h1];exact⟨Sk (BB hb.1) this.2.1,Sk this.2.2.1 (BB hb.2)⟩
 ·cases h
def AQl:List (Int×Int):=List.replicate 32 (0,255)
theorem AKR:u4T (X9 CB CE [] [[],AQl])=true:=by kernel_rfl
theorem ARN:u4T (X9 A7 A9 vN [[],jK])=true:=by kernel_rfl
theorem ASe:u4T (X9 Bz Bw vN [[],jK,jK])=true:=by kernel_rfl
end
section
open Go
theorem AEu{n:Nat}(hn:n≤4096){ζ:List (List (Int×Int))}{ins:List (List Int)}{x:List Int}(h:by8 x)(hl:x.length=n)(hb:NR ζ ins):NR (List.replicate n (0,255)::ζ) (x::ins):=
 WR _ x ⟨by rw[SX];exact hn,fun k p hk=>by
  have hlt:k<n:=by have:=(Pi.1 hk).1;simpa using this
  rw[zby,if_pos hlt,Am] at hk;subst hk;have h1:k<x.length:=by omega
  rw[List.getD,Jo h1];exact h _ (qj h1)⟩ hb
theorem qF{T:Tb}{f:Nat}{i:AQ}{C:Cx}(hs:lk f T=some (.one (i.sum C)))(ho:(i.sum C).pr 0= .l fun a=>Aw 4 (i.raw C 0 a)){ins:List (List Int)}(h:u4 (i.raw C 0 ins)):OU T f ins∧u4 (gv T f 0 ins):=by
 refine⟨⟨⟨_,hs,trivial⟩⟩,?_⟩;have e:gv T f 0 ins=i.raw C 0 ins:=by
  simp only[gv,OP.den,hs];show ((i.sum C).pr 0).den ins=_;rw[ho];exact Au h.1
 rw[e];exact h
theorem AB9{T:Tb}(h:lk 128 T=some (.one Ce)):KW.Ok T 128 (.yn 32):=fun v a ha hl=>
 qF (i:=CB) (C:=CE) h rfl (ACr (fun f κ h=>by cases h) AKR (Mt v (AEu (by omega) ha hl (Ie _))))
theorem ALF{T:Tb}(h:lk 129 T=some (.one Cr)):KW.Ok T 129 .w1:=fun v _a ha=>
 qF (i:=A7) (C:=A9) h rfl (ACr (WQ rfl rfl) ARN (Mt v (SL ha (Ie _))))
def AG4:List (Nat×FK):=[(174,.cmov)]
theorem yu{T:Tb}(h2:lk 174 T=some (.one BI)):Xx T AG4:=fun f κ h=>by
 simp only[AG4,lk] at h
 cases hb2:Nat.beq 174 f with
 |true=>
  rw[hb2,cond_true,Am] at h;have:=CL hb2;subst this;subst h;exact yJ h2
 |false=>rw[hb2] at h;cases h
theorem AS9:u4T (X9 Ba BX AG4 [[],jK,jK])=true:=by kernel_rfl
theorem ATB{T:Tb}(h:lk 168 T=some (.one FD)):KW.Ok T 168 .w2:=fun v _a _b ha hb=>
 qF (i:=Ba) (C:=BX) h rfl (ACr (yu rfl) AS9 (Mt v (SL ha (SL hb (Ie _)))))
theorem AQ9{T:Tb}(h:lk 169 T=some (.one FC)):KW.Ok T 169 .w2:=fun v _a _b ha hb=>
 qF (i:=Bz) (C:=Bw) h rfl (ACr (WQ rfl rfl) ASe (Mt v (SL ha (SL hb (Ie _)))))
theorem AFs{T:Tb}{f:Nat}{M:List (Nat×KW)}{i:AQ}{C:Cx}{bin:List (Option (List (Nat×WX)))}(hs:lk f T=some (.one (i.sum C)))(ho:(i.sum C).pr 0= .l fun a=>Aw 4 (i.raw C 0 a))(hM:MW C.T M)(h:Ow (nK M) Zg i C bin=some [[.a 4 .w]]){ins:List (List Int)}(hin:fK γW bin ins):OU T f ins∧u4 (gv T f 0 ins):=
 qF hs ho (wFn hM h hin).2
def W4:List (Nat×WX):=[(4,.w)]
theorem xM{l:List Int}(h:u4 l):Em γW W4 l:=WX.c4 h
theorem AMG{T:Tb}(h:lk 125 T=some (.one DN)):KW.Ok T 125 .w2:=fun v a b ha hb=>
 AFs (M:=[(168,.w2)]) (i:=Gs) (C:=Gt) (bin:=[none,some W4,some W4]) h rfl (.cons (ATB rfl) .nil) (by kernel_rfl) (ins:=[v,a,b]) (.no (.yes (xM ha) (.yes (xM hb) .nil)))
theorem AMf{T:Tb}(h:lk 126 T=some (.one Cf)):KW.Ok T 126 .w2:=fun v a b ha hb=>
 AFs (M:=[(169,.w2)]) (i:=Ee) (C:=Eg) (bin:=[none,some W4,some W4]) h rfl (.cons (AQ9 rfl) .nil) (by kernel_rfl) (ins:=[v,a,b]) (.no (.yes (xM ha) (.yes (xM hb) .nil)))
def ATq:List (Nat×KW):=[(128,.yn 32),(129,.w1)]
theorem AQ7{T:Tb}(h:lk 124 T=some (.one CY)):KW.Ok T 124 (.yn 21):=fun v a ha hl=>
 wOk (M:=ATq) (i:=Dx) (C:=Cy) (bin:=[none,some (WL 21)]) h rfl (.cons (AB9 rfl) (.cons (ALF rfl) .nil)) (by kernel_rfl) (ins:=[v,a]) (.no (.yes (TF ha hl) .nil))
theorem ANg{T:Tb}(h:lk (10000+124) T=some (.one CF)):KW.Ok T (10000+124) (.yn 22):=fun v a ha hl=>
 wOk (M:=ATq) (i:=DY) (C:=Co) (bin:=[none,some (WL 22)]) h rfl (.cons (AB9 rfl) (.cons (ALF rfl) .nil)) (by kernel_rfl) (ins:=[v,a]) (.no (.yes (TF ha hl) .nil))
def AV4:List (Nat×KW):=[(124,.yn 21),(10000+124,.yn 22),(126,.w2),(125,.w2)]
theorem AEB{T:Tb}(h:lk 99 T=some (.one Bh)):KW.Ok T 99 (.yn 64):=fun v a ha hl=>
 wOk (M:=AV4) (i:=Be) (C:=Ah) (bin:=[none,some (WL 64)]) h rfl (.cons (AQ7 rfl) (.cons (ANg rfl) (.cons (AMf rfl) (.cons (AMG rfl) .nil)))) (by kernel_rfl) (ins:=[v,a]) (.no (.yes (TF ha hl) .nil))
theorem ASu{T:Tb}(h:lk 95 T=some (.one Bf)):KW.Ok T 95 (.yn 32):=fun v a ha hl=>
 wOk (M:=[(99,.yn 64)]) (i:=Cv) (C:=CP) (bin:=[none,some (WL 32)]) h rfl (.cons (AEB rfl) .nil) (by kernel_rfl) (ins:=[v,a]) (.no (.yes (TF ha hl) .nil))
end
end Go.Proofs.YtloibefkijfdlaaGreatDoor
