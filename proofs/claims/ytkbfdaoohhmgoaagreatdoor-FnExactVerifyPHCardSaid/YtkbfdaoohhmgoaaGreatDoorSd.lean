/- Scalars: results are words. -/
import Derived.Test.YtkbfdaoohhmgoaaGreatDoorBk6
namespace Go.Proofs.YtkbfdaoohhmgoaaGreatDoor
section
open Go
def u4T(r:Option (List (List AV))):Bool:=match r with
 |some [d]=>Nat.beq d.length 4&&d.all λa=>Bl 0 a.lo&&Bl a.hi 18446744073709551615
 |_=>false
theorem ACQ{i:Ac}{C:Cx}{M:List (Nat×FK)}(hM:aP C.T M){ζ:List (List (Int×Int))}(h:u4T (XT i C M ζ)=true){ins:List (List Int)}(hb:Mt ζ ins):u4 (i.raw C 0 ins):=by
 unfold u4T at h;split at h
 ·rename_i d hd;simp only[Bj] at h;have h4:=Ca h.1;obtain⟨_,ρ,_,h3⟩:=kW hM hd hb;have hA:=h3 0 d rfl;refine⟨hA.1.trans h4,λk hk=>?_⟩;have h1:k<(i.raw C 0 ins).length:=by rw[hA.1];omega
  have h2:k<d.length:=by omega
  have:=hA.2 k _ _ (Io h1) (Io h2);have hb:=Kh.1 h.2 d[k] (ku h2);simp only[Bj] at hb;rw[List.getD,Io h1];exact⟨Sd (A8 hb.1) this.2.1,Sd this.2.2.1 (A8 hb.2)⟩
 ·cases h
def AQh:List (Int×Int):=List.replicate 32 (0,255)
theorem AKw:u4T (XT BM BO [] [[],AQh])=true:=by kernel_rfl
theorem ARa:u4T (XT Au Av ut [[],jP])=true:=by kernel_rfl
theorem APj:u4T (XT Br Bq ut [[],jP,jP])=true:=by kernel_rfl
end
section
open Go
theorem ABV{n:Nat}(hn:n<=4096){ζ:List (List (Int×Int))}{ins:List (List Int)}{x:List Int}(h:cI x)(hl:x.length=n)(hb:Mt ζ ins):Mt (List.replicate n (0,255)::ζ) (x::ins):=
 Wi _ x ⟨by rw[Rp];exact hn,λk p hk=>by
  have bj:k<n:=by have:=(Oa.1 hk).1;simpa using this
  rw[iF,if_pos bj,Ai] at hk;subst hk;have h1:k<x.length:=by omega
  rw[List.getD,Io h1];exact h _ (ku h1)⟩ hb
theorem lD{T:Tb}{f:Nat}{i:Ac}{C:Cx}(hs:lk f T=some (.one (i.sum C)))(ho:(i.sum C).pr 0= .l λa=>BF 4 (i.raw C 0 a)){ins:List (List Int)}(h:u4 (i.raw C 0 ins)):NB T f ins/\u4 (gv T f 0 ins):=by
 refine⟨⟨⟨_,hs,trivial⟩⟩,?_⟩;have e:gv T f 0 ins=i.raw C 0 ins:=by
  simp only[gv,NR.den,hs];show((i.sum C).pr 0).den ins=_;rw[ho];exact Ay h.1
 rw[e];exact h
theorem xW{T:Tb}(h:lk 86 T=some (.one BN)):KW.Ok T 86 (.yn 32):=λv a ha hl=>
 lD (i:=BM) (C:=BO) h rfl (ACQ (λf κ h=>by cases h) AKw (LQ v (ABV (by omega) ha hl (Hm _))))
theorem AFX{T:Tb}(h:lk 87 T=some (.one CF)):KW.Ok T 87 .w1:=λv _a ha=>
 lD (i:=Au) (C:=Av) h rfl (ACQ (We rfl rfl) ARa (LQ v (SS ha (Hm _))))
def AF9:List (Nat×FK):=[(124,.B1)]
theorem yh{T:Tb}(h2:lk 124 T=some (.one BB)):aP T AF9:=λf κ h=>by
 simp only[AF9,lk] at h;cases cV:Nat.beq 124 f with
 |true=>
  rw[cV,cond_true,Ai] at h;have:=Ca cV;subst this;subst h;exact wT h2
 |false=>rw[cV] at h;cases h
theorem ARi:u4T (XT BP BQ AF9 [[],jP,jP])=true:=by kernel_rfl
theorem AQ9{T:Tb}(h:lk 118 T=some (.one EZ)):KW.Ok T 118 .w2:=λv _a _b ha hb=>
 lD (i:=BP) (C:=BQ) h rfl (ACQ (yh rfl) ARi (LQ v (SS ha (SS hb (Hm _)))))
theorem AQj{T:Tb}(h:lk 119 T=some (.one EY)):KW.Ok T 119 .w2:=λv _a _b ha hb=>
 lD (i:=Br) (C:=Bq) h rfl (ACQ (We rfl rfl) APj (LQ v (SS ha (SS hb (Hm _)))))
theorem ABc{T:Tb}{f:Nat}{M:List (Nat×KW)}{i:Ac}{C:Cx}{bin:List (Option (List (Nat×WX)))}(hs:lk f T=some (.one (i.sum C)))(ho:(i.sum C).pr 0= .l λa=>BF 4 (i.raw C 0 a))(hM:MW C.T M)(h:WG (tfW M) C2 i C bin=some [[.a 4 .w]]){ins:List (List Int)}(eE:qp γW bin ins):NB T f ins/\u4 (gv T f 0 ins):=
 lD hs ho (wFn hM h eE).2
def W4:List (Nat×WX):=[(4,.w)]
theorem wY{l:List Int}(h:u4 l):Fw γW W4 l:=WX.c4 h
theorem ALT{T:Tb}(h:lk 83 T=some (.one Di)):KW.Ok T 83 .w2:=λv a b ha hb=>
 ABc (M:=[(118,.w2)]) (i:=Fe) (C:=Ff) (bin:=[none,some W4,some W4]) h rfl (.cons (AQ9 rfl) .nil) (by kernel_rfl) (ins:=[v,a,b]) (.no (.yes (wY ha) (.yes (wY hb) .nil)))
theorem AOr{T:Tb}(h:lk 84 T=some (.one Cu)):KW.Ok T 84 .w2:=λv a b ha hb=>
 ABc (M:=[(119,.w2)]) (i:=EH) (C:=EI) (bin:=[none,some W4,some W4]) h rfl (.cons (AQj rfl) .nil) (by kernel_rfl) (ins:=[v,a,b]) (.no (.yes (wY ha) (.yes (wY hb) .nil)))
def APQ:List (Nat×KW):=[(86,.yn 32),(87,.w1)]
theorem AR8{T:Tb}(h:lk 82 T=some (.one CQ)):KW.Ok T 82 (.yn 21):=λv a ha hl=>
 wOk (M:=APQ) (i:=Db) (C:=Ct) (bin:=[none,some (ABn 21)]) h rfl (.cons (xW rfl) (.cons (AFX rfl) .nil)) (by kernel_rfl) (ins:=[v,a]) (.no (.yes (Vz ha hl) .nil))
theorem ALX{T:Tb}(h:lk (10000+82) T=some (.one Bz)):KW.Ok T (10000+82) (.yn 22):=λv a ha hl=>
 wOk (M:=APQ) (i:=DI) (C:=Cc) (bin:=[none,some (ABn 22)]) h rfl (.cons (xW rfl) (.cons (AFX rfl) .nil)) (by kernel_rfl) (ins:=[v,a]) (.no (.yes (Vz ha hl) .nil))
def ATC:List (Nat×KW):=[(82,.yn 21),(10000+82,.yn 22),(84,.w2),(83,.w2)]
theorem ARP{T:Tb}(h:lk 57 T=some (.one Ba)):KW.Ok T 57 (.yn 64):=λv a ha hl=>
 wOk (M:=ATC) (i:=BV) (C:=Ad) (bin:=[none,some (ABn 64)]) h rfl (.cons (AR8 rfl) (.cons (ALX rfl) (.cons (AOr rfl) (.cons (ALT rfl) .nil)))) (by kernel_rfl) (ins:=[v,a]) (.no (.yes (Vz ha hl) .nil))
end
end Go.Proofs.YtkbfdaoohhmgoaaGreatDoor
