/- Scalars: products and sums modulo the order, in the form of Montgomery. -/
import Derived.Test.YtloibefkijfdlaaGreatDoorSd
namespace Go.Proofs.YtloibefkijfdlaaGreatDoor
open Go
def hP(s:CS):Option X→Gd×Bool
 |none=>(bJ 0,true)
 |some x=>match s.x x with
  |some a=>(a.p,Bj 0 a.lo)
  |none=>(bJ 0,false)
theorem AS5{ρ:Bl}{s:CS}(hs:PT ρ s){o:Option X}(h:(hP s o).2=true):0≤F8 ρ (hP s o).1:=by
 cases o with
 |none=>exact Int.le_of_eq (RP ρ 0).symm
 | some x=>
  unfold hP at h ⊢
  cases hx:s.x x with
  |none=>simp only[hx] at h;cases h
  |some a=>
   simp only[hx] at h ⊢;have h1:=CS.x_ok hs hx;rw[← h1.1];exact Sk (BB h) h1.2.1
def tP(s:CS)(t:Nat×Nat×Nat×Nat):Gd:=p4 (gx s t.1).p (gx s t.2.1).p (gx s t.2.2.1).p (gx s t.2.2.2).p
def tB(s:CS)(t:Nat×Nat×Nat×Nat):Bool:=SS s t.1&&SS s t.2.1&&SS s t.2.2.1&&SS s t.2.2.2
theorem ADd{ρ:Bl}{s:CS}(hs:PT ρ s){t:Nat×Nat×Nat×Nat}(h:tB s t=true):0≤F8 ρ (tP s t)∧F8 ρ (tP s t)<F5:=by
 simp only[tB,Bd] at h;have a1:=I8 hs h.1.1.1;have a2:=I8 hs h.1.1.2;have a3:=I8 hs h.1.2;have a4:=I8 hs h.2;simp only[tP,p4,Cc,CW];unfold F5;omega
def frU(s:CS)(t u:Nat×Nat×Nat×Nat)(h:Option X)(c:Nat)(r:List AV):Bool:=
 let c0:=Jq (enc u.2.2.2 1 0)
 let c1:=Jq (enc c 1 0)
 (PQ 0 (De (tP s u) (Cq (-1) (De (tP s t) (De (bJ (-OM)) (Cq F5 c0))))) &&
 PQ 0 (De (gx s c).p (Cq (-1) (De (hP s h).1 (De (Cq (-1) c0) (Cq 18446744073709551616 c1))))) &&
 (match r with
 | [r0,r1,r2,r3]=>PQ 0 (De (p4 r0.p r1.p r2.p r3.p) (Cq (-1) (De (tP s u) (VQ [] c1 (De (tP s t) (Cq (-1) (tP s u)))))))&&((Bj 0 r0.lo&&Bj r0.hi 18446744073709551615)&&(Bj 0 r1.lo&&Bj r1.hi 18446744073709551615)&&(Bj 0 r2.lo&&Bj r2.hi 18446744073709551615)&&(Bj 0 r3.lo&&Bj r3.hi 18446744073709551615))
 |_=>false))&&(tB s t&&tB s u&&(hP s h).2&&(SS s c&&AAx s c&&AAx s u.2.2.2))
theorem ADc{ρ:Bl}{s:CS}(hs:PT ρ s){t u:Nat×Nat×Nat×Nat}{h:Option X}{c:Nat}{r:List AV}(ht:frU s t u h c r=true){l:List Int}(hl:fJ ρ l r){N:Int}(hN:N=F8 ρ (tP s t)+F5*F8 ρ (hP s h).1)(h2:N<2*OM):
  u4 l∧0≤v4 l∧v4 l<OM∧OM ∣ v4 l-N:=by
 unfold frU at ht;simp only[Bd] at ht;obtain⟨⟨⟨t1,t2⟩,t4⟩,⟨⟨b1,b2⟩,b3⟩,⟨d1,d2⟩,d3⟩:=ht
 split at t4
 ·rename_i r0 r1 r2 r3
  simp only[Bd] at t4;obtain⟨t4,⟨⟨e0,e1⟩,e2⟩,e3⟩:=t4;obtain⟨x0,x1,x2,x3,rfl,g0,g1,g2,g3⟩:=hl.four;have q1:=pz (ρ:=ρ) t1;have q2:=pz (ρ:=ρ) t2;have q4:=pz (ρ:=ρ) t4;have b1:=ADd hs b1;have b2:=ADd hs b2;have b3:=AS5 hs b3;have d1:=I8 hs d1;have d2:=Zk hs d2;have d3:=Zk hs d3;have rb:∀ {a:AV} {x:Int},a.ok ρ x→(Bj 0 a.lo=true∧Bj a.hi 18446744073709551615=true)→0≤x∧x≤18446744073709551615:=fun ha hb=>by
   exact⟨Sk (BB hb.1) ha.2.1,Sk ha.2.2.1 (BB hb.2)⟩
  have f0:=rb g0 e0;have f1:=rb g1 e1;have f2:=rb g2 e2;have f3:=rb g3 e3;simp only[Cc,CW,RP,U9] at q1 q2 q4;simp only[p4,Cc,CW, ← g0.1, ← g1.1, ← g2.1, ← g3.1] at q4;refine⟨⟨rfl,fun k hk=>?_⟩,?_⟩
  ·match k,hk with
   |0,_=>exact f0
   |1,_=>exact f1
   |2,_=>exact f2
   |3,_=>exact f3
  ·unfold v4;simp only[Qu,Ze];unfold OM F5 at *
   generalize F8 ρ (tP s t)=T at *
   generalize F8 ρ (tP s u)=S at *
   generalize F8 ρ (hP s h).1=H at *
   generalize F8 ρ (Jq (enc c 1 0))=cc at *
   generalize F8 ρ (Jq (enc u.2.2.2 1 0))=c0 at *
   generalize F8 ρ (gx s c).p=cw at *
   have hH:H=0:=by omega
   have hcc:cc=0∨cc=1:=by omega
   rcases hcc with rfl|rfl
   ·rw[zcr,wP] at q4;exact⟨by omega,by omega,⟨-1,by omega⟩⟩
   ·rw[zcw] at q4;exact⟨by omega,by omega,⟨0,by omega⟩⟩
 ·cases t4
def frX(s:CS)(q t:Nat×Nat×Nat×Nat)(h:Option X)(X:Gd):Bool:=
 PQ 0 (De (Cq F5 (De (tP s t) (Cq F5 (hP s h).1))) (Cq (-1) (De X (Cq OM (tP s q)))))&&tB s q
theorem AFq{ρ:Bl}{s:CS}(hs:PT ρ s){q t u:Nat×Nat×Nat×Nat}{h:Option X}{c:Nat}{X:Gd}{r:List AV}(hx:frX s q t h X=true)(ht:frU s t u h c r=true){l:List Int}(hl:fJ ρ l r)(hX:F8 ρ X<OM*F5):
  u4 l∧0≤v4 l∧v4 l<OM∧(OM ∣ v4 l*F5-F8 ρ X):=by
 simp only[frX,Bd] at hx;have q1:=pz (ρ:=ρ) hx.1;have q2:=ADd hs hx.2;simp only[Cc,CW] at q1;have hN:F8 ρ (tP s t)+F5*F8 ρ (hP s h).1<2*OM:=by
  unfold OM F5 at *
  omega
 obtain⟨h1,h2,h3,k,hk⟩:=ADc hs ht hl rfl hN;refine⟨h1,h2,h3,⟨F8 ρ (tP s q)+F5*k,?_⟩⟩;generalize v4 l=v at *
 generalize F8 ρ (tP s t)+F5*F8 ρ (hP s h).1=N at *
 rw[qC,Int.mul_left_comm];have:v=N+OM*k:=by omega
 rw[this,sI,Y6 N,Y6 (OM*k)];omega
theorem AVJ:(match Yg Bz Bw vN [[],jK,jK] with
 |some (s,[r])=>frX s (1767,5639,9575,13511) (14454,14630,14806,14982) (some (.v 15110 0)) (VQ [] (zt 1) (zt 2))&&frU s (14454,14630,14806,14982) (15190,15350,15510,15670) (some (.v 15110 0)) 15814 r
 |_=>false)=true:=by kernel_rfl
def r2C:Int:=1627715501170711445284395025044413883736156588369414752970002579683115011841
theorem AU6:(match Yg A7 A9 vN [[],jK] with
 |some (s,[r])=>frX s (1445,4709,8005,11301) (12180,12388,12564,12788) none (Cq r2C (zt 1))&&frU s (12180,12388,12564,12788) (12868,13028,13188,13348) none 13476 r
 |_=>false)=true:=by kernel_rfl
theorem AU1:(match Yg Ba BX AG4 [[],jK,jK] with
 |some (s,[r])=>PQ 0 (De (De (tP s (166,438,710,982)) (Cq F5 (hP s (some (.v 982 1))).1)) (Cq (-1) (De (zt 1) (zt 2))))&&frU s (166,438,710,982) (1126,1286,1446,1606) (some (.v 982 1)) 1750 r
 |_=>false)=true:=by kernel_rfl
structure uL (l:List Int):Prop where
 u:u4 l
 lt:v4 l<OM
theorem AJB{v a b:List Int}(ha:uL a)(hb:u4 b):uL (Bz.raw Bw 0 [v,a,b])∧(OM ∣ v4 (Bz.raw Bw 0 [v,a,b])*F5-v4 a*v4 b):=by
 have ht:=AVJ
 split at ht
 ·rename_i s r hr
  simp only[Bd] at ht;obtain⟨_,ρ,h1,hS,h2⟩:=SE (WQ rfl rfl) hr (ins:=[v,a,b]) (Mt v (SL ha.u (SL hb (Ie _))));have hX:F8 ρ (VQ [] (zt 1) (zt 2))=v4 a*v4 b:=by
   rw[U9,WH ρ (h1 1 (by decide)),WH ρ (h1 2 (by decide))];rfl
  have a1:=xu ha.u;have b1:=xu hb;have hlt:v4 a*v4 b<OM*F5:=by
   have h3:v4 a*v4 b≤(OM-1)*v4 b:=Int.mul_le_mul_of_nonneg_right (by have:=ha.lt;omega) b1.1;have h4:(OM-1)*v4 b≤(OM-1)*F5:=Int.mul_le_mul_of_nonneg_left (by omega) (by decide);have h5:(OM-1)*F5<OM*F5:=by decide
   omega
  rw[← hX] at hlt ⊢;obtain⟨k1,k2,k3,k4⟩:=AFq hS ht.1 ht.2 (h2 0 r rfl) hlt;exact⟨⟨k1,k3⟩,k4⟩
 ·cases ht
theorem AIi{v a:List Int}(ha:u4 a):uL (A7.raw A9 0 [v,a])∧(OM ∣ v4 (A7.raw A9 0 [v,a])*F5-r2C*v4 a):=by
 have ht:=AU6
 split at ht
 ·rename_i s r hr
  simp only[Bd] at ht;obtain⟨_,ρ,h1,hS,h2⟩:=SE (WQ rfl rfl) hr (ins:=[v,a]) (Mt v (SL ha (Ie _)));have hX:F8 ρ (Cq r2C (zt 1))=r2C*v4 a:=by
   rw[CW,WH ρ (h1 1 (by decide))];rfl
  have a1:=xu ha;have hlt:r2C*v4 a<OM*F5:=by
   unfold r2C OM F5 at *
   omega
  rw[← hX] at hlt ⊢;obtain⟨k1,k2,k3,k4⟩:=AFq hS ht.1 ht.2 (h2 0 r rfl) hlt;exact⟨⟨k1,k3⟩,k4⟩
 ·cases ht
theorem AGu{v a b:List Int}(ha:uL a)(hb:uL b):uL (Ba.raw BX 0 [v,a,b])∧(OM ∣ v4 (Ba.raw BX 0 [v,a,b])-(v4 a+v4 b)):=by
 have ht:=AU1
 split at ht
 ·rename_i s r hr
  simp only[Bd] at ht;obtain⟨_,ρ,h1,hS,h2⟩:=SE (yu rfl) hr (ins:=[v,a,b]) (Mt v (SL ha.u (SL hb.u (Ie _))));have q:=pz (ρ:=ρ) ht.1;simp only[Cc,CW] at q;rw[WH ρ (h1 1 (by decide)),WH ρ (h1 2 (by decide))] at q
  change _=v4 a+v4 b at q
  have:=ha.lt;have:=hb.lt;obtain⟨k1,k2,k3,k4⟩:=ADc hS ht.2 (h2 0 r rfl) (N:=v4 a+v4 b) (by omega) (by omega);exact⟨⟨k1,k3⟩,k4⟩
 ·cases ht
def leQ(j:Nat):Nat→Nat→Gd
 |0,_=>[]
 |n+1,k=>De (Jq (enc j k 0)) (Cq 256 (leQ j n (k+1)))
theorem AFO{ρ:Bl}{j:Nat}{l:List Int}(h:ρ j=l):∀ (n k:Nat),k+n≤4096→l.length=k+n→F8 ρ (leQ j n k)=IG (l.drop k)
 |0,k,_,hl=>by
  rw[List.drop_of_length_le (by omega)];rfl
 |n+1,k,hk,hl=>by
  unfold leQ;rw[Cc,CW,Gu,αv_enc0 ρ (by omega),AFO h n (k+1) (by omega) (by omega),h,List.drop_eq_getElem_cons (by omega:k<l.length)];simp only[IG];rw[show l.getD k 0=l[k] by simp[List.getD,show k<l.length by omega]]
theorem AVu:(match X9 CB CE [] [[],AQl] with
 |some [[r0,r1,r2,r3]]=>PQ 0 (De (p4 r0.p r1.p r2.p r3.p) (Cq (-1) (leQ 1 32 0)))
 |_=>false)=true:=by kernel_rfl
theorem AOt{v a:List Int}(ha:by8 a)(hl:a.length=32):v4 (CB.raw CE 0 [v,a])=IG a:=by
 have ht:=AVu
 split at ht
 ·rename_i r0 r1 r2 r3 hr
  obtain⟨_,ρ,h1,h2⟩:=mF (fun f κ h=>by cases h) hr (ins:=[v,a]) (Mt v (AEu (by omega) ha hl (Ie _)));have hA:=h2 0 _ rfl;obtain⟨x0,x1,x2,x3,e,g0,g1,g2,g3⟩:=hA.four;have q:=pz (ρ:=ρ) ht;simp only[p4,Cc,CW, ← g0.1, ← g1.1, ← g2.1, ← g3.1] at q;have hP:F8 ρ (leQ 1 32 0)=IG a:=by
   have:=AFO (h1 1 (by decide)) 32 0 (by omega) (by show a.length=_;omega);exact this
  rw[hP] at q;rw[e];unfold v4;simp only[Qu,Ze];omega
 ·cases ht
end Go.Proofs.YtloibefkijfdlaaGreatDoor
