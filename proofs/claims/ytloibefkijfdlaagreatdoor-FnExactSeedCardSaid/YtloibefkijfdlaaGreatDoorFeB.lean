/- The bytes of a number of the field. -/
import Derived.Test.YtloibefkijfdlaaGreatDoorCa
import Derived.Test.YtloibefkijfdlaaGreatDoorFb
namespace Go.Proofs.YtloibefkijfdlaaGreatDoor
open Go Ma
def gx(s:CS)(n:Nat):AV:=match s.x (.v n 0) with
 |some a=>a
 |none=>⟨[],-1,0,0⟩
theorem gx_ok{ρ:Env}{s:CS}(hs:CSOk ρ s){n:Nat}(hl:ileB 0 (gx s n).lo=true):(gx s n).ok ρ ((ρ n).getD 0 0):=by
 unfold gx at *
 cases ha:s.x (.v n 0) with
 |some a=>exact CS.x_ok hs ha
 |none=>rw[ha] at hl; cases hl
def gB(s:CS)(n:Nat):Bool:=ileB 0 (gx s n).lo&&ileB (gx s n).hi fB
theorem gB_ok{ρ:Env}{s:CS}(hs:CSOk ρ s){n:Nat}(h:gB s n=true):0≤pev ρ (gx s n).p∧pev ρ (gx s n).p≤fB:=by
 simp only[gB,baE] at h
 have h1:=gx_ok hs h.1
 rw[← h1.1]
 exact⟨Int.le_trans (ileB_le h.1) h1.2.1,Int.le_trans h1.2.2.1 (ileB_le h.2)⟩
def gz(s:CS)(n:Nat):Poly:=padd (gx s n).p (psmul (-1) (patm (enc n 0 0)))
theorem gz_ok{ρ:Env}{s:CS}(hs:CSOk ρ s){n:Nat}(h:ileB 0 (gx s n).lo=true):pev ρ (gz s n)=0:=by
 have h1:=gx_ok hs h
 unfold gz
 rw[padd_ev,psmul_ev,patm_ev,αv_enc0 ρ (by omega), ← h1.1]; omega
def bV(s:CS):Poly:=feLin [(gx s 466).p,(gx s 1378).p,(gx s 1186).p,(gx s 946).p,(gx s 706).p]
def bC:Poly:=patm (enc 2050 0 51)
def bC':Poly:=patm (enc 3458 0 51)
def bT:Poly:=patm (enc 0 4 51)
def z255:Int:=57896044618658097711785492504343953926634992332820282019728792003956564819968
def bZ(s:CS):Poly:=padd (gz s 3922) (padd (psmul 18446744073709551616 (gz s 4050)) (padd (psmul 340282366920938463463374607431768211456 (gz s 4178)) (psmul 6277101735386680763835789423207666416102355444464034512896 (gz s 4306))))
def bytT(r:Option (CS×List (List AV))):Bool:=match r with
 | some (s,[bs])=>(match flr s 1538 51,flr s 1666 51,flr s 1794 51,flr s 1922 51,flr s 2050 51 with
  |some a,some b,some c,some d,some e=>
   pdvd 0 (padd (feLin [a,b,c,d,e]) (psmul (-1) (padd (bV s) (padd (pcon 19) (psmul (-z255) bC))))) &&
   (pdvd 0 (padd (padd (leP bs) (bZ s)) (psmul (-1) (padd (bV s) (padd (psmul 19 bC) (psmul (-z255) bC'))))) &&
   (pdvd 0 (padd (bV s) (psmul (-1) (padd (inP 0 0) (psmul (-(P25519:Int)) bT)))) &&
   ((Nat.beq bs.length 32&&bs.all byB&&ileB (bs.getD 31 ⟨[],0,255,0⟩).hi 127)&&(gB s 466&&gB s 1378&&gB s 1186&&gB s 946&&gB s 706)&&(ileB 0 (gx s 3922).lo&&ileB 0 (gx s 4050).lo&&ileB 0 (gx s 4178).lo&&ileB 0 (gx s 4306).lo))))
  |_,_,_,_,_=>false)
 |_=>false
theorem t_byt:bytT (ckFnS i_field_Element_Bytes C_field_Element_Bytes Mf1 [bF])=true:=by kernel_rfl
theorem pz{ρ:Env}{p q:Poly}(h:pdvd 0 (padd p (psmul (-1) q))=true):pev ρ p=pev ρ q:=by
 obtain⟨k,hk⟩:=pdvd_dvd ρ h
 rw[padd_ev,psmul_ev] at hk
 simp only[Int.natCast_zero,Int.zero_mul] at hk
 omega
theorem leV_31{l:List Int}(h:by8 l)(hl:l.length=32)(h31:l.getD 31 0≤127):leV l<z255:=by
 have e:l=l.take 31 ++ [l.getD 31 0]:=by
  apply List.ext_getElem (by simp[hl])
  intro i h1 h2
  by_cases hi:i<31
  ·rw[List.getElem_append_left (by simp; omega),List.getElem_take]
  ·have:i=31:=by omega
   subst this
   rw[List.getElem_append_right (by simp; omega)]
   simp[hl]
 have h2:∀ (a:List Int) (x:Int),leV (a ++ [x])=leV a+256^a.length*x:=by
  intro a x
  induction a with
  |nil=>simp[leV]
  |cons y a ih=>
   simp only[List.cons_append,leV,ih,List.length_cons,Int.pow_succ]
   rw[Int.mul_add,Int.mul_comm (256^a.length) 256,Int.mul_assoc]; omega
 have h3:by8 (l.take 31):=fun x hx=>h x (List.mem_of_mem_take hx)
 have h4:=leV_bd h3
 have hlen:(l.take 31).length=31:=by simp[hl]
 rw[hlen] at h4
 rw[e,h2,hlen]
 have e2:(256:Int)^31=452312848583266388373324160190187140051835877600158453279131187530910662656:=by decide
 rw[e2] at h4 ⊢
 unfold z255
 omega
theorem byt_raw{a:List Int}(h:feG a):(i_field_Element_Bytes.raw C_field_Element_Bytes 0 [a]).length=32∧by8 (i_field_Element_Bytes.raw C_field_Element_Bytes 0 [a])∧leV (i_field_Element_Bytes.raw C_field_Element_Bytes 0 [a])=feV a%(P25519:Int):=by
 have ht:=t_byt
 unfold bytT at ht
 split at ht
 ·rename_i s bs hr
  obtain⟨_,ρ,h1,hS,h2⟩:=ckFnS_ok (Mf1_ok rfl) hr (ins:= [a]) (bnd_F h (bnd_nil _))
  have hA:=h2 0 bs rfl
  generalize i_field_Element_Bytes.raw C_field_Element_Bytes 0 [a]=R at *
  split at ht
  ·rename_i fa fb fc fd fe ha hb hc hd he
   simp only[baE] at ht
   obtain⟨t1,t2,t3,⟨⟨⟨t4,t5⟩,t6⟩,⟨⟨⟨⟨u0,u1⟩,u2⟩,u3⟩,u4⟩⟩,⟨⟨v0,v1⟩,v2⟩,v3⟩:=ht
   have t4:=nbE t4
   have hl:R.length=32:=hA.1.trans t4
   have h8:=by8_of hA t5
   have ea:=flr_ok hS ha
   have eb:=flr_ok hS hb
   have ec:=flr_ok hS hc
   have ed:=flr_ok hS hd
   have ee:=flr_ok hS he
   have q1:=pz (ρ:=ρ) t1
   have q2:=pz (ρ:=ρ) t2
   have q3:=pz (ρ:=ρ) t3
   have w0:=gB_ok hS u0
   have w1:=gB_ok hS u1
   have w2:=gB_ok hS u2
   have w3:=gB_ok hS u3
   have w4:=gB_ok hS u4
   have z:pev ρ (bZ s)=0:=by
    simp only[bZ,padd_ev,psmul_ev,gz_ok hS v0,gz_ok hS v1,gz_ok hS v2,gz_ok hS v3]; rfl
   have h31:R.getD 31 0≤127:=by
    have g1:31<R.length:=by omega
    have g2:31<bs.length:=by omega
    have:=hA.2 31 R[31] bs[31] (lgE g1) (lgE g2)
    have t6:=ileB_le t6
    rw[List.getD,lgE g2] at t6
    rw[List.getD,lgE g1]
    exact Int.le_trans this.2.2.1 t6
   have hb255:=leV_31 h8 hl h31
   have hb0:=(leV_bd h8).1
   refine⟨hl,h8,?_⟩
   rw[padd_ev,z,leP_ev hA] at q2
   rw[padd_ev,psmul_ev,inP_ev ρ (h1 0 (by decide))] at q3
   simp only[feLin,padd_ev,psmul_ev,pcon_ev] at q1 q2
   have hV:pev ρ (bV s)=pev ρ (gx s 466).p+(2251799813685248*pev ρ (gx s 1378).p+(5070602400912917605986812821504*pev ρ (gx s 1186).p+(11417981541647679048466287755595961091061972992*pev ρ (gx s 946).p+25711008708143844408671393477458601640355247900524685364822016*pev ρ (gx s 706).p))):=by
    simp only[bV,feLin,padd_ev,psmul_ev]
   simp only[List.getD_cons_zero] at q3
   have e51:((2^51:Nat):Int)=2251799813685248:=by decide
   rw[e51] at ea eb ec ed ee
   have eP:((P25519:Nat):Int)=57896044618658097711785492504343953926634992332820282019728792003956564819949:=rfl
   rw[eP] at q3 ⊢
   unfold z255 at *
   unfold fB at *
   generalize pev ρ bC=c at *
   generalize pev ρ bC'=c' at *
   generalize pev ρ bT=t at *
   generalize pev ρ (bV s)=V at *
   generalize leV R=r at *
   generalize feV a=A at *
   have hc:c'=c:=by omega
   subst hc
   omega
  ·cases ht
 ·cases ht
end Go.Proofs.YtloibefkijfdlaaGreatDoor
