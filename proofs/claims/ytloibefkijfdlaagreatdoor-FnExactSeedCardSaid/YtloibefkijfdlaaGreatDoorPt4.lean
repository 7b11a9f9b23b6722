/- Multiples of the base point. -/
import Derived.Test.YtloibefkijfdlaaGreatDoorPt3
import Derived.Test.YtloibefkijfdlaaGreatDoorSc3
namespace Go.Proofs.YtloibefkijfdlaaGreatDoor
open Go Ma
theorem bks_bls{A:Type}{γ:A→List Int→Prop}{ρ:Env}:∀ {bs:List (Nat×A)} {l:List Int},BksOk γ ρ (asBk bs) l→BlsOk γ bs l
 | [],_l,h=>h
 |(_n,_x)::_bs,_l,⟨u,w,h1,h2,h3⟩=>⟨u,w,h1,h2.1,h2.2,bks_bls h3⟩
theorem bls_split{A:Type}{γ:A→List Int→Prop}:∀ {b c:List (Nat×A)} {l:List Int},BlsOk γ (b++c) l→∃ u w,l=u++w∧BlsOk γ b u∧BlsOk γ c w
 | [],c,l,h=>⟨[],l,rfl,rfl,h⟩
 |(n,x)::b,c,l,⟨u,w,h1,h2,h3,h4⟩=>by
  obtain⟨u',w',g1,g2,g3⟩:=bls_split h4
  exact⟨u++u',w',by rw[h1,g1,List.append_assoc],⟨u,u',rfl,h2,h3,g2⟩,g3⟩
theorem tabs_of{ρ:GV}:∀ {m:Nat} {c:Int} {l:List Int},BlsOk (γG ρ) (tabs .pa 8 m c) l→TabsR ρ.P m c l
 |0,c,l,h=>h
 |m+1,c,l,h=>by
  obtain⟨u,w,h1,h2,h3⟩:=bls_split h
  refine⟨u,w,h1,?_,tabs_of h3⟩
  exact (TabR.bl (f:=fun k=>Z2.smul (.k (k+1:Nat)) (.c c)) (fun k=>by rw[Z2.smul_ev,Z2.c_ev]; rfl)).2 h2
theorem bls_len{A:Type}{γ:A→List Int→Prop}:∀ {b:List (Nat×A)} {l:List Int},BlsOk γ b l→l.length=(b.map (·.1)).sum
 | [],l,h=>by rw[show l= [] from h]; rfl
 |(n,x)::b,l,⟨u,w,h1,h2,h3,h4⟩=>by
  rw[h1,List.length_append,h2,bls_len h4]; rfl
def M_bpt:List (Nat×KP):= [(176,.cst .p3 1),(183,.tab .pa 8),(178,.op2 .p3 .p3 .p3)]
theorem t_bpt:bkFnC (tfG M_bpt) nmG (i_edwards25519_basepointTable.tree C_edwards25519_basepointTable) C_edwards25519_basepointTable i_edwards25519_basepointTable.s0 i_edwards25519_basepointTable.rvs [] [] []=some [asBk (tabs .pa 8 32 1)]:=by kernel_rfl
def M_sbm:List (Nat×KP):= [(146,.tab32),(147,.rad 64),(149,.cst .p3 0),(148,.op1 .p3 .p3),(150,.sel .pa 8),(141,.op2 .p3 .pa .p11),(136,.op1 .p11 .p3),(151,.op1 .p3 .p2),(135,.dbl),(143,.op1 .p11 .p2)]
def sbmT(r:Option (List (List (Bk GX)))):Option Z2:=match r with
 |some [[.a 20 (.pt .p3 z)]]=>some z
 |_=>none
theorem t_sbm:(sbmT (bkFnC (tfG M_sbm) nmG (i_edwards25519_Point_ScalarBaseMult.tree C_edwards25519_Point_ScalarBaseMult) C_edwards25519_Point_ScalarBaseMult i_edwards25519_Point_ScalarBaseMult.s0 i_edwards25519_Point_ScalarBaseMult.rvs [none,none] [none,some [(4,.sc)]] [])).isSome=true:=by kernel_rfl
end Go.Proofs.YtloibefkijfdlaaGreatDoor
