/- FnExactVerifyPH: for every input the law returns true, and its arguments and the listed package variables read afterwards as before. Conditions: those of the given row (the listed variables hold what the program's text lays; the card ties that). -/
import Derived.Test.YtkbfdaoohhmgoaaGreatDoorGk
import Derived.Test.YtkbfdaoohhmgoaaGreatDoorLsc
import Derived.Test.YtkbfdaoohhmgoaaGreatDoorCards
import Derived.Test.YtkbfdaoohhmgoaaGreatDoorTie
import Derived.WalkKit
import Derived.ProofKit
import Derived.OpenShut
import Derived.SevenTiedAt
import Derived.Deep.DeepHandedRow
import Derived.Deep.DeepWitnessRowRef
namespace Go.Proofs.YtkbfdaoohhmgoaaGreatDoor.fnExactVerifyPH
open Go Go.Proofs.YtkbfdaoohhmgoaaGreatDoor Go.ChangeShapes Go.WideShapes Go.ChangeAt Go.RowKit
theorem own:ownKnob Tryz.prog.godebug=none:=by kernel_rfl
theorem Nz{H:Type}{enc:TypeId×Value->H}{P:Program}{w:World}{sp:Nat->Bool}:∀ {ns:List String} {gs:List (DataW H)} {p:List MemPlace},DataW.TrodVars enc P w sp ns gs p->gs.length=ns.length
 | [],[],_,_=>rfl
 | [],_::_,_,h=>absurd h (by intro h;cases h)
 |_::_,[],_,h=>absurd h (by intro h;cases h)
 |_::_,_::_,_,⟨_,_,_,_,_,_,_,_,_,_,h,_⟩=>CV Nat.succ (Nz h)
theorem au {W:World} (h:laidMet Tryz.prog Rows.fnExactVerifyPHRow.laid W):Lib.TabIs Tryz.prog W "internal/strconv.uint64pow10" .u64 Lib.pow10Tab:=by
 have e:=jv (k:=.u64) (P:=Tryz.prog) (W:=W) (name:= "internal/strconv.uint64pow10") (d:=Rows.laid_internal_strconv_uint64pow10) (g:=6) (n:=2) (t:=202) (by kernel_rfl) (by kernel_rfl) (by kernel_rfl) h (MB (i:=2) rfl);have e2:(R9 .u64 (Hu 2 (Rows.laid_internal_strconv_uint64pow10:DataW Unit))).toArray=(Lib.pow10Tab.map λz=>Value.int .u64 z).toArray:=by kernel_rfl
 unfold Lib.TabIs;rw[e,e2]
theorem bU{W:World}(h:laidMet Tryz.prog Rows.fnExactVerifyPHRow.laid W):DD W 5 0 bO:=by
 have c:=Wm (k:=.u8) (P:=Tryz.prog) (W:=W) (name:= "loop.example/pub-g03339/pub/edwards25519.scalarMinusOneBytes") (d:=Rows.laid_loop_example_pub_g03339_pub_edwards25519_scalarMinusOneBytes) (g:=5) (n:=2) (t:=45) (by kernel_rfl) (by kernel_rfl) (by kernel_rfl) h (MB (i:=8) rfl);rw[show Tryz.prog.cellsOf 45=32 by kernel_rfl,show Hu 2 (Rows.laid_loop_example_pub_g03339_pub_edwards25519_scalarMinusOneBytes:DataW Unit)=bO by kernel_rfl] at c;exact⟨by decide,λi hi=>by rw[KN];exact c i hi⟩
set_option maxRecDepth 100000 in
theorem contract(H:Type)(enc:TypeId×Value->H)(W:World)(FY:Nat)(args:Array Value)(ds gs:List (DataW H))(before:List MemPlace)
  (eJ:∀(j:Nat) t v,Tryz.f5.params[j]? = some t->args[j]? = some v->Value.okWide Tryz.prog W .any FY t v)
  (hW:DataW.Whole enc Tryz.prog Tryz.f5.params.toList Rows.fnExactVerifyPHSpec.vars false W args.toList ds gs before) (Nx:laidMetH Tryz.prog Rows.fnExactVerifyPHRow.laid W):
  Calls Tryz.prog 5 args W λe W'=>∃v,e= .returned v/\Rows.fnExactVerifyPHSpec.post enc Tryz.prog Tryz.f5 false true false false W args v W':=by
 have hL:laidMet Tryz.prog Rows.fnExactVerifyPHRow.laid W:=Nx;clear Nx;obtain⟨ad,hG⟩:=gok hL;have hW':=hW;obtain⟨p,q,SD,OR,rfl,_,_⟩:=hW;have hA:DataW.TrodAll enc Tryz.prog W 0 (λ_=>true) true Tryz.f5.params.toList args.toList ds p:=SD;have hl:=Nz OR;clear SD OR;rw[Tryz.params5] at hA eJ;obtain⟨v0,vs0,d0,L7,p0,q0,I3,rfl,rfl,h0,r0⟩:=trodAll_cons hA;obtain⟨v1,vs1,d1,ds1,p1,q1,Z3,rfl,rfl,h1,r1⟩:=trodAll_cons r0;obtain⟨v2,vs2,d2,ds2,p2,q2,ha2,rfl,rfl,h2,r2⟩:=trodAll_cons r1;obtain⟨v3,vs3,d3,ds3,p3,q3,ha3,rfl,rfl,h3,r3⟩:=trodAll_cons r2;obtain⟨hz,rfl,rfl⟩:=trodAll_nil r3;obtain rfl:args= #[v0,v1,v2,v3]:=by cases args;simp_all
 clear I3 Z3 ha2 ha3 hz
 match gs,hl with
 | [g1,g2,g3,g4,g5,g6,g7],_=>
 have key:Calls Tryz.prog 5 #[v0,v1,v2,v3] W λe W'=>e= .returned (.bool true)/\Below W.heap.size W W':=UW hG (au hL) (bU hL) (ADf W) (Ie _) (eJ 0 _ _ rfl rfl) h0 (eJ 1 _ _ rfl rfl) h1 (eJ 2 _ _ rfl rfl) h2 (eJ 3 _ _ rfl rfl) h3
 refine key.mono λe W' ⟨he,hb⟩=>⟨_,he,?_⟩
 exact aD (tb:=4) (by kernel_rfl) (by kernel_rfl) (by kernel_rfl) (by kernel_rfl) (by kernel_rfl) rfl hW' hb
noncomputable def Ga(os:Os):World:=
 let N:=(World.settled Tryz.prog os).heap.size
 let w0:=World.holding Tryz.prog os ⟨#[.cells #[.int .u64 0,.int .u64 0,.int .u64 0,.int .u64 0,.int .u64 0] 60,.cells #[.int .u64 1,.int .u64 0,.int .u64 0,.int .u64 0,.int .u64 0] 60,.cells #[.int .u64 1718705420411056,.int .u64 234908883556509,.int .u64 2233514472574048,.int .u64 2117202627021982,.int .u64 765476049583133] 60,.cells #[.int .u64 6596282735017805720,.int .u64 4084727301971498455,.int .u64 11727709552089570172,.int .u64 446589182673836592] 122,.cells #[.int .u64 13636073449544084677,.int .u64 6645684779544594699,.int .u64 7181719282965082862,.int .u64 275308871451790172] 122],#[],[]⟩
 let put (h:Array Obj) (g:Nat) (cs:Array Value):Array Obj:=h.modify g fun
  | .cells _ t frozen=>.cells cs t frozen
  |o=>o
 { w0 with heap:=(put (put (put (put (put (put (put (put (put (put w0.heap 8 #[.int .u8 0,.int .u8 1,.int .u8 28,.int .u8 2,.int .u8 29,.int .u8 14,.int .u8 24,.int .u8 3,.int .u8 30,.int .u8 22,.int .u8 20,.int .u8 15,.int .u8 25,.int .u8 17,.int .u8 4,.int .u8 8,.int .u8 31,.int .u8 27,.int .u8 13,.int .u8 23,.int .u8 21,.int .u8 19,.int .u8 16,.int .u8 7,.int .u8 26,.int .u8 12,.int .u8 18,.int .u8 6,.int .u8 11,.int .u8 5,.int .u8 10,.int .u8 9]) 9 #[.int .u8 0,.int .u8 1,.int .u8 56,.int .u8 2,.int .u8 57,.int .u8 49,.int .u8 28,.int .u8 3,.int .u8 61,.int .u8 58,.int .u8 42,.int .u8 50,.int .u8 38,.int .u8 29,.int .u8 17,.int .u8 4,.int .u8 62,.int .u8 47,.int .u8 59,.int .u8 36,.int .u8 45,.int .u8 43,.int .u8 51,.int .u8 22,.int .u8 53,.int .u8 39,.int .u8 33,.int .u8 30,.int .u8 24,.int .u8 18,.int .u8 12,.int .u8 5,.int .u8 63,.int .u8 55,.int .u8 48,.int .u8 27,.int .u8 60,.int .u8 41,.int .u8 37,.int .u8 16,.int .u8 46,.int .u8 35,.int .u8 44,.int .u8 21,.int .u8 52,.int .u8 32,.int .u8 23,.int .u8 11,.int .u8 54,.int .u8 26,.int .u8 40,.int .u8 15,.int .u8 34,.int .u8 20,.int .u8 31,.int .u8 10,.int .u8 25,.int .u8 14,.int .u8 19,.int .u8 9,.int .u8 13,.int .u8 8,.int .u8 7,.int .u8 6]) 6 #[.int .u64 1,.int .u64 10,.int .u64 100,.int .u64 1000,.int .u64 10000,.int .u64 100000,.int .u64 1000000,.int .u64 10000000,.int .u64 100000000,.int .u64 1000000000,.int .u64 10000000000,.int .u64 100000000000,.int .u64 1000000000000,.int .u64 10000000000000,.int .u64 100000000000000,.int .u64 1000000000000000,.int .u64 10000000000000000,.int .u64 100000000000000000,.int .u64 1000000000000000000,.int .u64 10000000000000000000]) 3 #[.pointer (some ⟨N+0,0,none⟩)]) 4 #[.pointer (some ⟨N+1,0,none⟩)]) 2 #[.pointer (some ⟨N+2,0,none⟩)]) 0 #[.pointer (some ⟨N+3,0,none⟩)]) 1 #[.pointer (some ⟨N+4,0,none⟩)]) 5 #[.int .u8 236,.int .u8 211,.int .u8 245,.int .u8 92,.int .u8 26,.int .u8 99,.int .u8 18,.int .u8 88,.int .u8 214,.int .u8 156,.int .u8 247,.int .u8 162,.int .u8 222,.int .u8 249,.int .u8 222,.int .u8 20,.int .u8 0,.int .u8 0,.int .u8 0,.int .u8 0,.int .u8 0,.int .u8 0,.int .u8 0,.int .u8 0,.int .u8 0,.int .u8 0,.int .u8 0,.int .u8 0,.int .u8 0,.int .u8 0,.int .u8 0,.int .u8 16]) 7 #[.int .u64 4794697086780616226,.int .u64 8158064640168781261,.int .u64 13096744586834688815,.int .u64 16840607885511220156,.int .u64 4131703408338449720,.int .u64 6480981068601479193,.int .u64 10538285296894168987,.int .u64 12329834152419229976,.int .u64 15566598209576043074,.int .u64 1334009975649890238,.int .u64 2608012711638119052,.int .u64 6128411473006802146,.int .u64 8268148722764581231,.int .u64 9286055187155687089,.int .u64 11230858885718282805,.int .u64 13951009754708518548,.int .u64 16472876342353939154,.int .u64 17275323862435702243,.int .u64 1135362057144423861,.int .u64 2597628984639134821,.int .u64 3308224258029322869,.int .u64 5365058923640841347,.int .u64 6679025012923562964,.int .u64 8573033837759648693,.int .u64 10970295158949994411,.int .u64 12119686244451234320,.int .u64 12683024718118986047,.int .u64 13788192230050041572,.int .u64 14330467153632333762,.int .u64 15395433587784984357,.int .u64 489312712824947311,.int .u64 1452737877330783856,.int .u64 2861767655752347644,.int .u64 3322285676063803686,.int .u64 5560940570517711597,.int .u64 5996557281743188959,.int .u64 7280758554555802590,.int .u64 8532644243296465576,.int .u64 9350256976987008742,.int .u64 10552545826968843579,.int .u64 11727347734174303076,.int .u64 12113106623233404929,.int .u64 14000437183269869457,.int .u64 14369950271660146224,.int .u64 15101387698204529176,.int .u64 15463397548674623760,.int .u64 17586052441742319658,.int .u64 1182934255886127544,.int .u64 1847814050463011016,.int .u64 2177327727835720531,.int .u64 2830643537854262169,.int .u64 3796741975233480872,.int .u64 4115178125766777443,.int .u64 5681478168544905931,.int .u64 6601373596472566643,.int .u64 7507060721942968483,.int .u64 8399075790359081724,.int .u64 8693463985226723168,.int .u64 9568029438360202098,.int .u64 10144078919501101548,.int .u64 10430055236837252648,.int .u64 11840083180663258601,.int .u64 13761210420658862357,.int .u64 14299343276471374635,.int .u64 14566680578165727644,.int .u64 15097957966210449927,.int .u64 16922976911328602910,.int .u64 17689382322260857208,.int .u64 500013540394364858,.int .u64 748580250866718886,.int .u64 1242879168328830382,.int .u64 1977374033974150939,.int .u64 2944078676154940804,.int .u64 3659926193048069267,.int .u64 4368137639120453308,.int .u64 4836135668995329356,.int .u64 5532061633213252278,.int .u64 6448918945643986474,.int .u64 6902733635092675308,.int .u64 7801388544844847127]) }
theorem TU(os:Os)(args:Array Value):laidMet Tryz.prog Rows.fnExactVerifyPHRow.laid ((Ga os).forCall (λ_ _=>0) ⟨#[],args,[]⟩).memory:=
 laidMet_of_run' 8 (by kernel_rfl) (by kernel_rfl)
theorem Nu(os:Os){H:Type}(enc:TypeId×Value->H):
  (OpenSpec.ofChange Rows.fnExactVerifyPHSpec).preRow enc Tryz.prog Tryz.f5 Rows.fnExactVerifyPHRow.domain false Rows.fnExactVerifyPHRow.laid ((Ga os).forCall (λ_ _=>0) ⟨#[],#[.slice none 0 0,.slice none 0 0,.slice none 0 0,.string ⟨#[]⟩],[]⟩).memory #[.slice none 0 0,.slice none 0 0,.slice none 0 0,.string ⟨#[]⟩]:=by
 have hw:(DataW.whole enc Tryz.prog ((Ga os).forCall (λ_ _=>0) ⟨#[],#[.slice none 0 0,.slice none 0 0,.slice none 0 0,.string ⟨#[]⟩],[]⟩).memory Tryz.f5.params.toList Rows.fnExactVerifyPHSpec.vars false (#[.slice none 0 0,.slice none 0 0,.slice none 0 0,.string ⟨#[]⟩]:Array Value).toList 8).map (λx=>(x.1,x.2.1))=
   some ([.nil,.nil,.nil,.lit (.string [])],[Rows.laid_loop_example_pub_g03339_pub_field_feOne,Rows.laid_loop_example_pub_g03339_pub_field_sqrtM1,Rows.laid_loop_example_pub_g03339_pub_field_feZero,Rows.laid_loop_example_pub_g03339_pub_sha512_K,Rows.laid_loop_example_pub_g03339_pub_edwards25519_scalarTwo168,Rows.laid_loop_example_pub_g03339_pub_edwards25519_scalarTwo336,Rows.laid_loop_example_pub_g03339_pub_edwards25519_scalarMinusOneBytes]):=by kernel_rfl
 obtain⟨⟨x1,x2,x3⟩,hx,nF⟩:=Yg.1 hw;simp only[Prod.mk.injEq] at nF;obtain⟨rfl,rfl⟩:=nF;exact OpenSpec.preRow_of_cond 8 hx (by kernel_rfl) (λk hk=>by cases hk) (by kernel_rfl) (TU os _)
set_option maxRecDepth 100000 in
theorem lifted(os:Os)(started:os.Started)(H:Type)(enc:TypeId×Value->H)(F:Stop.Interp):
  ReturnsInHanded {} Tryz.checked os 5 .any ((OpenSpec.ofChange Rows.fnExactVerifyPHSpec).preRow enc Tryz.prog Tryz.f5 Rows.fnExactVerifyPHRow.domain false Rows.fnExactVerifyPHRow.laid) (((OpenSpec.ofChange Rows.fnExactVerifyPHSpec).at F).post enc Tryz.prog Tryz.f5 false true false false):=by
 refine returnsInHanded_of_row (C:=Tryz.checked) (s:=OpenSpec.ofChange Rows.fnExactVerifyPHSpec) own started (by kernel_rfl) Tryz.func5
  (witness_row_atRef (enc:=enc) (C:=Tryz.checked) false (Ga os) #[.slice none 0 0,.slice none 0 0,.slice none 0 0,.string ⟨#[]⟩] rfl (by kernel_rfl) (by kernel_rfl) (by kernel_rfl) (Nu os enc)) ?_
 intro W FY args ds gs before eJ hW _ _ _ hL _ _;exact contract H enc W FY args ds gs before eJ hW hL
theorem said:Rows.FnExactVerifyPHSaid:=
 OpenClaim.holds_of_cond 5 Tryz.f5 rfl rfl rfl rfl rfl rfl rfl ⟨rfl,rfl,rfl,rfl,rfl⟩ rfl rfl rfl rfl rfl (by kernel_rfl) Tryz.func5 (by kernel_rfl)
  (of_decide_eq_true (by kernel_rfl)) (by unfold Func.isWrapper;first|(rw[if_pos (by decide +kernel)];kernel_rfl)|(rw[if_neg (by decide +kernel)];exact⟨rfl,rfl⟩))
  (λos started H enc _ F=>by rw[OpenClaim.pre_eq_preRow];exact lifted os started H enc F)
theorem plain (f:FuncId) (fn:Func) (hf:Tryz.pinned.checked.prog.funcNamed "loop.example/pub-g03339/laws.FnExactVerifyPH" = some f) (My:Tryz.pinned.checked.prog.funcs[f]? = some fn):
  false=Tryz.pinned.checked.prog.looks []/\∀(j:Nat) t,fn.params[j]? = some t->Tryz.pinned.checked.prog.wantsStandIn t=false:=by
 obtain rfl:f=5:=WT ((show Tryz.prog.funcNamed "loop.example/pub-g03339/laws.FnExactVerifyPH" = some 5 by kernel_rfl).symm.trans hf) |>.symm;obtain rfl:fn=Tryz.f5:=(WT (Tryz.func5.symm.trans My)).symm;refine⟨by kernel_rfl,λj t ht=>?_⟩;have fS:(Tryz.f5.params.toList.all λt=> !(Tryz.prog.wantsStandIn t))=true:=by kernel_rfl
 have:=Kh.1 fS t (by simpa using Array.mem_of_getElem? ht);show Tryz.prog.wantsStandIn t=false;simpa using this
theorem card:Rows.FnExactVerifyPHCardSaid:=
 Claim7.holds_tied_plain_at .later [] _ _ _ _ said (λ_ h=>by cases h) (by kernel_rfl) (λ_ h=>by cases h) fnExactVerifyPH_row_tie rfl ⟨rfl,rfl⟩ (by kernel_rfl) rfl plain (by kernel_rfl)
#print axioms card
end Go.Proofs.YtkbfdaoohhmgoaaGreatDoor.fnExactVerifyPH
