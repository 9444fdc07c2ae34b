import PyProof.Rows.All
import Wide.All
import OpenK.AllK
import Wide.FinOn
import Flt.RightMore
import PySem.Challenge.RW_tp0021_01
open PySem PySem.W PyProof.Rows
set_option Elab.async false
set_option maxRecDepth 100000
set_option maxHeartbeats 8000000
set_option compiler.extract_closed false
set_option genInjectivity false
set_option genSizeOf false
name_quick tw861502493610598483 for PySem.W.S.findZ by PySem.W.S.findZ_eq
name_quick tw1719895430356276633 for PySem.W.S.findZ by PySem.W.S.findZ_eq
name_quick tw10648816792666195974 for PySem.W.S.findZ by PySem.W.S.findZ_eq
name_quick tw15015364577301290977 for PySem.W.S.findZ by PySem.W.S.findZ_eq
name_quick tw18242059707315765181 for PySem.W.S.findZ by PySem.W.S.findZ_eq
name_quick tw7774113678449685934 for PySem.W.S.findZ by PySem.W.S.findZ_eq
name_quick tw14179244583298268729 for PySem.W.S.findZ by PySem.W.S.findZ_eq
name_quick tw264932986702033461 for PySem.W.S.findZ by PySem.W.S.findZ_eq
name_quick tw6265987150890485897 for PySem.W.S.findZ by PySem.W.S.findZ_eq
name_quick tw6962948666492804688 for PySem.W.S.findZ by PySem.W.S.findZ_eq
name_quick tw14490095542210971326 for PySem.W.S.findZ by PySem.W.S.findZ_eq
name_quick tw18277974793145541040 for PySem.W.S.findZ by PySem.W.S.findZ_eq
name_quick tw12960429369202013873 for PySem.W.S.findZ by PySem.W.S.findZ_eq
name_quick tw9947508896943372755 for PySem.W.S.findZ by PySem.W.S.findZ_eq
name_quick tw12176265147828701554 for PySem.W.S.findZ by PySem.W.S.findZ_eq
name_quick tw1660798551392318424 for PySem.W.S.findZ by PySem.W.S.findZ_eq
name_quick tw6128145076113358165 for PySem.W.S.findZ by PySem.W.S.findZ_eq
name_quick tw15752536640612570366 for PySem.W.S.findZ by PySem.W.S.findZ_eq
name_quick tw457283913326318344 for PySem.W.S.findZ by PySem.W.S.findZ_eq
name_quick tw8966131664815694762 for PySem.W.S.findZ by PySem.W.S.findZ_eq
name_quick tw14611616552423853409 for PySem.W.S.findZ by PySem.W.S.findZ_eq
name_quick tw11662115353561507501 for PySem.W.S.findZ by PySem.W.S.findZ_eq
name_quick tw6030501089693204938 for PySem.W.S.findZ by PySem.W.S.findZ_eq
name_quick tw4309217394794523951 for PySem.W.S.findZ by PySem.W.S.findZ_eq
name_quick tw13956191218907399338 for PySem.W.S.findZ by PySem.W.S.findZ_eq
name_quick tw11853640710764476214 for PySem.W.S.findZ by PySem.W.S.findZ_eq
name_quick tw3300257896294614128 for PySem.W.S.findZ by PySem.W.S.findZ_eq
name_quick tw12297992134047619483 for PySem.W.S.findZ by PySem.W.S.findZ_eq
name_quick tw15168571331116189253 for PySem.W.S.findZ by PySem.W.S.findZ_eq
name_quick tw1495895850433845275 for PySem.W.S.findZ by PySem.W.S.findZ_eq
name_quick tw7322748291113730364 for PySem.W.S.findZ by PySem.W.S.findZ_eq
name_quick tw11513857634932158529 for PySem.W.S.findZ by PySem.W.S.findZ_eq
name_quick tw1840220198017710270 for PySem.W.S.findZ by PySem.W.S.findZ_eq
name_quick tw8219003486749837733 for PySem.W.S.findZ by PySem.W.S.findZ_eq
name_quick tw13034982811429478159 for PySem.W.S.findZ by PySem.W.S.findZ_eq
name_quick tw12147665669636231765 for PySem.W.S.findZ by PySem.W.S.findZ_eq
name_quick tw6557801498797044033 for PySem.W.S.findZ by PySem.W.S.findZ_eq
name_quick tw17214186515701724070 for PySem.W.S.findZ by PySem.W.S.findZ_eq
name_quick tw6702445572142316249 for PySem.W.S.findZ by PySem.W.S.findZ_eq
name_quick tw14935467056822913822 for PySem.W.S.findZ by PySem.W.S.findZ_eq
name_quick tw8739830900816887780 for PySem.W.S.findZ by PySem.W.S.findZ_eq
name_quick tw9387514328989991554 for PySem.W.S.findZ by PySem.W.S.findZ_eq
name_quick tw8899516883271353254 for PySem.W.S.findZ by PySem.W.S.findZ_eq
name_quick tw1708089923452030704 for PySem.W.S.findZ by PySem.W.S.findZ_eq
name_quick tw16955839230299176341 for PySem.W.S.findZ by PySem.W.S.findZ_eq
name_quick tw991626836265849350 for PySem.W.S.findZ by PySem.W.S.findZ_eq
name_quick tw6469784823511061222 for PySem.W.S.findZ by PySem.W.S.findZ_eq
name_quick tw14243238205550065757 for PySem.W.S.findZ by PySem.W.S.findZ_eq
name_quick tw2941924889016668590 for PySem.W.S.findZ by PySem.W.S.findZ_eq
name_quick tw6968137755033780318 for PySem.W.S.findZ by PySem.W.S.findZ_eq
name_quick tw14782755387869428366 for PySem.W.S.findZ by PySem.W.S.findZ_eq
name_quick tw10212804917625248896 for PySem.W.S.findZ by PySem.W.S.findZ_eq
name_quick tw2646887283097553488 for PySem.W.S.findZ by PySem.W.S.findZ_eq
name_quick tw977512076041815475 for PySem.W.S.findZ by PySem.W.S.findZ_eq
name_quick tw1599053048872161195 for PySem.W.S.findZ by PySem.W.S.findZ_eq
name_quick tw9527419180321252691 for PySem.W.S.findZ by PySem.W.S.findZ_eq
name_quick tw10910644110388302437 for PySem.W.S.findZ by PySem.W.S.findZ_eq
name_quick tw1383625962624193546 for PySem.W.S.findZ by PySem.W.S.findZ_eq
name_quick tw16756451883985382160 for PySem.W.S.findZ by PySem.W.S.findZ_eq
name_quick tw17464319187374939960 for PySem.W.S.findZ by PySem.W.S.findZ_eq
name_quick tw10879749546641988924 for PySem.W.S.findZ by PySem.W.S.findZ_eq
name_quick tw15401437161963490237 for PySem.W.S.findZ by PySem.W.S.findZ_eq
name_quick tw3671519592330383864 for PySem.W.S.findZ by PySem.W.S.findZ_eq
name_quick tw13769103115541136327 for PySem.W.S.findZ by PySem.W.S.findZ_eq
name_quick tw13547939009206843870 for PySem.W.S.findZ by PySem.W.S.findZ_eq
name_quick tw12408111787983249662 for PySem.W.S.findZ by PySem.W.S.findZ_eq
name_quick tw9116068151291705539 for PySem.W.S.findZ by PySem.W.S.findZ_eq
name_quick tw13913613514976480042 for PySem.W.S.findZ by PySem.W.S.findZ_eq
name_quick tw4148533619186036948 for PySem.W.S.findZ by PySem.W.S.findZ_eq
name_quick tw6858818405166986180 for PySem.W.S.findZ by PySem.W.S.findZ_eq
name_quick tw8060666987683057360 for PySem.W.S.findZ by PySem.W.S.findZ_eq
name_quick tw9646623106273453227 for PySem.W.S.findZ by PySem.W.S.findZ_eq
name_quick tw1864683662541468164 for PySem.W.S.findZ by PySem.W.S.findZ_eq
name_quick tw17483705464198625004 for PySem.W.S.findZ by PySem.W.S.findZ_eq
name_quick tw1979317910248211280 for PySem.W.S.findZ by PySem.W.S.findZ_eq
name_quick tw15402603294489630176 for PySem.W.S.findZ by PySem.W.S.findZ_eq
name_quick tw2570914705882880060 for PySem.W.S.findZ by PySem.W.S.findZ_eq
name_quick tw12770481643036789091 for PySem.W.S.findZ by PySem.W.S.findZ_eq
name_quick tw2789304352393801511 for PySem.W.S.findZ by PySem.W.S.findZ_eq
name_quick tw1607123104830579860 for PySem.W.S.findZ by PySem.W.S.findZ_eq
name_quick tw4015202173357781934 for PySem.W.S.findZ by PySem.W.S.findZ_eq
name_quick tw5072417060200589145 for PySem.W.S.findZ by PySem.W.S.findZ_eq
name_quick tw16723463757517087524 for PySem.W.S.findZ by PySem.W.S.findZ_eq
name_quick tw13812277999558781770 for PySem.W.S.findZ by PySem.W.S.findZ_eq
name_quick tw539538531456391632 for PySem.W.S.findZ by PySem.W.S.findZ_eq
name_quick tw4548300405975405348 for PySem.W.S.findZ by PySem.W.S.findZ_eq
name_quick tw8159993647027272844 for PySem.W.S.findZ by PySem.W.S.findZ_eq
name_quick tw18168846237328670995 for PySem.W.S.findZ by PySem.W.S.findZ_eq
name_quick tw10474955418446329604 for PySem.W.S.findZ by PySem.W.S.findZ_eq
name_quick tw10792498714594961201 for PySem.W.S.findZ by PySem.W.S.findZ_eq
name_quick tw3238445694619138142 for PySem.W.S.findZ by PySem.W.S.findZ_eq
name_quick tw13861969467909019144 for PySem.W.S.findZ by PySem.W.S.findZ_eq
name_quick tw16409965706819354750 for PySem.W.S.findZ by PySem.W.S.findZ_eq
name_quick tw9904465844462339222 for PySem.W.S.findZ by PySem.W.S.findZ_eq
name_quick tw16439854720029058571 for PySem.W.S.findZ by PySem.W.S.findZ_eq
name_quick tw15536608767410316090 for PySem.W.S.findZ by PySem.W.S.findZ_eq
name_quick tw15254633091992210921 for PySem.W.S.findZ by PySem.W.S.findZ_eq
name_quick tw11429584451438056573 for PySem.W.S.findZ by PySem.W.S.findZ_eq
name_quick tw9796564346219866840 for PySem.W.S.findZ by PySem.W.S.findZ_eq
name_quick tw1922157984580058403 for PySem.W.S.findZ by PySem.W.S.findZ_eq
name_quick tw9495317472360511255 for PySem.W.S.findZ by PySem.W.S.findZ_eq
name_quick tw4734895289157585001 for PySem.W.S.findZ by PySem.W.S.findZ_eq
name_quick tw12768989823518198380 for PySem.W.S.findZ by PySem.W.S.findZ_eq
name_quick tw5537553045615171315 for PySem.W.S.findZ by PySem.W.S.findZ_eq
name_quick tw6472337539984862722 for PySem.W.S.findZ by PySem.W.S.findZ_eq
name_quick tw18191872463588725041 for PySem.W.S.findZ by PySem.W.S.findZ_eq
name_quick tw4096221787609464999 for PySem.W.S.findZ by PySem.W.S.findZ_eq
name_quick tw12188032599808994241 for PySem.W.S.findZ by PySem.W.S.findZ_eq
name_quick tw15173544498738437827 for PySem.W.S.findZ by PySem.W.S.findZ_eq
name_quick tw2595585439558603231 for PySem.W.S.findZ by PySem.W.S.findZ_eq
name_quick tw10931757524730887808 for PySem.W.S.findZ by PySem.W.S.findZ_eq
name_quick tw4189273013823423559 for PySem.W.S.findZ by PySem.W.S.findZ_eq
name_quick tw5872530126848033075 for PySem.W.S.findZ by PySem.W.S.findZ_eq
name_quick tw16721508838639397229 for PySem.W.S.findZ by PySem.W.S.findZ_eq
name_quick tw17062427158221528723 for PySem.W.S.findZ by PySem.W.S.findZ_eq
name_quick tw11066385474520676512 for PySem.W.S.findZ by PySem.W.S.findZ_eq
name_quick tw3475869608268796686 for PySem.W.S.findZ by PySem.W.S.findZ_eq
name_quick tw18328257000508772394 for PySem.W.S.findZ by PySem.W.S.findZ_eq
name_quick tw4906484309439969231 for PySem.W.S.findZ by PySem.W.S.findZ_eq
name_quick tw615563214671542189 for PySem.W.S.findZ by PySem.W.S.findZ_eq
name_quick tw14404928986312190071 for PySem.W.S.findZ by PySem.W.S.findZ_eq
name_quick tw4804111812005502284 for PySem.W.S.findZ by PySem.W.S.findZ_eq
name_quick tw13946496683202179788 for PySem.W.S.findZ by PySem.W.S.findZ_eq
name_quick tw5725222548895626118 for PySem.W.S.findZ by PySem.W.S.findZ_eq
name_quick tw10698057553749749337 for PySem.W.S.findZ by PySem.W.S.findZ_eq
name_quick tw5449601097390414333 for PySem.W.S.findZ by PySem.W.S.findZ_eq
name_quick tw4483904966330829159 for PySem.W.S.findZ by PySem.W.S.findZ_eq
name_quick tw7597207336037581707 for PySem.W.S.findZ by PySem.W.S.findZ_eq
name_quick tw15779231459743154856 for PySem.W.S.findZ by PySem.W.S.findZ_eq
name_quick tw6105849179199505303 for PySem.W.S.findZ by PySem.W.S.findZ_eq
name_quick tw10551173667578312727 for PySem.W.S.findZ by PySem.W.S.findZ_eq
open_top hd for PySem.Challenge.rw_tp0021_01
example : True := by
  w_top off
  trivial
noncomputable section
namespace Mine
open Int.Internal.Linear
noncomputable def chk (t ga gb : Int.Internal.Linear.Expr) (M : Nat) : Bool :=
  match (Int.Internal.Linear.Expr.sub (.mulL M (.sub gb ga)) t).norm with
  | .num k => decide (-(M : Int) < k)
  | _ => false
theorem lin_of (c : Context) (t ga gb : Int.Internal.Linear.Expr) (M : Nat) (hc : chk t ga gb M = true) (ht : 0 ≤ t.denote c) : ga.denote c ≤ gb.denote c := by
  unfold chk at hc
  split at hc
  · rename_i k e
    have h1 := Int.Internal.Linear.Expr.denote_norm c (Int.Internal.Linear.Expr.sub (.mulL M (.sub gb ga)) t)
    rw [e] at h1
    replace h1 : k = (M : Int) * (gb.denote c - ga.denote c) - t.denote c := h1
    have h2 : -(M : Int) < k := of_decide_eq_true hc
    refine Int.not_lt.mp fun hlt => ?_
    have h3 : gb.denote c - ga.denote c ≤ -1 := by omega
    have h4 : (M : Int) * (gb.denote c - ga.denote c) ≤ (M : Int) * -1 := Int.mul_le_mul_of_nonneg_left h3 (Int.natCast_nonneg M)
    omega
  · cases hc
noncomputable abbrev cx1 (a : Int) : Context := .leaf a
noncomputable abbrev cx2 (a0 a1 : Int) : Context := .branch 1 (.leaf a0) (.leaf a1)
noncomputable abbrev cx3 (a0 a1 a2 : Int) : Context := .branch 1 (.leaf a0) (.branch 2 (.leaf a1) (.leaf a2))
noncomputable abbrev cx4 (a0 a1 a2 a3 : Int) : Context := .branch 1 (.leaf a0) (.branch 2 (.leaf a1) (.branch 3 (.leaf a2) (.leaf a3)))
noncomputable abbrev cx5 (a0 a1 a2 a3 a4 : Int) : Context := .branch 1 (.leaf a0) (.branch 2 (.leaf a1) (.branch 3 (.leaf a2) (.branch 4 (.leaf a3) (.leaf a4))))
noncomputable abbrev cx6 (a0 a1 a2 a3 a4 a5 : Int) : Context := .branch 1 (.leaf a0) (.branch 2 (.leaf a1) (.branch 3 (.leaf a2) (.branch 4 (.leaf a3) (.branch 5 (.leaf a4) (.leaf a5)))))
noncomputable abbrev cx7 (a0 a1 a2 a3 a4 a5 a6 : Int) : Context := .branch 1 (.leaf a0) (.branch 2 (.leaf a1) (.branch 3 (.leaf a2) (.branch 4 (.leaf a3) (.branch 5 (.leaf a4) (.branch 6 (.leaf a5) (.leaf a6))))))
noncomputable abbrev cx8 (a0 a1 a2 a3 a4 a5 a6 a7 : Int) : Context := .branch 1 (.leaf a0) (.branch 2 (.leaf a1) (.branch 3 (.leaf a2) (.branch 4 (.leaf a3) (.branch 5 (.leaf a4) (.branch 6 (.leaf a5) (.branch 7 (.leaf a6) (.leaf a7)))))))
noncomputable abbrev cx9 (a0 a1 a2 a3 a4 a5 a6 a7 a8 : Int) : Context := .branch 1 (.leaf a0) (.branch 2 (.leaf a1) (.branch 3 (.leaf a2) (.branch 4 (.leaf a3) (.branch 5 (.leaf a4) (.branch 6 (.leaf a5) (.branch 7 (.leaf a6) (.branch 8 (.leaf a7) (.leaf a8))))))))
noncomputable abbrev cx10 (a0 a1 a2 a3 a4 a5 a6 a7 a8 a9 : Int) : Context := .branch 1 (.leaf a0) (.branch 2 (.leaf a1) (.branch 3 (.leaf a2) (.branch 4 (.leaf a3) (.branch 5 (.leaf a4) (.branch 6 (.leaf a5) (.branch 7 (.leaf a6) (.branch 8 (.leaf a7) (.branch 9 (.leaf a8) (.leaf a9)))))))))
noncomputable abbrev cx11 (a0 a1 a2 a3 a4 a5 a6 a7 a8 a9 a10 : Int) : Context := .branch 1 (.leaf a0) (.branch 2 (.leaf a1) (.branch 3 (.leaf a2) (.branch 4 (.leaf a3) (.branch 5 (.leaf a4) (.branch 6 (.leaf a5) (.branch 7 (.leaf a6) (.branch 8 (.leaf a7) (.branch 9 (.leaf a8) (.branch 10 (.leaf a9) (.leaf a10))))))))))
noncomputable abbrev cx12 (a0 a1 a2 a3 a4 a5 a6 a7 a8 a9 a10 a11 : Int) : Context := .branch 1 (.leaf a0) (.branch 2 (.leaf a1) (.branch 3 (.leaf a2) (.branch 4 (.leaf a3) (.branch 5 (.leaf a4) (.branch 6 (.leaf a5) (.branch 7 (.leaf a6) (.branch 8 (.leaf a7) (.branch 9 (.leaf a8) (.branch 10 (.leaf a9) (.branch 11 (.leaf a10) (.leaf a11)))))))))))
noncomputable abbrev cx13 (a0 a1 a2 a3 a4 a5 a6 a7 a8 a9 a10 a11 a12 : Int) : Context := .branch 1 (.leaf a0) (.branch 2 (.leaf a1) (.branch 3 (.leaf a2) (.branch 4 (.leaf a3) (.branch 5 (.leaf a4) (.branch 6 (.leaf a5) (.branch 7 (.leaf a6) (.branch 8 (.leaf a7) (.branch 9 (.leaf a8) (.branch 10 (.leaf a9) (.branch 11 (.leaf a10) (.branch 12 (.leaf a11) (.leaf a12))))))))))))
noncomputable abbrev cx14 (a0 a1 a2 a3 a4 a5 a6 a7 a8 a9 a10 a11 a12 a13 : Int) : Context := .branch 1 (.leaf a0) (.branch 2 (.leaf a1) (.branch 3 (.leaf a2) (.branch 4 (.leaf a3) (.branch 5 (.leaf a4) (.branch 6 (.leaf a5) (.branch 7 (.leaf a6) (.branch 8 (.leaf a7) (.branch 9 (.leaf a8) (.branch 10 (.leaf a9) (.branch 11 (.leaf a10) (.branch 12 (.leaf a11) (.branch 13 (.leaf a12) (.leaf a13)))))))))))))
theorem t_fact {c : Context} {a b : Int.Internal.Linear.Expr} (m : Nat) (h : a.denote c ≤ b.denote c) : 0 ≤ (Int.Internal.Linear.Expr.mulL m (.sub b a)).denote c :=
  Int.mul_nonneg (Int.natCast_nonneg m) (Int.sub_nonneg_of_le h)
theorem t_add {c : Context} {a b : Int.Internal.Linear.Expr} (h1 : 0 ≤ a.denote c) (h2 : 0 ≤ b.denote c) : 0 ≤ (Int.Internal.Linear.Expr.add a b).denote c := Int.add_nonneg h1 h2
theorem lin0 (c : Context) (ga gb : Int.Internal.Linear.Expr) (M : Nat) (hc : chk (.num 0) ga gb M = true) : ga.denote c ≤ gb.denote c := lin_of c _ ga gb M hc (Int.le_refl 0)
theorem lin1 (c : Context) (a1 b1 ga gb : Int.Internal.Linear.Expr) (m1 M : Nat) (hc : chk (.mulL m1 (.sub b1 a1)) ga gb M = true) (h1 : a1.denote c ≤ b1.denote c) : ga.denote c ≤ gb.denote c := lin_of c _ ga gb M hc (t_fact m1 h1)
theorem lin2 (c : Context) (a1 b1 a2 b2 ga gb : Int.Internal.Linear.Expr) (m1 m2 M : Nat) (hc : chk (.add (.mulL m1 (.sub b1 a1)) (.mulL m2 (.sub b2 a2))) ga gb M = true) (h1 : a1.denote c ≤ b1.denote c) (h2 : a2.denote c ≤ b2.denote c) : ga.denote c ≤ gb.denote c := lin_of c _ ga gb M hc (t_add (t_fact m1 h1) (t_fact m2 h2))
theorem lin3 (c : Context) (a1 b1 a2 b2 a3 b3 ga gb : Int.Internal.Linear.Expr) (m1 m2 m3 M : Nat) (hc : chk (.add (.mulL m1 (.sub b1 a1)) (.add (.mulL m2 (.sub b2 a2)) (.mulL m3 (.sub b3 a3)))) ga gb M = true) (h1 : a1.denote c ≤ b1.denote c) (h2 : a2.denote c ≤ b2.denote c) (h3 : a3.denote c ≤ b3.denote c) : ga.denote c ≤ gb.denote c := lin_of c _ ga gb M hc (t_add (t_fact m1 h1) (t_add (t_fact m2 h2) (t_fact m3 h3)))
theorem lin4 (c : Context) (a1 b1 a2 b2 a3 b3 a4 b4 ga gb : Int.Internal.Linear.Expr) (m1 m2 m3 m4 M : Nat) (hc : chk (.add (.mulL m1 (.sub b1 a1)) (.add (.mulL m2 (.sub b2 a2)) (.add (.mulL m3 (.sub b3 a3)) (.mulL m4 (.sub b4 a4))))) ga gb M = true) (h1 : a1.denote c ≤ b1.denote c) (h2 : a2.denote c ≤ b2.denote c) (h3 : a3.denote c ≤ b3.denote c) (h4 : a4.denote c ≤ b4.denote c) : ga.denote c ≤ gb.denote c := lin_of c _ ga gb M hc (t_add (t_fact m1 h1) (t_add (t_fact m2 h2) (t_add (t_fact m3 h3) (t_fact m4 h4))))
theorem lin5 (c : Context) (a1 b1 a2 b2 a3 b3 a4 b4 a5 b5 ga gb : Int.Internal.Linear.Expr) (m1 m2 m3 m4 m5 M : Nat) (hc : chk (.add (.mulL m1 (.sub b1 a1)) (.add (.mulL m2 (.sub b2 a2)) (.add (.mulL m3 (.sub b3 a3)) (.add (.mulL m4 (.sub b4 a4)) (.mulL m5 (.sub b5 a5)))))) ga gb M = true) (h1 : a1.denote c ≤ b1.denote c) (h2 : a2.denote c ≤ b2.denote c) (h3 : a3.denote c ≤ b3.denote c) (h4 : a4.denote c ≤ b4.denote c) (h5 : a5.denote c ≤ b5.denote c) : ga.denote c ≤ gb.denote c := lin_of c _ ga gb M hc (t_add (t_fact m1 h1) (t_add (t_fact m2 h2) (t_add (t_fact m3 h3) (t_add (t_fact m4 h4) (t_fact m5 h5)))))
theorem lin6 (c : Context) (a1 b1 a2 b2 a3 b3 a4 b4 a5 b5 a6 b6 ga gb : Int.Internal.Linear.Expr) (m1 m2 m3 m4 m5 m6 M : Nat) (hc : chk (.add (.mulL m1 (.sub b1 a1)) (.add (.mulL m2 (.sub b2 a2)) (.add (.mulL m3 (.sub b3 a3)) (.add (.mulL m4 (.sub b4 a4)) (.add (.mulL m5 (.sub b5 a5)) (.mulL m6 (.sub b6 a6))))))) ga gb M = true) (h1 : a1.denote c ≤ b1.denote c) (h2 : a2.denote c ≤ b2.denote c) (h3 : a3.denote c ≤ b3.denote c) (h4 : a4.denote c ≤ b4.denote c) (h5 : a5.denote c ≤ b5.denote c) (h6 : a6.denote c ≤ b6.denote c) : ga.denote c ≤ gb.denote c := lin_of c _ ga gb M hc (t_add (t_fact m1 h1) (t_add (t_fact m2 h2) (t_add (t_fact m3 h3) (t_add (t_fact m4 h4) (t_add (t_fact m5 h5) (t_fact m6 h6))))))
theorem lin7 (c : Context) (a1 b1 a2 b2 a3 b3 a4 b4 a5 b5 a6 b6 a7 b7 ga gb : Int.Internal.Linear.Expr) (m1 m2 m3 m4 m5 m6 m7 M : Nat) (hc : chk (.add (.mulL m1 (.sub b1 a1)) (.add (.mulL m2 (.sub b2 a2)) (.add (.mulL m3 (.sub b3 a3)) (.add (.mulL m4 (.sub b4 a4)) (.add (.mulL m5 (.sub b5 a5)) (.add (.mulL m6 (.sub b6 a6)) (.mulL m7 (.sub b7 a7)))))))) ga gb M = true) (h1 : a1.denote c ≤ b1.denote c) (h2 : a2.denote c ≤ b2.denote c) (h3 : a3.denote c ≤ b3.denote c) (h4 : a4.denote c ≤ b4.denote c) (h5 : a5.denote c ≤ b5.denote c) (h6 : a6.denote c ≤ b6.denote c) (h7 : a7.denote c ≤ b7.denote c) : ga.denote c ≤ gb.denote c := lin_of c _ ga gb M hc (t_add (t_fact m1 h1) (t_add (t_fact m2 h2) (t_add (t_fact m3 h3) (t_add (t_fact m4 h4) (t_add (t_fact m5 h5) (t_add (t_fact m6 h6) (t_fact m7 h7)))))))
theorem lin8 (c : Context) (a1 b1 a2 b2 a3 b3 a4 b4 a5 b5 a6 b6 a7 b7 a8 b8 ga gb : Int.Internal.Linear.Expr) (m1 m2 m3 m4 m5 m6 m7 m8 M : Nat) (hc : chk (.add (.mulL m1 (.sub b1 a1)) (.add (.mulL m2 (.sub b2 a2)) (.add (.mulL m3 (.sub b3 a3)) (.add (.mulL m4 (.sub b4 a4)) (.add (.mulL m5 (.sub b5 a5)) (.add (.mulL m6 (.sub b6 a6)) (.add (.mulL m7 (.sub b7 a7)) (.mulL m8 (.sub b8 a8))))))))) ga gb M = true) (h1 : a1.denote c ≤ b1.denote c) (h2 : a2.denote c ≤ b2.denote c) (h3 : a3.denote c ≤ b3.denote c) (h4 : a4.denote c ≤ b4.denote c) (h5 : a5.denote c ≤ b5.denote c) (h6 : a6.denote c ≤ b6.denote c) (h7 : a7.denote c ≤ b7.denote c) (h8 : a8.denote c ≤ b8.denote c) : ga.denote c ≤ gb.denote c := lin_of c _ ga gb M hc (t_add (t_fact m1 h1) (t_add (t_fact m2 h2) (t_add (t_fact m3 h3) (t_add (t_fact m4 h4) (t_add (t_fact m5 h5) (t_add (t_fact m6 h6) (t_add (t_fact m7 h7) (t_fact m8 h8))))))))
theorem lin9 (c : Context) (a1 b1 a2 b2 a3 b3 a4 b4 a5 b5 a6 b6 a7 b7 a8 b8 a9 b9 ga gb : Int.Internal.Linear.Expr) (m1 m2 m3 m4 m5 m6 m7 m8 m9 M : Nat) (hc : chk (.add (.mulL m1 (.sub b1 a1)) (.add (.mulL m2 (.sub b2 a2)) (.add (.mulL m3 (.sub b3 a3)) (.add (.mulL m4 (.sub b4 a4)) (.add (.mulL m5 (.sub b5 a5)) (.add (.mulL m6 (.sub b6 a6)) (.add (.mulL m7 (.sub b7 a7)) (.add (.mulL m8 (.sub b8 a8)) (.mulL m9 (.sub b9 a9)))))))))) ga gb M = true) (h1 : a1.denote c ≤ b1.denote c) (h2 : a2.denote c ≤ b2.denote c) (h3 : a3.denote c ≤ b3.denote c) (h4 : a4.denote c ≤ b4.denote c) (h5 : a5.denote c ≤ b5.denote c) (h6 : a6.denote c ≤ b6.denote c) (h7 : a7.denote c ≤ b7.denote c) (h8 : a8.denote c ≤ b8.denote c) (h9 : a9.denote c ≤ b9.denote c) : ga.denote c ≤ gb.denote c := lin_of c _ ga gb M hc (t_add (t_fact m1 h1) (t_add (t_fact m2 h2) (t_add (t_fact m3 h3) (t_add (t_fact m4 h4) (t_add (t_fact m5 h5) (t_add (t_fact m6 h6) (t_add (t_fact m7 h7) (t_add (t_fact m8 h8) (t_fact m9 h9)))))))))
theorem lin10 (c : Context) (a1 b1 a2 b2 a3 b3 a4 b4 a5 b5 a6 b6 a7 b7 a8 b8 a9 b9 a10 b10 ga gb : Int.Internal.Linear.Expr) (m1 m2 m3 m4 m5 m6 m7 m8 m9 m10 M : Nat) (hc : chk (.add (.mulL m1 (.sub b1 a1)) (.add (.mulL m2 (.sub b2 a2)) (.add (.mulL m3 (.sub b3 a3)) (.add (.mulL m4 (.sub b4 a4)) (.add (.mulL m5 (.sub b5 a5)) (.add (.mulL m6 (.sub b6 a6)) (.add (.mulL m7 (.sub b7 a7)) (.add (.mulL m8 (.sub b8 a8)) (.add (.mulL m9 (.sub b9 a9)) (.mulL m10 (.sub b10 a10))))))))))) ga gb M = true) (h1 : a1.denote c ≤ b1.denote c) (h2 : a2.denote c ≤ b2.denote c) (h3 : a3.denote c ≤ b3.denote c) (h4 : a4.denote c ≤ b4.denote c) (h5 : a5.denote c ≤ b5.denote c) (h6 : a6.denote c ≤ b6.denote c) (h7 : a7.denote c ≤ b7.denote c) (h8 : a8.denote c ≤ b8.denote c) (h9 : a9.denote c ≤ b9.denote c) (h10 : a10.denote c ≤ b10.denote c) : ga.denote c ≤ gb.denote c := lin_of c _ ga gb M hc (t_add (t_fact m1 h1) (t_add (t_fact m2 h2) (t_add (t_fact m3 h3) (t_add (t_fact m4 h4) (t_add (t_fact m5 h5) (t_add (t_fact m6 h6) (t_add (t_fact m7 h7) (t_add (t_fact m8 h8) (t_add (t_fact m9 h9) (t_fact m10 h10))))))))))
theorem lin11 (c : Context) (a1 b1 a2 b2 a3 b3 a4 b4 a5 b5 a6 b6 a7 b7 a8 b8 a9 b9 a10 b10 a11 b11 ga gb : Int.Internal.Linear.Expr) (m1 m2 m3 m4 m5 m6 m7 m8 m9 m10 m11 M : Nat) (hc : chk (.add (.mulL m1 (.sub b1 a1)) (.add (.mulL m2 (.sub b2 a2)) (.add (.mulL m3 (.sub b3 a3)) (.add (.mulL m4 (.sub b4 a4)) (.add (.mulL m5 (.sub b5 a5)) (.add (.mulL m6 (.sub b6 a6)) (.add (.mulL m7 (.sub b7 a7)) (.add (.mulL m8 (.sub b8 a8)) (.add (.mulL m9 (.sub b9 a9)) (.add (.mulL m10 (.sub b10 a10)) (.mulL m11 (.sub b11 a11)))))))))))) ga gb M = true) (h1 : a1.denote c ≤ b1.denote c) (h2 : a2.denote c ≤ b2.denote c) (h3 : a3.denote c ≤ b3.denote c) (h4 : a4.denote c ≤ b4.denote c) (h5 : a5.denote c ≤ b5.denote c) (h6 : a6.denote c ≤ b6.denote c) (h7 : a7.denote c ≤ b7.denote c) (h8 : a8.denote c ≤ b8.denote c) (h9 : a9.denote c ≤ b9.denote c) (h10 : a10.denote c ≤ b10.denote c) (h11 : a11.denote c ≤ b11.denote c) : ga.denote c ≤ gb.denote c := lin_of c _ ga gb M hc (t_add (t_fact m1 h1) (t_add (t_fact m2 h2) (t_add (t_fact m3 h3) (t_add (t_fact m4 h4) (t_add (t_fact m5 h5) (t_add (t_fact m6 h6) (t_add (t_fact m7 h7) (t_add (t_fact m8 h8) (t_add (t_fact m9 h9) (t_add (t_fact m10 h10) (t_fact m11 h11)))))))))))
theorem lin12 (c : Context) (a1 b1 a2 b2 a3 b3 a4 b4 a5 b5 a6 b6 a7 b7 a8 b8 a9 b9 a10 b10 a11 b11 a12 b12 ga gb : Int.Internal.Linear.Expr) (m1 m2 m3 m4 m5 m6 m7 m8 m9 m10 m11 m12 M : Nat) (hc : chk (.add (.mulL m1 (.sub b1 a1)) (.add (.mulL m2 (.sub b2 a2)) (.add (.mulL m3 (.sub b3 a3)) (.add (.mulL m4 (.sub b4 a4)) (.add (.mulL m5 (.sub b5 a5)) (.add (.mulL m6 (.sub b6 a6)) (.add (.mulL m7 (.sub b7 a7)) (.add (.mulL m8 (.sub b8 a8)) (.add (.mulL m9 (.sub b9 a9)) (.add (.mulL m10 (.sub b10 a10)) (.add (.mulL m11 (.sub b11 a11)) (.mulL m12 (.sub b12 a12))))))))))))) ga gb M = true) (h1 : a1.denote c ≤ b1.denote c) (h2 : a2.denote c ≤ b2.denote c) (h3 : a3.denote c ≤ b3.denote c) (h4 : a4.denote c ≤ b4.denote c) (h5 : a5.denote c ≤ b5.denote c) (h6 : a6.denote c ≤ b6.denote c) (h7 : a7.denote c ≤ b7.denote c) (h8 : a8.denote c ≤ b8.denote c) (h9 : a9.denote c ≤ b9.denote c) (h10 : a10.denote c ≤ b10.denote c) (h11 : a11.denote c ≤ b11.denote c) (h12 : a12.denote c ≤ b12.denote c) : ga.denote c ≤ gb.denote c := lin_of c _ ga gb M hc (t_add (t_fact m1 h1) (t_add (t_fact m2 h2) (t_add (t_fact m3 h3) (t_add (t_fact m4 h4) (t_add (t_fact m5 h5) (t_add (t_fact m6 h6) (t_add (t_fact m7 h7) (t_add (t_fact m8 h8) (t_add (t_fact m9 h9) (t_add (t_fact m10 h10) (t_add (t_fact m11 h11) (t_fact m12 h12))))))))))))
theorem nn (n : Nat) : (0 : Int) ≤ (n : Int) := Int.natCast_nonneg n
theorem nle {a b : Nat} (h : a ≤ b) : (a : Int) ≤ (b : Int) := Int.ofNat_le.mpr h
theorem nlt {a b : Nat} (h : a < b) : (a : Int) + 1 ≤ (b : Int) := Int.ofNat_le.mpr h
theorem neq1 {a b : Nat} (h : a = b) : (a : Int) ≤ (b : Int) := Int.le_of_eq (congrArg Int.ofNat h)
theorem neq2 {a b : Nat} (h : a = b) : (b : Int) ≤ (a : Int) := Int.le_of_eq (congrArg Int.ofNat h.symm)
theorem ieq1 {a b : Int} (h : a = b) : a ≤ b := Int.le_of_eq h
theorem ieq2 {a b : Int} (h : a = b) : b ≤ a := Int.le_of_eq h.symm
theorem inle {a b : Int} (h : ¬ a ≤ b) : b + 1 ≤ a := Int.not_le.mp h
theorem inlt {a b : Int} (h : ¬ a < b) : b ≤ a := Int.not_lt.mp h
theorem nnle {a b : Nat} (h : ¬ a ≤ b) : (b : Int) + 1 ≤ (a : Int) := nlt (Nat.not_le.mp h)
theorem nnlt {a b : Nat} (h : ¬ a < b) : (b : Int) ≤ (a : Int) := nle (Nat.not_lt.mp h)
theorem gnle {a b : Nat} (h : (a : Int) ≤ (b : Int)) : a ≤ b := Int.ofNat_le.mp h
theorem gnlt {a b : Nat} (h : (a : Int) + 1 ≤ (b : Int)) : a < b := Int.ofNat_le.mp h
theorem gneq {a b : Nat} (h : (a : Int) ≤ (b : Int)) (k : (b : Int) ≤ (a : Int)) : a = b := Nat.le_antisymm (gnle h) (gnle k)
theorem ginle {a b : Int} (h : b + 1 ≤ a) : ¬ a ≤ b := Int.not_le.mpr h
theorem ginlt {a b : Int} (h : b ≤ a) : ¬ a < b := Int.not_lt.mpr h
theorem gnnle {a b : Nat} (h : (b : Int) + 1 ≤ (a : Int)) : ¬ a ≤ b := Nat.not_le.mpr (gnlt h)
theorem gnnlt {a b : Nat} (h : (b : Int) ≤ (a : Int)) : ¬ a < b := Nat.not_lt.mpr (gnle h)
theorem gine1 {a b : Int} (h : a + 1 ≤ b) : ¬ a = b := Int.ne_of_lt h
theorem gine2 {a b : Int} (h : b + 1 ≤ a) : ¬ a = b := Int.ne_of_gt h
theorem gnne1 {a b : Nat} (h : (a : Int) + 1 ≤ (b : Int)) : ¬ a = b := Nat.ne_of_lt (gnlt h)
theorem gnne2 {a b : Nat} (h : (b : Int) + 1 ≤ (a : Int)) : ¬ a = b := Nat.ne_of_gt (gnlt h)
theorem gfalse (h : (1 : Int) ≤ 0) : False := absurd h (by decide)
theorem tn1 (x : Int) : x ≤ (x.toNat : Int) := Int.self_le_toNat x
theorem tn2 {x : Int} (h : 0 ≤ x) : (x.toNat : Int) ≤ x := Int.le_of_eq (Int.toNat_of_nonneg h)
theorem md1 (x : Int) {n : Int} (h : n ≠ 0) : 0 ≤ x % n := Int.emod_nonneg x h
theorem md2 (x : Int) {n : Int} (h : 0 < n) : x % n + 1 ≤ n := Int.emod_lt_of_pos x h
theorem md3 (x n : Int) : x % n + n * (x / n) ≤ x := Int.le_of_eq (Int.emod_add_mul_ediv x n)
theorem md4 (x n : Int) : x ≤ x % n + n * (x / n) := Int.le_of_eq (Int.emod_add_mul_ediv x n).symm
theorem ns1 (a b : Nat) : (a : Int) ≤ ((a - b : Nat) : Int) + (b : Int) := Int.ofNat_le.mpr (Nat.le_add_of_sub_le (Nat.le_refl _))
theorem ns2 {a b : Nat} (h : (b : Int) ≤ (a : Int)) : ((a - b : Nat) : Int) + (b : Int) ≤ (a : Int) := Int.ofNat_le.mpr (Nat.le_of_eq (Nat.sub_add_cancel (gnle h)))
theorem ns3 {a b : Nat} (h : (a : Int) ≤ (b : Int)) : ((a - b : Nat) : Int) ≤ 0 := Int.ofNat_le.mpr (Nat.le_of_eq (Nat.sub_eq_zero_of_le (gnle h)))
theorem nmd2 (x : Nat) {n : Nat} (h : 0 < n) : ((x % n : Nat) : Int) + 1 ≤ (n : Int) := Int.ofNat_le.mpr (Nat.mod_lt x h)
theorem nmd3 (x n : Nat) : ((x % n : Nat) : Int) + (n : Int) * ((x / n : Nat) : Int) ≤ (x : Int) := Int.ofNat_le.mpr (Nat.le_of_eq (Nat.mod_add_div x n))
theorem nmd4 (x n : Nat) : (x : Int) ≤ ((x % n : Nat) : Int) + (n : Int) * ((x / n : Nat) : Int) := Int.ofNat_le.mpr (Nat.le_of_eq (Nat.mod_add_div x n).symm)
theorem lin_or3 {i : Nat} (h : i < 3) : i = 0 ∨ i = 1 ∨ i = 2 := (by decide : ∀ i, i < 3 → i = 0 ∨ i = 1 ∨ i = 2) i h
theorem lin_or4 {i : Nat} (h : i < 4) : i = 0 ∨ i = 1 ∨ i = 2 ∨ i = 3 := (by decide : ∀ i, i < 4 → i = 0 ∨ i = 1 ∨ i = 2 ∨ i = 3) i h
theorem lin_or5 {i : Nat} (h : i < 5) : i = 0 ∨ i = 1 ∨ i = 2 ∨ i = 3 ∨ i = 4 := (by decide : ∀ i, i < 5 → i = 0 ∨ i = 1 ∨ i = 2 ∨ i = 3 ∨ i = 4) i h
theorem lin_or7 {i : Nat} (h : i < 7) : i = 0 ∨ i = 1 ∨ i = 2 ∨ i = 3 ∨ i = 4 ∨ i = 5 ∨ i = 6 := (by decide : ∀ i, i < 7 → i = 0 ∨ i = 1 ∨ i = 2 ∨ i = 3 ∨ i = 4 ∨ i = 5 ∨ i = 6) i h
end Mine
end
noncomputable section
namespace Mine
open PySem.Calls
noncomputable abbrev PP : Program := PySem.Challenge.pw_tp0021_01
noncomputable abbrev V0 : Program := hd.view_39
noncomputable abbrev loose0 : List Str := looseW hd.view_39 [Str.ofString "Flags", Str.ofString "tspecials", Str.ofString "_name_disallowed_re", Str.ofString "_value_disallowed_re", Str.ofString "_formatparam"]
theorem fillK : PySem.Challenge.rw_tp0021_01 = PySem.Challenge.rw_tp0021_01 ∧ hd.heap_39 = hd.heap_39 := by
  k_fill
  exact ⟨rfl, rfl⟩

noncomputable def LeaveP (h₀ : Heap) (L : Addr) (m : Str → Option Value) (g : Heap) (news₀ news : List (Addr × Obj)) (R : Result → Shared → Prop) (v : Value) (s' : Shared) : Prop :=
  ∃ L' m' news', Fr g L' s'.heap m' ∧ News g L' s'.heap news' ∧ (∀ p ∈ news₀, p ∈ news') ∧ (Fr h₀ L s'.heap m → News h₀ L s'.heap (news' ++ news) → R (.ok (.ret v)) s')

section
variable {prog : Program} {w : World} {A₀ A : Around} {s : Shared} {base h₀ : Heap} {outer : List Env} {L : Addr} {m : Str → Option Value} {env : Env} {news news₀ : List (Addr × Obj)} {K : Frag}
  {R : Result → Shared → Prop} {name qual : Str} {params : Arguments} {body : List Stmt} {scope : Scope} {dV kV doc pm cdv ct oc : Value} {an od : Option Addr} {osl : Array (Option Value)} {f : Addr} {args : Args} {binds : List (Str × Value)}
  {p : Program} {loose : List Str} {mean : ExcName → Option Value} {mg mb : Str → Option Value}

theorem leaveP_R (N : News h₀ L s.heap news) (F : Fr h₀ L s.heap m) (hs : ∀ p ∈ news₀, p ∈ news) {v : Value} {s' : Shared} (hl : LeaveP h₀ L m (hideAll s.heap (news₀.map (·.1))) news₀ news R v s') : R (.ok (.ret v)) s' := by
  obtain ⟨L', m', news', F', N', hn, k⟩ := hl
  have N₀ : News h₀ L s.heap news₀ := fun p hp => N p (hs p hp)
  have keepOld : ∀ b o, b ∉ news₀.map (·.1) → s.heap.get? b = some o → s'.heap.get? b = some o := fun b o hb e => F'.keep b o (hideAll_get _ e hb)
  obtain ⟨oL, es, ep, hL, hLd, hLk, hLf⟩ := F.ns
  have nL : L ∉ news₀.map (·.1) := fun q => by
    obtain ⟨p, hp, e⟩ := List.mem_map.mp q
    exact (N₀ p hp).2.1 e
  refine k ⟨⟨oL, es, ep, keepOld L oL nL hL, hLd, hLk, hLf⟩, fun b o e => ?_, F.above⟩ ?_
  · refine keepOld b o (fun q => ?_) (F.keep b o e)
    obtain ⟨p, hp, rfl⟩ := List.mem_map.mp q
    rw [(N₀ p hp).2.2] at e; cases e
  · intro p hp
    rcases List.mem_append.mp hp with hp | hp
    · refine ⟨(N' p hp).1, fun q => ?_, ?_⟩
      · have h1 := (N' p hp).2.2
        rw [q, hideAll_get _ hL nL] at h1; cases h1
      · cases q : h₀.get? p.1 with
        | none => rfl
        | some o =>
          have h1 := (N' p hp).2.2
          have nb : p.1 ∉ news₀.map (·.1) := fun z => by
            obtain ⟨p', hp', e'⟩ := List.mem_map.mp z
            have := (N₀ p' hp').2.2
            rw [e', q] at this; cases this
          rw [hideAll_get _ (F.keep _ _ q) nb] at h1; cases h1
    · refine ⟨?_, (N p hp).2⟩
      by_cases hb : p.1 ∈ news₀.map (·.1)
      · obtain ⟨p', hp', e'⟩ := List.mem_map.mp hb
        have e1 := (N p hp).1
        have e2 := (N₀ p' hp').1
        rw [e', e1] at e2
        have : p' = p := Prod.ext e' (Option.some.inj e2).symm
        exact (N' p (hn p (this ▸ hp'))).1
      · exact keepOld _ _ hb (N p hp).1

theorem enterP (B : Below A₀ base outer h₀) (F : Fr h₀ L s.heap m) (X₀ : K.In h₀) (N : News h₀ L s.heap news) (T : Top p loose mean mg mb h₀) (hs : ∀ p ∈ news₀, p ∈ news) (hA : A.frames = some (env :: outer)) (hf : env.frame = some L) (hke : env.scope.kind = .function)
    (ho : K.lookup f = some ⟨oc, od, .func (fnOf name qual params body scope dV kV doc pm an cdv ct), osl⟩) (hcd : codeIn K cdv qual = true) (hroom : A.depth < recursionLimit)
    (hbind : BindsTo s (fnOf name qual params body scope dV kV doc pm an cdv ct) args binds) (hloc : ∀ y ∈ binds, scope.names.lookup y.1 = some .local)
    (h : ∀ g L' h₁, Fr h₀ L g m → Fr g L' h₁ (fun y => binds.reverse.lookup y) → News g L' h₁ news₀ → Below A base (env :: outer) g → K.In g → Top p loose mean mg mb g → (∀ p ∈ news, p.1 < L') → (∀ p ∈ news, p.1 ∉ news₀.map (·.1) → g.get? p.1 = some p.2) →
      wpAny (model prog w) (A.deeper (envOf qual scope L' f cdv)) (execs body (envOf qual scope L' f cdv))
        (fun fl s' => LeaveP h₀ L m g news₀ news R (match fl with | .ret v => v | _ => .none) s')
        (fun e s' => wpAny (model prog w) (A.deeper (envOf qual scope L' f cdv)) (leaving (envOf qual scope L' f cdv) e) (fun _ s'' => R (.error e) s'') (fun e' s'' => R (.error e') s'') s')
        { s with heap := h₁, toks := s.toks + binds.length })
    (hco : scope.isCoroutine = false) (hgen : scope.isGenerator = false) (hk : scope.kind = .function)
    (hcell : ∀ x ∈ scope.names, x.2 ≠ .cell) : codeAny (model prog w) A (.call (.ref f) args) R s := by
  have N₀ : News h₀ L s.heap news₀ := fun p hp => N p (hs p hp)
  obtain ⟨FG, BG, st, _⟩ := groundX (R := R) B F N₀ hA hf hke
  refine codeAny_call_def (fd := fnOf name qual params body scope dV kV doc pm an cdv ct) (body := body) (binds := binds) hroom ((X₀.keeps F.keep) _ _ ho) rfl (T.nolimit.keeps F.keep) (codeRec_of (X₀.keeps F.keep) hcd) rfl hbind hcell hloc (fun h₁ hns hk₁ => ?_) hco hgen hk
  exact wpAny_mono (h _ s.heap.objs.size h₁ FG ⟨hns, fun b o e => hk₁ b o (of_hideAll _ e), Nat.le_of_eq (hideAll_size _ _)⟩
    (fun p hp => ⟨hk₁ _ _ (N₀ p hp).1, Nat.ne_of_lt (Heap.lt_size (N₀ p hp).1), hideAll_none _ (List.mem_map_of_mem hp)⟩) BG (X₀.keeps st) (T.keeps st) (fun p hp => Heap.lt_size (N p hp).1) (fun p hp hb => hideAll_get _ (N p hp).1 hb)) (fun fl s' hl => leaveP_R N F hs hl) fun _ _ y => y

theorem enterPC (B : Below A₀ base outer h₀) (F : Fr h₀ L s.heap m) (X₀ : K.In h₀) (N : News h₀ L s.heap news) (T : Top p loose mean mg mb h₀) (hs : ∀ p ∈ news₀, p ∈ news) (hA : A.frames = some (env :: outer)) (hf : env.frame = some L) (hke : env.scope.kind = .function)
    (ho : K.lookup f = some ⟨oc, od, .func (fnOf name qual params body scope dV kV doc pm an cdv ct), osl⟩) (hcd : codeIn K cdv qual = true) (hroom : A.depth < recursionLimit)
    (hbind : BindsTo s (fnOf name qual params body scope dV kV doc pm an cdv ct) args binds) (hkind : (binds.all fun y => scope.names.lookup y.1 == some .local || scope.names.lookup y.1 == some .cell) = true)
    (hnd : ((cellsFrom 0 scope.names []).map (·.1)).Nodup)
    (h : ∀ g L' h₁ tk cells, Fr h₀ L g m → Fr g L' h₁ (bindL (envOfC qual scope L' f cdv).kindOf binds fun _ => none) → News g L' h₁ (cells ++ news₀) →
      CellsAre (bindC (envOfC qual scope L' f cdv).kindOf binds fun _ => none) (cellsFrom (L' + 1) scope.names []) cells → Below A base (env :: outer) g → K.In g → Top p loose mean mg mb g → (∀ p ∈ news, p.1 < L') → (∀ p ∈ news, p.1 ∉ news₀.map (·.1) → g.get? p.1 = some p.2) →
      wpAny (model prog w) (A.deeper (envOfC qual scope L' f cdv)) (execs body (envOfC qual scope L' f cdv))
        (fun fl s' => LeaveP h₀ L m g news₀ news R (match fl with | .ret v => v | _ => .none) s')
        (fun e s' => wpAny (model prog w) (A.deeper (envOfC qual scope L' f cdv)) (leaving (envOfC qual scope L' f cdv) e) (fun _ s'' => R (.error e) s'') (fun e' s'' => R (.error e') s'') s')
        { s with heap := h₁, toks := tk })
    (hco : scope.isCoroutine = false) (hgen : scope.isGenerator = false) (hk : scope.kind = .function) : codeAny (model prog w) A (.call (.ref f) args) R s := by
  have N₀ : News h₀ L s.heap news₀ := fun p hp => N p (hs p hp)
  obtain ⟨FG, BG, st, _⟩ := groundX (R := R) B F N₀ hA hf hke
  refine codeAny_call_function hroom ((X₀.keeps F.keep) _ _ ho) rfl hco hgen rfl (codeRec_of (X₀.keeps F.keep) hcd) (hbind _ _ _ _ ?_)
  refine wpAny_newFunctionEnv_cells hk (kindsX hkind _) fun env' he s' x => ?_
  subst he
  refine ⟨(T.nolimit.keeps F.keep).keeps x.toInCall.keep, codeAny_func ?_⟩
  obtain ⟨h₁, tk, rfl, _⟩ := x.done
  have hk₁ := x.toInCall.keep
  obtain ⟨cells, NC, Y⟩ := Cl.news (h₀ := s.heap) (Nat.le_refl _) fun n c hm => ⟨x.cell n c (lookup_of_mem_nodup (cellsFrom_names scope.names 0 (s.heap.objs.size + 1) [] [] rfl ▸ hnd) hm), x.above n c hm⟩
  refine wpAny_mono (h _ s.heap.objs.size h₁ tk cells FG ⟨x.toInCall.ns, fun b o e => hk₁ b o (of_hideAll _ e), Nat.le_of_eq (hideAll_size _ _)⟩ (fun p hp => ?_) Y BG (X₀.keeps st) (T.keeps st) (fun p hp => Heap.lt_size (N p hp).1) (fun p hp hb => hideAll_get _ (N p hp).1 hb)) (fun fl s' hl => leaveP_R N F hs hl) fun _ _ y => y
  rcases List.mem_append.mp hp with hp | hp
  · refine ⟨(NC p hp).1, (NC p hp).2.1, ?_⟩
    cases q : (hideAll s.heap (news₀.map (·.1))).get? p.1 with
    | none => rfl
    | some o => have := of_hideAll _ q; rw [(NC p hp).2.2] at this; cases this
  · exact ⟨hk₁ _ _ (N₀ p hp).1, Nat.ne_of_lt (Heap.lt_size (N₀ p hp).1), hideAll_none _ (List.mem_map_of_mem hp)⟩
end

noncomputable abbrev Ctr (w : World) (d u : Nat) (f : Addr) (vs : List Value) (news : List (Addr × Obj)) (Ret : Heap → Value → List (Addr × Obj) → Prop) : Prop :=
  ∀ (mean : ExcName → Option Value) (mg mb : Str → Option Value) (dp un : Nat) (gd : Option (List Code)) (cn : Str) (cs : Scope) (a : Addr) (ccd : Value) (cl : List (Str × Addr)) (outer : List Env) (A₀ : Around) (base h₀ : Heap) (L : Addr) (m : Str → Option Value) (s : Shared) (Q E : Value → Shared → Prop),
    Below A₀ base outer h₀ → Fr h₀ L s.heap m → (_root_.hd.heap_39 w.params).In h₀ → News h₀ L s.heap news → Top V0 loose0 mean mg mb h₀ → cs.kind = .function → dp + d < recursionLimit → un + u < cLine →
    (∀ (v : Value) (add : List (Addr × Obj)) (h' : Heap) (tk' : Nat), Ret s.heap v add → Fr h₀ L h' m → News h₀ L h' (add ++ news) → Q v { s with heap := h', toks := tk' }) →
    wpAny (model PP w) (ktrTop dp un gd cn cs L a ccd cl outer) (call (.ref f) vs) Q E s
noncomputable abbrev CtrC (w : World) (d u : Nat) (f : Addr) (vs : List Value) (news : List (Addr × Obj)) (RetC : (Value → List (Addr × Obj) → Prop) → Prop) : Prop :=
  ∀ {mean : ExcName → Option Value} {mg mb : Str → Option Value} {dp un : Nat} {gd : Option (List Code)} {cn : Str} {cs : Scope} {a : Addr} {ccd : Value} {cl : List (Str × Addr)} {outer : List Env} {A₀ : Around} {base h₀ : Heap} {L : Addr} {m : Str → Option Value} {s : Shared} {Q E : Value → Shared → Prop},
    Below A₀ base outer h₀ → Fr h₀ L s.heap m → (_root_.hd.heap_39 w.params).In h₀ → News h₀ L s.heap news → Top V0 loose0 mean mg mb h₀ → cs.kind = .function → dp + d < recursionLimit → un + u < cLine →
    RetC (fun v add => ∀ (h' : Heap) (tk' : Nat), Fr h₀ L h' m → News h₀ L h' (add ++ news) → Q v { s with heap := h', toks := tk' }) →
    wpAny (model PP w) (ktrTop dp un gd cn cs L a ccd cl outer) (call (.ref f) vs) Q E s
theorem Ctr.toC {w : World} {d u : Nat} {f : Addr} {vs : List Value} {news : List (Addr × Obj)} {Ret : Heap → Value → List (Addr × Obj) → Prop} (RetC : (Value → List (Addr × Obj) → Prop) → Prop) (c : Ctr w d u f vs news Ret) (h : ∀ K, RetC K → ∀ g v add, Ret g v add → K v add) : CtrC w d u f vs news RetC := by
  intro mean mg mb dp un gd cn cs a ccd cl outer A₀ base h₀ L m s Q E B F X N T hk hd hu hret
  exact c mean mg mb dp un gd cn cs a ccd cl outer A₀ base h₀ L m s Q E B F X N T hk hd hu fun v add h' tk' R F' N' => h _ hret _ v add R h' tk' F' N'
theorem ob1 {α0 : Type} {P : α0 → Prop} {G : Prop} (h : ∃ a0, P a0) (k : ∀ a0, P a0 → G) : G := Exists.elim h k
theorem ob2 {α0 α1 : Type} {P : α0 → α1 → Prop} {G : Prop} (h : ∃ a0 a1, P a0 a1) (k : ∀ a0 a1, P a0 a1 → G) : G := Exists.elim h fun a h => ob1 h (k a)
theorem ob3 {α0 α1 α2 : Type} {P : α0 → α1 → α2 → Prop} {G : Prop} (h : ∃ a0 a1 a2, P a0 a1 a2) (k : ∀ a0 a1 a2, P a0 a1 a2 → G) : G := Exists.elim h fun a h => ob2 h (k a)
theorem ob4 {α0 α1 α2 α3 : Type} {P : α0 → α1 → α2 → α3 → Prop} {G : Prop} (h : ∃ a0 a1 a2 a3, P a0 a1 a2 a3) (k : ∀ a0 a1 a2 a3, P a0 a1 a2 a3 → G) : G := Exists.elim h fun a h => ob3 h (k a)
theorem ob5 {α0 α1 α2 α3 α4 : Type} {P : α0 → α1 → α2 → α3 → α4 → Prop} {G : Prop} (h : ∃ a0 a1 a2 a3 a4, P a0 a1 a2 a3 a4) (k : ∀ a0 a1 a2 a3 a4, P a0 a1 a2 a3 a4 → G) : G := Exists.elim h fun a h => ob4 h (k a)
theorem ob6 {α0 α1 α2 α3 α4 α5 : Type} {P : α0 → α1 → α2 → α3 → α4 → α5 → Prop} {G : Prop} (h : ∃ a0 a1 a2 a3 a4 a5, P a0 a1 a2 a3 a4 a5) (k : ∀ a0 a1 a2 a3 a4 a5, P a0 a1 a2 a3 a4 a5 → G) : G := Exists.elim h fun a h => ob5 h (k a)
theorem ob7 {α0 α1 α2 α3 α4 α5 α6 : Type} {P : α0 → α1 → α2 → α3 → α4 → α5 → α6 → Prop} {G : Prop} (h : ∃ a0 a1 a2 a3 a4 a5 a6, P a0 a1 a2 a3 a4 a5 a6) (k : ∀ a0 a1 a2 a3 a4 a5 a6, P a0 a1 a2 a3 a4 a5 a6 → G) : G := Exists.elim h fun a h => ob6 h (k a)
theorem ob8 {α0 α1 α2 α3 α4 α5 α6 α7 : Type} {P : α0 → α1 → α2 → α3 → α4 → α5 → α6 → α7 → Prop} {G : Prop} (h : ∃ a0 a1 a2 a3 a4 a5 a6 a7, P a0 a1 a2 a3 a4 a5 a6 a7) (k : ∀ a0 a1 a2 a3 a4 a5 a6 a7, P a0 a1 a2 a3 a4 a5 a6 a7 → G) : G := Exists.elim h fun a h => ob7 h (k a)
theorem un2 {A0 A1 G : Prop} (h : A0 ∧ A1) (k : A0 → A1 → G) : G := k h.1 h.2
theorem un3 {A0 A1 A2 G : Prop} (h : A0 ∧ A1 ∧ A2) (k : A0 → A1 → A2 → G) : G := un2 h.2 (k h.1)
theorem un4 {A0 A1 A2 A3 G : Prop} (h : A0 ∧ A1 ∧ A2 ∧ A3) (k : A0 → A1 → A2 → A3 → G) : G := un3 h.2 (k h.1)
theorem un5 {A0 A1 A2 A3 A4 G : Prop} (h : A0 ∧ A1 ∧ A2 ∧ A3 ∧ A4) (k : A0 → A1 → A2 → A3 → A4 → G) : G := un4 h.2 (k h.1)
theorem un6 {A0 A1 A2 A3 A4 A5 G : Prop} (h : A0 ∧ A1 ∧ A2 ∧ A3 ∧ A4 ∧ A5) (k : A0 → A1 → A2 → A3 → A4 → A5 → G) : G := un5 h.2 (k h.1)
theorem un7 {A0 A1 A2 A3 A4 A5 A6 G : Prop} (h : A0 ∧ A1 ∧ A2 ∧ A3 ∧ A4 ∧ A5 ∧ A6) (k : A0 → A1 → A2 → A3 → A4 → A5 → A6 → G) : G := un6 h.2 (k h.1)
theorem un8 {A0 A1 A2 A3 A4 A5 A6 A7 G : Prop} (h : A0 ∧ A1 ∧ A2 ∧ A3 ∧ A4 ∧ A5 ∧ A6 ∧ A7) (k : A0 → A1 → A2 → A3 → A4 → A5 → A6 → A7 → G) : G := un7 h.2 (k h.1)
theorem un9 {A0 A1 A2 A3 A4 A5 A6 A7 A8 G : Prop} (h : A0 ∧ A1 ∧ A2 ∧ A3 ∧ A4 ∧ A5 ∧ A6 ∧ A7 ∧ A8) (k : A0 → A1 → A2 → A3 → A4 → A5 → A6 → A7 → A8 → G) : G := un8 h.2 (k h.1)
theorem un10 {A0 A1 A2 A3 A4 A5 A6 A7 A8 A9 G : Prop} (h : A0 ∧ A1 ∧ A2 ∧ A3 ∧ A4 ∧ A5 ∧ A6 ∧ A7 ∧ A8 ∧ A9) (k : A0 → A1 → A2 → A3 → A4 → A5 → A6 → A7 → A8 → A9 → G) : G := un9 h.2 (k h.1)
theorem un11 {A0 A1 A2 A3 A4 A5 A6 A7 A8 A9 A10 G : Prop} (h : A0 ∧ A1 ∧ A2 ∧ A3 ∧ A4 ∧ A5 ∧ A6 ∧ A7 ∧ A8 ∧ A9 ∧ A10) (k : A0 → A1 → A2 → A3 → A4 → A5 → A6 → A7 → A8 → A9 → A10 → G) : G := un10 h.2 (k h.1)
theorem un12 {A0 A1 A2 A3 A4 A5 A6 A7 A8 A9 A10 A11 G : Prop} (h : A0 ∧ A1 ∧ A2 ∧ A3 ∧ A4 ∧ A5 ∧ A6 ∧ A7 ∧ A8 ∧ A9 ∧ A10 ∧ A11) (k : A0 → A1 → A2 → A3 → A4 → A5 → A6 → A7 → A8 → A9 → A10 → A11 → G) : G := un11 h.2 (k h.1)
theorem wpQ {prog : Program} {w : World} {A : Around} {α : Type} {c : Sem α} {Q : α → Shared → Prop} {E : Value → Shared → Prop} {s : Shared}
    (h : ∀ (Qx : α → Shared → Prop) (Ex : Value → Shared → Prop), (∀ y s', Q y s' → Qx y s') → wpAny (model prog w) A c Qx Ex s) : wpAny (model prog w) A c Q E s := h Q E fun _ _ q => q
theorem wpQo {prog : Program} {w : World} {A : Around} {α : Type} {c : Sem α} {Q : α → Shared → Prop} {E : Value → Shared → Prop} {s : Shared}
    (h : ∀ Qx : α → Shared → Prop, (∀ y s', Q y s' → Qx y s') → wpAny (model prog w) A c Qx E s) : wpAny (model prog w) A c Q E s := h Q fun _ _ q => q
theorem wpLB {prog : Program} {w : World} {A : Around} {α : Type} {c : Sem α} {Q : α → Shared → Prop} {E : Value → Shared → Prop} {s : Shared}
    (h : let Ax := A; let Qx := Q; wpAny (model prog w) Ax c Qx E s) : wpAny (model prog w) A c Q E s := h
theorem wpLC {prog : Program} {w : World} {A : Around} {α : Type} {c : Sem α} {Q : α → Shared → Prop} {E : Value → Shared → Prop} {s : Shared}
    (h : let Qx := Q; let Ex := E; wpAny (model prog w) A c Qx Ex s) : wpAny (model prog w) A c Q E s := h
theorem wpLA {prog : Program} {w : World} {A : Around} {α : Type} {c : Sem α} {Q : α → Shared → Prop} {E : Value → Shared → Prop} {s : Shared}
    (h : let Ax := A; let Qx := Q; let Ex := E; wpAny (model prog w) Ax c Qx Ex s) : wpAny (model prog w) A c Q E s := h
end Mine
end
noncomputable section
namespace Mine
open PySem.Calls
open PyProof.Rows.LCg
noncomputable def Off4 (I C X D : Addr) : List (Addr × Obj) → Prop
  | [] => True
  | p :: r => ((@Ne Nat p.1 I) ∧ (@Ne Nat p.1 C) ∧ (@Ne Nat p.1 X) ∧ (@Ne Nat p.1 D)) ∧ Off4 I C X D r
theorem Off4.mem {I C X D : Addr} : ∀ {l : List (Addr × Obj)}, Off4 I C X D l → ∀ p ∈ l, p.1 ≠ I ∧ p.1 ≠ C ∧ p.1 ≠ X ∧ p.1 ≠ D
  | [], _, _, h => nomatch h
  | _ :: _, x, p, h => by
    rcases List.mem_cons.mp h with rfl | h
    · exact x.1
    · exact Off4.mem x.2 p h
theorem Off4.of {I C X D : Addr} : ∀ {l : List (Addr × Obj)}, (∀ p ∈ l, p.1 ≠ I ∧ p.1 ≠ C ∧ p.1 ≠ X ∧ p.1 ≠ D) → Off4 I C X D l
  | [], _ => trivial
  | _ :: _, h => ⟨h _ List.mem_cons_self, Off4.of fun p hp => h p (List.mem_cons_of_mem _ hp)⟩

noncomputable def EndC (h₀ : Heap) (L : Addr) (m : Str → Option Value) (s₁ : Shared) (I : Addr) (oI : Obj) (C : Addr) (oC : Obj) (X : Addr) (oX : Obj) (D : Addr) (oD : Obj) (S : List (Addr × Obj) → Prop) (rest : Value → List (Addr × Obj) → Prop) (y : Value) (s₂ : Shared) : Prop :=
  ∃ h' tk news', s₂ = { s₁ with heap := h', toks := tk } ∧ Fr h₀ L h' m ∧ News h₀ L h' ((I, oI) :: (C, oC) :: (X, oX) :: (D, oD) :: news') ∧ Off4 I C X D news' ∧ S news' ∧ rest y news'

noncomputable def RestC (prog : Program) (w : World) (A : Around) (h₀ : Heap) (L : Addr) (m : Str → Option Value) (env : Env) (ifs : List Expr) (elt : Expr) (x : Str) (scope : Scope) (cl : List (Str × Addr)) (s : Shared) (S : List (Addr × Obj) → Prop) (P : Nat → Value → Prop)
    (Fin : List Value → List (Addr × Obj) → Prop) : Nat → Nat → List Value → List (Addr × Obj) → Prop
  | 0, _, ys, news => Fin ys news
  | k + 1, i, ys, news => ∀ v I oI C oC X oX D h tk (E' : Value → Shared → Prop), P i v → oX.data = .cell (some v) → Fr h₀ L h m → News h₀ L h ((I, oI) :: (C, oC) :: (X, oX) :: (D, lst ys) :: news) → Off4 I C X D news →
      ((@Ne Nat I C) ∧ (@Ne Nat I X) ∧ (@Ne Nat I D) ∧ (@Ne Nat C X) ∧ (@Ne Nat C D) ∧ (@Ne Nat X D)) →
      wpAny (model prog w) A (forIn ifs true fun c r => if r = true then do let ok ← isTrue c (compEnvC scope ((x, X) :: cl) C env) (eval c (compEnvC scope ((x, X) :: cl) C env)); pure (ForInStep.yield ok) else pure (ForInStep.yield r)) (fun ok s' => if ok = true then
        wpAny (model prog w) A (eval elt (compEnvC scope ((x, X) :: cl) C env)) (EndC h₀ L m { s with heap := h, toks := tk } I oI C oC X oX D (lst ys) S (fun y news' => RestC prog w A h₀ L m env ifs elt x scope cl s S P Fin k (i + 1) (ys ++ [y]) news')) E' s'
        else EndC h₀ L m { s with heap := h, toks := tk } I oI C oC X oX D (lst ys) S (fun _ news' => RestC prog w A h₀ L m env ifs elt x scope cl s S P Fin k (i + 1) ys news') Value.none s') E' { s with heap := h, toks := tk }

section
variable {prog : Program} {w : World} {A : Around} {E : Value → Shared → Prop} {s : Shared} {h₀ : Heap} {L : Addr} {m : Str → Option Value} {env : Env}

theorem pred_turn {i n : Nat} (h : i < n) : n - i = n - i - 1 + 1 := (Nat.succ_pred_eq_of_pos (Nat.sub_pos_of_lt h)).symm
theorem block_C {elt iter : Expr} {ifs : List Expr} {x : Str} {px : Pos} {scope : Scope} {cl : List (Str × Addr)} {pos : Pos} {s₂ : Shared} {I : Addr} {fp : List Addr} {n : Nat} {P : Nat → Value → Prop} {St : Nat → Heap → Prop} {S : List (Addr × Obj) → Prop} {news : List (Addr × Obj)}
    {Fin : List Value → List (Addr × Obj) → Prop} {RR : Value → Addr → Result → Shared → Prop}
    (W : Walks prog w A I fp [I] n P St) (hsz : n ≤ sizeLine) (hIo : ∀ i h, St i h → ∃ o, h.get? I = some o)
    (hSt : ∀ i h h' o nw, St i h → h.get? I = some o → h'.get? I = some o → (∀ b o, h₀.get? b = some o → h'.get? b = some o) → News h₀ L h' nw → S nw → St i h')
    (hcells : ∀ k, cellsFrom k scope.names cl = (x, k) :: cl) (hpush : ∀ h, pushCells h scope.names = h.push { cls := .type "cell", data := .cell none })
    (hkind : scope.kind = .function) (hx : (relabel scope env).names.lookup x = some .cell) (hst : St 0 s₂.heap) (hfp : ∀ b ∈ fp, b < s₂.heap.objs.size)
    (F : Fr h₀ L s₂.heap m) (N : News h₀ L s₂.heap news) (hIL : L ≠ I) (hI₀ : h₀.get? I = none) (off : ∀ p ∈ news, p.1 ≠ I)
    (R : RestC prog w A h₀ L m env ifs elt x scope cl s₂ S P Fin n 0 [] news)
    (hRR : ∀ D C h tk m' ys news', Fr h₀ L h m → News h₀ L h ((D, lst ys) :: news') → Off1 D news' → h.Ns C m' → h₀.get? C = none → h₀.get? D = none → C ≠ L → D ≠ L → C ≠ D → (∀ p ∈ news', p.1 ≠ C) → Fin ys news' → RR (.ref D) C (.ok .next) { s₂ with heap := h, toks := tk })
    (hS : S news) :
    wpAny (model prog w) A (newList []) (fun acc s₃ => wpAny (model prog w) A (newFunctionEnv scope env.globals cl [] env.qual none .none (some env)) (fun cenv s₄ =>
      codeAny (model prog w) A (.compStart (.ListComp elt [⟨.Name x px, iter, ifs, 0⟩] scope pos) 0 (.ref I) acc { cenv with scope := relabel scope env }) (RR acc cenv.locals) s₄) E s₃) E s₂ := by
  refine wpAny_newObj_type ?_
  simp only [newFunctionEnv, Option.isSome_some, if_true]
  refine wpAny_bind (wpAny_alloc ?_)
  refine wpAny_bind (wpAny_layCells _ (fun name kind cells => by cases hkc : kind == NameKind.cell <;> simp [hkc]) _ _ _ _ ?_)
  refine wpAny_bind ?_
  rw [List.forIn_nil]
  refine wpAny_pure (wpAny_pure ?_)
  rw [hcells, hpush]
  dsimp only
  generalize hD : s₂.heap.objs.size = D
  have e1 : (s₂.heap.push { cls := .type "list", dict := none, data := .seq ([] : List Value).toArray }).objs.size = D + 1 := by rw [Heap.size_push, hD]
  have e2 : ((s₂.heap.push { cls := .type "list", dict := none, data := .seq ([] : List Value).toArray }).push { cls := .type "dict", data := .dict #[] }).objs.size = D + 2 := by rw [Heap.size_push, e1]
  generalize hH1 : s₂.heap.push { cls := .type "list", dict := none, data := .seq ([] : List Value).toArray } = H1 at e1 e2 ⊢
  generalize hH2 : H1.push { cls := .type "dict", data := .dict #[] } = H2 at e2 ⊢
  have hD0 : D = s₂.heap.objs.size := hD.symm
  have fresh : ∀ a, D ≤ a → s₂.heap.get? a = none := fun a ha => by
    cases e : s₂.heap.get? a with
    | none => rfl
    | some o' => exact absurd (Heap.lt_size e) (Nat.not_lt.mpr (hD0 ▸ ha))
  have fresh₀ : ∀ a, D ≤ a → h₀.get? a = none := fun a ha => by
    cases e : h₀.get? a with
    | none => rfl
    | some o' => have := F.keep a o' e; rw [fresh a ha] at this; cases this
  have up : ∀ b o, s₂.heap.get? b = some o → (H2.push { cls := .type "cell", data := .cell none }).get? b = some o := fun b o e =>
    Heap.get?_push_of_some _ (hH2 ▸ Heap.get?_push_of_some _ (hH1 ▸ Heap.get?_push_of_some _ e))
  have gD : (H2.push { cls := .type "cell", data := .cell none }).get? D = some (lst []) :=
    Heap.get?_push_of_some _ (hH2 ▸ Heap.get?_push_of_some _ (hH1 ▸ hD ▸ Heap.get?_push_size _ rfl))
  have gC : (H2.push { cls := .type "cell", data := .cell none }).Ns (D + 1) (fun _ => none) := by
    have := Heap.Ns.new H1 (.type "dict")
    rw [e1, hH2] at this
    exact this.keeps fun b o e => Heap.get?_push_of_some _ e
  have gX : (H2.push { cls := .type "cell", data := .cell none }).get? (D + 2) = some { cls := .type "cell", data := .cell none } := by
    have := Heap.get?_push_size (h := H2) (o := { cls := .type "cell", data := .cell none }) rfl
    rw [e2] at this
    exact this
  have hIlt : I < D := hD ▸ hfp I (W.sub I (List.mem_singleton.mpr rfl))
  have hLlt : L < D := hD ▸ F.ns.lt
  have nlt : ∀ p ∈ news, p.1 < D := fun p hp => hD ▸ Heap.lt_size (N p hp).1
  have hDI : D ≠ I := Nat.ne_of_gt hIlt
  have hCI : D + 1 ≠ I := Nat.ne_of_gt (Nat.lt_succ_of_lt hIlt)
  have hXI : D + 2 ≠ I := Nat.ne_of_gt (Nat.lt_succ_of_lt (Nat.lt_succ_of_lt hIlt))
  have hDL : D ≠ L := Nat.ne_of_gt hLlt
  have hCL : D + 1 ≠ L := Nat.ne_of_gt (Nat.lt_succ_of_lt hLlt)
  have hXL : D + 2 ≠ L := Nat.ne_of_gt (Nat.lt_succ_of_lt (Nat.lt_succ_of_lt hLlt))
  have hfD : ∀ b ∈ fp, b ≠ D ∧ b ≠ D + 1 ∧ b ≠ D + 2 := fun b hb => by have := hfp b hb; rw [hD] at this; exact ⟨Nat.ne_of_lt this, Nat.ne_of_lt (Nat.lt_succ_of_lt this), Nat.ne_of_lt (Nat.lt_succ_of_lt (Nat.lt_succ_of_lt this))⟩
  have hC1 : D + 1 ≠ D + 2 := Nat.ne_of_lt (Nat.lt_succ_self _)
  have hC2 : D + 1 ≠ D := Nat.ne_of_gt (Nat.lt_succ_self _)
  have hC3 : D + 2 ≠ D := Nat.ne_of_gt (Nat.lt_succ_of_lt (Nat.lt_succ_self _))
  have hst₁ : St 0 (H2.push { cls := .type "cell", data := .cell none }) := W.frame _ _ _ hst fun b _ o e => up b o e
  rw [e1, e2]
  have ekind : (compEnvC scope ((x, D + 2) :: cl) (D + 1) env).scope.kind = .function := hkind
  have eX : (compEnvC scope ((x, D + 2) :: cl) (D + 1) env).kindOf x = some .cell := hx
  have eC : (compEnvC scope ((x, D + 2) :: cl) (D + 1) env).cells.lookup x = some (D + 2) := by
    show List.lookup x ((x, D + 2) :: cl) = _
    rw [List.lookup_cons]; simp
  have loop : ∀ s₃ : Shared, s₃ = { s₂ with heap := H2.push { cls := .type "cell", data := .cell none } } →
      codeAny (model prog w) A (.compLoop (.ListComp elt [⟨.Name x px, iter, ifs, 0⟩] scope pos) 0 (.ref I) (.ref D) (compEnvC scope ((x, D + 2) :: cl) (D + 1) env)) (RR (.ref D) (D + 1)) s₃ := by
    rintro s₃ rfl
    obtain ⟨J, Ji, Je⟩ : ∃ J : Nat → Shared → Prop, (∀ (h' : Heap) (tk i : Nat) (ys : List Value) (oC oX : Obj) (v₀ : Option Value) (news' : List (Addr × Obj)), i ≤ n → ys.length ≤ i → St i h' → Fr h₀ L h' m → NsObj oC (fun _ => none) → oX.data = .cell v₀ → h'.get? (D + 1) = some oC → h'.get? (D + 2) = some oX → News h₀ L h' ((D, lst ys) :: news') → Off4 I (D + 1) (D + 2) D news' → S news' → RestC prog w A h₀ L m env ifs elt x scope cl s₂ S P Fin (n - i) i ys news' → J (n + 1 - i) { s₂ with heap := h', toks := tk }) ∧
        (∀ G : Nat → Shared → Prop, (∀ (h' : Heap) (tk i : Nat) (ys : List Value) (oC oX : Obj) (v₀ : Option Value) (news' : List (Addr × Obj)), i ≤ n → ys.length ≤ i → St i h' → Fr h₀ L h' m → NsObj oC (fun _ => none) → oX.data = .cell v₀ → h'.get? (D + 1) = some oC → h'.get? (D + 2) = some oX → News h₀ L h' ((D, lst ys) :: news') → Off4 I (D + 1) (D + 2) D news' → S news' → RestC prog w A h₀ L m env ifs elt x scope cl s₂ S P Fin (n - i) i ys news' → G (n + 1 - i) { s₂ with heap := h', toks := tk }) → ∀ k s', J k s' → G k s') :=
      ⟨fun k s' => ∀ G : Nat → Shared → Prop, (∀ (h' : Heap) (tk i : Nat) (ys : List Value) (oC oX : Obj) (v₀ : Option Value) (news' : List (Addr × Obj)), i ≤ n → ys.length ≤ i → St i h' → Fr h₀ L h' m → NsObj oC (fun _ => none) → oX.data = .cell v₀ → h'.get? (D + 1) = some oC → h'.get? (D + 2) = some oX → News h₀ L h' ((D, lst ys) :: news') → Off4 I (D + 1) (D + 2) D news' → S news' → RestC prog w A h₀ L m env ifs elt x scope cl s₂ S P Fin (n - i) i ys news' → G (n + 1 - i) { s₂ with heap := h', toks := tk }) → G k s', fun h' tk i ys oC oX v₀ news' a b c d e f g h j k l m G hG => hG h' tk i ys oC oX v₀ news' a b c d e f g h j k l m, fun G hG _ _ h => h G hG⟩
    refine codeAny_compLoop_tests J ?_ (n + 1) ?_
    · refine Je _ ?_
      intro h' tk i ys oC oX v₀ news' hi hyl hst' F' hoC hoX geC geX N' off' hS' R'
      have off4 := off'.mem
      by_cases hlt : i < n
      · generalize hjn : n - (i + 1) = j
        have hj : n - i = j + 1 := hjn ▸ pred_turn hlt
        rw [hj] at R'
        refine W.item i _ _ _ hlt hst' fun v h₂ tk₂ hPv hst₂ hk₂ => ?_
        have keepI : ∀ b o, b ≠ I → h'.get? b = some o → h₂.get? b = some o := fun b o hb e => hk₂ b o (by simpa using hb) e
        refine wpAny_assign_Name (wpAny_storeName_cell ekind eX eC ⟨oX, keepI _ _ hXI geX, hoX⟩ fun h₃ hc₃ hs₃ => ?_)
        obtain ⟨oX', geX', hoX'⟩ := hc₃
        have keep3 : ∀ b o, b ≠ I → b ≠ D + 2 → h'.get? b = some o → h₃.get? b = some o := fun b o hb hb2 e => (hs₃.2 b hb2).trans (keepI b o hb e)
        have hst₃ : St (i + 1) h₃ := W.frame _ _ _ hst₂ fun b hb o e => (hs₃.2 b (hfD b hb).2.2).trans e
        obtain ⟨oI, heI⟩ := hIo _ _ hst₃
        have F₃ : Fr h₀ L h₃ m := (fr_but F' hk₂ hIL hI₀).change hs₃ hXL (fresh₀ _ (Nat.le_add_right _ _))
        have N₃ : News h₀ L h₃ ((I, oI) :: (D + 1, oC) :: (D + 2, oX') :: (D, lst ys) :: news') := fun p hp => by
          rcases List.mem_cons.mp hp with rfl | hp
          · exact ⟨heI, Ne.symm hIL, hI₀⟩
          rcases List.mem_cons.mp hp with rfl | hp
          · exact ⟨keep3 _ _ hCI hC1 geC, hCL, fresh₀ _ (Nat.le_add_right _ _)⟩
          rcases List.mem_cons.mp hp with rfl | hp
          · exact ⟨geX', hXL, fresh₀ _ (Nat.le_add_right _ _)⟩
          · refine ⟨keep3 _ _ ?_ ?_ (N' p hp).1, (N' p hp).2⟩
            · rcases List.mem_cons.mp hp with rfl | hp
              · exact hDI
              · exact (off4 p hp).1
            · rcases List.mem_cons.mp hp with rfl | hp
              · exact Ne.symm hC3
              · exact (off4 p hp).2.2.1
        have after : ∀ (ys' : List Value) (y : Value) (s₄ : Shared), EndC h₀ L m { s₂ with heap := h₃, toks := tk₂ } I oI (D + 1) oC (D + 2) oX' D (lst ys) S (fun _ news' => RestC prog w A h₀ L m env ifs elt x scope cl s₂ S P Fin j (i + 1) ys' news') y s₄ →
            ∀ G : Shared → Prop, (∀ h₄ tk₄ news₄, Fr h₀ L h₄ m → h₄.get? (D + 1) = some oC → h₄.get? (D + 2) = some oX' → h₄.get? D = some (lst ys) → News h₀ L h₄ news₄ → Off4 I (D + 1) (D + 2) D news₄ → S news₄ → St (i + 1) h₄ → RestC prog w A h₀ L m env ifs elt x scope cl s₂ S P Fin j (i + 1) ys' news₄ → G { s₂ with heap := h₄, toks := tk₄ }) → G s₄ := by
          rintro ys' y s₄ ⟨h₄, tk₄, news₄, rfl, F₄, N₄, off₄, hS₄, R₄⟩ G hG
          have N₄' : News h₀ L h₄ news₄ := fun p hp => N₄ p (List.mem_cons_of_mem _ (List.mem_cons_of_mem _ (List.mem_cons_of_mem _ (List.mem_cons_of_mem _ hp))))
          exact hG h₄ tk₄ news₄ F₄ (N₄ (D + 1, oC) (List.mem_cons_of_mem _ List.mem_cons_self)).1 (N₄ (D + 2, oX') (List.mem_cons_of_mem _ (List.mem_cons_of_mem _ List.mem_cons_self))).1
            (N₄ (D, lst ys) (List.mem_cons_of_mem _ (List.mem_cons_of_mem _ (List.mem_cons_of_mem _ List.mem_cons_self)))).1 N₄' off₄ hS₄ (hSt _ _ _ _ _ hst₃ heI (N₄ (I, oI) List.mem_cons_self).1 F₄.keep N₄' hS₄) R₄
        refine wpAny_mono (R' v I oI (D + 1) oC (D + 2) oX' D h₃ tk₂ _ hPv hoX' F₃ N₃ off' ⟨Ne.symm hCI, Ne.symm hXI, Ne.symm hDI, hC1, hC2, hC3⟩) (fun ok s₄ h₄ => ?_) fun _ _ e => e
        cases ok with
        | true =>
          simp only [if_true] at h₄ ⊢
          refine wpAny_mono h₄ (fun y s₅ h₅ => ?_) fun _ _ e => e
          refine after (ys ++ [y]) y s₅ h₅ _ ?_
          clear h₅
          intro h₄ tk₄ news₄ F₄ zC zX zD N₄ off₄ hS₄ hst₄ R₄
          have off4' := off₄.mem
          refine append_at (hsz := by show ys.toArray.size ≤ sizeLine; rw [List.size_toArray]; exact Nat.le_trans hyl (Nat.le_trans hi hsz)) zD fun h₅ hs₅ hD₅ => ?_
          refine ⟨n + 1 - (i + 1), Nat.sub_lt_sub_left (Nat.lt_succ_of_lt hlt) (Nat.lt_succ_self i), Ji h₅ tk₄ (i + 1) (ys ++ [y]) oC oX' _ news₄ hlt (by rw [List.length_append]; exact Nat.succ_le_succ hyl)
            (W.frame _ _ _ hst₄ fun b hb o e => hs₅.extBut b o (hfD b hb).1 e) (F₄.change hs₅ hDL (fresh₀ _ (Nat.le_refl _))) hoC hoX' (hs₅.extBut _ _ hC2 zC) (hs₅.extBut _ _ hC3 zX) (fun p hp => ?_) off₄ hS₄ (hjn.symm ▸ R₄)⟩
          rcases List.mem_cons.mp hp with rfl | hp
          · exact ⟨hD₅.trans (congrArg some (lst_snoc ys y)), hDL, fresh₀ _ (Nat.le_refl _)⟩
          · exact ⟨hs₅.extBut _ _ (off4' p hp).2.2.2 (N₄ p hp).1, (N₄ p hp).2⟩
        | false =>
          simp only [Bool.false_eq_true, if_false] at h₄ ⊢
          refine after ys .none s₄ h₄ (fun s => ∃ m, m < n + 1 - i ∧ J m s) ?_
          clear h₄
          intro h₆ tk₄ news₄ F₄ zC zX zD N₄ off₄ hS₄ hst₄ R₄
          refine ⟨n + 1 - (i + 1), Nat.sub_lt_sub_left (Nat.lt_succ_of_lt hlt) (Nat.lt_succ_self i), Ji h₆ tk₄ (i + 1) ys oC oX' _ news₄ hlt (Nat.le_succ_of_le hyl) hst₄ F₄ hoC hoX' zC zX (fun p hp => ?_) off₄ hS₄ (hjn.symm ▸ R₄)⟩
          rcases List.mem_cons.mp hp with rfl | hp
          · exact ⟨zD, hDL, fresh₀ _ (Nat.le_refl _)⟩
          · exact N₄ p hp
      · have hin : i = n := Nat.le_antisymm hi (Nat.not_lt.mp hlt)
        have Rn : Fin ys news' := by rw [hin, Nat.sub_self] at R'; exact R'
        refine W.done _ _ _ (hin ▸ hst') fun h₂ tk₂ hk₂ => ?_
        refine hRR D (D + 1) h₂ tk₂ (fun _ => none) ys news' (fr_but F' hk₂ hIL hI₀) (news_but N' hk₂ fun p hp => ?_) ?_ ((hoC.ns geC).at' fun o e => hk₂ _ o (by simpa using hCI) e) (fresh₀ _ (Nat.le_add_right _ _)) (fresh₀ _ (Nat.le_refl _)) hCL hDL hC2 (fun p hp => (off4 p hp).2.1) Rn
        · rcases List.mem_cons.mp hp with rfl | hp
          · exact hDI
          · exact (off4 p hp).1
        · clear R' hS' N' Rn
          induction news' with
          | nil => trivial
          | cons q r ih => exact ⟨off'.1.2.2.2, ih off'.2 (fun p hp => off4 p (List.mem_cons_of_mem _ hp))⟩
    · obtain ⟨oC, geC, hoC⟩ := ns_obj gC
      refine Ji _ _ 0 [] oC _ none news (Nat.zero_le _) (Nat.le_refl _) hst₁ (F.keeps up) hoC rfl geC gX (fun p hp => ?_) (Off4.of fun p hp => ?_) hS R
      · rcases List.mem_cons.mp hp with rfl | hp
        · exact ⟨gD, hDL, fresh₀ _ (Nat.le_refl _)⟩
        · exact ⟨up _ _ (N p hp).1, (N p hp).2⟩
      · have := nlt p hp
        exact ⟨off p hp, Nat.ne_of_lt (Nat.lt_succ_of_lt this), Nat.ne_of_lt (Nat.lt_succ_of_lt (Nat.lt_succ_of_lt this)), Nat.ne_of_lt this⟩
  exact codeAny_compStart_list (loop _ rfl) (W.self 0 _ _ _ hst₁ (loop _ rfl))

theorem RestC.zero {ifs : List Expr} {elt : Expr} {x : Str} {scope : Scope} {cl : List (Str × Addr)} {S : List (Addr × Obj) → Prop} {P : Nat → Value → Prop} {Fin : List Value → List (Addr × Obj) → Prop} {i : Nat} {ys : List Value} {news : List (Addr × Obj)} (h : Fin ys news) :
    RestC prog w A h₀ L m env ifs elt x scope cl s S P Fin 0 i ys news := h
theorem RestC.succ {ifs : List Expr} {elt : Expr} {x : Str} {scope : Scope} {cl : List (Str × Addr)} {S : List (Addr × Obj) → Prop} {P : Nat → Value → Prop} {Fin : List Value → List (Addr × Obj) → Prop} {k i : Nat} {ys : List Value} {news : List (Addr × Obj)}
    (h : ∀ v I oI C oC X oX D h tk (E' : Value → Shared → Prop), P i v → oX.data = .cell (some v) → Fr h₀ L h m → News h₀ L h ((I, oI) :: (C, oC) :: (X, oX) :: (D, lst ys) :: news) → Off4 I C X D news →
      ((@Ne Nat I C) ∧ (@Ne Nat I X) ∧ (@Ne Nat I D) ∧ (@Ne Nat C X) ∧ (@Ne Nat C D) ∧ (@Ne Nat X D)) →
      wpAny (model prog w) A (forIn ifs true fun c r => if r = true then do let ok ← isTrue c (compEnvC scope ((x, X) :: cl) C env) (eval c (compEnvC scope ((x, X) :: cl) C env)); pure (ForInStep.yield ok) else pure (ForInStep.yield r)) (fun ok s' => if ok = true then
        wpAny (model prog w) A (eval elt (compEnvC scope ((x, X) :: cl) C env)) (EndC h₀ L m { s with heap := h, toks := tk } I oI C oC X oX D (lst ys) S (fun y news' => RestC prog w A h₀ L m env ifs elt x scope cl s S P Fin k (i + 1) (ys ++ [y]) news')) E' s'
        else EndC h₀ L m { s with heap := h, toks := tk } I oI C oC X oX D (lst ys) S (fun _ news' => RestC prog w A h₀ L m env ifs elt x scope cl s S P Fin k (i + 1) ys news') Value.none s') E' { s with heap := h, toks := tk }) :
    RestC prog w A h₀ L m env ifs elt x scope cl s S P Fin (k + 1) i ys news := h
theorem EndC.intro {I C X D : Addr} {oI oC oX oD : Obj} {s₁ : Shared} {S : List (Addr × Obj) → Prop} {rest : Value → List (Addr × Obj) → Prop} {y : Value} {h' : Heap} {tk : Nat} {all : List (Addr × Obj)}
    (F : Fr h₀ L h' m) (N : News h₀ L h' all) (news' : List (Addr × Obj)) (sub : ∀ p ∈ (I, oI) :: (C, oC) :: (X, oX) :: (D, oD) :: news', p ∈ all) (off : Off4 I C X D news') (hS : S news') (r : rest y news') :
    EndC h₀ L m s₁ I oI C oC X oX D oD S rest y { s₁ with heap := h', toks := tk } := ⟨h', tk, news', rfl, F, fun p hp => N p (sub p hp), off, hS, r⟩
noncomputable def SrcCR (prog : Program) (w : World) (A : Around) (h₀ : Heap) (L : Addr) (m : Str → Option Value) (env : Env) (ifs : List Expr) (elt : Expr) (x : Str) (scope : Scope) (cl : List (Str × Addr)) (n : Nat) (Q : Value → Shared → Prop) (xv : Value) (s₁ : Shared) : Prop :=
  ∃ r t u v news, xv = .ref r ∧ Fr h₀ L s₁.heap m ∧ News h₀ L s₁.heap news ∧ IsRange s₁.heap r 0 n 1 t u v ∧
      ∀ g, RestC prog w A h₀ L m env ifs elt x scope cl { s₁ with heap := g } (fun _ => True) (fun i v => ∃ t, v = .int (0 + (i : Int)) t) (FinE h₀ L m { s₁ with heap := g } Q) n 0 [] news
noncomputable def SrcCL (prog : Program) (w : World) (A : Around) (h₀ : Heap) (L : Addr) (m : Str → Option Value) (env : Env) (ifs : List Expr) (elt : Expr) (x : Str) (scope : Scope) (cl : List (Str × Addr)) (its : Array Value) (Q : Value → Shared → Prop) (xv : Value) (s₁ : Shared) : Prop :=
  ∃ ax news, xv = .ref ax ∧ Fr h₀ L s₁.heap m ∧ News h₀ L s₁.heap news ∧ SrcAt h₀ ax its news ∧
      ∀ g, RestC prog w A h₀ L m env ifs elt x scope cl { s₁ with heap := g } (SrcAt h₀ ax its) (fun i v => its[i]? = some v) (FinE h₀ L m { s₁ with heap := g } Q) its.size 0 [] news
theorem ListComp_CR {elt iter : Expr} {ifs : List Expr} {x : Str} {px : Pos} {scope : Scope} {cl : List (Str × Addr)} {pos : Pos} {Q : Value → Shared → Prop} {n : Nat} (_F₀ : Fr h₀ L s.heap m)
    (hclos : closureFor scope env = pure cl) (hcells : ∀ k, cellsFrom k scope.names cl = (x, k) :: cl) (hpush : ∀ h, pushCells h scope.names = h.push { cls := .type "cell", data := .cell none })
    (hkind : scope.kind = .function) (hnames : ∀ y ∈ scope.names, y.2 = .local → scope.names.lookup y.1 = some .local) (hx : (relabel scope env).names.lookup x = some .cell)
    (hh : A.handled = none) (hn : n ≤ sizeLine) (hsm : Builtin.Range.small 0 n 1 = true) (hrs : Builtin.Range.rangeSize 0 n 1 = ((n : Nat) : Int))
    (h : wpAny (model prog w) A (eval iter env) (SrcCR prog w A h₀ L m env ifs elt x scope cl n Q) E s)
    (hs : ∀ x, foldedSetIterable iter env x = pure x := by intro _; rfl) :
    wpAny (model prog w) A (eval (.ListComp elt [⟨.Name x px, iter, ifs, 0⟩] scope pos) env) Q E s := by
  rw [eval_ListComp]
  refine wpAny_comprehension_free (use := none) rfl hs hclos hkind hnames (wpAny_mono h (fun xv s₁ h₁ => ?_) fun _ _ e => e)
  obtain ⟨r, t, u, v, news, rfl, F, N, hr, R⟩ := h₁
  refine wpAny_pyIter_range hr hsm ?_
  refine block_C (range_walks hh 0 n) hn (fun i h st => ⟨_, st⟩) range_st hcells hpush hkind hx (by show IsRangeIter _ _ _ _ _; rw [hrs]; simpa using Heap.get?_push_size _ rfl) (fun b hb => ?_)
    (F.keeps fun _ _ e => Heap.get?_push_of_some _ e) (N.grown fun _ _ e => Heap.get?_push_of_some _ e) (Nat.ne_of_lt F.ns.lt) (next_is_new F) (fun p hp => Nat.ne_of_lt (Heap.lt_size (N p hp).1)) (R _) ?_ trivial
  · rw [List.mem_singleton.mp hb]
    show s₁.heap.objs.size < (s₁.heap.push _).objs.size
    rw [Heap.size_push]; exact Nat.lt_succ_self _
  · intro D C h tk m' ys news' F' N' o1 hn hC₀ hD₀ hCL hDL hCD offC fin
    refine ⟨m', hn, fun h'' hs'' => fin D h'' tk (F'.change hs'' hCL hC₀) (fun p hp => ?_) o1⟩
    refine ⟨hs''.extBut _ _ ?_ (N' p hp).1, (N' p hp).2⟩
    rcases List.mem_cons.mp hp with rfl | hp
    · exact Ne.symm hCD
    · exact offC p hp

theorem ListComp_CL {elt iter : Expr} {ifs : List Expr} {x : Str} {px : Pos} {scope : Scope} {cl : List (Str × Addr)} {pos : Pos} {Q : Value → Shared → Prop} {its : Array Value} (_F₀ : Fr h₀ L s.heap m)
    (hclos : closureFor scope env = pure cl) (hcells : ∀ k, cellsFrom k scope.names cl = (x, k) :: cl) (hpush : ∀ h, pushCells h scope.names = h.push { cls := .type "cell", data := .cell none })
    (hkind : scope.kind = .function) (hnames : ∀ y ∈ scope.names, y.2 = .local → scope.names.lookup y.1 = some .local) (hx : (relabel scope env).names.lookup x = some .cell)
    (hh : A.handled = none) (hn : its.size ≤ sizeLine)
    (h : wpAny (model prog w) A (eval iter env) (SrcCL prog w A h₀ L m env ifs elt x scope cl its Q) E s)
    (hs : ∀ x, foldedSetIterable iter env x = pure x := by intro _; rfl) :
    wpAny (model prog w) A (eval (.ListComp elt [⟨.Name x px, iter, ifs, 0⟩] scope pos) env) Q E s := by
  rw [eval_ListComp]
  refine wpAny_comprehension_free (use := none) rfl hs hclos hkind hnames (wpAny_mono h (fun xv s₁ h₁ => ?_) fun _ _ e => e)
  obtain ⟨ax, news, rfl, F, N, S, R⟩ := h₁
  have hl := S.list F.keep N
  have hlt : ax < s₁.heap.objs.size := by obtain ⟨_, e, _⟩ := hl; exact Heap.lt_size e
  refine wpAny_pyIter_list hl ?_
  have up : ∀ b o, s₁.heap.get? b = some o → (s₁.heap.push { cls := .type "list_iterator", data := .fields #[.ref ax, .int 0 0] }).get? b = some o := fun b o e => Heap.get?_push_of_some _ e
  refine block_C (Walks.list hh s₁.heap.objs.size ax (Nat.ne_of_lt hlt) its) hn (fun i h st => by obtain ⟨o, e, _⟩ := st.1; exact ⟨o, e⟩) list_st hcells hpush hkind hx ⟨⟨_, Heap.get?_push_size _ rfl, rfl, rfl⟩, hl.push _⟩ (fun b hb => ?_)
    (F.keeps up) (N.grown up) (Nat.ne_of_lt F.ns.lt) (next_is_new F) (fun p hp => Nat.ne_of_lt (Heap.lt_size (N p hp).1)) (R _) ?_ S
  · show b < (s₁.heap.push _).objs.size
    rw [Heap.size_push]
    rcases List.mem_cons.mp hb with rfl | hb
    · exact Nat.lt_succ_self _
    · rw [List.mem_singleton.mp hb]; exact Nat.lt_succ_of_lt hlt
  · intro D C h tk m' ys news' F' N' o1 hn hC₀ hD₀ hCL hDL hCD offC fin
    refine ⟨m', hn, fun h'' hs'' => fin D h'' tk (F'.change hs'' hCL hC₀) (fun p hp => ?_) o1⟩
    refine ⟨hs''.extBut _ _ ?_ (N' p hp).1, (N' p hp).2⟩
    rcases List.mem_cons.mp hp with rfl | hp
    · exact Ne.symm hCD
    · exact offC p hp

noncomputable abbrev tupO (its : Array Value) (k : Nat) : Obj := { cls := .type "tuple", data := .seq its k }
noncomputable def SrcTA (prog : Program) (w : World) (A : Around) (h₀ : Heap) (L : Addr) (m : Str → Option Value) (env : Env) (elt : Expr) (x : Str) (scope : Scope) (cl : List (Str × Addr)) (y : Str) (Q : Flow → Shared → Prop) (xv : Value) (s₁ : Shared) : Prop :=
  ∃ (ax : Addr) (its : Array Value) (k : Nat) (news : List (Addr × Obj)), xv = .ref ax ∧ its.size ≤ sizeLine ∧ Fr h₀ L s₁.heap m ∧ News h₀ L s₁.heap news ∧ (ax, tupO its k) ∈ news ∧
      ∀ g, CompRest prog w A h₀ L m env elt x scope cl { s₁ with heap := g } (fun nw => (ax, tupO its k) ∈ nw) (fun i v => its[i]? = some v) (FinA h₀ L m { s₁ with heap := g } y Q) its.size 0 [] news
theorem Assign_ListComp_T {elt iter : Expr} {x y : Str} {px py : Pos} {scope : Scope} {cl : List (Str × Addr)} {pos spos : Pos} {Q : Flow → Shared → Prop} (_F₀ : Fr h₀ env.locals s.heap m)
    (hsw : swapsWith (.ListComp elt [⟨.Name x px, iter, [], 0⟩] scope pos) (some (.Name y py)) spos.line env = pure true)
    (hclos : closureFor scope env = pure cl) (hcell : ∀ z ∈ scope.names, z.2 ≠ .cell) (hkind : scope.kind = .function)
    (hnames : ∀ z ∈ scope.names, z.2 = .local → scope.names.lookup z.1 = some .local) (hx : scope.names.lookup x = some .local)
    (hy : env.kindOf y = some .local) (hp : (env.scope.kind == .class || (env.scope.kind == .module && env.locals != env.globals)) = false)
    (hh : A.handled = none)
    (h : wpAny (model prog w) A (eval iter env) (SrcTA prog w A h₀ env.locals m env elt x scope cl y Q) E s)
    (hs : ∀ x, foldedSetIterable iter env x = pure x := by intro _; rfl) :
    wpAny (model prog w) A (exec (.Assign [.Name y py] (.ListComp elt [⟨.Name x px, iter, [], 0⟩] scope pos) spos) env) Q E s := by
  rw [exec_Assign_Name_used _ _ _ _ hsw]
  refine wpAny_bind (wpAny_standAt (wpAny_bind ?_))
  show wpAny _ A (do let _ ← comprehension (.ListComp elt [⟨.Name x px, iter, [], 0⟩] scope pos) scope env _ (newList []) false (eval iter env) (some (assign (.Name y py) env))) _ _ s
  refine wpAny_bind (wpAny_mono (wpAny_comprehension_free (use := some (assign (.Name y py) env)) (Q := fun _ s' => Q .next s') rfl hs hclos hkind hnames
    (wpAny_mono h (fun xv s₁ h₁ => ?_) fun _ _ e => e)) (fun _ s' hq => wpAny_pure (wpAny_pure hq)) fun _ _ e => e)
  obtain ⟨ax, its, k, news, rfl, hn, F, N, hm, R⟩ := h₁
  have ht : s₁.heap.IsTuple ax its := ⟨_, (N _ hm).1, rfl, _, rfl⟩
  have hlt : ax < s₁.heap.objs.size := Heap.lt_size (N _ hm).1
  refine wpAny_pyIter_tuple ht ?_
  have up : ∀ b o, s₁.heap.get? b = some o → (s₁.heap.push { cls := .type "tuple_iterator", data := .fields #[.ref ax, .int 0 0] }).get? b = some o := fun b o e => Heap.get?_push_of_some _ e
  refine block_U (S := fun nw => (ax, tupO its k) ∈ nw) (Walks.tuple hh s₁.heap.objs.size ax (Nat.ne_of_lt hlt) its) hn (fun i h st => by obtain ⟨o, e, _⟩ := st.1; exact ⟨o, e⟩)
    (fun i h h' o nw st e e' _ N' S' => ⟨by obtain ⟨o', q, r⟩ := st.1; rw [e] at q; cases q; exact ⟨o, e', r⟩, ⟨_, (N' _ S').1, rfl, _, rfl⟩⟩) hcell hkind hx ⟨⟨_, Heap.get?_push_size _ rfl, rfl, rfl⟩, ⟨_, up _ _ (N _ hm).1, rfl, _, rfl⟩⟩ (fun b hb => ?_)
    (F.keeps up) (N.grown up) (Nat.ne_of_lt F.ns.lt) (next_is_new F) (fun p hp => Nat.ne_of_lt (Heap.lt_size (N p hp).1)) hm (R _) ?_
  · show b < (s₁.heap.push _).objs.size
    rw [Heap.size_push]
    rcases List.mem_cons.mp hb with rfl | hb
    · exact Nat.lt_succ_self _
    · rw [List.mem_singleton.mp hb]; exact Nat.lt_succ_of_lt hlt
  · intro D C h' tk m' ys news' F' N' o1 hn hC₀ hD₀ hCL hDL hCD offC fin
    show wpAny _ A (assign (.Name y py) env (.ref D)) _ _ _
    refine wpAny_assign_Name (wpAny_storeName_local hy F'.ns (fun h₂ hn₂ hs₂ => ?_) hp)
    have hL₀ : h₀.get? env.locals = none := Heap.get?_none_of_le F'.above
    have F₂ : Fr h₀ env.locals h₂ (fun z => if z = y then some (.ref D) else m z) := ⟨hn₂, fun b o e => hs₂.extBut b o (fun q => by rw [q, hL₀] at e; cases e) (F'.keep b o e), F'.above⟩
    have N₂ : News h₀ env.locals h₂ ((D, lst ys) :: news') := fun p hp => ⟨hs₂.extBut _ _ (N' p hp).2.1 (N' p hp).1, (N' p hp).2⟩
    refine ⟨m', hn.sameBut hs₂ hCL, fun h₃ hs₃ => fin D h₃ _ (F₂.change hs₃ hCL hC₀) (fun p hp => ?_) o1⟩
    refine ⟨hs₃.extBut _ _ ?_ (N₂ p hp).1, (N₂ p hp).2⟩
    rcases List.mem_cons.mp hp with rfl | hp
    · exact Ne.symm hCD
    · exact offC p hp
end
end Mine
end
noncomputable section
namespace Mine
open PySem.Calls
open PyProof.Rows.LCg
noncomputable def Halt (P : Prop) : Prop := P
theorem halt_in {P : Prop} (h : Halt P) : P := h
theorem Halt.out {P : Prop} (h : P) : Halt P := h
theorem int_eq {a b : Int} {t : Tok} (e : a = b) : some (Value.int a t) = some (Value.int b t) := by rw [e]
theorem nm_here {x : Str} {v : Value} {o : Option Value} {d : Decidable (x = x)} : @ite _ (x = x) d (some v) o = some v := if_pos rfl
theorem nm_skip {x y : Str} {v : Value} {o o' : Option Value} {d : Decidable (x = y)} (h : x ≠ y) (e : o = some v) : @ite _ (x = y) d o' o = some v := (if_neg h).trans e
structure Lmp where
  l : Nat → Addr
  x : Nat → Int
  y : Nat → Int
  z : Nat → Int
  tx : Nat → Tok
  ty : Nat → Tok
  tz : Nat → Tok
  n : Nat → Nat
noncomputable abbrev Lmp.obj (P : Lmp) (i : Nat) : Obj := W.listOf #[.int (P.x i) (P.tx i), .int (P.y i) (P.ty i), .int (P.z i) (P.tz i)] (P.n i)
noncomputable abbrev Lmp.all (P : Lmp) (k : Nat) : Obj := W.listOf #[.ref (P.l 0), .ref (P.l 1), .ref (P.l 2), .ref (P.l 3), .ref (P.l 4)] k
noncomputable def LampsIn (P : Lmp) (news : List (Addr × Obj)) : Prop := ∀ i, i < 5 → (P.l i, P.obj i) ∈ news
structure Lmp.Ok (P : Lmp) : Prop where
  x : ∀ i, i < 5 → 0 ≤ P.x i ∧ P.x i ≤ 15
  y : ∀ i, i < 5 → 0 ≤ P.y i ∧ P.y i ≤ 15
  z : ∀ i, i < 5 → 0 ≤ P.z i ∧ P.z i ≤ 15
theorem LampsIn.mem {P : Lmp} {news : List (Addr × Obj)} (h : LampsIn P news) {i : Nat} (hi : i < 5) : (P.l i, P.obj i) ∈ news := h i hi
theorem LampsIn.mono {P : Lmp} {news news' : List (Addr × Obj)} (h : LampsIn P news) (hs : ∀ p ∈ news, p ∈ news') : LampsIn P news' := fun i hi => hs _ (h i hi)
theorem LampsIn.cons {P : Lmp} {news : List (Addr × Obj)} {p : Addr × Obj} (h : LampsIn P news) : LampsIn P (p :: news) := h.mono fun _ => List.mem_cons_of_mem _

section
variable {prog : Program} {w : World} {A : Around} {E : Value → Shared → Prop} {s : Shared} {h₀ : Heap} {L : Addr} {m : Str → Option Value} {news : List (Addr × Obj)} {Q : Value → Shared → Prop}
theorem pick1 {h₀ h : Heap} {L : Addr} {q : Addr × Obj} {r news : List (Addr × Obj)} (N : News h₀ L h (q :: r ++ news)) : News h₀ L h ([q] ++ news) := fun p hp => by
  rcases List.mem_cons.mp hp with rfl | hp
  · exact N _ (List.mem_append_left _ List.mem_cons_self)
  · exact N p (List.mem_append_right _ hp)
theorem pick0 {h₀ h : Heap} {L : Addr} {r news : List (Addr × Obj)} (N : News h₀ L h (r ++ news)) : News h₀ L h ([] ++ news) := fun p hp => N p (List.mem_append_right _ hp)
theorem off_of_lt {d : Addr} : ∀ {l : List (Addr × Obj)}, AllLt d l → Off1 d l
  | [], _ => trivial
  | _ :: _, h => ⟨Nat.ne_of_lt h.1, off_of_lt h.2⟩
theorem off_of {d : Addr} : ∀ {l : List (Addr × Obj)}, (∀ p ∈ l, p.1 < d) → Off1 d l
  | [], _ => trivial
  | _ :: _, h => ⟨Nat.ne_of_lt (h _ List.mem_cons_self), off_of fun p hp => h p (List.mem_cons_of_mem _ hp)⟩
theorem off_old {g : Heap} {q : Addr} : ∀ {l : List (Addr × Obj)}, (∀ p ∈ l, p.1 ∉ ([] : List (Addr × Obj)).map (·.1) → g.get? p.1 = some p.2) → g.get? q = none → Off1 q l
  | [], _, _ => trivial
  | p :: l, h, hq => by
    refine ⟨fun e => ?_, off_old (l := l) (fun x hx hn => h x (List.mem_cons_of_mem _ hx) hn) hq⟩
    have h1 := h p List.mem_cons_self (by simp)
    have e' : p.1 = q := e
    rw [e', hq] at h1
    cases h1
theorem off_old1 {g : Heap} {q la : Addr} {oa : Obj} : ∀ {l : List (Addr × Obj)}, (∀ p ∈ l, p.1 ∉ ([(la, oa)] : List (Addr × Obj)).map (·.1) → g.get? p.1 = some p.2) → g.get? q = none → @Ne Nat la q → Off1 q l
  | [], _, _, _ => trivial
  | p :: l, h, hq, hne => by
    refine ⟨fun e => ?_, off_old1 (l := l) (fun x hx hn => h x (List.mem_cons_of_mem _ hx) hn) hq hne⟩
    have e' : p.1 = q := e
    have h1 := h p List.mem_cons_self (by simp; intro e2; exact hne (e2.symm.trans e'))
    rw [e', hq] at h1
    cases h1
theorem ints_one {a b : Int} {t : Tok} (e : a = b) : IntsAre [.int a t] [b] := e ▸ IntsAre.cons a t .nil
theorem ints_cons {ys : List Value} {a : Int} {l : List Int} (h : IntsAre ys (a :: l)) : ∃ t r, ys = .int a t :: r ∧ IntsAre r l := by
  cases h with | cons _ t h => exact ⟨t, _, rfl, h⟩
theorem ints_nil {ys : List Value} (h : IntsAre ys []) : ys = [] := by cases h; rfl
theorem ints2 {ys : List Value} {a b : Int} (h : IntsAre ys [a, b]) : ∃ t0 t1, ys = [.int a t0, .int b t1] :=
  ob2 (ints_cons h) fun t0 _ h0 => ob2 (ints_cons h0.2) fun t1 _ h1 => ⟨t0, t1, by rw [h0.1, h1.1, ints_nil h1.2]⟩
theorem ints3 {ys : List Value} {a b c : Int} (h : IntsAre ys [a, b, c]) : ∃ t0 t1 t2, ys = [.int a t0, .int b t1, .int c t2] :=
  ob2 (ints_cons h) fun t0 _ h0 => ob2 (ints2 h0.2) fun t1 t2 h1 => ⟨t0, t1, t2, by rw [h0.1, h1]⟩
theorem ints5 {ys : List Value} {a b c d e : Int} (h : IntsAre ys [a, b, c, d, e]) : ∃ t0 t1 t2 t3 t4, ys = [.int a t0, .int b t1, .int c t2, .int d t3, .int e t4] :=
  ob2 (ints_cons h) fun t0 _ h0 => ob2 (ints_cons h0.2) fun t1 _ h1 => ob3 (ints3 h1.2) fun t2 t3 t4 h2 => ⟨t0, t1, t2, t3, t4, by rw [h0.1, h1.1, h2]⟩
noncomputable def Lmp.at (P : Lmp) (i : Nat) (k : Nat) : Int := [P.x i, P.y i, P.z i].getD k 0
noncomputable def Sm (a : Int) : Prop := -(2 ^ 64) < a ∧ a < 2 ^ 64
theorem Sm.of {a : Int} (h0 : -(2 ^ 64) < a) (h1 : a < 2 ^ 64) : Sm a := ⟨h0, h1⟩
theorem mulR {a b : Int} (h : Sm b) : IntMulOk a b := IntMulOk.of_right (intBits_le_64 h.1 h.2)
theorem mulL {a b : Int} (h : Sm a) : IntMulOk a b := IntMulOk.of_left (intBits_le_64 h.1 h.2)
theorem Lmp.Ok.smx {P : Lmp} (h : P.Ok) {i : Nat} (hi : i < 5) : Sm (P.x i) := by have := h.x i hi; exact ⟨by exact lin1 (cx1 _) (.num 0) (.var 0) (.add (.neg (.num 18446744073709551616)) (.num 1)) (.var 0) 1 1 rfl this.1, by exact lin1 (cx1 _) (.var 0) (.num 15) (.add (.var 0) (.num 1)) (.num 18446744073709551616) 1 1 rfl this.2⟩
theorem Lmp.Ok.smy {P : Lmp} (h : P.Ok) {i : Nat} (hi : i < 5) : Sm (P.y i) := by have := h.y i hi; exact ⟨by exact lin1 (cx1 _) (.num 0) (.var 0) (.add (.neg (.num 18446744073709551616)) (.num 1)) (.var 0) 1 1 rfl this.1, by exact lin1 (cx1 _) (.var 0) (.num 15) (.add (.var 0) (.num 1)) (.num 18446744073709551616) 1 1 rfl this.2⟩
theorem Lmp.Ok.smz {P : Lmp} (h : P.Ok) {i : Nat} (hi : i < 5) : Sm (P.z i) := by have := h.z i hi; exact ⟨by exact lin1 (cx1 _) (.num 0) (.var 0) (.add (.neg (.num 18446744073709551616)) (.num 1)) (.var 0) 1 1 rfl this.1, by exact lin1 (cx1 _) (.var 0) (.num 15) (.add (.var 0) (.num 1)) (.num 18446744073709551616) 1 1 rfl this.2⟩
theorem Lmp.Ok.at {P : Lmp} (h : P.Ok) {i : Nat} (hi : i < 5) (k : Nat) : 0 ≤ P.at i k ∧ P.at i k ≤ 15 := by
  match k with
  | 0 => exact h.x i hi
  | 1 => exact h.y i hi
  | 2 => exact h.z i hi
  | k + 3 => exact ⟨Int.le_refl 0, (by decide : (0 : Int) ≤ 15)⟩
theorem Lmp.Ok.sm {P : Lmp} (h : P.Ok) {i : Nat} (hi : i < 5) (k : Nat) : Sm (P.at i k) := by have := h.at hi k; exact ⟨by exact lin1 (cx1 _) (.num 0) (.var 0) (.add (.neg (.num 18446744073709551616)) (.num 1)) (.var 0) 1 1 rfl this.1, by exact lin1 (cx1 _) (.var 0) (.num 15) (.add (.var 0) (.num 1)) (.num 18446744073709551616) 1 1 rfl this.2⟩
theorem lt5 {k : Int} (_h0 : 0 ≤ k) (h5 : k < 5) : k.toNat < 5 := by exact gnlt (lin2 (cx2 _ _) (.add (.var 0) (.num 1)) (.num 5) (.var 1) (.var 0) (.add (.var 1) (.num 1)) (.num 5) 1 1 1 rfl h5 (tn2 (lin1 (cx1 _) (.num 0) (.var 0) (.num 0) (.var 0) 1 1 rfl _h0)))
theorem lamps_sub {P : Lmp} {lam : Addr} {nl : Nat} {k : Int} {u : Tok} {value slice : Expr} (N : News h₀ L s.heap news) (hm : (lam, P.all nl) ∈ news) (h0 : 0 ≤ k) (h5 : k < 5) (h : Q (.ref (P.l k.toNat)) s)
    (hs : subscripted slice false (.ref lam) (.int k u) = operate [.ref lam, .int k u] (getItem (.ref lam) (.int k u))) :
    wpAny (model prog w) A (subscriptTail value slice (.ref lam) (.int k u)) Q E s := by
  have hl : s.heap.IsList lam #[.ref (P.l 0), .ref (P.l 1), .ref (P.l 2), .ref (P.l 3), .ref (P.l 4)] := News.isList N hm
  refine tail_any hl.typeIs slot_list_getitem.lookup (wpAny_getItem_list hl h0 (by exact lin1 (cx1 _) (.add (.var 0) (.num 1)) (.num 5) (.add (.var 0) (.num 1)) (.num 9223372036854775808) 1 1 rfl h5) ?_ h) hs
  have : k.toNat = 0 ∨ k.toNat = 1 ∨ k.toNat = 2 ∨ k.toNat = 3 ∨ k.toNat = 4 := lin_or5 (by exact gnlt (lin2 (cx2 _ _) (.add (.var 0) (.num 1)) (.num 5) (.var 1) (.var 0) (.add (.var 1) (.num 1)) (.num 5) 1 1 1 rfl h5 (tn2 (lin1 (cx1 _) (.num 0) (.var 0) (.num 0) (.var 0) 1 1 rfl h0))))
  rcases this with e | e | e | e | e <;> rw [e] <;> rfl
theorem lamp_sub {P : Lmp} {i : Nat} {k : Int} {u : Tok} {value slice : Expr} (N : News h₀ L s.heap news) (hP : LampsIn P news) (hi : i < 5) (h0 : 0 ≤ k) (h3 : k < 3) (h : ∀ t, Q (.int (P.at i k.toNat) t) s)
    (hs : subscripted slice false (.ref (P.l i)) (.int k u) = operate [.ref (P.l i), .int k u] (getItem (.ref (P.l i)) (.int k u))) :
    wpAny (model prog w) A (subscriptTail value slice (.ref (P.l i)) (.int k u)) Q E s := by
  have hl : s.heap.IsList (P.l i) #[.int (P.x i) (P.tx i), .int (P.y i) (P.ty i), .int (P.z i) (P.tz i)] := News.isList N (hP i hi)
  have : k.toNat = 0 ∨ k.toNat = 1 ∨ k.toNat = 2 := lin_or3 (by exact gnlt (lin2 (cx2 _ _) (.add (.var 0) (.num 1)) (.num 3) (.var 1) (.var 0) (.add (.var 1) (.num 1)) (.num 3) 1 1 1 rfl h3 (tn2 (lin1 (cx1 _) (.num 0) (.var 0) (.num 0) (.var 0) 1 1 rfl h0))))
  refine tail_any hl.typeIs slot_list_getitem.lookup (wpAny_getItem_list (x := .int (P.at i k.toNat) ([P.tx i, P.ty i, P.tz i].getD k.toNat 0)) hl h0 (by exact lin1 (cx1 _) (.add (.var 0) (.num 1)) (.num 3) (.add (.var 0) (.num 1)) (.num 9223372036854775808) 1 1 rfl h3) ?_ (h _)) hs
  rcases this with e | e | e <;> rw [e] <;> rfl
theorem lit_sub {la : Addr} {vs : List Value} {na : Nat} {k : Int} {u : Tok} {v : Value} {value slice : Expr} (N : News h₀ L s.heap news) (hm : (la, W.listOf vs.toArray na) ∈ news) (h0 : 0 ≤ k) (hfit : k < 2 ^ 63) (hx : vs[k.toNat]? = some v)
    (h : Q v s)
    (hs : subscripted slice false (.ref la) (.int k u) = operate [.ref la, .int k u] (getItem (.ref la) (.int k u))) :
    wpAny (model prog w) A (subscriptTail value slice (.ref la) (.int k u)) Q E s :=
  tail_any (News.isList N hm).typeIs slot_list_getitem.lookup (wpAny_getItem_list (News.isList N hm) h0 hfit (by simpa using hx) h) hs
theorem ints_sub {la : Addr} {vs : List Value} {ns : List Int} {na : Nat} {k : Int} {u : Tok} {value slice : Expr} (N : News h₀ L s.heap news) (hm : (la, W.listOf vs.toArray na) ∈ news) (hI : IntsAre vs ns) (h0 : 0 ≤ k) (h1 : k < ns.length) (hfit : k < 2 ^ 63)
    (h : ∀ t, Q (.int (ns.getD k.toNat 0) t) s)
    (hs : subscripted slice false (.ref la) (.int k u) = operate [.ref la, .int k u] (getItem (.ref la) (.int k u))) (hg : ∀ r, letTemporaryGo value (.ref la) r = pure ()) :
    wpAny (model prog w) A (subscriptTail value slice (.ref la) (.int k u)) Q E s :=
  item_list_ints (News.isList N hm) hI h0 h1 hfit h hs hg
end
end Mine
end
noncomputable section
namespace Mine
open PySem.Calls
open PyProof.Rows.LCg
section
variable {prog : Program} {w : World} {A : Around} {E : Value → Shared → Prop} {s : Shared} {h₀ : Heap} {L : Addr} {m : Str → Option Value} {env : Env}
theorem rest_indG {elt : Expr} {x : Str} {scope : Scope} {cl : List (Str × Addr)} {S : List (Addr × Obj) → Prop} {P : Nat → Value → Prop} {Fin : List Value → List (Addr × Obj) → Prop} {news : List (Addr × Obj)} {n : Nat} (J : Nat → List Value → List (Addr × Obj) → Prop) (h0 : J 0 [] news)
    (turn : ∀ i ys news, i < n → J i ys news → ∀ v I oI C oC D m₂ h tk (E' : Value → Shared → Prop), P i v → NsObj oC m₂ → m₂ x = some v → Fr h₀ L h m → News h₀ L h ((I, oI) :: (C, oC) :: (D, lst ys) :: news) → Off3 I C D news → ((@Ne Nat I C) ∧ (@Ne Nat I D) ∧ (@Ne Nat C D)) →
      wpAny (model prog w) A (eval elt (compEnvC scope cl C env)) (CompEnd h₀ L m { s with heap := h, toks := tk } I oI C oC D (lst ys) S (fun y news' => J (i + 1) (ys ++ [y]) news')) E' { s with heap := h, toks := tk })
    (fin : ∀ ys news, J n ys news → Fin ys news) : CompRest prog w A h₀ L m env elt x scope cl s S P Fin n 0 [] news := by
  have key : ∀ j i ys news, i + j = n → J i ys news → CompRest prog w A h₀ L m env elt x scope cl s S P Fin j i ys news := by
    intro j
    induction j with
    | zero => intro i ys news e hJ; exact CompRest.zero (fin ys news (by rw [← e]; exact hJ))
    | succ j ih =>
      intro i ys news e hJ
      refine CompRest.succ ?_
      intro v I oI C oC D m₂ h tk E' hv hC hX F N off ne
      refine wpAny_mono (turn i ys news (by omega) hJ v I oI C oC D m₂ h tk E' hv hC hX F N off ne) (fun y s₁ h₁ => ?_) fun _ _ e => e
      obtain ⟨h', tk', news', e1, F', N', off', hS, hJ'⟩ := h₁
      exact ⟨h', tk', news', e1, F', N', off', hS, ih _ _ _ (by omega) hJ'⟩
  exact key n 0 [] news (Nat.zero_add n) h0
end
end Mine
end
noncomputable section
namespace Mine
open PySem.Calls
open PyProof.Rows.LCg
theorem ints_item {vs : List Value} {ns : List Int} (h : IntsAre vs ns) {j : Nat} {v : Value} (e : vs[j]? = some v) : ∃ n t, v = .int n t ∧ ns[j]? = some n := by
  have hj : j < ns.length := by
    rw [← h.length]
    exact (List.getElem?_eq_some_iff.mp e).1
  obtain ⟨t, ht⟩ := h.get j ns[j] (List.getElem?_eq_getElem hj)
  rw [ht] at e
  exact ⟨_, t, (Option.some.inj e).symm, List.getElem?_eq_getElem hj⟩
theorem ints_take {ns : List Int} {f : Int → Int} {zs : List Value} {j : Nat} {n y : Int} {t : Tok} (h : IntsAre zs ((ns.take j).map f)) (e : ns[j]? = some n) (hy : y = f n) : IntsAre (zs ++ [.int y t]) ((ns.take (j + 1)).map f) := by
  rw [List.take_add_one, e, List.map_append]
  exact IntsAre.append h (ints_one hy)
noncomputable def EndF (h₀ : Heap) (L : Addr) (m : Str → Option Value) (s : Shared) (news : List (Addr × Obj)) (J : Value → Prop) (y : Value) (s' : Shared) : Prop :=
  ∃ h' tk' all, s' = { s with heap := h', toks := tk' } ∧ Fr h₀ L h' m ∧ News h₀ L h' all ∧ (∀ p ∈ news, p ∈ all) ∧ J y
theorem EndF.intro {h₀ : Heap} {L : Addr} {m : Str → Option Value} {s : Shared} {news all : List (Addr × Obj)} {J : Value → Prop} {y : Value} {h' : Heap} {tk : Nat} (F : Fr h₀ L h' m) (N : News h₀ L h' all) (sub : ∀ p ∈ news, p ∈ all) (hJ : J y) : EndF h₀ L m s news J y { s with heap := h', toks := tk } := ⟨h', tk, all, rfl, F, N, sub, hJ⟩
theorem EndF.imp {h₀ : Heap} {L : Addr} {m : Str → Option Value} {s s' : Shared} {news : List (Addr × Obj)} {J J' : Value → Prop} {y : Value} (h : EndF h₀ L m s news J y s') (k : J y → J' y) : EndF h₀ L m s news J' y s' :=
  ob3 h fun h' tk all h => ⟨h', tk, all, h.1, h.2.1, h.2.2.1, h.2.2.2.1, k h.2.2.2.2⟩
theorem EndF.comp {h₀ : Heap} {L I C D : Addr} {m : Str → Option Value} {s s' : Shared} {news : List (Addr × Obj)} {oI oC oD : Obj} {S : List (Addr × Obj) → Prop} {r : Value → List (Addr × Obj) → Prop} {J : Value → Prop} {y : Value} (h : EndF h₀ L m s ((I, oI) :: (C, oC) :: (D, oD) :: news) J y s') (off : Off3 I C D news) (hS : S news) (k : J y → r y news) : CompEnd h₀ L m s I oI C oC D oD S r y s' :=
  ob3 h fun h' tk all h => ⟨h', tk, news, h.1, h.2.1, fun p hp => h.2.2.1 p (h.2.2.2.1 p hp), off, hS, k h.2.2.2.2⟩
theorem EndF.endC {h₀ : Heap} {L I C X D : Addr} {m : Str → Option Value} {s s' : Shared} {news : List (Addr × Obj)} {oI oC oX oD : Obj} {S : List (Addr × Obj) → Prop} {r : Value → List (Addr × Obj) → Prop} {J : Value → Prop} {y : Value} (h : EndF h₀ L m s ((I, oI) :: (C, oC) :: (X, oX) :: (D, oD) :: news) J y s') (off : Off4 I C X D news) (hS : S news) (k : J y → r y news) : EndC h₀ L m s I oI C oC X oX D oD S r y s' :=
  ob3 h fun h' tk all h => ⟨h', tk, news, h.1, h.2.1, fun p hp => h.2.2.1 p (h.2.2.2.1 p hp), off, hS, k h.2.2.2.2⟩
section
variable {prog : Program} {w : World} {A : Around} {E : Value → Shared → Prop} {s : Shared} {h₀ : Heap} {L : Addr} {m : Str → Option Value} {env : Env}
theorem rest_F {elt : Expr} {x : Str} {scope : Scope} {cl : List (Str × Addr)} {S : List (Addr × Obj) → Prop} {P : Nat → Value → Prop} {Fin : List Value → List (Addr × Obj) → Prop} {news : List (Addr × Obj)} {n : Nat} (J : Nat → List Value → Prop) (hS : S news) (h0 : J 0 [])
    (turn : ∀ (i : Nat) ys v I oI C oC D m₂ h tk (E' : Value → Shared → Prop), i < n → P i v → J i ys → NsObj oC m₂ → m₂ x = some v → Fr h₀ L h m → News h₀ L h ((I, oI) :: (C, oC) :: (D, lst ys) :: news) →
      wpAny (model prog w) A (eval elt (compEnvC scope cl C env)) (EndF h₀ L m { s with heap := h, toks := tk } ((I, oI) :: (C, oC) :: (D, lst ys) :: news) (fun y => J (i + 1) (ys ++ [y]))) E' { s with heap := h, toks := tk })
    (fin : ∀ ys, J n ys → Fin ys news) : CompRest prog w A h₀ L m env elt x scope cl s S P Fin n 0 [] news := by
  refine rest_indG (fun i ys nw => nw = news ∧ J i ys) ⟨rfl, h0⟩ ?_ fun ys nw h => h.1 ▸ fin ys h.2
  intro i ys nw hi hJ v I oI C oC D m₂ h tk E' hv hC hX F N off ne
  rw [hJ.1] at N off
  exact wpAny_mono (turn i ys v I oI C oC D m₂ h tk E' hi hv hJ.2 hC hX F N) (fun y s' hE => EndF.comp hE off hS fun hJ' => ⟨rfl, hJ'⟩) fun _ _ e => e
theorem rest_rangeF {elt : Expr} {x : Str} {scope : Scope} {cl : List (Str × Addr)} {S : List (Addr × Obj) → Prop} {Fin : List Value → List (Addr × Obj) → Prop} {news : List (Addr × Obj)} {n : Nat} (J : Nat → List Value → Prop) (hS : S news) (h0 : J 0 [])
    (turn : ∀ (i : Nat) ys (k : Int) t I oI C oC D m₂ h tk (E' : Value → Shared → Prop), i < n → k = (i : Int) → J i ys → NsObj oC m₂ → m₂ x = some (.int k t) → Fr h₀ L h m → News h₀ L h ((I, oI) :: (C, oC) :: (D, lst ys) :: news) →
      wpAny (model prog w) A (eval elt (compEnvC scope cl C env)) (EndF h₀ L m { s with heap := h, toks := tk } ((I, oI) :: (C, oC) :: (D, lst ys) :: news) (fun y => J (i + 1) (ys ++ [y]))) E' { s with heap := h, toks := tk })
    (fin : ∀ ys, J n ys → Fin ys news) : CompRest prog w A h₀ L m env elt x scope cl s S (fun i v => ∃ t, v = .int (0 + (i : Int)) t) Fin n 0 [] news := by
  refine rest_F J hS h0 (fun i ys v I oI C oC D m₂ h tk E' hi hv hJ hC hX F N => ?_) fin
  refine ob1 hv fun t ev => ?_
  rw [ev] at hX
  exact turn i ys _ t I oI C oC D m₂ h tk E' hi (Int.zero_add _) hJ hC hX F N
theorem rest_intsPF {elt : Expr} {x : Str} {scope : Scope} {cl : List (Str × Addr)} {S : List (Addr × Obj) → Prop} {Fin : List Value → List (Addr × Obj) → Prop} {news : List (Addr × Obj)} {vs : List Value} {ns : List Int} (hI : IntsAre vs ns) (f : Int → Int) (hS : S news)
    (turn : ∀ ys (k : Int) t I oI C oC D m₂ h tk (E' : Value → Shared → Prop), k ∈ ns → NsObj oC m₂ → m₂ x = some (.int k t) → Fr h₀ L h m → News h₀ L h ((I, oI) :: (C, oC) :: (D, lst ys) :: news) →
      wpAny (model prog w) A (eval elt (compEnvC scope cl C env)) (EndF h₀ L m { s with heap := h, toks := tk } ((I, oI) :: (C, oC) :: (D, lst ys) :: news) (fun y => ∃ u, y = .int (f k) u)) E' { s with heap := h, toks := tk })
    (fin : ∀ ys, IntsAre ys (ns.map f) → Fin ys news) : CompRest prog w A h₀ L m env elt x scope cl s S (fun i v => vs.toArray[i]? = some v) Fin vs.toArray.size 0 [] news := by
  refine rest_F (fun i ys => IntsAre ys ((ns.take i).map f)) hS .nil (fun i ys v I oI C oC D m₂ h tk E' hi hv hJ hC hX F N => ?_) fun ys h => fin ys ?_
  · refine ob2 (ints_item hI (j := i) (v := v) (by rw [← List.getElem?_toArray]; exact hv)) fun n t hn => ?_
    rw [hn.1] at hX
    exact wpAny_mono (turn ys n t I oI C oC D m₂ h tk E' (List.mem_of_getElem? hn.2) hC hX F N) (fun y s' hE => hE.imp fun hy => ob1 hy fun u hy => hy ▸ ints_take hJ hn.2 rfl) fun _ _ e => e
  · rw [List.size_toArray, hI.length, List.take_length] at h
    exact h
theorem rest_intsF {elt : Expr} {x : Str} {scope : Scope} {cl : List (Str × Addr)} {S : List (Addr × Obj) → Prop} {Fin : List Value → List (Addr × Obj) → Prop} {news : List (Addr × Obj)} {vs : List Value} {ns : List Int} (hI : IntsAre vs ns) (f : Int → Int) (hS : S news)
    (turn : ∀ ys (k : Int) t I oI C oC D m₂ h tk (E' : Value → Shared → Prop), NsObj oC m₂ → m₂ x = some (.int k t) → Fr h₀ L h m → News h₀ L h ((I, oI) :: (C, oC) :: (D, lst ys) :: news) →
      wpAny (model prog w) A (eval elt (compEnvC scope cl C env)) (EndF h₀ L m { s with heap := h, toks := tk } ((I, oI) :: (C, oC) :: (D, lst ys) :: news) (fun y => ∃ u, y = .int (f k) u)) E' { s with heap := h, toks := tk })
    (fin : ∀ ys, IntsAre ys (ns.map f) → Fin ys news) : CompRest prog w A h₀ L m env elt x scope cl s S (fun i v => vs.toArray[i]? = some v) Fin vs.toArray.size 0 [] news :=
  rest_intsPF hI f hS (fun ys k t I oI C oC D m₂ h tk E' _ hC hX F N => turn ys k t I oI C oC D m₂ h tk E' hC hX F N) fin
theorem restT_F {ct elt : Expr} {x : Str} {scope : Scope} {cl : List (Str × Addr)} {S : List (Addr × Obj) → Prop} {P : Nat → Value → Prop} {Fin : List Value → List (Addr × Obj) → Prop} {news : List (Addr × Obj)} {n : Nat} (J : Nat → List Value → Prop) (hS : S news) (h0 : J 0 [])
    (turn : ∀ (i : Nat) ys v I oI C oC D m₂ h tk (E' : Value → Shared → Prop), i < n → P i v → J i ys → NsObj oC m₂ → m₂ x = some v → Fr h₀ L h m → News h₀ L h ((I, oI) :: (C, oC) :: (D, lst ys) :: news) →
      wpAny (model prog w) A (isTrue ct (compEnvC scope cl C env) (eval ct (compEnvC scope cl C env))) (fun ok s' => if ok = true then
        wpAny (model prog w) A (eval elt (compEnvC scope cl C env)) (EndF h₀ L m { s with heap := h, toks := tk } ((I, oI) :: (C, oC) :: (D, lst ys) :: news) (fun y => J (i + 1) (ys ++ [y]))) E' s'
        else EndF h₀ L m { s with heap := h, toks := tk } ((I, oI) :: (C, oC) :: (D, lst ys) :: news) (fun _ => J (i + 1) ys) Value.none s') E' { s with heap := h, toks := tk })
    (fin : ∀ ys, J n ys → Fin ys news) : LCt.CompRestT prog w A h₀ L m env ct elt x scope cl s S P Fin n 0 [] news := by
  have key : ∀ j i ys, i + j = n → J i ys → LCt.CompRestT prog w A h₀ L m env ct elt x scope cl s S P Fin j i ys news := by
    intro j
    induction j with
    | zero => intro i ys e hJ; exact LCt.CompRestT.zero (fin ys ((Nat.add_zero i).symm.trans e ▸ hJ))
    | succ j ih =>
      intro i ys e hJ
      have e1 : i + 1 + j = n := (Nat.succ_add_eq_add_succ i j).trans e
      refine LCt.CompRestT.succ ?_
      intro v I oI C oC D m₂ h tk E' hv hC hX F N off ne
      refine wpAny_mono (turn i ys v I oI C oC D m₂ h tk E' (e1 ▸ Nat.le_add_right _ _) hv hJ hC hX F N) (fun ok s₁ h₁ => ?_) fun _ _ e => e
      cases ok with
      | true =>
        refine wpAny_mono h₁ (fun y s₂ h₂ => ?_) fun _ _ e => e
        exact EndF.comp h₂ off hS (ih _ _ e1)
      | false =>
        have h₂ : EndF h₀ L m { s with heap := h, toks := tk } ((I, oI) :: (C, oC) :: (D, lst ys) :: news) (fun _ => J (i + 1) ys) Value.none s₁ := h₁
        exact EndF.comp (r := fun _ nw => LCt.CompRestT prog w A h₀ L m env ct elt x scope cl s S P Fin j (i + 1) ys nw) h₂ off hS (ih _ _ e1)
  exact key n 0 [] (Nat.zero_add n) h0
theorem RestC.rangeF {elt : Expr} {x : Str} {scope : Scope} {cl : List (Str × Addr)} {S : List (Addr × Obj) → Prop} {Fin : List Value → List (Addr × Obj) → Prop} {news : List (Addr × Obj)} {n : Nat} (J : Nat → List Value → Prop) (hS : S news) (h0 : J 0 [])
    (turn : ∀ (i : Nat) ys (k : Int) t I oI C oC X oX D h tk (E' : Value → Shared → Prop), i < n → k = (i : Int) → J i ys → oX.data = .cell (some (.int k t)) → Fr h₀ L h m → News h₀ L h ((I, oI) :: (C, oC) :: (X, oX) :: (D, lst ys) :: news) →
      wpAny (model prog w) A (eval elt (compEnvC scope ((x, X) :: cl) C env)) (EndF h₀ L m { s with heap := h, toks := tk } ((I, oI) :: (C, oC) :: (X, oX) :: (D, lst ys) :: news) (fun y => J (i + 1) (ys ++ [y]))) E' { s with heap := h, toks := tk })
    (fin : ∀ ys, J n ys → Fin ys news) : RestC prog w A h₀ L m env [] elt x scope cl s S (fun i v => ∃ t, v = .int (0 + (i : Int)) t) Fin n 0 [] news := by
  have key : ∀ j i ys, i + j = n → J i ys → RestC prog w A h₀ L m env [] elt x scope cl s S (fun i v => ∃ t, v = .int (0 + (i : Int)) t) Fin j i ys news := by
    intro j
    induction j with
    | zero => intro i ys e hJ; exact RestC.zero (fin ys ((Nat.add_zero i).symm.trans e ▸ hJ))
    | succ j ih =>
      intro i ys e hJ
      have e1 : i + 1 + j = n := (Nat.succ_add_eq_add_succ i j).trans e
      refine RestC.succ ?_
      intro v I oI C oC X oX D h tk E' hv hX F N off ne
      refine wpAny_tests_nil ?_
      refine ob1 hv fun t ev => ?_
      rw [ev] at hX
      exact wpAny_mono (turn i ys _ t I oI C oC X oX D h tk E' (e1 ▸ Nat.le_add_right _ _) (Int.zero_add _) hJ hX F N) (fun y s₁ h₁ => EndF.endC h₁ off hS (ih _ _ e1)) fun _ _ e => e
  exact key n 0 [] (Nat.zero_add n) h0
theorem restT_none {ct elt : Expr} {x : Str} {scope : Scope} {cl : List (Str × Addr)} {S : List (Addr × Obj) → Prop} {P : Nat → Value → Prop} {Fin : List Value → List (Addr × Obj) → Prop} {news : List (Addr × Obj)} {n : Nat} (hS : S news)
    (turn : ∀ (i : Nat) v I oI C oC D m₂ h tk (E' : Value → Shared → Prop), i < n → P i v → NsObj oC m₂ → m₂ x = some v → Fr h₀ L h m → News h₀ L h ((I, oI) :: (C, oC) :: (D, lst []) :: news) →
      wpAny (model prog w) A (isTrue ct (compEnvC scope cl C env) (eval ct (compEnvC scope cl C env))) (fun ok s' => ok = false ∧ EndF h₀ L m { s with heap := h, toks := tk } ((I, oI) :: (C, oC) :: (D, lst []) :: news) (fun _ => True) Value.none s') E' { s with heap := h, toks := tk })
    (fin : Fin [] news) : LCt.CompRestT prog w A h₀ L m env ct elt x scope cl s S P Fin n 0 [] news := by
  refine restT_F (fun _ ys => ys = []) hS rfl (fun i ys v I oI C oC D m₂ h tk E' hi hv hJ hC hX F N => ?_) fun ys e => e ▸ fin
  rw [hJ] at N ⊢
  refine wpAny_mono (turn i v I oI C oC D m₂ h tk E' hi hv hC hX F N) (fun ok s' hr => ?_) fun _ _ e => e
  rw [hr.1]
  have h₂ : EndF h₀ L m { s with heap := h, toks := tk } ((I, oI) :: (C, oC) :: (D, lst []) :: news) (fun _ => ([] : List Value) = []) Value.none s' := hr.2.imp fun _ => rfl
  exact h₂
theorem RestC.noneF {ct elt : Expr} {x : Str} {scope : Scope} {cl : List (Str × Addr)} {S : List (Addr × Obj) → Prop} {P : Nat → Value → Prop} {Fin : List Value → List (Addr × Obj) → Prop} {news : List (Addr × Obj)} {n : Nat} (hS : S news)
    (turn : ∀ (i : Nat) v I oI C oC X oX D h tk (E' : Value → Shared → Prop), i < n → P i v → oX.data = .cell (some v) → Fr h₀ L h m → News h₀ L h ((I, oI) :: (C, oC) :: (X, oX) :: (D, lst []) :: news) →
      wpAny (model prog w) A (isTrue ct (compEnvC scope ((x, X) :: cl) C env) (eval ct (compEnvC scope ((x, X) :: cl) C env))) (fun ok s' => ok = false ∧ EndF h₀ L m { s with heap := h, toks := tk } ((I, oI) :: (C, oC) :: (X, oX) :: (D, lst []) :: news) (fun _ => True) Value.none s') E' { s with heap := h, toks := tk })
    (fin : Fin [] news) : RestC prog w A h₀ L m env [ct] elt x scope cl s S P Fin n 0 [] news := by
  have key : ∀ j i, i + j = n → RestC prog w A h₀ L m env [ct] elt x scope cl s S P Fin j i [] news := by
    intro j
    induction j with
    | zero => intro i e; exact RestC.zero fin
    | succ j ih =>
      intro i e
      have e1 : i + 1 + j = n := (Nat.succ_add_eq_add_succ i j).trans e
      refine RestC.succ ?_
      intro v I oI C oC X oX D h tk E' hv hX F N off ne
      refine wpAny_tests_one ?_
      refine wpAny_mono (turn i v I oI C oC X oX D h tk E' (e1 ▸ Nat.le_add_right _ _) hv hX F N) (fun ok s₁ hr => ?_) fun _ _ e => e
      rw [hr.1]
      exact EndF.endC (r := fun _ nw => RestC prog w A h₀ L m env [ct] elt x scope cl s S P Fin j (i + 1) [] nw) hr.2 off hS fun _ => ih _ e1
  exact key n 0 (Nat.zero_add n)
end
end Mine
end
noncomputable section
namespace Mine
open PySem.Calls
open PyProof.Rows.LCg
local macro_rules | `(tactic| walk_at "exec While Name cons nil") => `(tactic| (k_here; with_reducible refine halt_in ?_))
noncomputable def apG (f : Nat) : Nat → List Int := Nat.rec (fun _ => []) (fun _ ih n => if n = 0 then [] else ih (n / 16) ++ [65 + ((n % 16 : Nat) : Int)]) f
noncomputable def apD (n : Nat) : List Int := apG n n
theorem apD_zero : apD 0 = [] := rfl
theorem apG_zero : ∀ f, apG f 0 = []
  | 0 => rfl
  | _ + 1 => rfl
theorem apG_irr (f : Nat) : ∀ g n, n ≤ f → n ≤ g → apG f n = apG g n := by
  induction f with
  | zero =>
    intro g n h _
    rw [Nat.le_zero.mp h, apG_zero, apG_zero]
  | succ f ih =>
    intro g n h k
    cases g with
    | zero => rw [Nat.le_zero.mp k, apG_zero, apG_zero]
    | succ g =>
      show (if n = 0 then [] else apG f (n / 16) ++ _) = (if n = 0 then [] else apG g (n / 16) ++ _)
      by_cases hn : n = 0
      · rw [if_pos hn, if_pos hn]
      · have hl : n / 16 < n := Nat.div_lt_self (Nat.pos_of_ne_zero hn) (by decide)
        rw [if_neg hn, if_neg hn, ih g (n / 16) (Nat.le_of_lt_succ (Nat.lt_of_lt_of_le hl h)) (Nat.le_of_lt_succ (Nat.lt_of_lt_of_le hl k))]
theorem apD_suc (n : Nat) : apD (n + 1) = apD ((n + 1) / 16) ++ [65 + (((n + 1) % 16 : Nat) : Int)] := by
  show apG n ((n + 1) / 16) ++ _ = _
  rw [apG_irr n ((n + 1) / 16) ((n + 1) / 16) (Nat.le_of_lt_succ (Nat.div_lt_self (Nat.succ_pos n) (by decide))) (Nat.le_refl _)]
  rfl
theorem ne_nv : Str.ofString "num" ≠ Str.ofString "val" := by decide +kernel
theorem ne_nm : Str.ofString "num" ≠ Str.ofString "mod" := by decide +kernel
theorem ne_av : Str.ofString "AP" ≠ Str.ofString "val" := by decide +kernel
theorem ne_am : Str.ofString "AP" ≠ Str.ofString "mod" := by decide +kernel
theorem ne_an : Str.ofString "AP" ≠ Str.ofString "num" := by decide +kernel
theorem apD_step {num : Int} (h0 : 0 ≤ num) (h1 : num ≠ 0) : apD num.toNat = apD (num.fdiv 16).toNat ++ [65 + num.fmod 16] := by
  rw [Int.fdiv_eq_ediv_of_nonneg _ (by decide), Int.fmod_eq_emod_of_nonneg _ (by decide)]
  obtain ⟨k, hk⟩ : ∃ k : Nat, num.toNat = k + 1 := ⟨num.toNat - 1, by omega⟩
  have e : num = ((k + 1 : Nat) : Int) := by omega
  subst e
  rw [Int.toNat_natCast, apD_suc]
  have e1 : (((k + 1 : Nat) : Int) / 16).toNat = (k + 1) / 16 := by omega
  have e2 : (((k + 1 : Nat) : Int) % 16) = (((k + 1) % 16 : Nat) : Int) := by omega
  rw [e1, e2]
theorem ap_cut {m : Int} (h0 : 0 ≤ m) (h1 : m < 16) : ((([65, 66, 67, 68, 69, 70, 71, 72, 73, 74, 75, 76, 77, 78, 79, 80] : List Int).drop ((some m).elim 0 (clipAt ([65, 66, 67, 68, 69, 70, 71, 72, 73, 74, 75, 76, 77, 78, 79, 80] : List Int).length))).take ((some (m + 1)).elim ([65, 66, 67, 68, 69, 70, 71, 72, 73, 74, 75, 76, 77, 78, 79, 80] : List Int).length (clipAt ([65, 66, 67, 68, 69, 70, 71, 72, 73, 74, 75, 76, 77, 78, 79, 80] : List Int).length) - (some m).elim 0 (clipAt ([65, 66, 67, 68, 69, 70, 71, 72, 73, 74, 75, 76, 77, 78, 79, 80] : List Int).length))) = [65 + m] := by
  obtain ⟨k, rfl⟩ := Int.eq_ofNat_of_zero_le h0
  have hk : k < 16 := Int.ofNat_lt.mp h1
  clear h0 h1
  revert k
  decide +kernel
theorem ap_ok (w : World) (n : Int) (tn : Tok)  (news : List (Addr × Obj)) (hn : 0 ≤ n ∧ n < 65536) :
   Ctr w 1 20 57 [.int n tn] news (fun _ v add => add = [] ∧ ∃ b t, v = .bytes b t ∧ KBw.bInts b = apD n.toNat) := by
  intro mean mg mb dp un gd cn cs a ccd cl outer A₀ base h₀ L m s Q E B F X N T hk hd hu hret
  (refine wpAny_call ?_; k_dflt (refine' enterP (news₀ := news) ?k1 ?k2 ?k3 ?k4 ?k5 ?kS ?kA ?kF ?kK ?k6 ?k7 ?k8 ?k9 ?kB ?_ ?c2 ?c3 ?c4 ?c5; (case kA => exact rfl); (case kF => exact rfl); (case kK => assumption); (case k1 => k_asm); (case k2 => k_asm); (case k3 => k_asm); (case k4 => k_asm); (case k5 => k_asm); (case kS => first | exact fun _ h => h | exact List.forall_mem_nil _ | (intro p hp; simp only [List.mem_cons, List.not_mem_nil, or_false] at hp; rcases hp with rfl | hp <;> first | assumption | (rcases hp with rfl | hp <;> first | assumption | (rcases hp with rfl | hp <;> first | assumption | (rcases hp with rfl | hp <;> first | assumption | (rcases hp with rfl | hp <;> first | assumption | (rcases hp with rfl | hp <;> first | assumption | (rcases hp with rfl | hp <;> first | assumption | (rcases hp with rfl | hp <;> first | assumption | (subst hp; assumption))))))))) | (intro p hp; simp only [List.mem_cons, List.not_mem_nil, or_false] at hp; subst hp; assumption)); (case k6 => k_is); (case k7 => k_is); (case k8 => ktr_room); (case k9 => exact BindsTo.of_eq rfl); (case c5 => decide); (case kB => exact locs rfl); (case c2 => exact rfl); (case c3 => exact rfl); (case c4 => exact rfl); k_whole; intro g' L' h' FG' F' N' B' X' T' lt' old'; (try dsimp only); (try k_fold); refine wpLB ?_; intro Ax Qx))
  k_steps
  refine Halt.out ?_
  refine While_inv (fun k m₁ news₁ => news₁ = news ∧ ∃ num b ns t t' t'', m₁ (Str.ofString "num") = some (.int num t) ∧ m₁ (Str.ofString "val") = some (.bytes b t') ∧ m₁ (Str.ofString "AP") = some (.bytes #[65, 66, 67, 68, 69, 70, 71, 72, 73, 74, 75, 76, 77, 78, 79, 80] t'') ∧ KBw.bInts b = ns ∧ 0 ≤ num ∧ num < 65536 ∧ k = num.toNat ∧ apD n.toNat = apD num.toNat ++ ns ∧ ns.length + num.toNat ≤ 65536) (n₀ := n.toNat) (by k_asm) (by k_asm) ?_ ?_
  · refine ⟨rfl, n, #[], [], _, _, _, nm_here.trans (int_eq (if_neg (by exact ginlt (lin1 (cx1 _) (.num 0) (.var 0) (.num 0) (.var 0) 1 1 rfl hn.1)))), rfl, rfl, rfl, hn.1, hn.2, rfl, (List.append_nil _).symm, by simp only [List.length_nil]; exact gnle (lin2 (cx2 _ _) (.add (.var 0) (.num 1)) (.num 65536) (.var 1) (.var 0) (.add (.num 0) (.var 1)) (.num 65536) 1 1 1 rfl hn.2 (tn2 (lin1 (cx1 _) (.num 0) (.var 0) (.num 0) (.var 0) 1 1 rfl hn.1)))⟩
  · rintro k m₁ news₁ h₁ tk₁ F₁ N₁ ⟨rfl, num, b, ns, t, t', t'', e1, e2, e3, hb, h0, h1, rfl, hap, hlen⟩
    repeat' (first
      | ((with_reducible show wpAny _ _ (eval (Expr.Name _ _) _) _ _ _); k_dflt (refine' ld ?k1_1 ?k2_1 ?_; (case k1_1 => k_asm); (case k2_1 => (try dsimp only); (repeat' ((show (_ : Option Value) = some _); first | (with_reducible assumption) | exact nm_here | (refine' nm_skip ?hne_1 ?_; (case hne_1 => decide +kernel)))); done); k_whole))
      | (k_unfold; (try dsimp only)) | (k_end; wrow_close) | walk1 | (dsimp only; walk1) | (leave1; try dsimp only))
    · refine KBc.slice_K (s := ⟨_, _, _, _, _⟩) (by k_asm) (by k_asm) (ks := [65, 66, 67, 68, 69, 70, 71, 72, 73, 74, 75, 76, 77, 78, 79, 80]) rfl (.int _ _) (.int _ _) (by decide) ?_
      intro h8 t8 k8 F8 N8 hk8
      rw [ap_cut (by rw [Int.fmod_eq_emod_of_nonneg _ (by decide)]; exact lin1 (cx1 _) (.num 0) (.var 0) (.num 0) (.var 0) 1 1 rfl (md1 _ (by decide))) (by rw [Int.fmod_eq_emod_of_nonneg _ (by decide)]; exact lin1 (cx1 _) (.add (.var 0) (.num 1)) (.num 16) (.add (.var 0) (.num 1)) (.num 16) 1 1 rfl (md2 _ (by decide)))] at hk8
      repeat' (first
        | ((with_reducible show wpAny _ _ (eval (Expr.Name _ _) _) _ _ _); k_dflt (refine' ld ?k1_2 ?k2_2 ?_; (case k1_2 => k_asm); (case k2_2 => (try dsimp only); (repeat' ((show (_ : Option Value) = some _); first | (with_reducible assumption) | exact nm_here | (refine' nm_skip ?hne_2 ?_; (case hne_2 => decide +kernel)))); done); k_whole))
        | (k_unfold; (try dsimp only)) | (k_end; wrow_close) | walk1 | (dsimp only; walk1) | (leave1; try dsimp only))
      refine WhileStep.intro (n' := (num.fdiv 16).toNat) (by k_asm) (fun p hp => (by k_asm : News _ _ _ _) p (List.mem_cons_of_mem _ hp)) (by rw [Int.fdiv_eq_ediv_of_nonneg _ (by decide)]; omega) ⟨rfl, num.fdiv 16, _, _, _, _, _, nm_skip ne_nv (nm_skip ne_nm nm_here), nm_here, nm_skip ne_av (nm_skip ne_am (nm_skip ne_an e3)), KBw.ints_app hk8 hb, ?_, ?_, rfl, ?_, ?_⟩
      · rw [Int.fdiv_eq_ediv_of_nonneg _ (by decide)]; exact lin3 (cx3 _ _ _) (.num 0) (.var 0) (.add (.var 1) (.num 1)) (.num 16) (.var 0) (.add (.var 1) (.mulL 16 (.var 2))) (.num 0) (.var 2) 1 1 1 16 rfl h0 (md2 _ (by decide)) (md4 _ _)
      · rw [Int.fdiv_eq_ediv_of_nonneg _ (by decide)]; exact lin3 (cx3 _ _ _) (.add (.var 0) (.num 1)) (.num 65536) (.num 0) (.var 1) (.add (.var 1) (.mulL 16 (.var 2))) (.var 0) (.add (.var 2) (.num 1)) (.num 65536) 1 1 1 16 rfl h1 (md1 _ (by decide)) (md3 _ _)
      · rw [hap, apD_step h0 (by omega)]; simp only [List.append_assoc]
      · rw [Int.fdiv_eq_ediv_of_nonneg _ (by decide)]; simp only [List.length_append, List.length_cons, List.length_nil]; omega
    · subst_vars
      exact ⟨_, _, _, by k_asm, by k_asm, fun p hp => hp, fun F N => hret _ [] _ _ ⟨rfl, b, t', rfl, by rw [hap]; simp [apD_zero]⟩ F (pick0 N)⟩
theorem ap_c {w : World} {n : Int} {tn : Tok} {news : List (Addr × Obj)} (hn : 0 ≤ n ∧ n < 65536) :
   CtrC w 1 20 57 [.int n tn] news (fun K => ∀ b t, KBw.bInts b = apD n.toNat → K (.bytes b t) []) :=
  Ctr.toC (fun K => ∀ b t, KBw.bInts b = apD n.toNat → K (.bytes b t) []) (ap_ok w n tn news hn) (by intro K h _ _ _ R9; obtain ⟨e1, b, t, e2, l⟩ := R9; subst e1 e2; exact h b t l)
end Mine
end
noncomputable section
namespace Mine
open PySem.Calls
open PyProof.Rows.LCg
noncomputable def lampZ (p n : Int) (k : Int) : Int := if k = p.fmod 3 then [(n.fdiv 64).fmod 8, (n.fdiv 8).fmod 8, n.fmod 8].getD k.toNat 0 + 8 else [(n.fdiv 64).fmod 8, (n.fdiv 8).fmod 8, n.fmod 8].getD k.toNat 0 + 0
theorem lamp_ok (w : World) (p n : Int) (tp tn : Tok) (news : List (Addr × Obj)) (hp : 0 ≤ p ∧ p < 5)
   (hn : 0 ≤ n ∧ n < 4608) :
   Ctr w 1 8 222 [.int p tp, .int n tn] news (fun _ v add => ∃ q t0 t1 t2 k, v = .ref q ∧ add = [(q, W.listOf #[.int (lampZ p n 0) t0, .int (lampZ p n 1) t1, .int (lampZ p n 2) t2] k)] ∧ Off1 q news) := by
  intro mean mg mb dp un gd cn cs a ccd cl outer A₀ base h₀ L m s Q E B F X N T hk hd hu hret
  (refine wpAny_call ?_; k_dflt (refine' enterPC (news₀ := []) ?k1 ?k2 ?k3 ?k4 ?k5 ?kS ?kA ?kF ?kK ?k6 ?k7 ?k8 ?k9 ?kB ?kD ?_ ?c2 ?c3 ?c4; (case kA => exact rfl); (case kF => exact rfl); (case kK => assumption); (case k1 => k_asm); (case k2 => k_asm); (case k3 => k_asm); (case k4 => k_asm); (case k5 => k_asm); (case kS => first | exact fun _ h => h | exact List.forall_mem_nil _ | (intro p hp; simp only [List.mem_cons, List.not_mem_nil, or_false] at hp; rcases hp with rfl | hp <;> first | assumption | (rcases hp with rfl | hp <;> first | assumption | (rcases hp with rfl | hp <;> first | assumption | (rcases hp with rfl | hp <;> first | assumption | (rcases hp with rfl | hp <;> first | assumption | (rcases hp with rfl | hp <;> first | assumption | (rcases hp with rfl | hp <;> first | assumption | (rcases hp with rfl | hp <;> first | assumption | (subst hp; assumption))))))))) | (intro p hp; simp only [List.mem_cons, List.not_mem_nil, or_false] at hp; subst hp; assumption)); (case k6 => k_is); (case k7 => k_is); (case k8 => ktr_room); (case k9 => exact BindsTo.of_eq rfl); (case kB => exact rfl); (case kD => decide); (case c2 => exact rfl); (case c3 => exact rfl); (case c4 => exact rfl); k_whole; intro g' L' h' tk' cells' FG' F' N' Y' B' X' T' lt' old'; (try dsimp only); k_cells Y'; (try simp only [List.cons_append, List.nil_append, List.append_nil] at N'); (try k_fold); refine wpLA ?_; intro Ax Qx Ex))
  repeat' (first
    | ((with_reducible show wpAny _ _ (subscriptTail _ _ (Value.ref _) (Value.int _ _)) _ _ _); k_dflt ((with_unfolding_all (refine' ints_sub ?kn_1 ?km_1 ?k2_1 ?k3_1 ?k4_1 ?k5_1 ?_ ?k8_1 ?k9_1)); (case kn_1 => k_asm); (case km_1 => k_mem); (case k2_1 => with_reducible l_ints); (case k8_1 => with_unfolding_all rfl); (case k9_1 => intro _; with_unfolding_all rfl); (case k3_1 => first | decide | (with_reducible assumption)); (case k4_1 => first | (simp only [List.length_cons, List.length_nil]; decide) | (exact Int.lt_of_lt_of_le (by with_reducible assumption) (by simp only [List.length_cons, List.length_nil]; decide))); (case k5_1 => first | decide | (exact Int.lt_of_lt_of_le (by with_reducible assumption) (by decide))); k_whole; intro _))
    | (k_unfold; (try dsimp only)) | (k_end; wrow_close) | walk1 | (dsimp only; walk1) | (leave1; try dsimp only))
  obtain ⟨t0, t1, t2, e8⟩ := ints3 (a := lampZ p n 0) (b := lampZ p n 1) (c := lampZ p n 2) (by assumption)
  subst e8
  refine ⟨_, _, _, by k_asm, by k_asm, (fun p hp => absurd hp List.not_mem_nil), fun F N => hret _ [_] _ _ ⟨_, t0, t1, t2, 3, rfl, rfl, off_old old' ?_⟩ F (pick1 N)⟩
  exact (by k_asm : News g' L' _ (_ :: _)) _ List.mem_cons_self |>.2.2
theorem lamp_c {w : World} {p n : Int} {tp tn : Tok} {news : List (Addr × Obj)} (hp : 0 ≤ p ∧ p < 5) (hn : 0 ≤ n ∧ n < 4608) :
   CtrC w 1 8 222 [.int p tp, .int n tn] news (fun K => ∀ q t0 t1 t2 k, Off1 q news → K (.ref q) [(q, W.listOf #[.int (lampZ p n 0) t0, .int (lampZ p n 1) t1, .int (lampZ p n 2) t2] k)]) :=
  Ctr.toC (fun K => ∀ q t0 t1 t2 k, Off1 q news → K (.ref q) [(q, W.listOf #[.int (lampZ p n 0) t0, .int (lampZ p n 1) t1, .int (lampZ p n 2) t2] k)]) (lamp_ok w p n tp tn news hp hn) (by intro K h _ _ _ R9; obtain ⟨q, t0, t1, t2, n, e1, e2, l⟩ := R9; subst e1 e2; exact h q t0 t1 t2 n l)
end Mine
end
noncomputable section
namespace Mine
open PySem.Calls
open PyProof.Rows.LCg
noncomputable def LeaveM (h₀ : Heap) (L : Addr) (m : Str → Option Value) (g : Heap) (rest : List (Addr × Obj)) (R : Result → Shared → Prop) (v : Value) (s' : Shared) : Prop :=
  ∃ L' m' news', Fr g L' s'.heap m' ∧ News g L' s'.heap news' ∧ (Fr h₀ L s'.heap m → News h₀ L s'.heap (news' ++ rest) → R (.ok (.ret v)) s')
section
variable {prog : Program} {w : World} {A₀ A : Around} {s : Shared} {base h₀ : Heap} {outer : List Env} {L : Addr} {m : Str → Option Value} {env : Env} {chg rest : List (Addr × Obj)} {K : Frag}
  {R : Result → Shared → Prop} {name qual : Str} {params : Arguments} {body : List Stmt} {scope : Scope} {dV kV doc pm cdv ct oc : Value} {an od : Option Addr} {osl : Array (Option Value)} {f : Addr} {args : Args} {binds : List (Str × Value)}
  {p : Program} {loose : List Str} {mean : ExcName → Option Value} {mg mb : Str → Option Value}
theorem leaveM_R (Nm : News h₀ L s.heap chg) (Nr : News h₀ L s.heap rest) (F : Fr h₀ L s.heap m) (hd : ∀ p ∈ rest, p.1 ∉ chg.map (·.1)) {v : Value} {s' : Shared} (hl : LeaveM h₀ L m (hideAll s.heap (chg.map (·.1))) rest R v s') : R (.ok (.ret v)) s' := by
  obtain ⟨L', m', news', F', N', k⟩ := hl
  have keepOld : ∀ b o, b ∉ chg.map (·.1) → s.heap.get? b = some o → s'.heap.get? b = some o := fun b o hb e => F'.keep b o (hideAll_get _ e hb)
  obtain ⟨oL, es, ep, hL, hLd, hLk, hLf⟩ := F.ns
  have nL : L ∉ chg.map (·.1) := fun q => by
    obtain ⟨p, hp, e⟩ := List.mem_map.mp q
    exact (Nm p hp).2.1 e
  have nOld : ∀ b o, h₀.get? b = some o → b ∉ chg.map (·.1) := fun b o e q => by
    obtain ⟨p, hp, rfl⟩ := List.mem_map.mp q
    rw [(Nm p hp).2.2] at e; cases e
  refine k ⟨⟨oL, es, ep, keepOld L oL nL hL, hLd, hLk, hLf⟩, fun b o e => keepOld b o (nOld b o e) (F.keep b o e), F.above⟩ ?_
  intro p hp
  rcases List.mem_append.mp hp with hp | hp
  · refine ⟨(N' p hp).1, fun q => ?_, ?_⟩
    · have h1 := (N' p hp).2.2
      rw [q, hideAll_get _ hL nL] at h1; cases h1
    · cases q : h₀.get? p.1 with
      | none => rfl
      | some o =>
        have h1 := (N' p hp).2.2
        rw [hideAll_get _ (F.keep _ _ q) (nOld _ _ q)] at h1; cases h1
  · exact ⟨keepOld _ _ (hd p hp) (Nr p hp).1, (Nr p hp).2⟩

theorem enterM (B : Below A₀ base outer h₀) (F : Fr h₀ L s.heap m) (X₀ : K.In h₀) (Nm : News h₀ L s.heap chg) (Nr : News h₀ L s.heap rest) (hd : ∀ p ∈ rest, p.1 ∉ chg.map (·.1)) (T : Top p loose mean mg mb h₀) (hA : A.frames = some (env :: outer)) (hf : env.frame = some L) (hke : env.scope.kind = .function)
    (ho : K.lookup f = some ⟨oc, od, .func (fnOf name qual params body scope dV kV doc pm an cdv ct), osl⟩) (hcd : codeIn K cdv qual = true) (hroom : A.depth < recursionLimit)
    (hbind : BindsTo s (fnOf name qual params body scope dV kV doc pm an cdv ct) args binds) (hloc : ∀ y ∈ binds, scope.names.lookup y.1 = some .local)
    (h : ∀ g L' h₁, Fr h₀ L g m → Fr g L' h₁ (fun y => binds.reverse.lookup y) → News g L' h₁ chg → Below A base (env :: outer) g → K.In g → Top p loose mean mg mb g → (∀ p ∈ chg, p.1 < L') → (∀ p ∈ rest, p.1 < L') → (∀ p ∈ rest, g.get? p.1 = some p.2) →
      wpAny (model prog w) (A.deeper (envOf qual scope L' f cdv)) (execs body (envOf qual scope L' f cdv))
        (fun fl s' => LeaveM h₀ L m g rest R (match fl with | .ret v => v | _ => .none) s')
        (fun e s' => wpAny (model prog w) (A.deeper (envOf qual scope L' f cdv)) (leaving (envOf qual scope L' f cdv) e) (fun _ s'' => R (.error e) s'') (fun e' s'' => R (.error e') s'') s')
        { s with heap := h₁, toks := s.toks + binds.length })
    (hco : scope.isCoroutine = false) (hgen : scope.isGenerator = false) (hk : scope.kind = .function)
    (hcell : ∀ x ∈ scope.names, x.2 ≠ .cell) : codeAny (model prog w) A (.call (.ref f) args) R s := by
  obtain ⟨FG, BG, st, _⟩ := groundX (R := R) B F Nm hA hf hke
  refine codeAny_call_def (fd := fnOf name qual params body scope dV kV doc pm an cdv ct) (body := body) (binds := binds) hroom ((X₀.keeps F.keep) _ _ ho) rfl (T.nolimit.keeps F.keep) (codeRec_of (X₀.keeps F.keep) hcd) rfl hbind hcell hloc (fun h₁ hns hk₁ => ?_) hco hgen hk
  exact wpAny_mono (h _ s.heap.objs.size h₁ FG ⟨hns, fun b o e => hk₁ b o (of_hideAll _ e), Nat.le_of_eq (hideAll_size _ _)⟩
    (fun p hp => ⟨hk₁ _ _ (Nm p hp).1, Nat.ne_of_lt (Heap.lt_size (Nm p hp).1), hideAll_none _ (List.mem_map_of_mem hp)⟩) BG (X₀.keeps st) (T.keeps st) (fun p hp => Heap.lt_size (Nm p hp).1) (fun p hp => Heap.lt_size (Nr p hp).1) (fun p hp => hideAll_get _ (Nr p hp).1 (hd p hp))) (fun fl s' hl => leaveM_R Nm Nr F hd hl) fun _ _ y => y
end
end Mine
end
noncomputable section
namespace Mine
open PySem.Calls PySem.F
theorem slot_re_search : Slot "re.Pattern" "search" "re.Pattern.search" :=
  .of (owner := "re.Pattern") (n := "search") (by rw [typeLookup_type, builtinLookup_eq_fast]; kernel_rfl) (by decide +kernel) (by decide +kernel) (by decide +kernel)
    (by first | exact .inl (by decide +kernel) | exact .inr (by decide +kernel)) (by rw [isSubtype_type]; kernel_rfl)
theorem type_re_search : typeOf (.builtin "re.Pattern.search") = pure (.type "method_descriptor") := by show builtinType _ = _; rw [builtinType_eq_fast]; kernel_rfl
theorem entry_re_search : entryFor table "re.Pattern.search" = some Builtin.«re.Pattern.search» := entryFor_of_tree (by kernel_rfl)
theorem slot_re_match : Slot "re.Pattern" "match" "re.Pattern.match" :=
  .of (owner := "re.Pattern") (n := "match") (by rw [typeLookup_type, builtinLookup_eq_fast]; kernel_rfl) (by decide +kernel) (by decide +kernel) (by decide +kernel)
    (by first | exact .inl (by decide +kernel) | exact .inr (by decide +kernel)) (by rw [isSubtype_type]; kernel_rfl)
theorem type_re_match : typeOf (.builtin "re.Pattern.match") = pure (.type "method_descriptor") := by show builtinType _ = _; rw [builtinType_eq_fast]; kernel_rfl
theorem entry_re_match : entryFor table "re.Pattern.match" = some Builtin.«re.Pattern.match» := entryFor_of_tree (by kernel_rfl)
theorem plainAttrs_rePattern : PlainAttrs "re.Pattern" :=
  ⟨⟨"object.__getattribute__", by rw [typeLookup_type, builtinLookup_eq_fast]; kernel_rfl, by decide +kernel⟩, by rw [typeLookup_type, builtinLookup_eq_fast]; kernel_rfl⟩
theorem slot_re_group : Slot "re.Match" "group" "re.Match.group" :=
  .of (owner := "re.Match") (n := "group") (by rw [typeLookup_type, builtinLookup_eq_fast]; kernel_rfl) (by decide +kernel) (by decide +kernel) (by decide +kernel)
    (by first | exact .inl (by decide +kernel) | exact .inr (by decide +kernel)) (by rw [isSubtype_type]; kernel_rfl)
theorem type_re_group : typeOf (.builtin "re.Match.group") = pure (.type "method_descriptor") := by show builtinType _ = _; rw [builtinType_eq_fast]; kernel_rfl
theorem entry_re_group : entryFor table "re.Match.group" = some Builtin.«re.Match.group» := entryFor_of_tree (by kernel_rfl)
theorem plainAttrs_reMatch : PlainAttrs "re.Match" :=
  ⟨⟨"object.__getattribute__", by rw [typeLookup_type, builtinLookup_eq_fast]; kernel_rfl, by decide +kernel⟩, by rw [typeLookup_type, builtinLookup_eq_fast]; kernel_rfl⟩
theorem owner_rePattern : Manifest.owners.lookup (String.ofList ['n', 'r', 'e', 't', 't', 'a', 'P', '.', 'e', 'r'].reverse) = some Manifest.sig_re_Pattern := by kernel_rfl
theorem owner_reMatch : Manifest.owners.lookup (String.ofList ['h', 'c', 't', 'a', 'M', '.', 'e', 'r'].reverse) = some Manifest.sig_re_Match := by kernel_rfl
theorem args_re_search_2 (a b : Value) : argsOk "re.Pattern.search" ⟨[a, b], []⟩ := by
  unfold argsOk; rw [signature?_of (id := "re.Pattern.search") (n := ['h', 'c', 'r', 'a', 'e', 's']) (o := ['n', 'r', 'e', 't', 't', 'a', 'P', '.', 'e', 'r']) (by kernel_rfl) owner_rePattern]; kernel_rfl
theorem args_re_match_2 (a b : Value) : argsOk "re.Pattern.match" ⟨[a, b], []⟩ := by
  unfold argsOk; rw [signature?_of (id := "re.Pattern.match") (n := ['h', 'c', 't', 'a', 'm']) (o := ['n', 'r', 'e', 't', 't', 'a', 'P', '.', 'e', 'r']) (by kernel_rfl) owner_rePattern]; kernel_rfl
theorem args_re_group_2 (a b : Value) : argsOk "re.Match.group" ⟨[a, b], []⟩ := by
  unfold argsOk; rw [signature?_of (id := "re.Match.group") (n := ['p', 'u', 'o', 'r', 'g']) (o := ['h', 'c', 't', 'a', 'M', '.', 'e', 'r']) (by kernel_rfl) owner_reMatch]; kernel_rfl
end Mine
end
noncomputable section
namespace Mine
open PySem.Calls PySem.F PySem.Builtin.Re

theorem runFor_done (n : Nat) (m : Sre.M) (h : m.outcome.isSome = true) : Sre.M.runFor n m = m := by
  cases n with
  | zero => rfl
  | succ n => unfold Sre.M.runFor; rw [if_pos h]
theorem runFor_add (a : Nat) : ∀ (b : Nat) (m : Sre.M), Sre.M.runFor (a + b) m = Sre.M.runFor b (Sre.M.runFor a m) := by
  induction a with
  | zero => intro b m; rw [Nat.zero_add]; rfl
  | succ a ih =>
    intro b m
    rw [Nat.add_right_comm]
    by_cases h : m.outcome.isSome = true
    · rw [runFor_done _ m h, runFor_done _ m h, runFor_done _ m h]
    · have e1 : Sre.M.runFor (a + b + 1) m = Sre.M.runFor (a + b) m.step := by
        show (if m.outcome.isSome = true then m else _) = _; rw [if_neg h]
      have e2 : Sre.M.runFor (a + 1) m = Sre.M.runFor a m.step := by
        show (if m.outcome.isSome = true then m else _) = _; rw [if_neg h]
      rw [e1, e2, ih]
section
variable {M : Model} {A : Around} {E : Value → Shared → Prop} {s : Shared}
theorem drive_wp : ∀ (T k : Nat) (m : Sre.M) {Q : Sre.M → Shared → Prop}, (Sre.M.runFor (4 * (k + 1)) m).outcome.isSome = true → k < T → Q (Sre.M.runFor (4 * (k + 1)) m) s → wpAny M A (reDrive T m) Q E s
  | 0, _, _, _, _, h, _ => absurd h (Nat.not_lt_zero _)
  | T + 1, k, m, Q, ho, hk, hq => by
    show wpAny M A (if (Sre.M.runFor 4 m).outcome.isSome = true then pure (Sre.M.runFor 4 m) else (do rule "sre.turn"; reDrive T (Sre.M.runFor 4 m))) Q E s
    have e : Sre.M.runFor (4 * (k + 1)) m = Sre.M.runFor (4 * k) (Sre.M.runFor 4 m) := by
      rw [← runFor_add, Nat.mul_add, Nat.mul_one, Nat.add_comm]
    by_cases h : (Sre.M.runFor 4 m).outcome.isSome = true
    · rw [if_pos h]
      rw [e, runFor_done _ _ h] at hq
      exact wpAny_pure hq
    · rw [if_neg h]
      refine wpAny_bind (wpAny_rule ?_)
      cases k with
      | zero => exact absurd ho h
      | succ k =>
        rw [e] at ho hq
        exact drive_wp T k _ ho (Nat.lt_of_succ_lt_succ hk) hq

theorem seen_loop (body : Nat → Sem (ForInStep PUnit)) (hb : ∀ i {Q : ForInStep PUnit → Shared → Prop}, Q (.yield ⟨⟩) s → wpAny M A (body i) Q E s) : ∀ (l : List Nat) {Q : PUnit → Shared → Prop}, Q ⟨⟩ s →
    wpAny M A (forIn l (⟨⟩ : PUnit) fun i _ => body i) Q E s
  | [], _, h => by exact wpAny_pure h
  | i :: l, Q, h => by
    rw [List.forIn_cons]
    refine wpAny_bind ?_
    exact hb i (seen_loop body hb l h)

theorem run_end {Q : Option Sre.M → Shared → Prop} (m : Sre.M) (k : Nat) (hk : k < 2 ^ 64) :
    (∀ m', Sre.M.runFor (4 * (k + 1)) m = m' → (m'.outcome = some .failed ∧ Q none s) ∨ (m'.outcome = some .matched ∧ Q (some m') s)) → wpAny M A (reRunToEnd m) Q E s := by
  intro h
  unfold reRunToEnd
  refine wpAny_bind (drive_wp _ k m ?_ hk ?_)
  · rcases h _ rfl with h | h <;> rw [h.1] <;> rfl
  · refine wpAny_bind (seen_loop _ (fun i Q h => ?_) _ ?_)
    · split
      · exact wpAny_bind (wpAny_rule (wpAny_pure h))
      · exact wpAny_pure h
    rcases h _ rfl with h | h <;> rw [h.1] <;> exact wpAny_pure h.2
end
noncomputable abbrev codeN : Array Nat := #[14, 10, 4, 1, 1, 22, 0, 31, 16, 127, 0, 13, 7, 22, 0, 31, 16, 127, 0, 1]
noncomputable abbrev codeV : Array Nat := #[14, 14, 4, 1, 1, 9, 4294966783, 0, 0, 2147483648, 0, 0, 0, 0, 0, 13, 11, 9, 4294966783, 0, 0, 2147483648, 0, 0, 0, 0, 0, 1]
theorem set_N (c : Nat) (h1 : 32 ≤ c) (h2 : c < 127) (seen : Sre.Seen) : ∃ seen', Sre.inSet codeN c 20 5 true seen = .ok (false, seen') := by
  refine ⟨((seen.add 22).add 16).add 0, ?_⟩
  have a1 : (decide (0 ≤ c) && decide (c ≤ 31)) = false := by rw [decide_eq_false (p := c ≤ 31) (by exact gnnle (lin1 (cx1 _) (.num 32) (.var 0) (.add (.num 31) (.num 1)) (.var 0) 1 1 rfl (nle h1))), Bool.and_false]
  have a2 : (c == 127) = false := beq_eq_false_iff_ne.mpr (by exact gnne1 (lin1 (cx1 _) (.add (.var 0) (.num 1)) (.num 127) (.add (.var 0) (.num 1)) (.num 127) 1 1 rfl (nlt h2)))
  show (if (decide (0 ≤ c) && decide (c ≤ 31)) = true then _ else _) = _
  rw [a1, if_neg Bool.false_ne_true]
  show (if (c == 127) = true then _ else _) = _
  rw [a2, if_neg Bool.false_ne_true]
  rfl
theorem set_V (c : Nat) (h1 : 32 ≤ c) (h2 : c < 127) (seen : Sre.Seen) : ∃ seen', Sre.inSet codeV c 28 5 true seen = .ok (false, seen') := by
  refine ⟨(seen.add 9).add 0, ?_⟩
  have a1 : ∀ c : Fin 127, 32 ≤ c.1 → (decide (c.1 < 256) && (codeV.getD (5 + (1 + c.1 / 32)) 0).testBit (c.1 % 32)) = false := by decide +kernel
  have a2 : (decide (c < 256) && (codeV.getD (5 + (1 + c / 32)) 0).testBit (c % 32)) = false := a1 ⟨c, h2⟩ h1
  show (if (decide (c < 256) && (codeV.getD (5 + (1 + c / 32)) 0).testBit (c % 32)) = true then _ else _) = _
  rw [a2, if_neg Bool.false_ne_true]
  rfl
theorem admitted_none (code : Array Nat) (m : Sre.M) (hc : m.code = code) (hs : ∀ c, 32 ≤ c → c < 127 → ∀ seen, ∃ seen', Sre.inSet code c code.size 5 true seen = .ok (false, seen'))
    (ht : ∀ i, i < m.lim → 32 ≤ m.text.getD i 0 ∧ m.text.getD i 0 < 127) : ∀ (fuel p : Nat) (seen : Sre.Seen), ∃ seen', m.admitted fuel p seen = .ok (none, seen')
  | 0, _, seen => ⟨seen, rfl⟩
  | fuel + 1, p, seen => by
    by_cases hp : p ≥ m.lim
    · exact ⟨seen, by show (if p ≥ m.lim then _ else _) = _; rw [if_pos hp]⟩
    · have hb := ht p (by exact gnlt (lin1 (cx2 _ _) (.add (.var 0) (.num 1)) (.var 1) (.add (.var 0) (.num 1)) (.var 1) 1 1 rfl (nnle hp)))
      obtain ⟨s1, e1⟩ := hs _ hb.1 hb.2 seen
      obtain ⟨s2, e2⟩ := admitted_none code m hc hs ht fuel (p + 1) s1
      refine ⟨s2, ?_⟩
      show (if p ≥ m.lim then _ else _) = _
      rw [if_neg hp, hc, e1]
      exact e2
theorem search_none {M : Model} {A : Around} {E : Value → Shared → Prop} {s : Shared} {Q : Option Sre.M → Shared → Prop} (code text : Array Nat) (lim : Nat) (h0 : Sre.ops[code.getD 0 0]? = some .INFO) (h2 : code.getD 2 0 = 4)
    (h3 : code.getD 3 0 = 1) (hs : ∀ c, 32 ≤ c → c < 127 → ∀ seen, ∃ seen', Sre.inSet code c code.size 5 true seen = .ok (false, seen'))
    (ht : ∀ i, i < lim → 32 ≤ text.getD i 0 ∧ text.getD i 0 < 127) (hq : Q none s) : wpAny M A (reRunToEnd (Sre.forSearch code text 0 0 lim false)) Q E s := by
  refine run_end _ 0 (by decide) fun m' e => .inl ⟨?_, hq⟩
  rw [← e]
  have key : ∀ m : Sre.M, m.outcome = none → m.answer = some false → m.frames = [] → (Sre.M.runFor (4 * (0 + 1)) m).outcome = some .failed := by
    intro m k1 k2 k3
    have e1 : m.step.outcome = some .failed := by
      unfold Sre.M.step
      rw [k1, k2, k3]; rfl
    have : Sre.M.runFor 4 m = Sre.M.runFor 3 m.step := by
      show (if m.outcome.isSome = true then m else _) = _
      rw [k1]; rfl
    rw [show 4 * (0 + 1) = 4 from rfl, this, runFor_done _ _ (by rw [e1]; rfl)]
    exact e1
  have hh : Sre.header code = (1, 1 + code.getD 1 0) := by unfold Sre.header; rw [h0]; simp only [h3]
  unfold Sre.forSearch
  dsimp only
  split
  · exact key _ rfl rfl rfl
  · have goal : ∀ m0 : Sre.M, m0.code = code → m0.text = text → m0.lim = lim → m0.outcome = none → m0.frames = [] → (Sre.M.runFor (4 * (0 + 1)) (m0.attemptFrom 0 true)).outcome = some .failed := by
      intro m0 c1 c2 c3 c4 c5
      have hf : m0.hasFirstSet = true := by unfold Sre.M.hasFirstSet; rw [c1, h0, h2]; rfl
      unfold Sre.M.attemptFrom
      rw [hf, Bool.not_true, if_neg Bool.false_ne_true]
      obtain ⟨s', e'⟩ := admitted_none code m0 c1 hs (by rw [c2, c3]; exact ht) (m0.lim + 1 - 0) 0 m0.seen
      rw [e']
      exact key _ c4 rfl c5
    exact goal _ rfl rfl rfl rfl rfl
end Mine
end
noncomputable section
namespace Mine
open PySem.Calls
open PyProof.Rows.LCg
open PySem.F PySem.Builtin.Re
theorem named_1 (id f : String) (v : Value) : reNamed id f ["string", "pos", "endpos"] 1 [v] [] = pure [some v, none, none] := by
  rfl
section
variable {prog : Program} {w : World} {A : Around} {E : Value → Shared → Prop} {s : Shared} {Q : Value → Shared → Prop}
theorem target_str {id f : String} {P T : Addr} {fs ws : Array Value} {n : Nat} {sl sl' : Array (Option Value)} {code : Array Nat} (v : Str) (t : Tok) {Q : ReTarget → Shared → Prop}
   (hP : s.heap.get? P = some ⟨.type "re.Pattern", none, .fields fs, sl⟩) (hf : fs.getD 5 .none = .ref T) (hT : s.heap.get? T = some ⟨.type "tuple", none, .seq ws n, sl'⟩) (hc : (ws.map reRawOf).map (·.toNat) = code) (hk : reRawNat (fs.getD 6 .none) = 0) (hsz : v.cps.size ≤ 1000000)
   (h : Q { pattern := .ref P, string := .str v t, code := code, text := v.cps, kind := 0, groups := reRawNat (fs.getD 2 .none), pos := 0, lim := v.cps.size } s) :
   wpAny (model prog w) A (reTarget id f ⟨[.ref P, .str v t], []⟩) Q E s := by
  have e0 : min (Int.toNat 0) v.cps.size = 0 := Nat.zero_min _
  have e2 : ((2 : Int) ^ 63 - 1).toNat = 9223372036854775807 := by decide
  have e1 : min ((2 : Int) ^ 63 - 1).toNat v.cps.size = v.cps.size := Nat.min_eq_right (by exact gnle (lin2 (cx2 _ _) (.var 0) (.num 1000000) (.num 9223372036854775807) (.var 1) (.var 0) (.var 1) 1 1 1 rfl (nle hsz) (neq2 e2)))
  unfold reTarget
  dsimp only
  rw [named_1]
  wp_walk
  rw [hk, hf]
  refine wpAny_ite_false rfl ?_
  wp_walk
  simp only [Option.getD_some, hc, e0, e1]
  exact h

theorem call_search {P T : Addr} {fs ws : Array Value} {n : Nat} {sl sl' : Array (Option Value)} {code : Array Nat} (v : Str) (t : Tok) {Q : Value → Shared → Prop}
   (hP : s.heap.get? P = some ⟨.type "re.Pattern", none, .fields fs, sl⟩) (hf : fs.getD 5 .none = .ref T) (hT : s.heap.get? T = some ⟨.type "tuple", none, .seq ws n, sl'⟩) (hc : (ws.map reRawOf).map (·.toNat) = code) (hk : reRawNat (fs.getD 6 .none) = 0) (hsz : v.cps.size ≤ 1000000)
   (hr : ∀ (A : Around) E (Q : Option Sre.M → Shared → Prop), Q none s → wpAny (model prog w) A (reRunToEnd (Sre.forSearch code v.cps (reRawNat (fs.getD 2 .none)) 0 v.cps.size false)) Q E s)
   (h : Q .none s) : wpAny (model prog w) A (call (.builtin "re.Pattern.search") [.ref P, .str v t]) Q E s := by
  refine wpAny_call (codeAny_call_builtin slot_re_search.plain entry_re_search (slot_re_search.check _ _ _ _ _ _ _ _ ⟨_, hP, rfl⟩ (args_re_search_2 _ _) ?_))
  show wpAny _ _ (Builtin.«re.Pattern.search» _) _ _ _
  unfold Builtin.«re.Pattern.search»
  refine wpAny_bind (target_str v t hP hf hT hc hk hsz ?_)
  dsimp only
  unfold reAnswer
  refine wpAny_bind (hr _ _ _ ?_)
  dsimp only
  exact wpAny_pure h
end
end Mine
end
noncomputable section
namespace Mine
open PySem.Calls
open PyProof.Rows.LCg
open PySem.F PySem.Builtin.Re
noncomputable abbrev CtrK (w : World) (d u : Nat) (f : Addr) (vs : List Value) (kw : List (Str × Value)) (news : List (Addr × Obj)) (Ret : Heap → Value → List (Addr × Obj) → Prop) : Prop :=
  ∀ (mean : ExcName → Option Value) (mg mb : Str → Option Value) (dp un : Nat) (gd : Option (List Code)) (cn : Str) (cs : Scope) (a : Addr) (ccd : Value) (cl : List (Str × Addr)) (outer : List Env) (A₀ : Around) (base h₀ : Heap) (L : Addr) (m : Str → Option Value) (s : Shared) (Q E : Value → Shared → Prop),
    Below A₀ base outer h₀ → Fr h₀ L s.heap m → (_root_.hd.heap_39 w.params).In h₀ → News h₀ L s.heap news → Top V0 loose0 mean mg mb h₀ → cs.kind = .function → dp + d < recursionLimit → un + u < cLine →
    (∀ (v : Value) (add : List (Addr × Obj)) (h' : Heap) (tk' : Nat), Ret s.heap v add → Fr h₀ L h' m → News h₀ L h' (add ++ news) → Q v { s with heap := h', toks := tk' }) →
    wpAny (model PP w) (ktrTop dp un gd cn cs L a ccd cl outer) (call (.ref f) vs kw) Q E s
section
variable {prog : Program} {w : World} {A : Around} {E : Value → Shared → Prop} {s : Shared} {h₀ : Heap} {L : Addr} {m : Str → Option Value} {K : Frag}
theorem patMethod {P : Addr} {fs : Array Value} {sl : Array (Option Value)} {pl : Sem Bool} {Q : Value × List Value → Shared → Prop} (F : Fr h₀ L s.heap m) (X : K.In h₀) (hP : K.lookup P = some ⟨.type "re.Pattern", none, .fields fs, sl⟩)
    (h : Q (.builtin "re.Pattern.search", [.ref P]) s) : wpAny (model prog w) A (getMethod (.ref P) (Str.ofString "search") pl) Q E s :=
  getMethod_builtin ⟨_, (X.keeps F.keep) _ _ hP, rfl⟩ plainAttrs_rePattern slot_re_search type_re_search (fun a e => by cases e; exact ⟨_, (X.keeps F.keep) _ _ hP, rfl⟩) h
noncomputable def PlainS (v : Str) : Prop := v.cps.size ≤ 1000000 ∧ ∀ i, i < v.cps.size → 32 ≤ v.cps.getD i 0 ∧ v.cps.getD i 0 < 127
theorem patSearch {P T : Addr} {fs ws : Array Value} {n : Nat} {sl sl' : Array (Option Value)} {v : Str} {t : Tok} {Q : Value → Shared → Prop} (F : Fr h₀ L s.heap m) (X : K.In h₀) (hv : PlainS v)
   (hP : K.lookup P = some ⟨.type "re.Pattern", none, .fields fs, sl⟩) (hf : fs.getD 5 .none = .ref T) (hT : K.lookup T = some ⟨.type "tuple", none, .seq ws n, sl'⟩)
   (hc : (ws.map reRawOf).map (·.toNat) = codeN ∨ (ws.map reRawOf).map (·.toNat) = codeV) (hk : reRawNat (fs.getD 6 .none) = 0) (hg : reRawNat (fs.getD 2 .none) = 0) (h : Q .none s) : wpAny (model prog w) A (call (.builtin "re.Pattern.search") [.ref P, .str v t]) Q E s := by
  have KP := (X.keeps F.keep) _ _ hP
  have KT := (X.keeps F.keep) _ _ hT
  rcases hc with hc | hc
  · exact call_search v t KP hf KT hc hk hv.1 (fun A E Q hq => by rw [hg]; exact search_none codeN v.cps v.cps.size rfl rfl rfl set_N hv.2 hq) h
  · exact call_search v t KP hf KT hc hk hv.1 (fun A E Q hq => by rw [hg]; exact search_none codeV v.cps v.cps.size rfl rfl rfl set_V hv.2 hq) h
end
local macro_rules | `(tactic| walk_at "getMethod ref") => `(tactic| (k_here; with_reducible refine halt_in ?_))
local macro_rules | `(tactic| walk_at "call builtin:re.Pattern.search") => `(tactic| (k_here; with_reducible refine halt_in ?_))
theorem conv_ok (w : World) (x : Addr) (v : Str) (t : Tok) (b : Bool) (hv : PlainS v) (news : List (Addr × Obj))  :
   CtrK w 1 8 109 [.ref x, .str v t] [(Str.ofString "name", .bool b)] news (fun _ r add => add = [] ∧ r = .str v t) := by
  intro mean mg mb dp un gd cn cs a ccd cl outer A₀ base h₀ L m s Q E B F X N T hk hd hu hret
  (refine wpAny_call ?_; k_dflt (refine' enterP (news₀ := []) ?k1 ?k2 ?k3 ?k4 ?k5 ?kS ?kA ?kF ?kK ?k6 ?k7 ?k8 ?k9 ?kB ?_ ?c2 ?c3 ?c4 ?c5; (case kA => exact rfl); (case kF => exact rfl); (case kK => assumption); (case k1 => k_asm); (case k2 => k_asm); (case k3 => k_asm); (case k4 => k_asm); (case k5 => k_asm); (case kS => first | exact fun _ h => h | exact List.forall_mem_nil _ | (intro p hp; simp only [List.mem_cons, List.not_mem_nil, or_false] at hp; rcases hp with rfl | hp <;> first | assumption | (rcases hp with rfl | hp <;> first | assumption | (rcases hp with rfl | hp <;> first | assumption | (rcases hp with rfl | hp <;> first | assumption | (rcases hp with rfl | hp <;> first | assumption | (rcases hp with rfl | hp <;> first | assumption | (rcases hp with rfl | hp <;> first | assumption | (rcases hp with rfl | hp <;> first | assumption | (subst hp; assumption))))))))) | (intro p hp; simp only [List.mem_cons, List.not_mem_nil, or_false] at hp; subst hp; assumption)); (case k6 => k_is); (case k7 => k_is); (case k8 => ktr_room); (case k9 => exact BindsTo.of_eq rfl); (case c5 => decide); (case kB => exact locs rfl); (case c2 => exact rfl); (case c3 => exact rfl); (case c4 => exact rfl); k_whole; intro g' L' h' FG' F' N' B' X' T' lt' old'; (try dsimp only); (try k_fold); refine wpLA ?_; intro Ax Qx Ex))
  k_steps
  refine Halt.out ?_
  refine' patMethod ?F ?X ?hP ?_
  case F => k_asm
  case X => k_asm
  case hP => k_is
  k_steps
  refine Halt.out ?_
  refine' patSearch ?F ?X ?hv ?hP ?hf ?hT ?hc ?hk ?hg ?_
  case F => k_asm
  case X => k_asm
  case hv => with_reducible assumption
  case hP => k_is
  case hf => exact rfl
  case hT => k_is
  case hc => first | exact Or.inl (by decide +kernel) | exact Or.inr (by decide +kernel) | exact Or.inl (by simp [reRawOf]) | exact Or.inr (by simp [reRawOf])
  case hk => exact rfl
  case hg => exact rfl
  k_steps
  exact ⟨_, _, _, by k_asm, by k_asm, fun p hp => absurd hp List.not_mem_nil, fun F N => hret _ [] _ _ ⟨rfl, rfl⟩ F (pick0 N)⟩
  refine Halt.out ?_
  refine' patMethod ?F ?X ?hP ?_
  case F => k_asm
  case X => k_asm
  case hP => k_is
  k_steps
  refine Halt.out ?_
  refine' patSearch ?F ?X ?hv ?hP ?hf ?hT ?hc ?hk ?hg ?_
  case F => k_asm
  case X => k_asm
  case hv => with_reducible assumption
  case hP => k_is
  case hf => exact rfl
  case hT => k_is
  case hc => first | exact Or.inl (by decide +kernel) | exact Or.inr (by decide +kernel) | exact Or.inl (by simp [reRawOf]) | exact Or.inr (by simp [reRawOf])
  case hk => exact rfl
  case hg => exact rfl
  k_steps
  all_goals exact ⟨_, _, _, by k_asm, by k_asm, fun p hp => absurd hp List.not_mem_nil, fun F N => hret _ [] _ _ ⟨rfl, rfl⟩ F (pick0 N)⟩
end Mine
end
noncomputable section
namespace Mine
open PySem.Calls
open PyProof.Rows.LCg
noncomputable def tabL (w : World) (x dx q : Addr) (its : Array Value) (n : Nat) (tk : Tok) : List (Addr × Obj) :=
  [(q, W.listOf its n), (x, instObj 208 dx), (dx, dictOf [{ hash := PyData.keyHash w.params (Str.ofString "_headers"), key := .str (Str.ofString "_headers") tk, val := .ref q }] 1)]
theorem ne_of_obj {h : Heap} {a b : Addr} {o o' : Obj} (ha : h.get? a = some o) (hb : h.get? b = some o') (hne : o.cls ≠ o'.cls) : @Ne Nat a b := fun e => by
  have e' : a = b := e
  rw [e', hb] at ha
  exact hne (by rw [Option.some.inj ha])
theorem hdr_ok (w : World) (news : List (Addr × Obj))  :
   Ctr w 3 20 208 [] news (fun _ v add => ∃ x dx q tk, v = .ref x ∧ add = tabL w x dx q #[] 0 tk ∧ Off1 q news ∧ Off1 x news ∧ Off1 dx news ∧ @Ne Nat x q ∧ @Ne Nat dx q ∧ @Ne Nat dx x) := by
  intro mean mg mb dp un gd cn cs a ccd cl outer A₀ base h₀ L m s Q E B F X N T hk hd hu hret
  refine' call_cls ?k1 ?k2 ?k3 ?k4 ?k5 ?k6 ?_
  case k1 => k_asm
  case k2 => k_asm
  case k3 => k_asm
  case k4 => k_is
  case k5 => k_is
  case k6 => k_is
  k_whole
  intro x dx h' F' N' l1 l2
  have Nm : News h₀ L h' [(x, instObj 208 dx), (dx, dictOf [] 0)] := fun p hp => N' p (by simp only [List.mem_cons, List.not_mem_nil, or_false] at hp ⊢; rcases hp with h | h <;> simp [h])
  have Nr : News h₀ L h' news := fun p hp => N' p (List.mem_cons_of_mem _ (List.mem_cons_of_mem _ hp))
  have hdj : ∀ p ∈ news, p.1 ∉ [(x, instObj 208 dx), (dx, dictOf [] 0)].map (·.1) := by
    intro p hp q
    have := l1 p hp
    simp only [List.map_cons, List.map_nil, List.mem_cons, List.not_mem_nil, or_false] at q
    rcases q with q | q
    · exact absurd (q ▸ this) (Nat.not_lt.mpr (Nat.le_of_lt l2))
    · exact absurd (q ▸ this) (Nat.lt_irrefl _)
  refine' enterM B F' X Nm Nr hdj T ?kA ?kF ?kK ?k6 ?k7 ?k8 ?k9 ?kB ?_ ?c2 ?c3 ?c4 ?c5
  case kA => exact rfl
  case kF => exact rfl
  case kK => exact hk
  case k6 => k_is
  case k7 => k_is
  case k8 => ktr_room
  case k9 => exact binds_K (by k_in) rfl (by k_is) rfl rfl rfl
  case c5 => decide
  case kB => exact locs rfl
  case c2 => exact rfl
  case c3 => exact rfl
  case c4 => exact rfl
  k_whole
  intro g' L' h'' FG' F'' N'' B' X' T' lt1 lt2 old'
  (try dsimp only); (try k_fold)
  clear N N' Nm Nr F F'
  k_lt2 l2
  k_steps
  rename_i NN
  have hq := NN _ List.mem_cons_self
  have hx := NN _ (List.mem_cons_of_mem _ List.mem_cons_self)
  have hdx := NN _ (List.mem_cons_of_mem _ (List.mem_cons_of_mem _ List.mem_cons_self))
  refine ⟨_, _, _, by k_asm, by k_asm, fun F N => ⟨rfl, hret _ _ _ _ ⟨x, dx, _, _, rfl, rfl, off_old (fun p hp _ => old' p hp) hq.2.2, off_of fun p hp => Nat.lt_trans (l1 p hp) l2, off_of l1, ne_of_obj hx.1 hq.1 (by simp [instObj, W.listOf]), ne_of_obj hdx.1 hq.1 (by simp [dictOf, W.listOf]), Nat.ne_of_lt l2⟩ F N⟩⟩
theorem hdr_c {w : World} {news : List (Addr × Obj)} : CtrC w 3 20 208 [] news (fun K => ∀ x dx q tk, Off1 q news → Off1 x news → Off1 dx news → @Ne Nat x q → @Ne Nat dx q → @Ne Nat dx x → K (.ref x) (tabL w x dx q #[] 0 tk)) :=
  Ctr.toC (fun K => ∀ x dx q tk, Off1 q news → Off1 x news → Off1 dx news → @Ne Nat x q → @Ne Nat dx q → @Ne Nat dx x → K (.ref x) (tabL w x dx q #[] 0 tk)) (hdr_ok w news) (by intro K h _ _ _ R9; obtain ⟨x, dx, q, tk, e1, e2, a, b, c, d, e, f⟩ := R9; subst e1 e2; exact h x dx q tk a b c d e f)
end Mine
end
noncomputable section
namespace Mine
open PySem.Calls
open PyProof.Rows.LCg
noncomputable abbrev CtrM (w : World) (d u : Nat) (f : Addr) (vs : List Value) (chg rest : List (Addr × Obj)) (Ret : Heap → Value → List (Addr × Obj) → Prop) : Prop :=
  ∀ (mean : ExcName → Option Value) (mg mb : Str → Option Value) (dp un : Nat) (gd : Option (List Code)) (cn : Str) (cs : Scope) (a : Addr) (ccd : Value) (cl : List (Str × Addr)) (outer : List Env) (A₀ : Around) (base h₀ : Heap) (L : Addr) (m : Str → Option Value) (s : Shared) (Q E : Value → Shared → Prop),
    Below A₀ base outer h₀ → Fr h₀ L s.heap m → (_root_.hd.heap_39 w.params).In h₀ → News h₀ L s.heap chg → News h₀ L s.heap rest → (∀ p ∈ rest, p.1 ∉ chg.map (·.1)) → Top V0 loose0 mean mg mb h₀ → cs.kind = .function → dp + d < recursionLimit → un + u < cLine →
    (∀ (v : Value) (chg' : List (Addr × Obj)) (h' : Heap) (tk' : Nat), Ret s.heap v chg' → Fr h₀ L h' m → News h₀ L h' (chg' ++ rest) → Q v { s with heap := h', toks := tk' }) →
    wpAny (model PP w) (ktrTop dp un gd cn cs L a ccd cl outer) (call (.ref f) vs) Q E s
section
variable {prog : Program} {w : World} {A₀ A : Around} {s : Shared} {base h₀ : Heap} {outer : List Env} {L : Addr} {m : Str → Option Value} {env : Env} {chg rest : List (Addr × Obj)} {K : Frag}
  {R : Result → Shared → Prop} {name qual : Str} {params : Arguments} {body : List Stmt} {scope : Scope} {dV kV doc pm cdv ct oc : Value} {an od : Option Addr} {osl : Array (Option Value)} {f : Addr} {args : Args} {binds : Addr → List (Str × Value)}
  {p : Program} {loose : List Str} {mean : ExcName → Option Value} {mg mb : Str → Option Value}
theorem enterMK (B : Below A₀ base outer h₀) (F : Fr h₀ L s.heap m) (X₀ : K.In h₀) (Nm : News h₀ L s.heap chg) (Nr : News h₀ L s.heap rest) (hd : ∀ p ∈ rest, p.1 ∉ chg.map (·.1)) (T : Top p loose mean mg mb h₀) (hA : A.frames = some (env :: outer)) (hf : env.frame = some L) (hke : env.scope.kind = .function)
    (ho : K.lookup f = some ⟨oc, od, .func (fnOf name qual params body scope dV kV doc pm an cdv ct), osl⟩) (hcd : codeIn K cdv qual = true) (hroom : A.depth < recursionLimit)
    (hbind : bindArgs (fnOf name qual params body scope dV kV doc pm an cdv ct) args = alloc (dictOf [] 0) >>= fun D => pure (binds D)) (hloc : ∀ D, ∀ y ∈ binds D, scope.names.lookup y.1 = some .local)
    (h : ∀ D g L' h₁ tk, Fr h₀ L g m → Fr g L' h₁ (fun y => (binds D).reverse.lookup y) → News g L' h₁ ((D, dictOf [] 0) :: chg) → Below A base (env :: outer) g → K.In g → Top p loose mean mg mb g → (D == sysModules) = false → (∀ p ∈ chg, p.1 < D) → D < L' → (∀ p ∈ rest, p.1 < D) → (∀ p ∈ rest, g.get? p.1 = some p.2) →
      wpAny (model prog w) (A.deeper (envOf qual scope L' f cdv)) (execs body (envOf qual scope L' f cdv))
        (fun fl s' => LeaveM h₀ L m g rest R (match fl with | .ret v => v | _ => .none) s')
        (fun e s' => wpAny (model prog w) (A.deeper (envOf qual scope L' f cdv)) (leaving (envOf qual scope L' f cdv) e) (fun _ s'' => R (.error e) s'') (fun e' s'' => R (.error e') s'') s')
        { s with heap := h₁, toks := tk })
    (hco : scope.isCoroutine = false) (hgen : scope.isGenerator = false) (hk : scope.kind = .function)
    (hcell : ∀ x ∈ scope.names, x.2 ≠ .cell) : codeAny (model prog w) A (.call (.ref f) args) R s := by
  obtain ⟨FG, BG, st, _⟩ := groundX (R := R) B F Nm hA hf hke
  refine codeAny_call_function (fd := fnOf name qual params body scope dV kV doc pm an cdv ct) (body := body) hroom ((X₀.keeps F.keep) _ _ ho) rfl hco hgen rfl (codeRec_of (X₀.keeps F.keep) hcd) ?_
  rw [hbind]
  refine wpAny_bind (wpAny_alloc (wpAny_pure ?_))
  have up : ∀ b o, s.heap.get? b = some o → (s.heap.push (dictOf [] 0)).get? b = some o := fun b o e => Heap.get?_push_of_some _ e
  refine wpAny_newFunctionEnv hcell (hloc _) (fun h₁ hns₁ hsb₁ => ⟨(T.nolimit.keeps fun b o e => up _ _ (F.keep b o e)).fresh _ hsb₁, codeAny_func ?_⟩) hk
  have hk₁ : ∀ b o, (s.heap.push (dictOf [] 0)).get? b = some o → h₁.get? b = some o := fun b o e => hsb₁.extBut b o (Nat.ne_of_lt (Heap.lt_size e)) (Heap.get?_push_of_some _ e)
  have hD : (s.heap.push (dictOf [] 0)).objs.size = s.heap.objs.size + 1 := Heap.size_push _ _
  refine wpAny_mono (h s.heap.objs.size _ _ h₁ _ FG ⟨hns₁, fun b o e => hk₁ b o (up _ _ (of_hideAll _ e)), ?_⟩
    (fun p hp => ?_) BG (X₀.keeps st) (T.keeps st) (F.notModules (modules_low T.nolimit)) (fun p hp => Heap.lt_size (Nm p hp).1) ?_ (fun p hp => Heap.lt_size (Nr p hp).1) (fun p hp => hideAll_get _ (Nr p hp).1 (hd p hp))) (fun fl s' hl => leaveM_R Nm Nr F hd hl) fun _ _ y => y
  · rw [hideAll_size]; exact hD ▸ Nat.le_succ _
  · rcases List.mem_cons.mp hp with rfl | hp
    · refine ⟨hk₁ _ _ (Heap.get?_push_size _ rfl), fun e => absurd (hD ▸ e : s.heap.objs.size = s.heap.objs.size + 1) (Nat.ne_of_lt (Nat.lt_succ_self _)), ?_⟩
      cases e : (hideAll s.heap (chg.map (·.1))).get? s.heap.objs.size with
      | none => rfl
      | some o => exact absurd (Heap.lt_size e) (by rw [hideAll_size]; exact Nat.lt_irrefl _)
    · have hl := Heap.lt_size (Nm p hp).1
      exact ⟨hk₁ _ _ (up _ _ (Nm p hp).1), fun e => absurd (hD ▸ e ▸ hl : s.heap.objs.size + 1 < s.heap.objs.size) (Nat.not_lt.mpr (Nat.le_succ _)), hideAll_none _ (List.mem_map_of_mem hp)⟩
  · show s.heap.objs.size < (s.heap.push (dictOf [] 0)).objs.size
    rw [hD]; exact Nat.lt_succ_self _
end
theorem join_one (x y : Str) : Txt.join x [y] = y := by
  show Builtin.Str.glued x [y] = _
  rw [StrLaws.glued_eq_join]
  rfl
theorem joinFits {tx : Str} (h : tx.cps.size ≤ 1000000) : ([tx].map (·.length)).sum + [tx].length * (Str.ofString "; ").length ≤ 16777216 := by
  have e : (Str.ofString "; ").length = 2 := by decide
  rw [e]
  simp only [List.map_cons, List.map_nil, List.sum_cons, List.sum_nil, List.length_cons, List.length_nil]
  show tx.cps.size + 0 + _ ≤ _
  omega
theorem add_ok (w : World) (x dx q : Addr) (tk : Tok) (its : Array Value) (n : Nat) (nm tx : Str) (t1 t2 : Tok) (hn : PlainS nm) (hv : PlainS tx) (hit : its.size ≤ 100) (rest : List (Addr × Obj)) :
   CtrM w 3 20 205 [.ref x, .str nm t1, .str tx t2] (tabL w x dx q its n tk) rest (fun _ v chg => ∃ p t2' n' k, chg = tabL w x dx q (its.push (.ref p)) n' tk ++ [(p, tupO #[.str nm t1, .str tx t2'] k)] ∧ Off1 p rest ∧ @Ne Nat p q ∧ @Ne Nat p x ∧ @Ne Nat p dx) := by
  intro mean mg mb dp un gd cn cs a ccd cl outer A₀ base h₀ L m s Q E B F X N Nr hdj T hk hd hu hret
  unfold tabL at N hdj
  have hxq : @Ne Nat x q := ne_of_obj (N _ (List.mem_cons_of_mem _ List.mem_cons_self)).1 (N _ List.mem_cons_self).1 (by simp)
  have hdq : @Ne Nat dx q := ne_of_obj (N _ (List.mem_cons_of_mem _ (List.mem_cons_of_mem _ List.mem_cons_self))).1 (N _ List.mem_cons_self).1 (by simp)
  (refine wpAny_call ?_; k_dflt (refine' enterMK B F X N Nr hdj T ?kA ?kF ?kK ?k6 ?k7 ?k8 ?k9 ?kB ?_ ?c2 ?c3 ?c4 ?c5))
  case kA => exact rfl
  case kF => exact rfl
  case kK => exact hk
  case k6 => k_is
  case k7 => k_is
  case k8 => ktr_room
  case k9 => exact rfl
  case c5 => decide
  case kB => intro D; exact locs rfl
  case c2 => exact rfl
  case c3 => exact rfl
  case c4 => exact rfl
  k_whole
  intro D g' L' h'' tk' FG' F'' N'' B' X' T' hsm lt1 ltD lt2 old'
  (try dsimp only); (try k_fold)
  k_lt lt1
  k_lt2 ltD
  have hdd : (dictOf [] 0).IsDictOf (strKind PP w) [] := kp_isDict (ex := []) 0 0 List.nodup_nil
  repeat' (first
    | ((with_reducible show wpAny _ _ (call (Value.ref 109) _ _) _ _ _); k_dflt ((refine' conv_ok _ _ _ _ _ ?hv_1 _ _ _ _ _ _ _ _ _ _ _ _ _ _ _ _ _ _ _ _ _ ?k1_1 ?k2_1 ?k3_1 ?k4_1 ?k5_1 ?k6_1 ?k7_1 ?k8_1 ?_); (case hv_1 => with_reducible assumption); (case k4_1 => k_asm); (case k1_1 => k_asm); (case k2_1 => k_asm); (case k3_1 => k_asm); (case k5_1 => k_asm); (case k6_1 => first | exact rfl | assumption); (case k7_1 => ktr_room); (case k8_1 => ktr_units); k_whole; intro v9 add9 h9 tk9 R9 F9 N9; obtain ⟨e9, e9'⟩ := R9; subst e9 e9'; (try dsimp only [List.nil_append, List.cons_append] at N9); (try dsimp only); (try k_fold)))
    | (k_unfold; (try dsimp only)) | (k_end; wrow_close) | walk1 | (dsimp only; walk1) | (leave1; try dsimp only))
  (rename Fr _ _ _ _ => lF')
  (rename News _ _ _ _ => lN')
  with_unfolding_all ((refine' For_turns lF' ?_); k_whole; (refine MethodCall_ ?_); (refine ld lF' (by rfl) ?_); (refine kdl_method (knd := PySem.strKind _ _) PySem.F.slot_dict_items PySem.F.type_dict_items lN' (by k_mem) (by k_asm) ?_); (refine callWith_method0 ?_); (refine kta_callItems (knd := PySem.strKind _ _) lF' lN' (by k_mem) (by k_asm) (by k_asm) ?_); intro h' hv' F' N'; (refine kta_items (knd := PySem.strKind _ _) (enc := PyData.str) (xs := []) (by rfl) F' N' hv' (by k_mem) (by k_asm) (fun _ _ h => Value.isStrOf_shape h) (by rfl) ?_))
  clear lF' lN'
  intro i' l1
  refine ItemsRest.zero ?_
  intro h8 tk8 F8 N8
  repeat' (first
    | ((with_reducible show wpAny _ _ (call (Value.ref 109) _ _) _ _ _); k_dflt ((refine' conv_ok _ _ _ _ _ ?hv_2 _ _ _ _ _ _ _ _ _ _ _ _ _ _ _ _ _ _ _ _ _ ?k1_2 ?k2_2 ?k3_2 ?k4_2 ?k5_2 ?k6_2 ?k7_2 ?k8_2 ?_); (case hv_2 => with_reducible assumption); (case k4_2 => k_asm); (case k1_2 => k_asm); (case k2_2 => k_asm); (case k3_2 => k_asm); (case k5_2 => k_asm); (case k6_2 => first | exact rfl | assumption); (case k7_2 => ktr_room); (case k8_2 => ktr_units); k_whole; intro v9 add9 h9 tk9 R9 F9 N9; obtain ⟨e9, e9'⟩ := R9; subst e9 e9'; (try dsimp only [List.nil_append, List.cons_append] at N9); (try dsimp only); (try k_fold)))
    | (k_unfold; (try dsimp only)) | (k_end; wrow_close) | walk1 | (dsimp only; walk1) | (leave1; try dsimp only))
  refine join_list (ys := [tx]) (by is_list) (StrsAre.cons _ _ .nil) (joinFits hv.1) ?_
  rw [join_one]
  intro t9 k9
  k_steps
  all_goals (
    rename_i D9 h91 l91 h92 F92 N92
    refine ⟨_, _, [(q, W.listOf (its.push (.ref D9)) (n + 1)), (x, _), (dx, _), (D9, tupO #[.str nm t1, .str tx t9] 0)], F92, fun p hp => N92 p ?_, fun F N => hret _ _ _ _ ⟨D9, _, _, _, rfl, off_of fun p hp => Nat.lt_trans (lt2 p hp) l91.2.1, Nat.ne_of_gt l91.2.2.1, Nat.ne_of_gt l91.2.2.2.1, Nat.ne_of_gt l91.2.2.2.2⟩ F N⟩
    rcases List.mem_cons.mp hp with rfl | hp
    · exact List.mem_cons_of_mem _ (List.mem_cons_of_mem _ (List.mem_cons_of_mem _ List.mem_cons_self))
    rcases List.mem_cons.mp hp with rfl | hp
    · exact List.mem_cons_of_mem _ (List.mem_cons_of_mem _ (List.mem_cons_of_mem _ (List.mem_cons_of_mem _ List.mem_cons_self)))
    rcases List.mem_cons.mp hp with rfl | hp
    · exact List.mem_cons_of_mem _ (List.mem_cons_of_mem _ (List.mem_cons_of_mem _ (List.mem_cons_of_mem _ (List.mem_cons_of_mem _ List.mem_cons_self))))
    · rw [List.mem_singleton.mp hp]; exact List.mem_cons_self)
end Mine
end
noncomputable section
namespace Mine
open PySem.Calls
open PySem.F PySem.Builtin.Re
structure FlagText (text : Array Nat) (n : Nat) : Prop where
  size : text.size = n
  h8 : 8 ≤ n
  head : ∀ i, i < 7 → text.getD i 0 = [70, 76, 65, 71, 83, 32, 40].getD i 0
  body : ∀ i, 7 ≤ i → i < n - 1 → text.getD i 0 = 32 ∨ (65 ≤ text.getD i 0 ∧ text.getD i 0 ≤ 80)
  last : text.getD (n - 1) 0 = 41
noncomputable abbrev codeF : Array Nat := #[14, 4, 0, 8, 4294967295, 24, 5, 0, 4294967295, 2, 1, 16, 70, 16, 76, 16, 65, 16, 71, 16, 83, 16, 32, 16, 40, 17, 0, 24, 6, 0, 4294967295, 20, 41, 1, 17, 1, 16, 41, 1]
noncomputable abbrev stt (text : Array Nat) (n p : Nat) (c : Int) (pc pos : Nat) (seen : Sre.Seen) : Sre.M :=
  { code := codeF, text := text, lim := n, start := 0, pc := pc, pos := pos, handed := p, outermost := true, marks := #[none, none],
    frames := [{ wait := .giveBack, pc := 5, pos := p, outermost := true, count := c }], weight := 1, seen := seen }
section
variable {text : Array Nat} {n p : Nat} {c : Int} {pos : Nat} {seen : Sre.Seen}
theorem lit_yes (j : Nat) (hj : j < 7) (hp : pos < n) (hx : text.getD pos 0 = [70, 76, 65, 71, 83, 32, 40].getD j 0) :
    (stt text n p c (11 + 2 * j) pos seen).step = stt text n p c (11 + 2 * (j + 1)) (pos + 1) (seen.add 16) := by
  have key : ∀ (pc L : Nat), pc < codeF.size → codeF.getD pc 0 = 16 → codeF.getD (pc + 1) 0 = L → text.getD pos 0 = L → (stt text n p c pc pos seen).step = stt text n p c (pc + 2) (pos + 1) (seen.add 16) := by
    intro pc L h1 h2 h3 h4
    have e0 : (stt text n p c pc pos seen).step = (stt text n p c pc pos seen).exec := by
      show (if pc < codeF.size then _ else _) = _
      rw [if_pos h1]
    rw [e0]
    unfold Sre.M.exec Sre.M.word
    dsimp only
    rw [Nat.add_zero, h2]
    show (if pos ≥ n then _ else _) = _
    rw [if_neg (by exact gnnle (lin1 (cx2 _ _) (.add (.var 0) (.num 1)) (.var 1) (.add (.var 0) (.num 1)) (.var 1) 1 1 rfl (nlt hp)))]
    unfold Sre.accepts
    dsimp only
    rw [h2, h3, h4]
    show (match (Except.ok (L == L, seen.add 16) : Except String (Bool × Sre.Seen)) with | .error why => _ | .ok (false, seen) => _ | .ok (true, seen) => _) = _
    rw [beq_self_eq_true]
    dsimp only
    unfold Sre.itemWidth
    rw [h2]
    rfl
  have : j = 0 ∨ j = 1 ∨ j = 2 ∨ j = 3 ∨ j = 4 ∨ j = 5 ∨ j = 6 := lin_or7 (by exact gnlt (lin1 (cx1 _) (.add (.var 0) (.num 1)) (.num 7) (.add (.var 0) (.num 1)) (.num 7) 1 1 rfl (nlt hj)))
  rcases this with h | h | h | h | h | h | h <;> subst h <;> exact key _ _ (by decide) rfl rfl hx
theorem lit_no (j : Nat) (hj : j < 7) (hx : pos < n → text.getD pos 0 ≠ [70, 76, 65, 71, 83, 32, 40].getD j 0) :
    ∃ pc' pos' seen', (stt text n p c (11 + 2 * j) pos seen).step = (stt text n p c pc' pos' seen').say false := by
  have key : ∀ (pc L : Nat), pc < codeF.size → codeF.getD pc 0 = 16 → codeF.getD (pc + 1) 0 = L → (pos < n → text.getD pos 0 ≠ L) → ∃ pc' pos' seen', (stt text n p c pc pos seen).step = (stt text n p c pc' pos' seen').say false := by
    intro pc L h1 h2 h3 h4
    refine ⟨pc, pos, seen.add 16, ?_⟩
    have e0 : (stt text n p c pc pos seen).step = (stt text n p c pc pos seen).exec := by
      show (if pc < codeF.size then _ else _) = _
      rw [if_pos h1]
    rw [e0]
    unfold Sre.M.exec Sre.M.word
    dsimp only
    rw [Nat.add_zero, h2]
    show (if pos ≥ n then _ else _) = _
    by_cases hp : pos ≥ n
    · rw [if_pos hp]
    rw [if_neg hp]
    unfold Sre.accepts
    dsimp only
    rw [h2, h3]
    show (match (Except.ok (text.getD pos 0 == L, seen.add 16) : Except String (Bool × Sre.Seen)) with | .error why => _ | .ok (false, seen) => _ | .ok (true, seen) => _) = _
    rw [beq_eq_false_iff_ne.mpr (h4 (by exact gnlt (lin1 (cx2 _ _) (.add (.var 0) (.num 1)) (.var 1) (.add (.var 0) (.num 1)) (.var 1) 1 1 rfl (nnle hp))))]
  have : j = 0 ∨ j = 1 ∨ j = 2 ∨ j = 3 ∨ j = 4 ∨ j = 5 ∨ j = 6 := lin_or7 (by exact gnlt (lin1 (cx1 _) (.add (.var 0) (.num 1)) (.num 7) (.add (.var 0) (.num 1)) (.num 7) 1 1 rfl (nlt hj)))
  rcases this with h | h | h | h | h | h | h <;> subst h <;> exact key _ _ (by decide) rfl rfl hx
theorem back_step (p pc pos : Nat) (seen : Sre.Seen) : ((stt text n (p + 1) ((p + 1 : Nat) : Int) pc pos seen).say false).step = stt text n p (p : Int) 11 p seen := by
  have e : (((p + 1 : Nat) : Int) - 1) = (p : Int) := by exact Int.le_antisymm (lin0 (cx1 _) (.sub (.add (.var 0) (.num 1)) (.num 1)) (.var 0) 1 rfl) (lin0 (cx1 _) (.var 0) (.sub (.add (.var 0) (.num 1)) (.num 1)) 1 rfl)
  show (if ((p + 1 : Nat) : Int) - 1 < ((0 : Nat) : Int) then _ else _) = _
  rw [e, if_neg (by exact ginlt (lin1 (cx1 _) (.num 0) (.var 0) (.num 0) (.var 0) 1 1 rfl (nn _)))]
  rfl
end
theorem runFor_1 (m : Sre.M) (h : m.outcome = none) (k : Nat) : Sre.M.runFor (k + 1) m = Sre.M.runFor k m.step := by
  show (if m.outcome.isSome = true then m else _) = _
  rw [h]; rfl
theorem turn_back {text : Array Nat} {n : Nat} (h : FlagText text n) (p : Nat) (seen : Sre.Seen) (_hp : p + 1 ≤ n) : ∃ k seen', k ≤ 8 ∧ Sre.M.runFor k (stt text n (p + 1) ((p + 1 : Nat) : Int) 11 (p + 1) seen) = stt text n p (p : Int) 11 p seen' := by
  have key : ∀ (i j : Nat) (seen : Sre.Seen), i + j = 7 → (∀ t, t < j → p + 1 + t < n ∧ text.getD (p + 1 + t) 0 = [70, 76, 65, 71, 83, 32, 40].getD t 0) → ∃ k seen', k ≤ i + 1 ∧ Sre.M.runFor k (stt text n (p + 1) ((p + 1 : Nat) : Int) (11 + 2 * j) (p + 1 + j) seen) = stt text n p (p : Int) 11 p seen' := by
    intro i
    induction i with
    | zero =>
      intro j seen hij hall
      obtain rfl : j = 7 := by exact gneq (lin1 (cx1 _) (.add (.num 0) (.var 0)) (.num 7) (.var 0) (.num 7) 1 1 rfl (neq1 hij)) (lin1 (cx1 _) (.num 7) (.add (.num 0) (.var 0)) (.num 7) (.var 0) 1 1 rfl (neq2 hij))
      have h6 := hall 6 (by exact gnlt (lin0 (cx1 0) (.add (.num 6) (.num 1)) (.num 7) 1 rfl))
      exfalso
      have e40 : text.getD (p + 1 + 6) 0 = 40 := h6.2
      by_cases hl : p + 1 + 6 = n - 1
      · rw [hl, h.last] at e40; cases e40
      · have := h.body (p + 1 + 6) (by exact gnle (lin1 (cx1 _) (.num 0) (.var 0) (.num 7) (.add (.add (.var 0) (.num 1)) (.num 6)) 1 1 rfl (nn _))) (by omega)
        rw [e40] at this
        omega
    | succ i ih =>
      intro j seen hij hall
      by_cases hx : p + 1 + j < n ∧ text.getD (p + 1 + j) 0 = [70, 76, 65, 71, 83, 32, 40].getD j 0
      · obtain ⟨k, seen', hk, e⟩ := ih (j + 1) (seen.add 16) (by omega) (fun t ht => by
          by_cases e : t = j
          · subst e; exact hx
          · exact hall t (by omega))
        refine ⟨k + 1, seen', by omega, ?_⟩
        rw [runFor_1 _ rfl, lit_yes j (by omega) hx.1 hx.2]
        exact e
      · obtain ⟨pc', pos', seen', e⟩ := lit_no (text := text) (n := n) (p := p + 1) (c := ((p + 1 : Nat) : Int)) (pos := p + 1 + j) (seen := seen) j (by omega) (fun h1 h2 => hx ⟨h1, h2⟩)
        refine ⟨2, seen', by exact gnle (lin1 (cx1 _) (.num 0) (.var 0) (.num 2) (.add (.add (.var 0) (.num 1)) (.num 1)) 1 1 rfl (nn _)), ?_⟩
        rw [runFor_1 _ rfl, e, runFor_1 _ rfl, back_step]
        rfl
  obtain ⟨k, seen', hk, e⟩ := key 7 0 seen rfl (fun t ht => absurd ht (Nat.not_lt_zero _))
  exact ⟨k, seen', by exact gnle (lin1 (cx1 _) (.var 0) (.add (.num 7) (.num 1)) (.var 0) (.num 8) 1 1 rfl (nle hk)), e⟩
theorem all_back {text : Array Nat} {n : Nat} (h : FlagText text n) : ∀ (p : Nat) (seen : Sre.Seen), p ≤ n → ∃ k seen', k ≤ 8 * p ∧ Sre.M.runFor k (stt text n p (p : Int) 11 p seen) = stt text n 0 0 11 0 seen'
  | 0, seen, _ => ⟨0, seen, Nat.le_refl _, rfl⟩
  | p + 1, seen, hp => by
    obtain ⟨k, s1, hk, e⟩ := turn_back h p seen hp
    obtain ⟨k2, s2, hk2, e2⟩ := all_back h p s1 (by exact gnle (lin1 (cx2 _ _) (.add (.var 0) (.num 1)) (.var 1) (.var 0) (.var 1) 1 1 rfl (nle hp)))
    exact ⟨k + k2, s2, by omega, by rw [runFor_add, e, e2]⟩
theorem run_any {text : Array Nat} (seen : Sre.Seen) : ∀ (k p found : Nat), (∀ t, t < k → text.getD (p + t) 0 ≠ 10) → Sre.run codeF text 9 k p found seen = .ok (found + k, seen)
  | 0, p, found, _ => rfl
  | k + 1, p, found, h => by
    have e : Sre.accepts codeF 9 (text.getD p 0) seen = .ok (true, seen) := by
      show Except.ok (text.getD p 0 != 10, seen) = _
      rw [show (text.getD p 0 != 10) = true from by simpa using h 0 (by exact gnlt (lin1 (cx1 _) (.num 0) (.var 0) (.add (.num 0) (.num 1)) (.add (.var 0) (.num 1)) 1 1 rfl (nn _)))]
    have ih := run_any seen k (p + 1) (found + 1) (fun t ht => by rw [Nat.add_assoc, Nat.add_comm 1 t]; exact h (t + 1) (by exact gnlt (lin1 (cx2 _ _) (.add (.var 0) (.num 1)) (.var 1) (.add (.add (.var 0) (.num 1)) (.num 1)) (.add (.var 1) (.num 1)) 1 1 rfl (nlt ht))))
    unfold Sre.run
    rw [e]
    show Sre.run codeF text 9 k (p + 1) (found + 1) seen = _
    rw [ih, Nat.add_right_comm, Nat.add_assoc]
theorem run_not {text : Array Nat} (seen : Sre.Seen) (m : Nat) : ∀ (k p found : Nat), (∀ t, t < k → text.getD (p + t) 0 ≠ 41) → text.getD (p + k) 0 = 41 → Sre.run codeF text 31 (k + (m + 1)) p found seen = .ok (found + k, seen)
  | 0, p, found, _, h0 => by
    have e : Sre.accepts codeF 31 (text.getD p 0) seen = .ok (false, seen) := by
      show Except.ok (text.getD p 0 != 41, seen) = _
      rw [show (text.getD p 0 != 41) = false from by simpa using h0]
    rw [Nat.zero_add]
    unfold Sre.run
    rw [e]
    rfl
  | k + 1, p, found, h, h0 => by
    have e : Sre.accepts codeF 31 (text.getD p 0) seen = .ok (true, seen) := by
      show Except.ok (text.getD p 0 != 41, seen) = _
      rw [show (text.getD p 0 != 41) = true from by simpa using h 0 (by exact gnlt (lin1 (cx1 _) (.num 0) (.var 0) (.add (.num 0) (.num 1)) (.add (.var 0) (.num 1)) 1 1 rfl (nn _)))]
    have ih := run_not seen m k (p + 1) (found + 1) (fun t ht => by rw [Nat.add_assoc, Nat.add_comm 1 t]; exact h (t + 1) (by exact gnlt (lin1 (cx2 _ _) (.add (.var 0) (.num 1)) (.var 1) (.add (.add (.var 0) (.num 1)) (.num 1)) (.add (.var 1) (.num 1)) 1 1 rfl (nlt ht)))) (by rw [Nat.add_assoc, Nat.add_comm 1 k]; exact h0)
    rw [Nat.add_right_comm]
    unfold Sre.run
    rw [e]
    show Sre.run codeF text 31 (k + (m + 1)) (p + 1) (found + 1) seen = _
    rw [ih, Nat.add_right_comm, Nat.add_assoc]
theorem flag_not10 {text : Array Nat} {n : Nat} (h : FlagText text n) : ∀ t, t < n → text.getD t 0 ≠ 10 := by
  intro t ht
  by_cases h1 : t < 7
  · rw [h.head t h1]
    have : t = 0 ∨ t = 1 ∨ t = 2 ∨ t = 3 ∨ t = 4 ∨ t = 5 ∨ t = 6 := lin_or7 (by exact gnlt (lin1 (cx1 _) (.add (.var 0) (.num 1)) (.num 7) (.add (.var 0) (.num 1)) (.num 7) 1 1 rfl (nlt h1)))
    rcases this with h | h | h | h | h | h | h <;> subst h <;> decide
  by_cases h2 : t = n - 1
  · rw [h2, h.last]; decide
  · have := h.body t (by exact gnle (lin1 (cx1 _) (.num 7) (.var 0) (.num 7) (.var 0) 1 1 rfl (nnlt h1))) (by omega)
    omega
noncomputable abbrev st0 (text : Array Nat) (n : Nat) : Sre.M :=
  { code := codeF, text := text, lim := n, start := 0, pc := 5, pos := 0, handed := 0, marks := #[none, none], seen := ({} : Sre.Seen).add 14 }
theorem forMatch_st0 {text : Array Nat} {n : Nat} (h : FlagText text n) : Sre.forMatch codeF text 1 0 n false false = st0 text n := by
  show (if (true && decide (0 ≤ n) && decide (n - 0 < 8)) = true then _ else _) = _
  rw [show decide (n - 0 < 8) = false from decide_eq_false (by have := h.h8; exact gnnlt (lin2 (cx2 _ _) (.num 8) (.var 0) (.var 0) (.add (.var 1) (.num 0)) (.num 8) (.var 1) 1 1 1 rfl (nle this) (ns1 _ _))), Bool.and_false, if_neg Bool.false_ne_true]
  rfl
theorem first_step {text : Array Nat} {n : Nat} (h : FlagText text n) (hn : n ≤ 100000) : ∃ seen, (st0 text n).step = stt text n n (n : Int) 11 n seen := by
  refine ⟨((({} : Sre.Seen).add 14).add 24).add 2, ?_⟩
  have e1 : min 4294967295 ((n : Int) - ((0 : Nat) : Int)).toNat = n := by omega
  show (match Sre.run codeF text 9 (min 4294967295 ((n : Int) - ((0 : Nat) : Int)).toNat) 0 0 (((({} : Sre.Seen).add 14).add 24).add 2) with | .error why => _ | .ok (n, seen) => _) = _
  rw [e1, run_any _ n 0 0 (fun t ht => by rw [Nat.zero_add]; exact flag_not10 h t ht), Nat.zero_add]
  show (if n < 0 then _ else _) = _
  rw [if_neg (Nat.not_lt_zero _)]
  show Sre.M.attempt _ _ _ (0 + n) _ = _
  rw [Nat.zero_add]
  rfl
structure Ended (n : Nat) (m : Sre.M) : Prop where
  out : m.outcome = some .matched
  marks : m.marks = #[some 7, some (n - 1)]
  lastmark : m.lastmark = 1
  lastindex : m.lastindex = 1
  start : m.start = 0
  handed : m.handed = n
noncomputable abbrev st1 (text : Array Nat) (n : Nat) (seen : Sre.Seen) : Sre.M :=
  { code := codeF, text := text, lim := n, start := 0, pc := 27, pos := 7, handed := 0, outermost := true, marks := #[some 7, none], lastmark := 0,
    frames := [{ wait := .giveBack, pc := 5, pos := 0, outermost := true, count := 0 }], weight := 1, seen := seen }
noncomputable abbrev st2 (text : Array Nat) (n : Nat) (seen : Sre.Seen) : Sre.M :=
  { code := codeF, text := text, lim := n, start := 0, pc := 34, pos := n - 1, handed := n - 1, outermost := true, marks := #[some 7, none], lastmark := 0,
    frames := [{ wait := .giveBack, pc := 27, pos := n - 1, outermost := true, count := ((n - 8 : Nat) : Int), kept := { lastmark := 0 } }, { wait := .giveBack, pc := 5, pos := 0, outermost := true, count := 0 }], weight := 2, seen := seen }
noncomputable abbrev st3 (text : Array Nat) (n : Nat) (seen : Sre.Seen) : Sre.M :=
  { code := codeF, text := text, lim := n, start := 0, pc := 36, pos := n - 1, handed := n - 1, outermost := true, marks := #[some 7, some (n - 1)], lastmark := 1, lastindex := 1,
    frames := [{ wait := .giveBack, pc := 27, pos := n - 1, outermost := true, count := ((n - 8 : Nat) : Int), kept := { lastmark := 0 } }, { wait := .giveBack, pc := 5, pos := 0, outermost := true, count := 0 }], weight := 2, seen := seen }
noncomputable abbrev st4 (text : Array Nat) (n pos : Nat) (seen : Sre.Seen) : Sre.M :=
  { code := codeF, text := text, lim := n, start := 0, pc := 38, pos := pos, handed := n - 1, outermost := true, marks := #[some 7, some (n - 1)], lastmark := 1, lastindex := 1,
    frames := [{ wait := .giveBack, pc := 27, pos := n - 1, outermost := true, count := ((n - 8 : Nat) : Int), kept := { lastmark := 0 } }, { wait := .giveBack, pc := 5, pos := 0, outermost := true, count := 0 }], weight := 2, seen := seen }
theorem step1 {text : Array Nat} {n : Nat} (seen : Sre.Seen) : ∃ s, (stt text n 0 0 25 7 seen).step = st1 text n s := ⟨_, rfl⟩
theorem step2 {text : Array Nat} {n : Nat} (h : FlagText text n) (hn : n ≤ 100000) (seen : Sre.Seen) : ∃ s, (st1 text n seen).step = st2 text n s := by
  have h8 := h.h8
  refine ⟨(seen.add 24).add 20, ?_⟩
  have e1 : min 4294967295 ((n : Int) - ((7 : Nat) : Int)).toNat = (n - 8) + (0 + 1) := by omega
  have e0 : (st1 text n seen).step = (st1 text n seen).exec := rfl
  rw [e0]
  unfold Sre.M.exec
  have eo : Sre.ops[(st1 text n seen).word 0]? = some .REPEAT_ONE := rfl
  dsimp only
  rw [eo]
  show (if (((0 : Nat) : Int) > (n : Int) - ((7 : Nat) : Int)) then Sre.M.say _ _ else _) = _
  rw [if_neg (by exact ginlt (lin1 (cx1 _) (.num 8) (.var 0) (.num 0) (.sub (.var 0) (.num 7)) 1 1 rfl (nle h8)))]
  show (match Sre.run codeF text 31 (min 4294967295 ((n : Int) - ((7 : Nat) : Int)).toNat) 7 0 ((seen.add 24).add 20) with | .error why => _ | .ok (n, seen) => _) = _
  rw [e1, run_not _ 0 (n - 8) 7 0 (fun t ht => by have := h.body (7 + t) (by exact gnle (lin1 (cx1 _) (.num 0) (.var 0) (.num 7) (.add (.num 7) (.var 0)) 1 1 rfl (nn _))) (by exact gnlt (lin3 (cx4 _ _ _ _) (.add (.var 0) (.num 1)) (.var 1) (.var 2) (.add (.var 3) (.num 1)) (.add (.var 1) (.num 8)) (.var 2) (.add (.add (.num 7) (.var 0)) (.num 1)) (.var 3) 1 1 1 1 rfl (nlt ht) (ns1 _ _) (ns2 (lin1 (cx1 _) (.num 8) (.var 0) (.num 8) (.var 0) 1 1 rfl (nle h8))))); omega) (by rw [show 7 + (n - 8) = n - 1 by exact gneq (lin2 (cx3 _ _ _) (.var 0) (.add (.var 1) (.num 1)) (.add (.var 2) (.num 8)) (.var 0) (.add (.num 7) (.var 2)) (.var 1) 1 1 1 rfl (ns1 _ _) (ns2 (lin1 (cx1 _) (.num 8) (.var 0) (.num 8) (.var 0) 1 1 rfl (nle h8)))) (lin2 (cx3 _ _ _) (.var 0) (.add (.var 1) (.num 8)) (.add (.var 2) (.num 1)) (.var 0) (.var 2) (.add (.num 7) (.var 1)) 1 1 1 rfl (ns1 _ _) (ns2 (lin1 (cx1 _) (.num 8) (.var 0) (.num 1) (.var 0) 1 1 rfl (nle h8))))]; exact h.last), Nat.zero_add]
  show (if n - 8 < 0 then _ else _) = _
  rw [if_neg (Nat.not_lt_zero _)]
  show Sre.M.attempt { st1 text n ((seen.add 24).add 20) with pos := 7 + (n - 8) } { wait := .giveBack, pc := 27, pos := 7 + (n - 8), outermost := true, count := ((n - 8 : Nat) : Int), kept := { lastmark := 0 } } 34 (7 + (n - 8)) true = _
  rw [show 7 + (n - 8) = n - 1 by exact gneq (lin2 (cx3 _ _ _) (.var 0) (.add (.var 1) (.num 1)) (.add (.var 2) (.num 8)) (.var 0) (.add (.num 7) (.var 2)) (.var 1) 1 1 1 rfl (ns1 _ _) (ns2 (lin1 (cx1 _) (.num 8) (.var 0) (.num 8) (.var 0) 1 1 rfl (nle h8)))) (lin2 (cx3 _ _ _) (.var 0) (.add (.var 1) (.num 8)) (.add (.var 2) (.num 1)) (.var 0) (.var 2) (.add (.num 7) (.var 1)) 1 1 1 rfl (ns1 _ _) (ns2 (lin1 (cx1 _) (.num 8) (.var 0) (.num 1) (.var 0) 1 1 rfl (nle h8))))]
  rfl
theorem step3 {text : Array Nat} {n : Nat} (seen : Sre.Seen) : ∃ s, (st2 text n seen).step = st3 text n s := by
  refine ⟨seen.add 17, ?_⟩
  have e0 : (st2 text n seen).step = Sre.M.mark { st2 text n seen with seen := seen.add 17 } 1 := rfl
  rw [e0]
  unfold Sre.M.mark
  dsimp only
  have e1 : (if ((1 : Nat) : Int) ≤ 0 + 1 then (#[some 7, none] : Array (Option Nat)) else (List.range 1).foldl (fun (a : Array (Option Nat)) (j : Nat) => if (j : Int) > 0 then a.setIfInBounds j none else a) #[some 7, none]) = #[some 7, none] := if_pos (by decide)
  rw [e1]
  rfl
theorem step4 {text : Array Nat} {n : Nat} (h : FlagText text n) (seen : Sre.Seen) : ∃ s, (st3 text n seen).step = st4 text n n s := by
  have h8 := h.h8
  refine ⟨seen.add 16, ?_⟩
  have e0 : (st3 text n seen).step = (st3 text n seen).exec := rfl
  rw [e0]
  unfold Sre.M.exec Sre.M.word
  dsimp only
  show (if n - 1 ≥ n then _ else _) = _
  rw [if_neg (by exact gnnle (lin1 (cx2 _ _) (.add (.var 0) (.num 1)) (.var 1) (.add (.var 0) (.num 1)) (.var 1) 1 1 rfl (ns2 (lin1 (cx1 _) (.num 8) (.var 0) (.num 1) (.var 0) 1 1 rfl (nle h8)))))]
  show (match (Except.ok (text.getD (n - 1) 0 == 41, seen.add 16) : Except String (Bool × Sre.Seen)) with | .error why => _ | .ok (false, seen) => _ | .ok (true, seen) => _) = _
  rw [h.last]
  show st4 text n (n - 1 + 1) _ = _
  rw [show n - 1 + 1 = n by exact gneq (lin1 (cx2 _ _) (.add (.var 0) (.num 1)) (.var 1) (.add (.var 0) (.num 1)) (.var 1) 1 1 rfl (ns2 (lin1 (cx1 _) (.num 8) (.var 0) (.num 1) (.var 0) 1 1 rfl (nle h8)))) (lin1 (cx2 _ _) (.var 0) (.add (.var 1) (.num 1)) (.var 0) (.add (.var 1) (.num 1)) 1 1 rfl (ns1 _ _))]
theorem step5 {text : Array Nat} {n : Nat} (seen : Sre.Seen) : Ended n (st4 text n n seen).step.step.step.step := ⟨rfl, rfl, rfl, rfl, rfl, rfl⟩
theorem lits {text : Array Nat} {n : Nat} (h : FlagText text n) (seen : Sre.Seen) : ∃ s, Sre.M.runFor 7 (stt text n 0 0 11 0 seen) = stt text n 0 0 25 7 s := by
  have h8 := h.h8
  have key : ∀ (i j : Nat) (seen : Sre.Seen), i + j = 7 → ∃ s, Sre.M.runFor i (stt text n 0 0 (11 + 2 * j) j seen) = stt text n 0 0 25 7 s := by
    intro i
    induction i with
    | zero => intro j seen hj; obtain rfl : j = 7 := by exact gneq (lin1 (cx1 _) (.add (.num 0) (.var 0)) (.num 7) (.var 0) (.num 7) 1 1 rfl (neq1 hj)) (lin1 (cx1 _) (.num 7) (.add (.num 0) (.var 0)) (.num 7) (.var 0) 1 1 rfl (neq2 hj))
              exact ⟨seen, rfl⟩
    | succ i ih =>
      intro j seen hj
      obtain ⟨s, e⟩ := ih (j + 1) (seen.add 16) (by omega)
      refine ⟨s, ?_⟩
      rw [runFor_1 _ rfl, lit_yes j (by omega) (by omega) (h.head j (by omega))]
      exact e
  exact key 7 0 seen rfl
theorem flags_run {text : Array Nat} {n : Nat} (h : FlagText text n) (hn : n ≤ 100000) (k : Nat) (hk : 8 * n + 30 ≤ 4 * (k + 1)) : Ended n (Sre.M.runFor (4 * (k + 1)) (Sre.forMatch codeF text 1 0 n false false)) := by
  rw [forMatch_st0 h]
  obtain ⟨s0, e0⟩ := first_step h hn
  obtain ⟨k1, s1, hk1, e1⟩ := all_back h n s0 (Nat.le_refl _)
  obtain ⟨s2, e2⟩ := lits h s1
  obtain ⟨s3, e3⟩ := step1 (text := text) (n := n) s2
  obtain ⟨s4, e4⟩ := step2 h hn s3
  obtain ⟨s5, e5⟩ := step3 (text := text) (n := n) s4
  obtain ⟨s6, e6⟩ := step4 h s5
  have h7 := step5 (text := text) (n := n) s6
  obtain ⟨r, hr⟩ : ∃ r, 4 * (k + 1) = ((k1 + (7 + (r + 4 + 4))) + 1) := ⟨4 * (k + 1) - k1 - 16, by omega⟩
  rw [hr, runFor_1 _ rfl, e0, runFor_add, e1, runFor_add, e2]
  show Ended n (Sre.M.runFor (r + 7 + 1) _)
  rw [runFor_1 _ rfl, e3]
  show Ended n (Sre.M.runFor (r + 6 + 1) _)
  rw [runFor_1 _ rfl, e4]
  show Ended n (Sre.M.runFor (r + 5 + 1) _)
  rw [runFor_1 _ rfl, e5]
  show Ended n (Sre.M.runFor (r + 4 + 1) _)
  rw [runFor_1 _ rfl, e6]
  show Ended n (Sre.M.runFor (r + 3 + 1) _)
  rw [runFor_1 _ rfl]
  show Ended n (Sre.M.runFor (r + 2 + 1) _)
  rw [runFor_1 _ rfl]
  show Ended n (Sre.M.runFor (r + 1 + 1) _)
  rw [runFor_1 _ rfl, runFor_1 _ rfl, runFor_done _ _ (by rw [h7.out]; rfl)]
  exact h7
end Mine
end
noncomputable section
namespace Mine
open PySem.Calls
open PyProof.Rows.LCg
open PySem.F PySem.Builtin.Re
section
variable {prog : Program} {w : World} {A : Around} {E : Value → Shared → Prop} {s : Shared} {Q : Value → Shared → Prop}
theorem text_bytes (v : Array UInt8) (t : Tok) : reTextOf (.bytes v t) = pure (v.map (·.toNat), 1) := by
  unfold reTextOf
  have e : asStr? (.bytes v t) = pure none := rfl
  rw [e]
  simp only [pure_bind]
  rw [PySem.W.KBy.quiet_eq]
  rfl
theorem noColl (v : Array UInt8) (t : Tok) : reNoCollectionInside (.bytes v t) 1 = pure () := by
  rfl
theorem target_bytes {id f : String} {P T : Addr} {fs ws : Array Value} {n : Nat} {sl sl' : Array (Option Value)} {code : Array Nat} (v : Array UInt8) (t : Tok) {Q : ReTarget → Shared → Prop}
   (hP : s.heap.get? P = some ⟨.type "re.Pattern", none, .fields fs, sl⟩) (hf : fs.getD 5 .none = .ref T) (hT : s.heap.get? T = some ⟨.type "tuple", none, .seq ws n, sl'⟩) (hc : (ws.map reRawOf).map (·.toNat) = code) (hk : reRawNat (fs.getD 6 .none) = 1) (hsz : v.size ≤ 1000000)
   (h : Q { pattern := .ref P, string := .bytes v t, code := code, text := v.map (·.toNat), kind := 1, groups := reRawNat (fs.getD 2 .none), pos := 0, lim := v.size } s) :
   wpAny (model prog w) A (reTarget id f ⟨[.ref P, .bytes v t], []⟩) Q E s := by
  have hm : (v.map (·.toNat)).size = v.size := Array.size_map
  have e0 : min (Int.toNat 0) (v.map (·.toNat)).size = 0 := Nat.zero_min _
  have e2 : ((2 : Int) ^ 63 - 1).toNat = 9223372036854775807 := by decide
  have e1 : min ((2 : Int) ^ 63 - 1).toNat (v.map (·.toNat)).size = v.size := by rw [hm]; exact Nat.min_eq_right (by exact gnle (lin2 (cx2 _ _) (.var 0) (.num 1000000) (.num 9223372036854775807) (.var 1) (.var 0) (.var 1) 1 1 1 rfl (nle hsz) (neq2 e2)))
  unfold reTarget
  dsimp only
  rw [named_1]
  simp only [pure_bind, text_bytes]
  wp_walk
  rw [hk, hf]
  refine wpAny_ite_false rfl ?_
  refine wpAny_ite_false rfl ?_
  rw [noColl]
  wp_walk
  simp only [Option.getD_some, hc, e0, e1]
  exact h
end
noncomputable abbrev matO (b : Array UInt8) (t : Tok) (P tp : Addr) : Obj := { cls := .type "re.Match", data := .fields #[.bytes b t, .ref P, .int 0 0, .int b.size 0, .int 1 0, .ref tp] }
noncomputable abbrev spanO (n : Nat) : Obj := tupO #[.int 0 0, .int n 0, .int 7 0, .int ((n - 1 : Nat) : Int) 0] 0
section
variable {prog : Program} {w : World} {A : Around} {E : Value → Shared → Prop} {s : Shared} {Q : Value → Shared → Prop}
theorem newMatch_wp {v : Array UInt8} {t : Tok} {P : Addr} {mm : Sre.M} {Q : Value → Shared → Prop} (h8 : 8 ≤ v.size) (hE : Ended v.size mm)
   (h : Q (.ref (s.heap.push (spanO v.size)).objs.size) { s with heap := (s.heap.push (spanO v.size)).push (matO v t P s.heap.objs.size) }) :
   wpAny (model prog w) A (reNewMatch (.ref P) (.bytes v t) 1 0 v.size mm) Q E s := by
  unfold reNewMatch
  rw [hE.marks, hE.lastmark, hE.lastindex, hE.start, hE.handed]
  dsimp only
  refine wpAny_ite_false ?_ ?_
  · show decide (((true && decide (v.size - 1 < 7)) || false) = true) = false
    have e : decide (v.size - 1 < 7) = false := decide_eq_false (by exact gnnlt (lin2 (cx2 _ _) (.num 8) (.var 0) (.var 0) (.add (.var 1) (.num 1)) (.num 7) (.var 1) 1 1 1 rfl (nle h8) (ns1 _ _)))
    rw [e]; rfl
  refine wpAny_bind (wpAny_newTuple ?_ (by show 4 ≤ sizeLine; decide))
  exact wpAny_newObj_type h
theorem call_match {h₀ : Heap} {L : Addr} {m : Str → Option Value} {news : List (Addr × Obj)} {P T : Addr} {fs ws : Array Value} {k : Nat} {sl sl' : Array (Option Value)} {v : Array UInt8} {t : Tok} {Q : Value → Shared → Prop}
   (F : Fr h₀ L s.heap m) (N : News h₀ L s.heap news) (hv : FlagText (v.map (·.toNat)) v.size) (hsz : v.size ≤ 100000)
   (hP : s.heap.get? P = some ⟨.type "re.Pattern", none, .fields fs, sl⟩) (hf : fs.getD 5 .none = .ref T) (hT : s.heap.get? T = some ⟨.type "tuple", none, .seq ws k, sl'⟩) (hc : (ws.map reRawOf).map (·.toNat) = codeF) (hk : reRawNat (fs.getD 6 .none) = 1) (hg : reRawNat (fs.getD 2 .none) = 1)
   (h : ∀ tp mo h', Fr h₀ L h' m → News h₀ L h' ((mo, matO v t P tp) :: (tp, spanO v.size) :: news) → (∀ p ∈ news, p.1 < tp) → tp < mo → Q (.ref mo) { s with heap := h' }) : wpAny (model prog w) A (call (.builtin "re.Pattern.match") [.ref P, .bytes v t]) Q E s := by
  refine wpAny_call (codeAny_call_builtin slot_re_match.plain entry_re_match (slot_re_match.check _ _ _ _ _ _ _ _ ⟨_, hP, rfl⟩ (args_re_match_2 _ _) ?_))
  show wpAny _ _ (Builtin.«re.Pattern.match» _) _ _ _
  unfold Builtin.«re.Pattern.match»
  refine wpAny_bind (target_bytes v t hP hf hT hc hk (by exact gnle (lin1 (cx1 _) (.var 0) (.num 100000) (.var 0) (.num 1000000) 1 1 rfl (nle hsz))) ?_)
  dsimp only
  rw [hg]
  unfold reAnswer
  refine wpAny_bind (run_end _ (2 * v.size + 8) (by omega) fun m' em => .inr ?_)
  have hE : Ended v.size m' := em ▸ flags_run hv hsz (2 * v.size + 8) (by omega)
  refine ⟨hE.out, ?_⟩
  dsimp only
  refine wpAny_bind (newMatch_wp hv.h8 hE ?_)
  have N1 := N.push F (spanO v.size) rfl
  have F1 := F.push (spanO v.size)
  have N2 := N1.push F1 (matO v t P s.heap.objs.size) rfl
  have F2 := F1.push (matO v t P s.heap.objs.size)
  exact wpAny_pure (h _ _ _ F2 N2 (fun p hp => Heap.lt_size (N p hp).1) (by rw [Heap.size_push]; exact Nat.lt_succ_self _))
end
end Mine
end
noncomputable section
namespace Mine
open PySem.Calls
open PyProof.Rows.LCg
open PySem.F PySem.Builtin.Re
theorem noBool_match : typeLookup (.type "re.Match") "__bool__" = pure none := by rw [typeLookup_type, builtinLookup_eq_fast]; kernel_rfl
theorem noLen_match : typeLookup (.type "re.Match") "__len__" = pure none := by rw [typeLookup_type, builtinLookup_eq_fast]; kernel_rfl
theorem noIndex_str : typeLookup (.type "str") (Str.ofString "__index__") = pure none := by rw [typeLookup_type, builtinLookup_eq_fast]; kernel_rfl
section
variable {prog : Program} {w : World} {A : Around} {E : Value → Shared → Prop} {s : Shared}
theorem truthy_match {mo : Addr} {Q : Bool → Shared → Prop} (hT : s.TypeIs (.ref mo) "re.Match") (h : Q true s) : wpAny (model prog w) A (truthy (.ref mo)) Q E s := by
  unfold truthy
  refine wpAny_bind (wpAny_callSpecial?_none (name := Str.ofString "__bool__") hT noBool_match ?_)
  refine wpAny_bind (wpAny_specialOf (name := Str.ofString "__len__") hT noLen_match ?_)
  exact wpAny_pure h
theorem call_group {P D tp mo : Addr} {fs : Array Value} {sl : Array (Option Value)} {v : Array UInt8} {t t' : Tok} {u : Tok} {Q : Value → Shared → Prop}
   (hm : s.heap.get? mo = some (matO v t P tp)) (ht : s.heap.get? tp = some (spanO v.size)) (hP : s.heap.get? P = some ⟨.type "re.Pattern", none, .fields fs, sl⟩) (hd : fs.getD 3 .none = .ref D)
   (hD : s.heap.DictOf (strKind prog w) D [(Str.ofString "flags", .int 1 u)]) (hsz : v.size ≤ 100000)
   (h : ∀ tk, Q (.bytes (((v.map (·.toNat)).extract 7 (v.size - 1)).map (·.toUInt8)) tk) { s with toks := tk + 1 }) : wpAny (model prog w) A (call (.builtin "re.Match.group") [.ref mo, .str (Str.ofString "flags") t']) Q E s := by
  refine wpAny_call (codeAny_call_builtin slot_re_group.plain entry_re_group (slot_re_group.check _ _ _ _ _ _ _ _ ⟨_, hm, rfl⟩ (args_re_group_2 _ _) ?_))
  show wpAny _ _ (Builtin.«re.Match.group» _) _ _ _
  unfold Builtin.«re.Match.group»
  wp_walk
  rw [noIndex_str]
  wp_walk
  rw [hd]
  dsimp only
  refine wpAny_bind (wpAny_dictGet_of (knd := strKind prog w) (k := Str.ofString "flags") (strKind_is prog w _ _) hD.mapOf ?_)
  have ev : valueAt [(Str.ofString "flags", Value.int 1 u)] (Str.ofString "flags") = some (.int 1 u) := by
    unfold valueAt; rw [List.find?_cons]; simp
  rw [ev]
  wp_walk
  have es : ((#[.int 0 0, .int v.size 0, .int 7 0, .int ((v.size - 1 : Nat) : Int) 0] : Array Value).map reRawOf) = #[0, (v.size : Int), 7, ((v.size - 1 : Nat) : Int)] := by simp [reRawOf]
  simp only [Option.getD_some, es]
  refine wpAny_ite_false ?_ ?_
  · show decide ((decide ((7 : Int) < 0) || decide (((v.size - 1 : Nat) : Int) < 0)) = true) = false
    have e : decide (((v.size - 1 : Nat) : Int) < 0) = false := decide_eq_false (by exact ginlt (lin1 (cx1 _) (.num 0) (.var 0) (.num 0) (.var 0) 1 1 rfl (nn _)))
    rw [e]; rfl
  show wpAny _ _ (reTextOf (.bytes v t) >>= fun x => reSlice x.1 x.2 7 (v.size - 1)) _ _ _
  rw [text_bytes]
  simp only [pure_bind]
  have hsz' : (((v.map (·.toNat)).extract 7 (v.size - 1)).map (·.toUInt8)).size ≤ sizeLine := by
    rw [Array.size_map, Array.size_extract, Array.size_map]
    exact Nat.le_trans (Nat.sub_le _ _) (Nat.le_trans (Nat.min_le_right _ _) (Nat.le_trans hsz (by decide)))
  show wpAny _ _ (mkBytes (((v.map (·.toNat)).extract 7 (v.size - 1)).map (·.toUInt8))) _ _ _
  refine wpAny_mkBytes ?_ hsz'
  exact wpAny_pure (h _)
end
end Mine
end
noncomputable section
namespace Mine
open PySem.Calls
open PyProof.Rows.LCg
open PySem.F PySem.Builtin
theorem slot_bytes_split : Slot "bytes" "split" "bytes.split" :=
  .of (owner := "bytes") (n := "split") (by rw [typeLookup_type, builtinLookup_eq_fast]; kernel_rfl) (by decide +kernel) (by decide +kernel) (by decide +kernel)
    (by first | exact .inl (by decide +kernel) | exact .inr (by decide +kernel)) (by rw [isSubtype_type]; kernel_rfl)
theorem type_bytes_split : typeOf (.builtin "bytes.split") = pure (.type "method_descriptor") := by show builtinType _ = _; rw [builtinType_eq_fast]; kernel_rfl
theorem entry_bytes_split : entryFor table "bytes.split" = some Builtin.«bytes.split» := entryFor_of_tree (by kernel_rfl)
theorem args_bytes_split_1 (a : Value) : argsOk "bytes.split" ⟨[a], []⟩ := by
  unfold argsOk; rw [signature?_of (id := "bytes.split") (n := ['t', 'i', 'l', 'p', 's']) (o := ['s', 'e', 't', 'y', 'b']) (by kernel_rfl) FB.owner_bytes]; kernel_rfl
inductive BA : List Value → List (List Int) → Prop
  | nil : BA [] []
  | cons {b : Array UInt8} {x : List Int} {vs : List Value} {l : List (List Int)} (t : Tok) (hb : KBw.bInts b = x) (h : BA vs l) : BA (.bytes b t :: vs) (x :: l)
noncomputable abbrev uInts (l : List UInt8) : List Int := l.map fun c => (c.toNat : Int)
theorem bInts_toArray (l : List UInt8) : KBw.bInts l.toArray = uInts l := rfl
section
variable {prog : Program} {w : World} {A : Around} {E : Value → Shared → Prop} {s : Shared}
theorem mapM_new : ∀ (l : List (List UInt8)) (s : Shared) {Q : List Value → Shared → Prop}, (∀ x ∈ l, x.length ≤ 100000) → (∀ vs k, BA vs (l.map uInts) → Q vs { s with toks := k }) → wpAny (model prog w) A (l.mapM fun w => Bytes.Kind.new .bytes w.toArray) Q E s
  | [], s, Q, _, h => by
    rw [List.mapM_nil]
    exact wpAny_pure (h [] s.toks .nil)
  | x :: l, s, Q, hl, h => by
    rw [List.mapM_cons]
    refine wpAny_bind ?_
    show wpAny _ _ (mkBytes x.toArray) _ _ _
    refine wpAny_mkBytes ?_ (by rw [List.size_toArray]; exact Nat.le_trans (hl x List.mem_cons_self) (by decide))
    refine wpAny_bind (mapM_new l _ (fun y hy => hl y (List.mem_cons_of_mem _ hy)) fun vs k hv => wpAny_pure (h _ _ (.cons _ (bInts_toArray x) hv)))
theorem takeW_all : ∀ (l : List UInt8), (∀ x ∈ l, Bytes.isSpace x = false) → l.takeWhile (!Bytes.isSpace ·) = l ∧ l.dropWhile (!Bytes.isSpace ·) = [] ∧ l.dropWhile Bytes.isSpace = l
  | [], _ => ⟨rfl, rfl, rfl⟩
  | a :: l, h => by
    have ha := h a List.mem_cons_self
    have ih := takeW_all l (fun x hx => h x (List.mem_cons_of_mem _ hx))
    simp [ha, ih.1, ih.2.1]
theorem words_one {l : List UInt8} (h : ∀ x ∈ l, Bytes.isSpace x = false) (hne : l ≠ []) (n : Nat) : Bytes.words (n + 1) (n + 1) l = [l] := by
  obtain ⟨h1, h2, h3⟩ := takeW_all l h
  unfold Bytes.words
  rw [h3]
  cases l with
  | nil => exact absurd rfl hne
  | cons a l =>
    dsimp only
    rw [if_neg (by simp), h1, h2]
    cases n <;> rfl
theorem words_short : ∀ (n k : Nat) (l : List UInt8), ∀ x ∈ Bytes.words n k l, x.length ≤ l.length
  | 0, _, _, x, hx => by simp [Bytes.words] at hx
  | n + 1, k, l, x, hx => by
    have hd : (l.dropWhile Bytes.isSpace).length ≤ l.length := (List.dropWhile_sublist _).length_le
    unfold Bytes.words at hx
    split at hx
    · simp at hx
    · rename_i rest hr
      split at hx
      · rw [List.mem_singleton.mp hx]; exact hd
      · rcases List.mem_cons.mp hx with rfl | hx
        · exact Nat.le_trans (List.takeWhile_sublist _).length_le hd
        · exact Nat.le_trans (words_short n _ _ x hx) (Nat.le_trans (List.dropWhile_sublist _).length_le hd)
theorem words_count : ∀ (n k : Nat) (l : List UInt8), (Bytes.words n k l).length ≤ n
  | 0, _, _ => by simp [Bytes.words]
  | n + 1, k, l => by
    unfold Bytes.words
    split
    · simp
    · split
      · simp
      · simp only [List.length_cons]; exact Nat.succ_le_succ (words_count n _ _)
theorem splitM_wp {b : Array UInt8} {t : Tok} {h₀ : Heap} {L : Addr} {m : Str → Option Value} {news : List (Addr × Obj)} {Q : Value → Shared → Prop} (F : Fr h₀ L s.heap m) (N : News h₀ L s.heap news) (hsz : b.size ≤ 100000) (h1 : 1 ≤ b.size)
   (h : ∀ D h' k ws, Fr h₀ L h' m → News h₀ L h' ((D, W.listOf ws.toArray 0) :: news) → (∀ p ∈ news, p.1 < D) → BA ws ((Bytes.words (b.size + 1) (b.size + 1) b.toList).map uInts) → Q (.ref D) { s with heap := h', toks := k }) :
   wpAny (model prog w) A (Builtin.«bytes.split» ⟨[.bytes b t], []⟩) (fun fin s' => ∃ r, fin = .done (.ret r) ∧ Q r s') E s := by
  unfold Builtin.«bytes.split» Bytes.splitM
  wp_walk
  have hb : b.toList ≠ [] := fun e => by
    have : b.size = 0 := by rw [← Array.length_toList, e]; rfl
    exact gfalse (lin2 (cx1 _) (.num 1) (.var 0) (.var 0) (.num 0) (.num 1) (.num 0) 1 1 1 rfl (nle h1) (neq1 this))
  have he : b.isEmpty = false := by
    unfold Array.isEmpty
    exact decide_eq_false (by exact gnne2 (lin1 (cx1 _) (.num 1) (.var 0) (.add (.num 0) (.num 1)) (.var 0) 1 1 rfl (nle h1)))
  have hlen : b.toList.length = b.size := Array.length_toList
  by_cases hs : b.any Bytes.isSpace = true
  · refine wpAny_ite_false ?_ ?_
    · rw [hs, Bool.not_true, Bool.and_false]; rfl
    dsimp only
    refine wpAny_bind (mapM_new _ _ (fun x hx => ?_) fun vs k hv => ?_)
    · have := words_short _ _ _ x hx
      exact gnle (lin3 (cx3 _ _ _) (.var 0) (.num 100000) (.var 1) (.var 0) (.var 2) (.var 1) (.var 2) (.num 100000) 1 1 1 1 rfl (nle hsz) (neq1 hlen) (nle this))
    · have hvl : vs.length ≤ b.size + 1 := by
        have e : ∀ {vs : List Value} {l : List (List Int)}, BA vs l → vs.length = l.length := fun h => by
          induction h with
          | nil => rfl
          | cons t hb h ih => simp [ih]
        rw [e hv, List.length_map]
        exact words_count _ _ _
      have N1 := N.push F (W.listOf vs.toArray 0) rfl
      refine wpAny_bind (wpAny_newObj_type ?_ (by show vs.toArray.size ≤ sizeLine; rw [List.size_toArray]; exact Nat.le_trans hvl (Nat.le_trans (Nat.succ_le_succ hsz) (by decide))))
      exact wpAny_pure ⟨_, rfl, h _ _ _ vs (F.push _) N1 (fun p hp => Heap.lt_size (N p hp).1) hv⟩
  · have hs' : b.any Bytes.isSpace = false := by simpa using hs
    have hw : Bytes.words (b.size + 1) (b.size + 1) b.toList = [b.toList] := words_one (fun x hx => by
      have := hs
      rw [Array.any_eq_true'] at this
      cases e : Bytes.isSpace x with
      | false => rfl
      | true => exact absurd ⟨x, Array.mem_toList_iff.mp hx, e⟩ this) hb _
    rw [hw] at h
    refine wpAny_ite_true ?_ ?_
    · rw [hs', he]; rfl
    wp_walk
    have N1 := N.push F (W.listOf [.bytes b t].toArray 0) rfl
    exact ⟨_, rfl, h _ _ _ [.bytes b t] (F.push _) N1 (fun p hp => Heap.lt_size (N p hp).1) (.cons t rfl .nil)⟩
theorem call_split {b : Array UInt8} {t : Tok} {h₀ : Heap} {L : Addr} {m : Str → Option Value} {news : List (Addr × Obj)} {Q : Value → Shared → Prop} (F : Fr h₀ L s.heap m) (N : News h₀ L s.heap news) (hsz : 1 ≤ b.size ∧ b.size ≤ 100000)
   (h : ∀ D h' k ws, Fr h₀ L h' m → News h₀ L h' ((D, W.listOf ws.toArray 0) :: news) → (∀ p ∈ news, p.1 < D) → BA ws ((Bytes.words (b.size + 1) (b.size + 1) b.toList).map uInts) → Q (.ref D) { s with heap := h', toks := k }) :
   wpAny (model prog w) A (call (.builtin "bytes.split") [.bytes b t]) Q E s := by
  refine wpAny_call (codeAny_call_builtin slot_bytes_split.plain entry_bytes_split (slot_bytes_split.check _ _ _ _ _ _ _ _ (typeIs_bytes _ _ _) (args_bytes_split_1 _) ?_))
  refine wpAny_mono (splitM_wp F N hsz.2 hsz.1 h) (fun fin s' hq => ?_) fun _ _ e => e
  obtain ⟨r, rfl, hq⟩ := hq
  exact hq
theorem splitMeth {b : Array UInt8} {t : Tok} {pl : Sem Bool} {Q : Value × List Value → Shared → Prop} (h : Q (.builtin "bytes.split", [.bytes b t]) s) : wpAny (model prog w) A (getMethod (.bytes b t) (Str.ofString "split") pl) Q E s :=
  getMethod_builtin (typeIs_bytes _ _ _) FB.plainAttrs_bytes slot_bytes_split type_bytes_split (fun _ e => nomatch e) h
end
end Mine
end
noncomputable section
namespace Mine
open PySem.Calls
open PyProof.Rows.LCg
open PySem.F PySem.Builtin.Re
section
variable {prog : Program} {w : World} {A : Around} {E : Value → Shared → Prop} {s : Shared} {h₀ : Heap} {L : Addr} {m : Str → Option Value} {K : Frag} {news : List (Addr × Obj)}
theorem patMatchM {P : Addr} {fs : Array Value} {sl : Array (Option Value)} {pl : Sem Bool} {Q : Value × List Value → Shared → Prop} (F : Fr h₀ L s.heap m) (X : K.In h₀) (hP : K.lookup P = some ⟨.type "re.Pattern", none, .fields fs, sl⟩)
    (h : Q (.builtin "re.Pattern.match", [.ref P]) s) : wpAny (model prog w) A (getMethod (.ref P) (Str.ofString "match") pl) Q E s :=
  getMethod_builtin ⟨_, (X.keeps F.keep) _ _ hP, rfl⟩ plainAttrs_rePattern slot_re_match type_re_match (fun a e => by cases e; exact ⟨_, (X.keeps F.keep) _ _ hP, rfl⟩) h
theorem patMatch {P T : Addr} {fs ws : Array Value} {k : Nat} {sl sl' : Array (Option Value)} {v : Array UInt8} {t : Tok} {Q : Value → Shared → Prop} (F : Fr h₀ L s.heap m) (X : K.In h₀) (N : News h₀ L s.heap news) (hv : FlagText (v.map (·.toNat)) v.size ∧ v.size ≤ 100000)
   (hP : K.lookup P = some ⟨.type "re.Pattern", none, .fields fs, sl⟩) (hf : fs.getD 5 .none = .ref T) (hT : K.lookup T = some ⟨.type "tuple", none, .seq ws k, sl'⟩) (hc : (ws.map reRawOf).map (·.toNat) = codeF) (hk : reRawNat (fs.getD 6 .none) = 1) (hg : reRawNat (fs.getD 2 .none) = 1)
   (h : ∀ tp mo h', Fr h₀ L h' m → News h₀ L h' ((mo, matO v t P tp) :: (tp, spanO v.size) :: news) → (∀ p ∈ news, p.1 < tp) → tp < mo → Q (.ref mo) { s with heap := h' }) : wpAny (model prog w) A (call (.builtin "re.Pattern.match") [.ref P, .bytes v t]) Q E s :=
  call_match F N hv.1 hv.2 ((X.keeps F.keep) _ _ hP) hf ((X.keeps F.keep) _ _ hT) hc hk hg h
theorem matGroupM {mo tp : Addr} {b : Array UInt8} {t : Tok} {P : Addr} {pl : Sem Bool} {Q : Value × List Value → Shared → Prop} (N : News h₀ L s.heap news) (hm : (mo, matO b t P tp) ∈ news)
    (h : Q (.builtin "re.Match.group", [.ref mo]) s) : wpAny (model prog w) A (getMethod (.ref mo) (Str.ofString "group") pl) Q E s :=
  getMethod_builtin ⟨_, (N _ hm).1, rfl⟩ plainAttrs_reMatch slot_re_group type_re_group (fun a e => by cases e; exact ⟨_, (N _ hm).1, rfl⟩) h
theorem matGroup {P D tp mo : Addr} {fs : Array Value} {sl : Array (Option Value)} {v : Array UInt8} {t t' : Tok} {tk u : Tok} {n : Nat} {Q : Value → Shared → Prop} (F : Fr h₀ L s.heap m) (X : K.In h₀) (N : News h₀ L s.heap news)
   (hm : (mo, matO v t P tp) ∈ news) (ht : (tp, spanO v.size) ∈ news) (hP : K.lookup P = some ⟨.type "re.Pattern", none, .fields fs, sl⟩) (hd : fs.getD 3 .none = .ref D)
   (hD : K.lookup D = some (dictOf (kwEs w.params tk [(Str.ofString "flags", .int 1 u)]) n)) (hv : FlagText (v.map (·.toNat)) v.size ∧ v.size ≤ 100000)
   (h : ∀ tk, Q (.bytes (((v.map (·.toNat)).extract 7 (v.size - 1)).map (·.toUInt8)) tk) { s with toks := tk + 1 }) : wpAny (model prog w) A (call (.builtin "re.Match.group") [.ref mo, .str (Str.ofString "flags") t']) Q E s := by
  refine call_group (u := u) (N _ hm).1 (N _ ht).1 ((X.keeps F.keep) _ _ hP) hd ?_ hv.2 h
  exact Heap.dictOf_iff.mpr ⟨_, (X.keeps F.keep) _ _ hD, kp_isDict tk n (by simp)⟩
end
local macro_rules | `(tactic| walk_at "truthy ref") => `(tactic| (k_here; with_reducible refine halt_in ?_))
local macro_rules | `(tactic| walk_at "call builtin:re.Match.group") => `(tactic| (k_here; with_reducible refine halt_in ?_))
local macro_rules | `(tactic| walk_at "call builtin:re.Pattern.match") => `(tactic| (k_here; with_reducible refine halt_in ?_))
local macro_rules | `(tactic| walk_at "call builtin:bytes.split") => `(tactic| (k_here; with_reducible refine halt_in ?_))
local macro_rules | `(tactic| walk_at "getMethod ref") => `(tactic| (k_here; with_reducible refine halt_in ?_))
local macro_rules | `(tactic| walk_at "getMethod bytes") => `(tactic| (k_here; with_reducible refine halt_in ?_))
noncomputable abbrev bodyOf (b : Array UInt8) : Array UInt8 := ((b.map (·.toNat)).extract 7 (b.size - 1)).map (·.toUInt8)
theorem body_size {b : Array UInt8} (h9 : 9 ≤ b.size) (h : b.size ≤ 100000) : 1 ≤ (bodyOf b).size ∧ (bodyOf b).size ≤ 100000 := by
  unfold bodyOf
  rw [Array.size_map, Array.size_extract, Array.size_map]
  omega
theorem BA.len {vs : List Value} {l : List (List Int)} (h : BA vs l) : vs.length = l.length := by
  induction h with
  | nil => rfl
  | cons t hb h ih => simp [ih]
noncomputable abbrev cutOf (b : Array UInt8) : List (List Int) := (Builtin.Bytes.words ((bodyOf b).size + 1) ((bodyOf b).size + 1) (bodyOf b).toList).map uInts
theorem parse_ok (w : World) (b : Array UInt8) (tr : Tok) (hv : FlagText (b.map (·.toNat)) b.size) (hz : b.size ≤ 10000) (h9 : 9 ≤ b.size) (news : List (Addr × Obj)) :
   Ctr w 2 20 64 [.bytes b tr] news (fun _ v add => ∃ D ws, v = .ref D ∧ add = [(D, tupO ws.toArray 0)] ∧ BA ws (cutOf b) ∧ Off1 D news) := by
  intro mean mg mb dp un gd cn cs a ccd cl outer A₀ base h₀ L m s Q E B F X N T hk hd hu hret
  (refine wpAny_call ?_; k_dflt (refine' enterP (news₀ := []) ?k1 ?k2 ?k3 ?k4 ?k5 ?kS ?kA ?kF ?kK ?k6 ?k7 ?k8 ?k9 ?kB ?_ ?c2 ?c3 ?c4 ?c5; (case kA => exact rfl); (case kF => exact rfl); (case kK => assumption); (case k1 => k_asm); (case k2 => k_asm); (case k3 => k_asm); (case k4 => k_asm); (case k5 => k_asm); (case kS => first | exact fun _ h => h | exact List.forall_mem_nil _ | (intro p hp; simp only [List.mem_cons, List.not_mem_nil, or_false] at hp; rcases hp with rfl | hp <;> first | assumption | (rcases hp with rfl | hp <;> first | assumption | (rcases hp with rfl | hp <;> first | assumption | (rcases hp with rfl | hp <;> first | assumption | (rcases hp with rfl | hp <;> first | assumption | (rcases hp with rfl | hp <;> first | assumption | (rcases hp with rfl | hp <;> first | assumption | (rcases hp with rfl | hp <;> first | assumption | (subst hp; assumption))))))))) | (intro p hp; simp only [List.mem_cons, List.not_mem_nil, or_false] at hp; subst hp; assumption)); (case k6 => k_is); (case k7 => k_is); (case k8 => ktr_room); (case k9 => exact BindsTo.of_eq rfl); (case c5 => decide); (case kB => exact locs rfl); (case c2 => exact rfl); (case c3 => exact rfl); (case c4 => exact rfl); k_whole; intro g' L' h' FG' F' N' B' X' T' lt' old'; (try dsimp only); (try k_fold); refine wpLA ?_; intro Ax Qx Ex))
  have hv2 : FlagText (b.map (·.toNat)) b.size ∧ b.size ≤ 100000 := ⟨hv, by exact gnle (lin1 (cx1 _) (.var 0) (.num 10000) (.var 0) (.num 100000) 1 1 rfl (nle hz))⟩
  have hbs := body_size h9 hv2.2
  have hbz : (bodyOf b).size ≤ 10000 := by
    unfold bodyOf
    rw [Array.size_map, Array.size_extract, Array.size_map]
    omega
  unfold bodyOf at hbs
  k_steps
  refine Halt.out ?_
  refine' patMatchM ?F ?X ?hP ?_
  case F => k_asm
  case X => k_asm
  case hP => k_is
  k_steps
  refine Halt.out ?_
  refine' patMatch ?F ?X ?N ?hv ?hP ?hf ?hT ?hc ?hk ?hg ?_
  case F => k_asm
  case X => k_asm
  case N => k_asm
  case hv => with_reducible assumption
  case hP => k_is
  case hf => exact rfl
  case hT => k_is
  case hc => first | decide +kernel | simp [reRawOf]
  case hk => exact rfl
  case hg => exact rfl
  intro tp9 mo9 h9 F9 N9 l9 l9'
  k_steps
  refine Halt.out ?_
  refine' truthy_match ?hT ?_
  case hT => exact ⟨_, ((by k_asm : News _ _ _ _) _ List.mem_cons_self).1, rfl⟩
  k_steps
  refine Halt.out ?_
  refine' matGroupM ?N ?hm ?_
  case N => k_asm
  case hm => exact List.mem_cons_self
  k_steps
  refine Halt.out ?_
  refine' matGroup ?F ?X ?N ?hm ?ht ?hP ?hd ?hD ?hv ?_
  case F => k_asm
  case X => k_asm
  case N => k_asm
  case hm => exact List.mem_cons_self
  case ht => exact List.mem_cons_of_mem _ List.mem_cons_self
  case hP => k_is
  case hd => exact rfl
  case hD => k_is
  case hv => with_reducible assumption
  intro tk9
  k_steps
  refine Halt.out ?_
  refine' splitMeth ?_
  k_steps
  refine Halt.out ?_
  refine' call_split ?F ?N ?hsz ?_
  case F => k_asm
  case N => k_asm
  case hsz => with_reducible assumption
  intro D9 h9 k9 ws9 F9 N9 l9 hB9
  k_steps
  have hws : ws9.length ≤ 10001 := by
    rw [hB9.len, List.length_map]
    exact Nat.le_trans (words_count _ _ _) (Nat.succ_le_succ hbz)
  refine kde_tupleOf (zs := ws9) F9 N9 (News.isList N9 List.mem_cons_self) (by rw [List.size_toArray]; exact gnle (lin1 (cx1 _) (.var 0) (.num 10001) (.var 0) (.num 16384) 1 1 rfl (nle hws))) (by simp) ?_
  intro T9 h8 F8 N8 l8
  refine ⟨_, _, _, F8, N8, fun p hp => absurd hp List.not_mem_nil, fun F N => hret _ [_] _ _ ⟨T9, ws9, rfl, rfl, hB9, off_old old' (N8 _ List.mem_cons_self).2.2⟩ F (pick1 N)⟩
end Mine
end
noncomputable section
namespace Mine
open PySem.Calls
open PyProof.Rows.LCg
section
variable {prog : Program} {w : World} {A : Around} {E : Value → Shared → Prop} {s : Shared} {h₀ : Heap} {env : Env}
noncomputable def TurnR (h₀ : Heap) (L : Addr) (I : Addr) (oI : Obj) (Jn : (Str → Option Value) → List (Addr × Obj) → Prop) (s₁ : Shared) (f : Flow) (s₂ : Shared) : Prop :=
  match f with
  | .ret _ => False
  | .brk => False
  | _ => ∃ h' tk m' news', s₂ = { s₁ with heap := h', toks := tk } ∧ Fr h₀ L h' m' ∧ News h₀ L h' ((I, oI) :: news') ∧ (∀ p ∈ news', p.1 ≠ I) ∧ Jn m' news'
theorem TurnR.next {L I : Addr} {oI : Obj} {Jn : (Str → Option Value) → List (Addr × Obj) → Prop} {s₁ : Shared} {h' : Heap} {tk : Nat} {m' : Str → Option Value} {all : List (Addr × Obj)} (F : Fr h₀ L h' m') (N : News h₀ L h' all) (news' : List (Addr × Obj))
    (sub : ∀ p ∈ (I, oI) :: news', p ∈ all) (off : ∀ p ∈ news', p.1 ≠ I) (hJ : Jn m' news') : TurnR h₀ L I oI Jn s₁ .next { s₁ with heap := h', toks := tk } :=
  ⟨h', tk, m', news', rfl, F, fun p hp => N p (sub p hp), off, hJ⟩
theorem turn_step {h₀ h' : Heap} {L I : Addr} {oI : Obj} {own : List (Addr × Obj)} {Jn : (Str → Option Value) → List (Addr × Obj) → Prop} {s₁ s₂ : Shared} {tk : Nat} {f : Flow} {Qr : Value → Shared → Prop} {Qn : Shared → Prop} (hown : ∀ p ∈ own, p = (I, oI))
    (hf : TurnR h₀ L I oI Jn { s₁ with heap := h', toks := tk } f s₂) : LoopStepV h₀ L [I] own Jn { s₁ with heap := h', toks := tk } Qr Qn f s₂ := by
  have fin2 : (∃ h'' tk m' news', s₂ = { s₁ with heap := h'', toks := tk } ∧ Fr h₀ L h'' m' ∧ News h₀ L h'' ((I, oI) :: news') ∧ (∀ p ∈ news', p.1 ≠ I) ∧ Jn m' news') → LoopStepV h₀ L [I] own Jn { s₁ with heap := h', toks := tk } Qr Qn .next s₂ := by
    rintro ⟨h'', tk2, m', news', rfl, F'', N'', off, hJ'⟩
    refine ⟨rfl, h'', tk2, m', news', rfl, F'', fun p hp => ?_, fun p hp q => off p hp (List.mem_singleton.mp q), hJ'⟩
    rcases List.mem_append.mp hp with hp | hp
    · rw [hown p hp]; exact N'' _ List.mem_cons_self
    · exact N'' _ (List.mem_cons_of_mem _ hp)
  cases f with
  | ret v => exact hf.elim
  | brk => exact hf.elim
  | cont => exact fin2 hf
  | next => exact fin2 hf
theorem loop_core {Q : Flow → Shared → Prop} {x : Str} {body : List Stmt} {n : Nat} {val : Nat → Int} {St : Nat → Heap → Prop} {s₁ : Shared} {ob : Obj} {m : Str → Option Value} {news : List (Addr × Obj)} (J : Nat → (Str → Option Value) → List (Addr × Obj) → Prop)
    (W : Walks prog w A s₁.heap.objs.size [s₁.heap.objs.size] [s₁.heap.objs.size] n (fun i v => ∃ t, v = .int (val i) t) St) (hIo : ∀ i h, St i h → ∃ o, h.get? s₁.heap.objs.size = some o) (hst : St 0 (s₁.heap.push ob))
    (F : Fr h₀ env.locals s₁.heap m) (N : News h₀ env.locals s₁.heap news) (h0 : J 0 m news)
    (turn : ∀ i m₁ news₁ I oI h tk t, i < n → J i m₁ news₁ → Fr h₀ env.locals h (fun y => if y = x then some (.int (val i) t) else m₁ y) → News h₀ env.locals h ((I, oI) :: news₁) → (∀ p ∈ news₁, p.1 ≠ I) →
      wpAny (model prog w) A (execs body env) (TurnR h₀ env.locals I oI (J (i + 1)) { s₁ with heap := h, toks := tk }) E { s₁ with heap := h, toks := tk })
    (fin : ∀ h' tk m' news', Fr h₀ env.locals h' m' → News h₀ env.locals h' news' → J n m' news' → Q .next { s₁ with heap := h', toks := tk }) :
    LoopAtV prog w A h₀ env x body Q E (.ref s₁.heap.objs.size) { s₁ with heap := s₁.heap.push ob } := by
  refine ⟨s₁.heap.objs.size, [s₁.heap.objs.size], [s₁.heap.objs.size], n, _, _, m, news, J, rfl, W, ?_, ?_, ?_, hst, F.keeps fun _ _ e => Heap.get?_push_of_some _ e, N.grown fun _ _ e => Heap.get?_push_of_some _ e, h0, ?_, fun h' tk m' news' F' N' _ hJ => fin h' tk m' news' F' N' hJ⟩
  · intro q; exact absurd F.ns.lt (List.mem_singleton.mp q ▸ Nat.lt_irrefl _)
  · intro c hc; rw [List.mem_singleton.mp hc]; exact next_is_new F
  · intro p hp q; exact absurd (Heap.lt_size (N p hp).1) (List.mem_singleton.mp q ▸ Nat.lt_irrefl _)
  · intro i v' m₁ news₁ s' own hs' hi hv hJ hnw hown1 hown2 hown3 hst F' N'
    refine ob2 hs' fun h' tk es => ?_
    refine ob1 hv fun t' ev => ?_
    rw [ev] at F'
    refine ob1 (hIo _ _ hst) fun oI he => ?_
    have hm : (s₁.heap.objs.size, oI) ∈ own := hown3 _ (List.mem_singleton.mpr rfl) (next_is_new F) _ he
    have hown : ∀ p ∈ own, p = (s₁.heap.objs.size, oI) := fun p hp => by
      have e1 := List.mem_singleton.mp (hown1 p hp)
      have e2 := hown2 p hp
      rw [e1] at e2
      exact Prod.ext e1 (Option.some.inj (e2.symm.trans he))
    have N2 : News h₀ env.locals s'.heap ((s₁.heap.objs.size, oI) :: news₁) := fun p hp => by
      rcases List.mem_cons.mp hp with rfl | hp
      · exact N' _ (List.mem_append_left _ hm)
      · exact N' _ (List.mem_append_right _ hp)
    rw [es] at F' N2 ⊢
    exact wpAny_mono (turn i m₁ news₁ _ oI h' tk t' hi hJ F' N2 fun p hp q => hnw p hp (List.mem_singleton.mpr q)) (fun f s₂ hf => turn_step hown hf) fun _ _ e => e
noncomputable def SrcF (prog : Program) (w : World) (A : Around) (h₀ : Heap) (env : Env) (x : Str) (body : List Stmt) (Q : Flow → Shared → Prop) (E : Value → Shared → Prop) (a b : Int) (n : Nat) (J : Nat → (Str → Option Value) → List (Addr × Obj) → Prop) (xv : Value) (s₁ : Shared) : Prop :=
  ∃ r t u v m news, xv = .ref r ∧ Fr h₀ env.locals s₁.heap m ∧ News h₀ env.locals s₁.heap news ∧ IsRange s₁.heap r a b 1 t u v ∧ J 0 m news ∧
    (∀ i m₁ news₁ I oI h tk t, i < n → J i m₁ news₁ → Fr h₀ env.locals h (fun y => if y = x then some (.int (a + (i : Int)) t) else m₁ y) → News h₀ env.locals h ((I, oI) :: news₁) → (∀ p ∈ news₁, p.1 ≠ I) →
      wpAny (model prog w) A (execs body env) (TurnR h₀ env.locals I oI (J (i + 1)) { s₁ with heap := h, toks := tk }) E { s₁ with heap := h, toks := tk }) ∧
    ∀ h' tk m' news', Fr h₀ env.locals h' m' → News h₀ env.locals h' news' → J n m' news' → Q .next { s₁ with heap := h', toks := tk }
theorem For_R {Q : Flow → Shared → Prop} {x : Str} {px pos : Pos} {iter : Expr} {body : List Stmt} {a b : Int} {n : Nat} (J : Nat → (Str → Option Value) → List (Addr × Obj) → Prop) (h₀ : Heap) (hx : env.kindOf x = some .local)
    (hp : (env.scope.kind == .class || (env.scope.kind == .module && env.locals != env.globals)) = false) (hh : A.handled = none) (hsm : Builtin.Range.small a b 1 = true) (hn : Builtin.Range.rangeSize a b 1 = ((n : Nat) : Int))
    (h : wpAny (model prog w) A (eval iter env) (SrcF prog w A h₀ env x body Q E a b n J) E s)
    (hs : ∀ x, foldedSetIterable iter env x = pure x := by intro _; rfl)
    (hE : PassesOwn (model prog w) A env E := by passes_own) :
    wpAny (model prog w) A (exec (.For (.Name x px) iter body [] pos) env) Q E s := by
  refine For_invV h₀ hx hp (wpAny_mono h (fun xv s₁ h₁ => ?_) fun _ _ e => e) hs hE
  refine ob6 h₁ fun r t u v m news h₁ => ?_
  rw [h₁.1]
  exact wpAny_pyIter_range h₁.2.2.2.1 hsm (loop_core J (range_walks hh a n) (fun i h st => ⟨_, st⟩) (by show IsRangeIter _ _ _ _ _; rw [hn]; simpa using Heap.get?_push_size _ rfl) h₁.2.1 h₁.2.2.1 h₁.2.2.2.2.1 h₁.2.2.2.2.2.1 h₁.2.2.2.2.2.2)
end
end Mine
end
noncomputable section
namespace Mine
open PySem.Calls
open PyProof.Rows.LCg
section
variable {prog : Program} {w : World} {A : Around} {E : Value → Shared → Prop} {s : Shared} {h₀ : Heap} {L : Addr} {m : Str → Option Value} {env : Env}
theorem loopPT {elt iter ct : Expr} {elts : List Expr} {x1} {tp : Pos} {scope : Scope} {pos : Pos} {it acc : Value} {env : Env} {R : Result → Shared → Prop} (I : Nat → Shared → Prop)
    (turn : ∀ n s, I n s → wpAny (model prog w) A (pyNext it) (fun r s₁ => match r with
      | none => R (.ok .next) s₁
      | some v => wpAny (model prog w) A (letOwnedTupleGo (.Tuple elts x1 tp) it v) (fun _ s₁' => wpAny (model prog w) A (assign (.Tuple elts x1 tp) env v) (fun _ s₂ =>
          wpAny (model prog w) A (isTrue ct env (eval ct env)) (fun ok s₃ => if ok = true then wpAny (model prog w) A (eval elt env) (fun x s₄ =>
              wpAny (model prog w) A (call (.builtin "list.append") [acc, x]) (fun _ s₅ => ∃ m, m < n ∧ I m s₅) (notedBy (model prog w) A env fun e s' => R (.error e) s') s₄) (notedBy (model prog w) A env fun e s' => R (.error e) s') s₃
            else ∃ m, m < n ∧ I m s₃) (notedBy (model prog w) A env fun e s' => R (.error e) s') s₂)
          (notedBy (model prog w) A env fun e s' => R (.error e) s') s₁') (notedBy (model prog w) A env fun e s' => R (.error e) s') s₁) (notedBy (model prog w) A env fun e s' => R (.error e) s') s)
    (n : Nat) (h : I n s) : codeAny (model prog w) A (.compLoop (.ListComp elt [⟨.Tuple elts x1 tp, iter, [ct], 0⟩] scope pos) 0 it acc env) R s := by
  refine codeAny_loop rfl I (fun n s hI => ?_) n h
  show wpAny _ A ((compTurn (.ListComp elt [⟨.Tuple elts x1 tp, iter, [ct], 0⟩] scope pos) 0 it acc env).onRaise (fun x => do noteFrame x env; theTreesLotGoes x)) _ _ s
  refine wpAny_noted ?_
  rw [compTurn_list]
  refine wpAny_bind (wpAny_standAt (wpAny_bind (wpAny_mono (turn n s hI) (fun r s₁ h₁ => ?_) fun _ _ h' => h')))
  cases r with
  | none => exact wpAny_pure h₁
  | some v =>
    refine wpAny_bind (wpAny_mono h₁ (fun _ s₁' h₁' => ?_) fun _ _ h' => h')
    refine wpAny_bind (wpAny_mono h₁' (fun _ s₂ h₂ => wpAny_bind (wpAny_mono (wpAny_tests_one h₂) (fun ok s₃ h₃ => ?_) fun _ _ h' => h')) fun _ _ h' => h')
    cases ok with
    | false => exact wpAny_pure ⟨rfl, h₃⟩
    | true => exact wpAny_bind (wpAny_bind (wpAny_mono h₃ (fun x s₄ h₄ => wpAny_bind (wpAny_mono h₄ (fun _ s₅ h₅ => wpAny_pure (wpAny_pure ⟨rfl, h₅⟩)) fun _ _ h' => h')) fun _ _ h' => h'))
end
noncomputable def RestPT (prog : Program) (w : World) (A : Around) (h₀ : Heap) (L : Addr) (m : Str → Option Value) (env : Env) (ct elt : Expr) (x x₂ : Str) (scope : Scope) (cl : List (Str × Addr)) (s : Shared) (S : List (Addr × Obj) → Prop) (P : Nat → Value → Prop)
    (Fin : List Value → List (Addr × Obj) → Prop) : Nat → Nat → List Value → List (Addr × Obj) → Prop
  | 0, _, ys, news => Fin ys news
  | k + 1, i, ys, news => ∀ v, P i v → ∃ (t : Addr) (ot : Obj) (v₁ v₂ : Value) (nt : Nat), v = .ref t ∧ (t, ot) ∈ news ∧ ot.cls = .type "tuple" ∧ ot.data = .seq #[v₁, v₂] nt ∧
      ∀ I oI C oC D m₂ h tk (E' : Value → Shared → Prop), NsObj oC m₂ → m₂ x = some v₁ → m₂ x₂ = some v₂ → Fr h₀ L h m → News h₀ L h ((I, oI) :: (C, oC) :: (D, lst ys) :: news) → Off3 I C D news → ((@Ne Nat I C) ∧ (@Ne Nat I D) ∧ (@Ne Nat C D)) →
      wpAny (model prog w) A (isTrue ct (compEnvC scope cl C env) (eval ct (compEnvC scope cl C env))) (fun ok s' => if ok = true then
        wpAny (model prog w) A (eval elt (compEnvC scope cl C env)) (CompEnd h₀ L m { s with heap := h, toks := tk } I oI C oC D (lst ys) S (fun y news' => RestPT prog w A h₀ L m env ct elt x x₂ scope cl s S P Fin k (i + 1) (ys ++ [y]) news')) E' s'
        else CompEnd h₀ L m { s with heap := h, toks := tk } I oI C oC D (lst ys) S (fun _ news' => RestPT prog w A h₀ L m env ct elt x x₂ scope cl s S P Fin k (i + 1) ys news') Value.none s') E' { s with heap := h, toks := tk }
section
variable {prog : Program} {w : World} {A : Around} {E : Value → Shared → Prop} {s : Shared} {h₀ : Heap} {L : Addr} {m : Str → Option Value} {env : Env}
theorem obT {P : Addr → Obj → Value → Value → Nat → Prop} {G : Value → Prop} {M : Addr → Obj → Prop} {K : Obj → Prop} {T : Obj → Value → Value → Nat → Prop} {v : Value} (h : ∃ t ot v₁ v₂ nt, v = .ref t ∧ M t ot ∧ K ot ∧ T ot v₁ v₂ nt ∧ P t ot v₁ v₂ nt) (k : ∀ t ot v₁ v₂ nt, M t ot → K ot → T ot v₁ v₂ nt → P t ot v₁ v₂ nt → G (.ref t)) : G v :=
  ob5 h fun t ot v₁ v₂ nt h => un5 h fun e a b c d => e ▸ k t ot v₁ v₂ nt a b c d
theorem blockPT {ct elt iter : Expr} {x x₂ : Str} {px px₂ tp : Pos} {tk} {scope : Scope} {cl : List (Str × Addr)} {pos : Pos} {s₂ : Shared} {I : Addr} {fp : List Addr} {n : Nat} {P : Nat → Value → Prop} {St : Nat → Heap → Prop} {S : List (Addr × Obj) → Prop} {news : List (Addr × Obj)}
    {Fin : List Value → List (Addr × Obj) → Prop} {RR : Value → Addr → Result → Shared → Prop}
    (W : Walks prog w A I fp [I] n P St) (hsz : n ≤ sizeLine) (hIo : ∀ i h, St i h → ∃ o, h.get? I = some o)
    (hSt : ∀ i h h' o nw, St i h → h.get? I = some o → h'.get? I = some o → (∀ b o, h₀.get? b = some o → h'.get? b = some o) → News h₀ L h' nw → S nw → St i h')
    (hcell : ∀ y ∈ scope.names, y.2 ≠ .cell) (hkind : scope.kind = .function) (hx : scope.names.lookup x = some .local) (hx₂ : scope.names.lookup x₂ = some .local) (hxx : x ≠ x₂) (hh : A.handled = none) (hLI : ∀ i h, St i h → ∃ l j, h.IsListIter I l j) (hst : St 0 s₂.heap) (hfp : ∀ b ∈ fp, b < s₂.heap.objs.size)
    (F : Fr h₀ L s₂.heap m) (N : News h₀ L s₂.heap news) (hIL : L ≠ I) (hI₀ : h₀.get? I = none) (off : ∀ p ∈ news, p.1 ≠ I) (hS : S news)
    (R : RestPT prog w A h₀ L m env ct elt x x₂ scope cl s₂ S P Fin n 0 [] news)
    (hRR : ∀ D C h tk m' ys news', Fr h₀ L h m → News h₀ L h ((D, lst ys) :: news') → Off1 D news' → h.Ns C m' → h₀.get? C = none → h₀.get? D = none → C ≠ L → D ≠ L → C ≠ D → (∀ p ∈ news', p.1 ≠ C) → Fin ys news' → RR (.ref D) C (.ok .next) { s₂ with heap := h, toks := tk }) :
    wpAny (model prog w) A (newList []) (fun acc s₃ => wpAny (model prog w) A (newFunctionEnv scope env.globals cl [] env.qual none .none (some env)) (fun cenv s₄ =>
      codeAny (model prog w) A (.compStart (.ListComp elt [⟨.Tuple [.Name x px, .Name x₂ px₂] tk tp, iter, [ct], 0⟩] scope pos) 0 (.ref I) acc { cenv with scope := relabel scope env }) (RR acc cenv.locals) s₄) E s₃) E s₂ := by
  refine wpAny_newObj_type (wpAny_newFunctionEnv hcell (by intro y hy; simp at hy) (fun h₁ hns₁ hsb₁ => ?_) hkind)
  dsimp only at hns₁ hsb₁ ⊢
  generalize hH2 : s₂.heap.push { cls := .type "list", dict := none, data := .seq ([] : List Value).toArray } = H2 at hns₁ hsb₁ ⊢
  have hC : H2.objs.size = s₂.heap.objs.size + 1 := by rw [← hH2, Heap.size_push]
  have hDC : s₂.heap.objs.size ≠ H2.objs.size := by rw [hC]; exact Nat.ne_of_lt (Nat.lt_succ_self _)
  have below : ∀ b, b < s₂.heap.objs.size → b ≠ H2.objs.size ∧ b ≠ s₂.heap.objs.size := fun b hb => ⟨by rw [hC]; exact Nat.ne_of_lt (Nat.lt_succ_of_lt hb), Nat.ne_of_lt hb⟩
  have hDf : s₂.heap.objs.size ∉ fp := fun hm => Nat.lt_irrefl _ (hfp _ hm)
  have hCf : H2.objs.size ∉ fp := fun hm => by have := hfp _ hm; rw [hC] at this; exact Nat.lt_irrefl _ (Nat.lt_of_succ_lt this)
  have hIlt : I < s₂.heap.objs.size := hfp I (W.sub I (List.mem_singleton.mpr rfl))
  have old : ∀ b o, s₂.heap.get? b = some o → h₁.get? b = some o := fun b o e => hsb₁.extBut b o (below b (Heap.lt_size e)).1 (Heap.get?_push_of_some _ (hH2 ▸ Heap.get?_push_of_some _ e))
  have hacc : h₁.get? s₂.heap.objs.size = some (lst []) := hsb₁.extBut _ _ hDC (Heap.get?_push_of_some _ (hH2 ▸ Heap.get?_push_size _ rfl))
  have fresh₀ : ∀ a, s₂.heap.objs.size ≤ a → h₀.get? a = none := fun a ha => by
    cases e : h₀.get? a with
    | none => rfl
    | some o' => exact absurd (Heap.lt_size (F.keep a o' e)) (Nat.not_lt.mpr ha)
  have hD₀ : h₀.get? s₂.heap.objs.size = none := fresh₀ _ (Nat.le_refl _)
  have hC₀ : h₀.get? H2.objs.size = none := fresh₀ _ (by rw [hC]; exact Nat.le_succ _)
  have hDL : s₂.heap.objs.size ≠ L := Ne.symm (below L F.ns.lt).2
  have hCL : H2.objs.size ≠ L := Ne.symm (below L F.ns.lt).1
  have hCI : I ≠ H2.objs.size := (below I hIlt).1
  have hDI : I ≠ s₂.heap.objs.size := (below I hIlt).2
  have loop : ∀ s₃ : Shared, s₃ = { s₂ with heap := h₁, toks := s₂.toks + ([] : List (Str × Value)).length } →
      codeAny (model prog w) A (.compLoop (.ListComp elt [⟨.Tuple [.Name x px, .Name x₂ px₂] tk tp, iter, [ct], 0⟩] scope pos) 0 (.ref I) (.ref s₂.heap.objs.size) (compEnvC scope cl H2.objs.size env))
        (RR (.ref s₂.heap.objs.size) H2.objs.size) s₃ := by
    rintro s₃ rfl
    obtain ⟨J, Ji, Je⟩ : ∃ J : Nat → Shared → Prop, (∀ (h' : Heap) (tk i : Nat) (ys : List Value) (m' : Str → Option Value) (news' : List (Addr × Obj)), i ≤ n → ys.length ≤ i → St i h' → Fr h₀ L h' m → h'.Ns H2.objs.size m' → News h₀ L h' ((s₂.heap.objs.size, lst ys) :: news') → Off3 I H2.objs.size s₂.heap.objs.size news' → S news' → RestPT prog w A h₀ L m env ct elt x x₂ scope cl s₂ S P Fin (n - i) i ys news' → J (n + 1 - i) { s₂ with heap := h', toks := tk }) ∧
        (∀ G : Nat → Shared → Prop, (∀ (h' : Heap) (tk i : Nat) (ys : List Value) (m' : Str → Option Value) (news' : List (Addr × Obj)), i ≤ n → ys.length ≤ i → St i h' → Fr h₀ L h' m → h'.Ns H2.objs.size m' → News h₀ L h' ((s₂.heap.objs.size, lst ys) :: news') → Off3 I H2.objs.size s₂.heap.objs.size news' → S news' → RestPT prog w A h₀ L m env ct elt x x₂ scope cl s₂ S P Fin (n - i) i ys news' → G (n + 1 - i) { s₂ with heap := h', toks := tk }) → ∀ k s', J k s' → G k s') :=
      ⟨fun k s' => ∀ G : Nat → Shared → Prop, (∀ (h' : Heap) (tk i : Nat) (ys : List Value) (m' : Str → Option Value) (news' : List (Addr × Obj)), i ≤ n → ys.length ≤ i → St i h' → Fr h₀ L h' m → h'.Ns H2.objs.size m' → News h₀ L h' ((s₂.heap.objs.size, lst ys) :: news') → Off3 I H2.objs.size s₂.heap.objs.size news' → S news' → RestPT prog w A h₀ L m env ct elt x x₂ scope cl s₂ S P Fin (n - i) i ys news' → G (n + 1 - i) { s₂ with heap := h', toks := tk }) → G k s', fun h' tk i ys m' news' a b c d e f g h j G hG => hG h' tk i ys m' news' a b c d e f g h j, fun G hG _ _ h => h G hG⟩
    refine loopPT J ?_ (n + 1) (Ji h₁ _ 0 [] _ news (Nat.zero_le _) (Nat.le_refl _) (W.frame _ _ _ hst fun b _ o e => old b o e) (F.keeps old) hns₁ (fun p hp => ?_) (Off3.of fun p hp => ⟨off p hp, (below _ (Heap.lt_size (N p hp).1)).1, (below _ (Heap.lt_size (N p hp).1)).2⟩) hS R)
    · refine Je _ ?_
      intro h' tk i ys m' news' hi hyl hst' F' hn' N' off' hS' R'
      have off3 := off'.mem
      by_cases hlt : i < n
      · generalize hjn : n - (i + 1) = j
        have hj : n - i = j + 1 := hjn ▸ pred_turn hlt
        rw [hj] at R'
        refine W.item i _ _ _ hlt hst' fun v h₂ tk₂ hPv hst₂ hk₂ => ?_
        apply obT (R' v hPv)
        clear R'
        intro t ot v₁ v₂ nt hmt hct hdt R''
        have N₂ : News h₀ L h₂ ((s₂.heap.objs.size, lst ys) :: news') := news_but N' hk₂ fun p hp => by
          rcases List.mem_cons.mp hp with rfl | hp
          · exact Ne.symm hDI
          · exact (off3 p hp).1
        have ht : IsTup h₂ t #[v₁, v₂] := ⟨ot, (N₂ _ (List.mem_cons_of_mem _ hmt)).1, hct, nt, hdt⟩
        obtain ⟨lI, jI, hLi⟩ := hLI _ _ hst₂
        refine wpAny_letOwnedTupleGo_listiter hLi ?_
        refine assign_Tuple_tuple hh ht rfl rfl fun h₅ he => ?_
        have he' : ∀ b o, h₂.get? b = some o → h₅.get? b = some o := fun b o e => he b o (Nat.ne_of_lt (Heap.lt_size e)) e
        refine assignInOrder_cons (wpAny_assign_Name (wpAny_storeName_local (lookup_relabel_local hx) ((hn'.at' fun o e => hk₂ _ o (by simpa using Ne.symm hCI) e).at' fun o e => he' _ o e) (fun h₆ hn₆ hs₆ => ?_) (by simp [compEnvC, relabel, hkind])))
        refine assignInOrder_cons (wpAny_assign_Name (wpAny_storeName_local (lookup_relabel_local hx₂) hn₆ (fun h₃ hn₃ hs₃ => ?_) (by simp [compEnvC, relabel, hkind])))
        refine assignInOrder_nil ?_
        have old3 : ∀ b o, b ≠ H2.objs.size → h₂.get? b = some o → h₃.get? b = some o := fun b o hb e => hs₃.extBut b o hb (hs₆.extBut b o hb (he' b o e))
        have hst₃ : St (i + 1) h₃ := W.frame _ _ _ hst₂ fun b hb o e => old3 b o (fun q => hCf (by rw [← q]; exact hb)) e
        obtain ⟨oI, heI⟩ := hIo _ _ hst₃
        obtain ⟨oC, heC, hoC⟩ := ns_obj hn₃
        have F₃ : Fr h₀ L h₃ m := (((fr_but F' hk₂ hIL hI₀).keeps he').change hs₆ hCL hC₀).change hs₃ hCL hC₀
        have N₃ : News h₀ L h₃ ((I, oI) :: (H2.objs.size, oC) :: (s₂.heap.objs.size, lst ys) :: news') := fun p hp => by
          rcases List.mem_cons.mp hp with rfl | hp
          · exact ⟨heI, Ne.symm hIL, hI₀⟩
          · rcases List.mem_cons.mp hp with rfl | hp
            · exact ⟨heC, hCL, hC₀⟩
            · have z := N₂ p hp
              refine ⟨old3 _ _ ?_ z.1, z.2⟩
              rcases List.mem_cons.mp hp with rfl | hp
              · exact hDC
              · exact (off3 p hp).2.1
        have after : ∀ (ys' : List Value) (y : Value) (s₄ : Shared), CompEnd h₀ L m { s₂ with heap := h₃, toks := tk₂ + 0 + 0 + 0 } I oI H2.objs.size oC s₂.heap.objs.size (lst ys) S (fun _ news' => RestPT prog w A h₀ L m env ct elt x x₂ scope cl s₂ S P Fin j (i + 1) ys' news') y s₄ →
            ∀ G : Shared → Prop, (∀ h₄ tk₄ news₄, Fr h₀ L h₄ m → h₄.get? H2.objs.size = some oC → h₄.get? s₂.heap.objs.size = some (lst ys) → News h₀ L h₄ news₄ → Off3 I H2.objs.size s₂.heap.objs.size news₄ → S news₄ → St (i + 1) h₄ → RestPT prog w A h₀ L m env ct elt x x₂ scope cl s₂ S P Fin j (i + 1) ys' news₄ → G { s₂ with heap := h₄, toks := tk₄ }) → G s₄ := by
          rintro ys' y s₄ ⟨h₄, tk₄, news₄, rfl, F₄, N₄, off₄, hS₄, R₄⟩ G hG
          have N₄' : News h₀ L h₄ news₄ := fun p hp => N₄ p (List.mem_cons_of_mem _ (List.mem_cons_of_mem _ (List.mem_cons_of_mem _ hp)))
          exact hG h₄ tk₄ news₄ F₄ (N₄ (H2.objs.size, oC) (List.mem_cons_of_mem _ List.mem_cons_self)).1 (N₄ (s₂.heap.objs.size, lst ys) (List.mem_cons_of_mem _ (List.mem_cons_of_mem _ List.mem_cons_self))).1
            N₄' off₄ hS₄ (hSt _ _ _ _ _ hst₃ heI (N₄ (I, oI) List.mem_cons_self).1 F₄.keep N₄' hS₄) R₄
        refine wpAny_mono (R'' I oI H2.objs.size oC s₂.heap.objs.size _ h₃ _ _ hoC (by simp [hxx]) (by simp) F₃ N₃ off' ⟨hCI, hDI, Ne.symm hDC⟩) (fun ok s₄ h₄ => ?_) fun _ _ e => e
        cases ok with
        | true =>
          simp only [if_true] at h₄ ⊢
          refine wpAny_mono h₄ (fun y s₅ h₅ => ?_) fun _ _ e => e
          apply after (ys ++ [y]) y s₅ h₅
          clear h₅
          intro h₄ tk₄ news₄ F₄ zC zD N₄ off₄ hS₄ hst₄ R₄
          have off4 := off₄.mem
          refine append_at (hsz := by show ys.toArray.size ≤ sizeLine; rw [List.size_toArray]; exact Nat.le_trans hyl (Nat.le_trans hi hsz)) zD fun h₅ hs₅ hD₅ => ?_
          refine ⟨n + 1 - (i + 1), Nat.sub_lt_sub_left (Nat.lt_succ_of_lt hlt) (Nat.lt_succ_self i), Ji h₅ tk₄ (i + 1) (ys ++ [y]) _ news₄ hlt (by rw [List.length_append]; exact Nat.succ_le_succ hyl)
            (W.frame _ _ _ hst₄ fun b hb o e => hs₅.extBut b o (fun q => hDf (q ▸ hb)) e) (F₄.change hs₅ hDL hD₀) ((hoC.ns zC).sameBut hs₅ (Ne.symm hDC)) (fun p hp => ?_) off₄ hS₄ (hjn.symm ▸ R₄)⟩
          rcases List.mem_cons.mp hp with rfl | hp
          · exact ⟨hD₅.trans (congrArg some (lst_snoc ys y)), hDL, hD₀⟩
          · exact ⟨hs₅.extBut _ _ (off4 p hp).2.2 (N₄ p hp).1, (N₄ p hp).2⟩
        | false =>
          simp only [Bool.false_eq_true, if_false] at h₄ ⊢
          apply after ys .none s₄ h₄
          clear h₄
          intro h₆ tk₄ news₄ F₄ zC zD N₄ off₄ hS₄ hst₄ R₄
          refine ⟨n + 1 - (i + 1), Nat.sub_lt_sub_left (Nat.lt_succ_of_lt hlt) (Nat.lt_succ_self i), Ji h₆ tk₄ (i + 1) ys _ news₄ hlt (Nat.le_succ_of_le hyl) hst₄ F₄ (hoC.ns zC) (fun p hp => ?_) off₄ hS₄ (hjn.symm ▸ R₄)⟩
          rcases List.mem_cons.mp hp with rfl | hp
          · exact ⟨zD, hDL, hD₀⟩
          · exact N₄ p hp
      · have hin : i = n := Nat.le_antisymm hi (Nat.not_lt.mp hlt)
        have Rn : Fin ys news' := by rw [hin, Nat.sub_self] at R'; exact R'
        refine W.done _ _ _ (hin ▸ hst') fun h₂ tk₂ hk₂ => ?_
        exact hRR _ _ h₂ tk₂ _ ys news' (fr_but F' hk₂ hIL hI₀) (news_but N' hk₂ fun p hp => by
          rcases List.mem_cons.mp hp with rfl | hp
          · exact Ne.symm hDI
          · exact (off3 p hp).1) off'.one (hn'.at' fun o e => hk₂ _ o (by simpa using Ne.symm hCI) e) hC₀ hD₀ hCL hDL (Ne.symm hDC) (fun p hp => (off3 p hp).2.1) Rn
    · rcases List.mem_cons.mp hp with rfl | hp
      · exact ⟨hacc, hDL, hD₀⟩
      · exact ⟨old _ _ (N p hp).1, (N p hp).2⟩
  exact codeAny_compStart_list (loop _ rfl) (W.self 0 _ _ _ (W.frame _ _ _ hst fun b _ o e => old b o e) (loop _ rfl))
noncomputable def SrcPT (prog : Program) (w : World) (A : Around) (h₀ : Heap) (L : Addr) (m : Str → Option Value) (env : Env) (ct elt : Expr) (x x₂ : Str) (scope : Scope) (cl : List (Str × Addr)) (Q : Value → Shared → Prop) (xv : Value) (s₁ : Shared) : Prop :=
  ∃ (ax : Addr) (its : Array Value) (news : List (Addr × Obj)), xv = .ref ax ∧ Fr h₀ L s₁.heap m ∧ News h₀ L s₁.heap news ∧ SrcAt h₀ ax its news ∧ its.size ≤ sizeLine ∧
    ∀ g, RestPT prog w A h₀ L m env ct elt x x₂ scope cl { s₁ with heap := g } (SrcAt h₀ ax its) (fun i v => its[i]? = some v) (FinE h₀ L m { s₁ with heap := g } Q) its.size 0 [] news
theorem ListComp_PT {ct elt iter : Expr} {x x₂ : Str} {px px₂ tp : Pos} {tk} {scope : Scope} {cl : List (Str × Addr)} {pos : Pos} {Q : Value → Shared → Prop} (_F₀ : Fr h₀ L s.heap m)
    (hclos : closureFor scope env = pure cl) (hcell : ∀ y ∈ scope.names, y.2 ≠ .cell) (hkind : scope.kind = .function)
    (hnames : ∀ y ∈ scope.names, y.2 = .local → scope.names.lookup y.1 = some .local) (hx : scope.names.lookup x = some .local) (hx₂ : scope.names.lookup x₂ = some .local) (hxx : x ≠ x₂) (hh : A.handled = none)
    (h : wpAny (model prog w) A (eval iter env) (SrcPT prog w A h₀ L m env ct elt x x₂ scope cl Q) E s)
    (hs : ∀ x, foldedSetIterable iter env x = pure x := by intro _; rfl) :
    wpAny (model prog w) A (eval (.ListComp elt [⟨.Tuple [.Name x px, .Name x₂ px₂] tk tp, iter, [ct], 0⟩] scope pos) env) Q E s := by
  rw [eval_ListComp]
  refine wpAny_comprehension_free (use := none) rfl hs hclos hkind hnames (wpAny_mono h (fun xv s₁ h₁ => ?_) fun _ _ e => e)
  obtain ⟨ax, its, news, rfl, F, N, S, hsz, R⟩ := h₁
  have hl := S.list F.keep N
  have hlt : ax < s₁.heap.objs.size := by obtain ⟨_, e, _⟩ := hl; exact Heap.lt_size e
  refine wpAny_pyIter_list hl ?_
  have up : ∀ b o, s₁.heap.get? b = some o → (s₁.heap.push { cls := .type "list_iterator", data := .fields #[.ref ax, .int 0 0] }).get? b = some o := fun b o e => Heap.get?_push_of_some _ e
  refine blockPT (Walks.list hh s₁.heap.objs.size ax (Nat.ne_of_lt hlt) its) hsz (fun i h st => by obtain ⟨o, e, _⟩ := st.1; exact ⟨o, e⟩) list_st hcell hkind hx hx₂ hxx hh (fun i h st => ⟨_, _, st.1⟩) ⟨⟨_, Heap.get?_push_size _ rfl, rfl, rfl⟩, hl.push _⟩ (fun b hb => ?_)
    (F.keeps up) (N.grown up) (Nat.ne_of_lt F.ns.lt) (next_is_new F) (fun p hp => Nat.ne_of_lt (Heap.lt_size (N p hp).1)) S (R _) ?_
  · show b < (s₁.heap.push _).objs.size
    rw [Heap.size_push]
    rcases List.mem_cons.mp hb with rfl | hb
    · exact Nat.lt_succ_self _
    · rw [List.mem_singleton.mp hb]; exact Nat.lt_succ_of_lt hlt
  · intro D C h tk m' ys news' F' N' o1 hn hC₀ hD₀ hCL hDL hCD offC fin
    refine ⟨m', hn, fun h'' hs'' => fin D h'' tk (F'.change hs'' hCL hC₀) (fun p hp => ?_) o1⟩
    refine ⟨hs''.extBut _ _ ?_ (N' p hp).1, (N' p hp).2⟩
    rcases List.mem_cons.mp hp with rfl | hp
    · exact Ne.symm hCD
    · exact offC p hp
theorem RestPT.int {ct elt : Expr} {x x₂ : Str} {scope : Scope} {cl : List (Str × Addr)} {S : List (Addr × Obj) → Prop} {P : Nat → Value → Prop} {Fin : List Value → List (Addr × Obj) → Prop} {k i : Nat} {ys : List Value} {news : List (Addr × Obj)} (t : Addr) (v₁ v₂ : Value) (nt : Nat)
    (hP : ∀ v, P i v → v = .ref t) (hm : (t, tupO #[v₁, v₂] nt) ∈ news)
    (h : ∀ I oI C oC D m₂ h tk (E' : Value → Shared → Prop), NsObj oC m₂ → m₂ x = some v₁ → m₂ x₂ = some v₂ → Fr h₀ L h m → News h₀ L h ((I, oI) :: (C, oC) :: (D, lst ys) :: news) → Off3 I C D news → ((@Ne Nat I C) ∧ (@Ne Nat I D) ∧ (@Ne Nat C D)) →
      wpAny (model prog w) A (isTrue ct (compEnvC scope cl C env) (eval ct (compEnvC scope cl C env))) (fun ok s' => if ok = true then
        wpAny (model prog w) A (eval elt (compEnvC scope cl C env)) (CompEnd h₀ L m { s with heap := h, toks := tk } I oI C oC D (lst ys) S (fun y news' => RestPT prog w A h₀ L m env ct elt x x₂ scope cl s S P Fin k (i + 1) (ys ++ [y]) news')) E' s'
        else CompEnd h₀ L m { s with heap := h, toks := tk } I oI C oC D (lst ys) S (fun _ news' => RestPT prog w A h₀ L m env ct elt x x₂ scope cl s S P Fin k (i + 1) ys news') Value.none s') E' { s with heap := h, toks := tk }) :
    RestPT prog w A h₀ L m env ct elt x x₂ scope cl s S P Fin (k + 1) i ys news := fun v hv => ⟨t, _, v₁, v₂, nt, hP v hv, hm, rfl, rfl, h⟩
theorem CE.mono {I C D : Addr} {oI oC oD : Obj} {S : List (Addr × Obj) → Prop} {r r' : Value → List (Addr × Obj) → Prop} {y y' : Value} {s₁ s₂ : Shared} (h : CompEnd h₀ L m s₁ I oI C oC D oD S r y s₂) (k : ∀ news, r y news → r' y' news) : CompEnd h₀ L m s₁ I oI C oC D oD S r' y' s₂ :=
  ob3 h fun h' tk news h => ⟨h', tk, news, h.1, h.2.1, h.2.2.1, h.2.2.2.1, h.2.2.2.2.1, k news h.2.2.2.2.2⟩
theorem restPT_ind {ct elt : Expr} {x x₂ : Str} {scope : Scope} {cl : List (Str × Addr)} {S : List (Addr × Obj) → Prop} {P : Nat → Value → Prop} {Fin : List Value → List (Addr × Obj) → Prop} {news : List (Addr × Obj)} {n : Nat} (J : Nat → List Value → Prop) (h0 : J 0 [])
    (turn : ∀ i ys, i < n → J i ys → ∀ v, P i v → ∃ (t : Addr) (ot : Obj) (v₁ v₂ : Value) (nt : Nat), v = .ref t ∧ (t, ot) ∈ news ∧ ot.cls = .type "tuple" ∧ ot.data = .seq #[v₁, v₂] nt ∧
      ∀ I oI C oC D m₂ h tk (E' : Value → Shared → Prop), NsObj oC m₂ → m₂ x = some v₁ → m₂ x₂ = some v₂ → Fr h₀ L h m → News h₀ L h ((I, oI) :: (C, oC) :: (D, lst ys) :: news) → Off3 I C D news → ((@Ne Nat I C) ∧ (@Ne Nat I D) ∧ (@Ne Nat C D)) →
      wpAny (model prog w) A (isTrue ct (compEnvC scope cl C env) (eval ct (compEnvC scope cl C env))) (fun ok s' => if ok = true then
        wpAny (model prog w) A (eval elt (compEnvC scope cl C env)) (CompEnd h₀ L m { s with heap := h, toks := tk } I oI C oC D (lst ys) S (fun y news' => news' = news ∧ J (i + 1) (ys ++ [y]))) E' s'
        else CompEnd h₀ L m { s with heap := h, toks := tk } I oI C oC D (lst ys) S (fun _ news' => news' = news ∧ J (i + 1) ys) Value.none s') E' { s with heap := h, toks := tk })
    (fin : ∀ ys, J n ys → Fin ys news) : RestPT prog w A h₀ L m env ct elt x x₂ scope cl s S P Fin n 0 [] news := by
  have key : ∀ j i ys, i + j = n → J i ys → RestPT prog w A h₀ L m env ct elt x x₂ scope cl s S P Fin j i ys news := by
    intro j
    induction j with
    | zero => intro i ys e hJ; exact fin ys (by rw [← e]; exact hJ)
    | succ j ih =>
      intro i ys e hJ v hv
      have e1 : i + 1 + j = n := (Nat.succ_add_eq_add_succ i j).trans e
      refine ob5 (turn i ys (e1 ▸ Nat.le_add_right _ _) hJ v hv) fun t ot v₁ v₂ nt h => ⟨t, ot, v₁, v₂, nt, h.1, h.2.1, h.2.2.1, h.2.2.2.1, ?_⟩
      replace h := h.2.2.2.2
      intro I oI C oC D m₂ h' tk E' a1 a2 a3 a4 a5 a6 a7
      refine wpAny_mono (h I oI C oC D m₂ h' tk E' a1 a2 a3 a4 a5 a6 a7) (fun ok s₁ h₁ => ?_) fun _ _ e => e
      cases ok with
      | true =>
        simp only [if_true] at h₁ ⊢
        refine wpAny_mono h₁ (fun y s₂ h₂ => ?_) fun _ _ e => e
        exact CE.mono h₂ fun news' ⟨e, hJ'⟩ => e ▸ ih _ _ e1 hJ'
      | false =>
        simp only [Bool.false_eq_true, if_false] at h₁ ⊢
        exact CE.mono h₁ fun news' ⟨e, hJ'⟩ => e ▸ ih _ _ e1 hJ'
  exact key n 0 [] (Nat.zero_add n) h0
end
theorem news_sub {h₀ h : Heap} {L : Addr} {all l : List (Addr × Obj)} (N : News h₀ L h all) (sub : ∀ p ∈ l, p ∈ all) : News h₀ L h l := fun p hp => N p (sub p hp)
theorem allLt_mem {d : Addr} : ∀ {l : List (Addr × Obj)}, AllLt d l → ∀ p ∈ l, p.1 < d
  | [], _, _, h => nomatch h
  | _ :: _, x, p, h => by
    rcases List.mem_cons.mp h with rfl | h
    · exact x.1
    · exact allLt_mem x.2 p h
theorem nz_yes {l : List Int} {p : Int} {ys : List Value} (h : IntsAre ys (l.filter (· ≠ 0))) (hp : p ≠ 0) (t : Tok) : IntsAre (ys ++ [.int p t]) ((l ++ [p]).filter (· ≠ 0)) := by
  rw [List.filter_append, show [p].filter (· ≠ 0) = [p] by simp [hp]]
  exact IntsAre.append h (ints_one rfl)
theorem nz_no {l : List Int} {p : Int} {ys : List Value} (h : IntsAre ys (l.filter (· ≠ 0))) (hp : p = 0) : IntsAre ys ((l ++ [p]).filter (· ≠ 0)) := by
  rw [List.filter_append, show [p].filter (· ≠ 0) = [] by simp [hp], List.append_nil]
  exact h
end Mine
end
noncomputable section
namespace Mine
open PySem.Calls
open PyProof.Rows.LCg
section
variable {prog : Program} {w : World} {A : Around} {E : Value → Shared → Prop} {s : Shared} {h₀ : Heap} {L : Addr} {m : Str → Option Value} {env : Env}
noncomputable def SrcCRA (prog : Program) (w : World) (A : Around) (h₀ : Heap) (L : Addr) (m : Str → Option Value) (env : Env) (ifs : List Expr) (elt : Expr) (x : Str) (scope : Scope) (cl : List (Str × Addr)) (n : Nat) (y : Str) (Q : Flow → Shared → Prop) (xv : Value) (s₁ : Shared) : Prop :=
  ∃ r t u v news, xv = .ref r ∧ Fr h₀ L s₁.heap m ∧ News h₀ L s₁.heap news ∧ IsRange s₁.heap r 0 n 1 t u v ∧
      ∀ g, RestC prog w A h₀ L m env ifs elt x scope cl { s₁ with heap := g } (fun _ => True) (fun i v => ∃ t, v = .int (0 + (i : Int)) t) (FinA h₀ L m { s₁ with heap := g } y Q) n 0 [] news
theorem Assign_ListComp_CR {elt iter : Expr} {ifs : List Expr} {x y : Str} {px py : Pos} {scope : Scope} {cl : List (Str × Addr)} {pos spos : Pos} {Q : Flow → Shared → Prop} {n : Nat} (_F₀ : Fr h₀ env.locals s.heap m)
    (hsw : swapsWith (.ListComp elt [⟨.Name x px, iter, ifs, 0⟩] scope pos) (some (.Name y py)) spos.line env = pure true)
    (hclos : closureFor scope env = pure cl) (hcells : ∀ k, cellsFrom k scope.names cl = (x, k) :: cl) (hpush : ∀ h, pushCells h scope.names = h.push { cls := .type "cell", data := .cell none })
    (hkind : scope.kind = .function) (hnames : ∀ z ∈ scope.names, z.2 = .local → scope.names.lookup z.1 = some .local) (hx : (relabel scope env).names.lookup x = some .cell)
    (hy : env.kindOf y = some .local) (hp : (env.scope.kind == .class || (env.scope.kind == .module && env.locals != env.globals)) = false)
    (hh : A.handled = none) (hn : n ≤ sizeLine) (hsm : Builtin.Range.small 0 n 1 = true) (hrs : Builtin.Range.rangeSize 0 n 1 = ((n : Nat) : Int))
    (h : wpAny (model prog w) A (eval iter env) (SrcCRA prog w A h₀ env.locals m env ifs elt x scope cl n y Q) E s)
    (hs : ∀ x, foldedSetIterable iter env x = pure x := by intro _; rfl) :
    wpAny (model prog w) A (exec (.Assign [.Name y py] (.ListComp elt [⟨.Name x px, iter, ifs, 0⟩] scope pos) spos) env) Q E s := by
  rw [exec_Assign_Name_used _ _ _ _ hsw]
  refine wpAny_bind (wpAny_standAt (wpAny_bind ?_))
  show wpAny _ A (do let _ ← comprehension (.ListComp elt [⟨.Name x px, iter, ifs, 0⟩] scope pos) scope env _ (newList []) false (eval iter env) (some (assign (.Name y py) env))) _ _ s
  refine wpAny_bind (wpAny_mono (wpAny_comprehension_free (use := some (assign (.Name y py) env)) (Q := fun _ s' => Q .next s') rfl hs hclos hkind hnames
    (wpAny_mono h (fun xv s₁ h₁ => ?_) fun _ _ e => e)) (fun _ s' hq => wpAny_pure (wpAny_pure hq)) fun _ _ e => e)
  obtain ⟨r, t, u, v, news, rfl, F, N, hr, R⟩ := h₁
  refine wpAny_pyIter_range hr hsm ?_
  refine block_C (range_walks hh 0 n) hn (fun i h st => ⟨_, st⟩) range_st hcells hpush hkind hx (by show IsRangeIter _ _ _ _ _; rw [hrs]; simpa using Heap.get?_push_size _ rfl) (fun b hb => ?_)
    (F.keeps fun _ _ e => Heap.get?_push_of_some _ e) (N.grown fun _ _ e => Heap.get?_push_of_some _ e) (Nat.ne_of_lt F.ns.lt) (next_is_new F) (fun p hp => Nat.ne_of_lt (Heap.lt_size (N p hp).1)) (R _) ?_ trivial
  · rw [List.mem_singleton.mp hb]
    show s₁.heap.objs.size < (s₁.heap.push _).objs.size
    rw [Heap.size_push]; exact Nat.lt_succ_self _
  · intro D C h' tk m' ys news' F' N' o1 hn hC₀ hD₀ hCL hDL hCD offC fin
    show wpAny _ A (assign (.Name y py) env (.ref D)) _ _ _
    refine wpAny_assign_Name (wpAny_storeName_local hy F'.ns (fun h₂ hn₂ hs₂ => ?_) hp)
    have hL₀ : h₀.get? env.locals = none := Heap.get?_none_of_le F'.above
    have F₂ : Fr h₀ env.locals h₂ (fun z => if z = y then some (.ref D) else m z) := ⟨hn₂, fun b o e => hs₂.extBut b o (fun q => by rw [q, hL₀] at e; cases e) (F'.keep b o e), F'.above⟩
    have N₂ : News h₀ env.locals h₂ ((D, lst ys) :: news') := fun p hp => ⟨hs₂.extBut _ _ (N' p hp).2.1 (N' p hp).1, (N' p hp).2⟩
    refine ⟨m', hn.sameBut hs₂ hCL, fun h₃ hs₃ => fin D h₃ _ (F₂.change hs₃ hCL hC₀) (fun p hp => ?_) o1⟩
    refine ⟨hs₃.extBut _ _ ?_ (N₂ p hp).1, (N₂ p hp).2⟩
    rcases List.mem_cons.mp hp with rfl | hp
    · exact Ne.symm hCD
    · exact offC p hp
end
end Mine
end
noncomputable section
namespace Mine
open PySem.Calls
open PyProof.Rows.LCg
open PySem.F PySem.Builtin
theorem slot_bytes_join : Slot "bytes" "join" "bytes.join" :=
  .of (owner := "bytes") (n := "join") (by rw [typeLookup_type, builtinLookup_eq_fast]; kernel_rfl) (by decide +kernel) (by decide +kernel) (by decide +kernel)
    (by first | exact .inl (by decide +kernel) | exact .inr (by decide +kernel)) (by rw [isSubtype_type]; kernel_rfl)
theorem type_bytes_join : typeOf (.builtin "bytes.join") = pure (.type "method_descriptor") := by show builtinType _ = _; rw [builtinType_eq_fast]; kernel_rfl
theorem entry_bytes_join : entryFor table "bytes.join" = some Builtin.«bytes.join» := entryFor_of_tree (by kernel_rfl)
theorem args_bytes_join_2 (a b : Value) : argsOk "bytes.join" ⟨[a, b], []⟩ := by
  unfold argsOk; rw [signature?_of (id := "bytes.join") (n := ['n', 'i', 'o', 'j']) (o := ['s', 'e', 't', 'y', 'b']) (by kernel_rfl) FB.owner_bytes]; kernel_rfl
section
variable {prog : Program} {w : World} {A : Around} {E : Value → Shared → Prop} {s : Shared}
theorem take_eq {id : String} {b : Array UInt8} {t : Tok} : Bytes.takeBufferQuiet? id (.bytes b t) 0 = pure (some (b, none)) := by
  unfold Bytes.takeBufferQuiet? Bytes.takeBuffer?
  rw [KBy.special_eq KBy.look_buffer, KBy.own_buffer]
  simp only [pure_bind]
  rw [show ((0 : Int) == Bytes.fullReadOnly) = false from by decide, KBy.buffer_eq]
  rfl
theorem letGo_all : ∀ (l : List (Value × Option Value)) (keep : List Value) (s : Shared) {Q : Unit → Shared → Prop}, (∀ p ∈ l, p.2 = none) → Q () s → wpAny (model prog w) A (Bytes.joinLetGo l keep) Q E s
  | [], keep, s, Q, _, h => wpAny_pure h
  | (x, w') :: r, keep, s, Q, hn, h => by
    have e : w' = none := hn _ List.mem_cons_self
    subst e
    unfold Bytes.joinLetGo
    refine wpAny_bind (wpAny_letGo ?_)
    exact letGo_all r keep s (fun p hp => hn p (List.mem_cons_of_mem _ hp)) h
noncomputable abbrev bvals (bl : List (Array UInt8 × Tok)) : List Value := bl.map fun p => Value.bytes p.1 p.2
theorem range_end {i k n : Nat} {l : List Nat} (h : k :: l = List.range' i (n - i)) : i < n ∧ k = i ∧ l = List.range' (i + 1) (n - (i + 1)) := by
  have hlt : i < n := by
    apply Decidable.byContradiction
    intro hge
    rw [Nat.sub_eq_zero_of_le (Nat.le_of_not_lt hge)] at h
    cases h
  rw [show n - i = (n - (i + 1)) + 1 by omega, List.range'_succ] at h
  injection h with hx hrest
  exact ⟨hlt, hx, hrest⟩
theorem range_nil {i n : Nat} (hi : i ≤ n) (h : [] = List.range' i (n - i)) : i = n := by
  apply Decidable.byContradiction
  intro hne
  rw [show n - i = (n - i - 1) + 1 by omega, List.range'_succ] at h
  cases h
theorem wp_range {M : Model} {β γ : Type} {n : Nat} {hp} {init st9 : β} {f : Nat → β → Sem (ForInStep β)} {k : β → Sem γ} {Q : γ → Shared → Prop} (g : Nat → β) (hi : init = g 0) (hn : g n = st9)
    (turn : ∀ i, i < n → wpAny M A (f i (g i)) (fun r s' => s' = s ∧ (r = .yield (g (i + 1)) ∨ r = .done st9)) E s) (fin : wpAny M A (k st9) Q E s) :
    wpAny M A (forIn (m := Sem) ({ start := 0, stop := n, step := 1, step_pos := hp } : Std.Legacy.Range) init f >>= k) Q E s := by
  rw [Std.Legacy.Range.forIn_eq_forIn_range']
  simp only [Std.Legacy.Range.size, Nat.sub_zero, Nat.add_sub_cancel, Nat.div_one]
  refine wpAny_bind (wpAny_forIn_list f (fun rest st s' => s' = s ∧ ∃ i, rest = List.range' i (n - i) ∧ i ≤ n ∧ st = g i) _ ?_ ?_ _ _ ⟨rfl, 0, rfl, Nat.zero_le _, hi⟩)
  · rintro x rest st s' ⟨rfl, i, hr, hi, rfl⟩
    obtain ⟨hlt, rfl, rfl⟩ := range_end hr
    refine wpAny_mono (turn x hlt) (fun r s' h => ?_) fun _ _ h => h
    obtain ⟨rfl, rfl | rfl⟩ := h
    · exact ⟨rfl, x + 1, rfl, hlt, rfl⟩
    · exact fin
  · rintro st s' ⟨rfl, i, hr, hi, rfl⟩
    rw [range_nil hi hr, hn]
    exact fin
theorem wp_range1 {M : Model} {β γ : Type} {n : Nat} {hp} {st0 st1 : β} {f : Nat → β → Sem (ForInStep β)} {k : β → Sem γ} {Q : γ → Shared → Prop} (h1 : 1 ≤ n)
    (t0 : wpAny M A (f 0 st0) (fun r s' => s' = s ∧ r = .yield st1) E s) (t1 : ∀ i, wpAny M A (f (i + 1) st1) (fun r s' => s' = s ∧ r = .done st1) E s) (fin : wpAny M A (k st1) Q E s) :
    wpAny M A (forIn (m := Sem) ({ start := 0, stop := n, step := 1, step_pos := hp } : Std.Legacy.Range) st0 f >>= k) Q E s := by
  refine wp_range (fun i => Nat.rec st0 (fun _ _ => st1) i) rfl (st9 := st1) ?_ ?_ fin
  · cases n with
    | zero => cases h1
    | succ n => rfl
  · intro i _
    cases i with
    | zero => exact wpAny_mono t0 (fun r s' h => ⟨h.1, .inl h.2⟩) fun _ _ h => h
    | succ i => exact wpAny_mono (t1 i) (fun r s' h => ⟨h.1, .inr h.2⟩) fun _ _ h => h
theorem jn_long : ∀ (l : List (Array UInt8 × Tok)) (acc : Nat), (∀ p ∈ l, p.1.size ≤ 1000) → Array.foldl (fun x1 x2 => x1 + x2.size) acc (l.map (·.1)).toArray ≤ acc + 1000 * l.length := by
  intro l
  induction l with
  | nil => intro acc _; exact Nat.le_refl _
  | cons p l ih =>
    intro acc hp
    have h1 := hp p List.mem_cons_self
    have h2 := ih (acc + p.1.size) (fun q hq => hp q (List.mem_cons_of_mem _ hq))
    simp only [List.map_cons, List.foldl_toArray', List.foldl_cons, List.size_toArray, List.length_map, List.length_cons] at h2 ⊢
    omega
theorem jn_key {sep : Array UInt8} (hs : sep.size ≤ 10) : ∀ (l : List (Array UInt8 × Nat)) (acc : Array UInt8), (∀ p ∈ l, p.1.size ≤ 1000) → (l.foldl (fun out (p, i) => (if i > 0 then out ++ sep else out) ++ p) acc).size ≤ acc.size + 1010 * l.length := by
  intro l
  induction l with
  | nil => intro acc _; exact Nat.le_refl _
  | cons p l ih =>
    intro acc hp
    have h1 := hp p List.mem_cons_self
    have h2 := ih ((if p.2 > 0 then acc ++ sep else acc) ++ p.1) (fun q hq => hp q (List.mem_cons_of_mem _ hq))
    have h3 : ((if p.2 > 0 then acc ++ sep else acc) ++ p.1).size ≤ acc.size + 1010 := by
      rw [Array.size_append]
      split
      · rw [Array.size_append]; omega
      · omega
    simp only [List.foldl_cons, List.length_cons] at h2 ⊢
    omega
theorem join_many {sep : Array UInt8} {t : Tok} {l : Addr} {n : Nat} (bl : List (Array UInt8 × Tok)) {h₀ : Heap} {L : Addr} {news : List (Addr × Obj)} {Q : Value → Shared → Prop} (N : News h₀ L s.heap news) (hm : (l, W.listOf (bvals bl).toArray n) ∈ news)
   (h2 : 2 ≤ bl.length) (h9 : bl.length ≤ 100) (hsz : ∀ p ∈ bl, p.1.size ≤ 1000) (hs : sep.size ≤ 10) (h : ∀ t' k, Q (.bytes (Bytes.joined sep (bl.map (·.1))) t') { s with toks := k }) :
   wpAny (model prog w) A (Builtin.«bytes.join» ⟨[.bytes sep t, .ref l], []⟩) (fun fin s' => ∃ r, fin = .done (.ret r) ∧ Q r s') E s := by
  have hl := (N _ hm).1
  unfold Builtin.«bytes.join» Bytes.joinM
  wp_walk
  rcases bl with _ | ⟨⟨b, u⟩, _ | ⟨⟨b2, u2⟩, r⟩⟩
  · exact absurd h2 (by decide)
  · exact absurd h2 (by simp)
  · show wpAny _ _ (forIn (m := Sem) (ρ := Std.Legacy.Range) (α := Nat) _ _ _ >>= _) _ _ _
    generalize ((b, u) :: (b2, u2) :: r) = bl at hm h9 hsz h hl ⊢
    have hbv : (bvals bl).length = bl.length := List.length_map _
    have hn : (bvals bl).toArray.size = bl.length := by rw [List.size_toArray]; exact hbv
    refine wp_range (fun i => (((bl.take i).map (·.1)).toArray, (bl.take i).map fun p => ((Value.bytes p.1 p.2, none) : Value × Option Value))) rfl (st9 := ((bl.map (·.1)).toArray, bl.map fun p => ((Value.bytes p.1 p.2, none) : Value × Option Value))) (by rw [hn, List.take_length]) ?_ ?_
    · intro x hlt
      rw [hn] at hlt
      have hg : (bvals bl).toArray.getD x .none = Value.bytes bl[x].1 bl[x].2 := by
        simp [Array.getD, hlt]
      have hany : (List.map (fun p : Array UInt8 × Tok => ((Value.bytes p.1 p.2, none) : Value × Option Value)) (bl.take x)).any (fun q => q.1.onHeap) = false := by
        rw [List.any_map]
        exact List.any_eq_false.mpr fun p _ => by simp [Value.onHeap]
      dsimp only
      refine wpAny_bind (wpAny_seqItems hl rfl ?_)
      dsimp only
      rw [hg, hany]
      simp only [take_eq]
      wp_walk
      refine ⟨rfl, .inl ?_⟩
      have e : bl.take (x + 1) = bl.take x ++ [bl[x]] := by rw [List.take_add_one, List.getElem?_eq_getElem hlt]; rfl
      rw [e]
      simp only [List.map_append, List.map_cons, List.map_nil, List.push_toArray]
    · dsimp only
      have hp : Bytes.payload (.bytes sep t) = pure sep := rfl
      rw [hp]
      simp only [pure_bind]
      refine wpAny_ite_false ?_ ?_
      · have h3 := jn_long bl (sep.size * ((bl.map (·.1)).toArray.size - 1)) hsz
        have h4 : sep.size * ((bl.map (·.1)).toArray.size - 1) ≤ 10 * 100 := Nat.mul_le_mul hs (by rw [List.size_toArray, List.length_map]; omega)
        exact decide_eq_false (fun q => by rw [KBy.tooLong_not (by omega)] at q; cases q)
      have hj : (Bytes.joined sep (bl.map (·.1))).size ≤ sizeLine := by
        have h5 := jn_key hs ((bl.map (·.1)).zipIdx) #[] (fun p hp => by
          obtain ⟨q, hq, e⟩ := List.mem_map.mp (List.mem_zipIdx hp |>.2.2 ▸ List.getElem_mem _ : p.1 ∈ bl.map (·.1))
          rw [← e]; exact hsz q hq)
        rw [List.length_zipIdx, List.length_map] at h5
        unfold Bytes.joined
        refine Nat.le_trans h5 ?_
        rw [sizeLine_eq]
        show 0 + _ ≤ _
        exact gnle (lin1 (cx1 _) (.var 0) (.num 100) (.add (.num 0) (.mulL 1010 (.var 0))) (.num 16777216) 1010 1 rfl (nle h9))
      show wpAny _ _ (mkBytes _ >>= _) _ _ _
      refine wpAny_bind (wpAny_mkBytes ?_ hj)
      refine wpAny_bind (wpAny_holding (wpAny_point ?_))
      refine wpAny_bind (letGo_all _ _ _ (fun p hp => by obtain ⟨q, _, e⟩ := List.mem_map.mp hp; rw [← e]) ?_)
      exact wpAny_pure ⟨_, rfl, h _ _⟩
theorem join_wp {sep : Array UInt8} {t : Tok} {l : Addr} {n : Nat} (bl : List (Array UInt8 × Tok)) {h₀ : Heap} {L : Addr} {news : List (Addr × Obj)} {Q : Value → Shared → Prop} (N : News h₀ L s.heap news) (hm : (l, W.listOf (bvals bl).toArray n) ∈ news)
   (h2 : 1 ≤ bl.length) (h9 : bl.length ≤ 100) (hsz : ∀ p ∈ bl, p.1.size ≤ 1000) (hs : sep.size ≤ 10) (h : ∀ t' k, Q (.bytes (Bytes.joined sep (bl.map (·.1))) t') { s with toks := k }) :
   wpAny (model prog w) A (Builtin.«bytes.join» ⟨[.bytes sep t, .ref l], []⟩) (fun fin s' => ∃ r, fin = .done (.ret r) ∧ Q r s') E s := by
  rcases bl with _ | ⟨⟨b, u⟩, _ | ⟨⟨b2, u2⟩, r⟩⟩
  · exact absurd h2 (by decide)
  · have hl := (N _ hm).1
    unfold Builtin.«bytes.join» Bytes.joinM
    wp_walk
    have e1 : Bytes.joined sep [b] = b := by unfold Bytes.joined; simp
    refine ⟨_, rfl, ?_⟩
    have := h u s.toks
    rw [show List.map (fun x : Array UInt8 × Tok => x.1) [(b, u)] = [b] from rfl, e1] at this
    exact this
  · exact join_many _ N hm (Nat.le_add_left 2 r.length) h9 hsz hs h
theorem call_join {sep : Array UInt8} {t : Tok} {l : Addr} {n : Nat} (bl : List (Array UInt8 × Tok)) {h₀ : Heap} {L : Addr} {news : List (Addr × Obj)} {Q : Value → Shared → Prop} (N : News h₀ L s.heap news) (hm : (l, W.listOf (bvals bl).toArray n) ∈ news)
   (h2 : 1 ≤ bl.length) (h9 : bl.length ≤ 100) (hsz : ∀ p ∈ bl, p.1.size ≤ 1000) (hs : sep.size ≤ 10) (h : ∀ t' k, Q (.bytes (Bytes.joined sep (bl.map (·.1))) t') { s with toks := k }) :
   wpAny (model prog w) A (call (.builtin "bytes.join") [.bytes sep t, .ref l]) Q E s := by
  refine wpAny_call (codeAny_call_builtin slot_bytes_join.plain entry_bytes_join (slot_bytes_join.check _ _ _ _ _ _ _ _ (typeIs_bytes _ _ _) (args_bytes_join_2 _ _) ?_))
  refine wpAny_mono (join_wp bl N hm h2 h9 hsz hs h) (fun fin s' hq => ?_) fun _ _ e => e
  obtain ⟨r, rfl, hq⟩ := hq
  exact hq
theorem joinMeth {b : Array UInt8} {t : Tok} {pl : Sem Bool} {Q : Value × List Value → Shared → Prop} (h : Q (.builtin "bytes.join", [.bytes b t]) s) : wpAny (model prog w) A (getMethod (.bytes b t) (Str.ofString "join") pl) Q E s :=
  getMethod_builtin (typeIs_bytes _ _ _) FB.plainAttrs_bytes slot_bytes_join type_bytes_join (fun _ e => nomatch e) h
end
end Mine
end
noncomputable section
namespace Mine
open PySem.Calls
open PyProof.Rows.LCg
open PySem.F PySem.Builtin
theorem args_bytes_decode_2 (a b : Value) : argsOk "bytes.decode" ⟨[a, b], []⟩ := by
  unfold argsOk; rw [signature?_of (id := "bytes.decode") (n := ['e', 'd', 'o', 'c', 'e', 'd']) (o := ['s', 'e', 't', 'y', 'b']) (by kernel_rfl) FB.owner_bytes]; kernel_rfl
section
variable {b : Array UInt8} {c : UInt8} {cs : List UInt8} {t : Tok}
theorem road_ascii {id : String} : _codecs.decodeRoad id b (PySem.Str.ofString "ascii") none [] = (_codecs.runDecoder id _codecs.asciiDecoder none true b 0 [] >>= fun r => mkStr ⟨r.1⟩) := by kernel_rfl
theorem entry_ascii {t1 : Tok} : Builtin.«bytes.decode» ⟨[.bytes (c :: cs).toArray t, .str (PySem.Str.ofString "ascii") t1], []⟩ = (mkStr (PySem.Str.ofString "utf-8") >>= fun _ => mkStr (PySem.Str.ofString "ascii") >>= fun e => mkStr (PySem.Str.ofString "bytes.decode") >>= fun d =>
    call (.builtin "_codecs.decode.text") [.bytes (c :: cs).toArray t, e, .none, d] >>= fun v => ret v) := by kernel_rfl
end
section
variable {prog : Program} {w : World} {A : Around} {E : Value → Shared → Prop} {s : Shared}
theorem run_ascii {id : String} {b : Array UInt8} {Q : Array Nat × Nat → Shared → Prop} (hb : ∀ i, i < b.size → (b.getD i 0).toNat < 128) (hsz : b.size ≤ 1000000) (h : Q (b.map (·.toNat), b.size) s) :
    wpAny (model prog w) A (_codecs.runDecoder id _codecs.asciiDecoder none true b 0 []) Q E s := by
  unfold _codecs.runDecoder
  dsimp only
  refine wp_range (fun i => (i, ((b.toList.take i).map (·.toNat)).toArray, ({} : _codecs.Faults))) rfl (st9 := (b.size, b.map (·.toNat), ({} : _codecs.Faults))) ?_ ?_ (wpAny_pure h)
  · have e : ((b.toList.take b.size).map (·.toNat)).toArray = b.map (·.toNat) := by
      rw [← Array.length_toList, List.take_length]
      apply Array.toList_inj.mp
      simp
    exact congrArg (fun z => (b.size, z, ({} : _codecs.Faults))) e
  · intro x hlt
    have hf : _codecs.asciiDecoder.find true b x = .text [(b.getD x 0).toNat] (x + 1) := by
      show (if (b.getD x 0).toNat < 128 then _ else _) = _
      rw [if_pos (hb x hlt)]
      rfl
    dsimp only
    refine wpAny_ite_false ?_ ?_
    · refine decide_eq_false ?_
      rw [List.size_toArray, List.length_map, List.length_take, sizeLine_eq]
      omega
    refine wpAny_ite_false (decide_eq_false (by exact gnnle (lin1 (cx2 _ _) (.add (.var 0) (.num 1)) (.var 1) (.add (.var 0) (.num 1)) (.var 1) 1 1 rfl (nlt hlt)))) ?_
    rw [hf]
    dsimp only
    refine wpAny_pure ⟨rfl, .inl ?_⟩
    have e : b.toList.take (x + 1) = b.toList.take x ++ [b.getD x 0] := by
      rw [List.take_add_one, List.getElem?_eq_getElem (by rw [Array.length_toList]; exact hlt)]
      simp [Array.getD, hlt]
    rw [e]
    simp only [List.map_append, List.map_cons, List.map_nil]
    rw [← List.append_toArray]
theorem decodeText_wp {b : Array UInt8} {t t1 t2 : Tok} {d : PySem.Str} {Q : Value → Shared → Prop} (hb : ∀ i, i < b.size → (b.getD i 0).toNat < 128) (hsz : b.size ≤ 1000000) (h : Q (.str ⟨b.map (·.toNat)⟩ s.toks) { s with toks := s.toks + 1 }) :
    wpAny (model prog w) A (Builtin.«_codecs.decode.text» ⟨[.bytes b t, .str (PySem.Str.ofString "ascii") t1, .none, .str d t2], []⟩) (fun fin s' => ∃ r, fin = .done (.ret r) ∧ Q r s') E s := by
  show wpAny _ _ (Bytes.bytesLike _ (.bytes b t) >>= fun r => _) _ _ s
  refine wpAny_bind (wpAny_of_eq KBd.like_eq ?_)
  refine wpAny_bind (wpAny_of_eq KBd.held_eq ?_)
  show wpAny _ _ (_codecs.decodeRoad _ b (PySem.Str.ofString "ascii") none [] >>= fun v => _) _ _ s
  rw [road_ascii]
  refine wpAny_bind (wpAny_bind (run_ascii hb hsz ?_))
  refine wpAny_mkStr (wpAny_pure ⟨_, rfl, h⟩) ?_
  show (b.map (·.toNat)).size ≤ sizeLine
  rw [Array.size_map]
  exact Nat.le_trans hsz (by decide)
theorem call_decode {b : Array UInt8} {t t1 : Tok} {Q : Value → Shared → Prop} (hb : ∀ i, i < b.size → (b.getD i 0).toNat < 128) (h1 : 1 ≤ b.size) (hsz : b.size ≤ 1000000) (h : ∀ t' k, Q (.str ⟨b.map (·.toNat)⟩ t') { s with toks := k }) :
    wpAny (model prog w) A (call (.builtin "bytes.decode") [.bytes b t, .str (PySem.Str.ofString "ascii") t1]) Q E s := by
  refine wpAny_call (codeAny_call_builtin FB.slot_bytes_decode.plain FB.entry_bytes_decode (FB.slot_bytes_decode.check _ _ _ _ _ _ _ _ (typeIs_bytes _ _ _) (args_bytes_decode_2 _ _) ?_))
  obtain ⟨c, cs, rfl⟩ : ∃ c cs, b = (c :: cs).toArray := by
    rcases b with ⟨l⟩
    cases l with
    | nil => exact absurd h1 (by decide)
    | cons c cs => exact ⟨c, cs, rfl⟩
  show wpAny _ _ (Builtin.«bytes.decode» _) _ _ _
  rw [entry_ascii]
  refine wpAny_bind (wpAny_mkStr ?_ (by decide))
  refine wpAny_bind (wpAny_mkStr ?_ (by decide))
  refine wpAny_bind (wpAny_mkStr ?_ (by decide))
  refine wpAny_bind (Calls.call_function_entry KBd.kind_text KBd.plain_text KBd.entry_text (KBd.args_text _ _ _ _) ?_)
  refine decodeText_wp hb hsz ?_
  exact wpAny_pure (h _ _)
theorem decodeMeth {b : Array UInt8} {t : Tok} {pl : Sem Bool} {Q : Value × List Value → Shared → Prop} (h : Q (.builtin "bytes.decode", [.bytes b t]) s) : wpAny (model prog w) A (getMethod (.bytes b t) (Str.ofString "decode") pl) Q E s :=
  getMethod_builtin (typeIs_bytes _ _ _) FB.plainAttrs_bytes FB.slot_bytes_decode FB.type_bytes_decode (fun _ e => nomatch e) h
end
end Mine
end
noncomputable section
namespace Mine
open PySem.Calls
open PyProof.Rows.LCg
open PySem.F PySem.Builtin
theorem encode_ascii_tree (x : Str) (t u : Tok) : Builtin.«str.encode» ⟨[.str x t, .str (Str.ofString "ascii") u], []⟩ = (do ret (← _codecs.encodeRoad "str.encode" (.str x t) x (Str.ofString "ascii") none)) := by kernel_rfl
theorem encodeRoad_ascii (id : String) (self : Value) (x : Str) : _codecs.encodeRoad id self x (Str.ofString "ascii") none = (do mkBytes (← _codecs.encodeNarrow id _codecs.asciiCodec none self x)) := by kernel_rfl
section
variable {prog : Program} {w : World} {A : Around} {E : Value → Shared → Prop} {s : Shared}
theorem narrow_ascii {id : String} {self : Value} {x : Str} {Q : Array UInt8 → Shared → Prop} (hb : ∀ i, i < x.cps.size → x.cps.getD i 0 < 128) (h1 : 1 ≤ x.cps.size) (hsz : x.cps.size ≤ 1000000) (h : Q (x.cps.map (·.toUInt8)) s) :
    wpAny (model prog w) A (_codecs.encodeNarrow id _codecs.asciiCodec none self x) Q E s := by
  unfold _codecs.encodeNarrow
  dsimp only
  have hlen : x.length = x.cps.size := rfl
  have hfold : ∀ (l : List Nat) (acc : Array UInt8), l.foldl (fun (acc : Array UInt8) y => acc ++ [y.toUInt8].toArray) acc = acc ++ (l.map (·.toUInt8)).toArray := by
    intro l
    induction l with
    | nil => intro acc; simp
    | cons y l ih => intro acc; rw [List.foldl_cons, ih, List.map_cons]; simp
  have hclean : (x.cps.findIdx? fun y => decide (y ≥ 128)) = none := by
    rw [Array.findIdx?_eq_none_iff]
    intro y hy
    obtain ⟨i, hi, e⟩ := Array.mem_iff_getElem.mp hy
    have := hb i hi
    rw [Array.getD_eq_getD_getElem?, Array.getElem?_eq_getElem hi, Option.getD_some, e] at this
    exact decide_eq_false (by exact gnnle (lin1 (cx1 _) (.add (.var 0) (.num 1)) (.num 128) (.add (.var 0) (.num 1)) (.num 128) 1 1 rfl (nlt this)))
  refine wp_range1 (st1 := (x.cps.size, x.cps.map (·.toUInt8), ({} : _codecs.Faults))) h1 ?_ (fun i => ?_) (wpAny_pure h)
  · · dsimp only
      refine wpAny_ite_false (decide_eq_false (by rw [sizeLine_eq]; simp)) ?_
      rw [Array.getElem?_eq_getElem h1]
      dsimp only
      have hx0 : (!_codecs.asciiCodec.bad x.cps[0]) = true := by
        have := hb 0 h1
        rw [Array.getD_eq_getD_getElem?, Array.getElem?_eq_getElem h1, Option.getD_some] at this
        show (!decide (x.cps[0] ≥ 128)) = true
        rw [decide_eq_false (by exact gnnle (lin1 (cx1 _) (.add (.var 0) (.num 1)) (.num 128) (.add (.var 0) (.num 1)) (.num 128) 1 1 rfl (nlt this)))]; rfl
      refine wpAny_ite_true (decide_eq_true hx0) ?_
      refine wpAny_pure ⟨rfl, ?_⟩
      have e1 : x.cps.extract 0 x.cps.size = x.cps := Array.extract_size
      have e2 : ((x.cps.extract 0 x.cps.size).findIdx? _codecs.asciiCodec.bad).getD (x.cps.extract 0 x.cps.size).size = x.cps.size := by
        rw [e1]
        show ((x.cps.findIdx? fun y => decide (y ≥ 128)).getD _) = _
        rw [hclean]; rfl
      rw [e2, Nat.zero_add, e1, e1]
      have e3 : Array.foldl (fun (acc : Array UInt8) y => acc ++ (_codecs.asciiCodec.bytesOf y).toArray) #[] x.cps = x.cps.map (·.toUInt8) := by
        rw [← Array.foldl_toList]
        show List.foldl (fun (acc : Array UInt8) y => acc ++ [y.toUInt8].toArray) #[] x.cps.toList = _
        rw [hfold]
        apply Array.toList_inj.mp
        simp
      rw [e3]
  · · dsimp only
      refine wpAny_ite_false (decide_eq_false (by rw [Array.size_map, sizeLine_eq]; exact gnnlt (lin1 (cx1 _) (.var 0) (.num 1000000) (.var 0) (.num 16777216) 1 1 rfl (nle hsz)))) ?_
      rw [Array.getElem?_eq_none (Nat.le_refl _)]
      exact wpAny_pure ⟨rfl, rfl⟩
theorem call_encode {x : Str} {t u : Tok} {Q : Value → Shared → Prop} (hb : ∀ i, i < x.cps.size → x.cps.getD i 0 < 128) (h1 : 1 ≤ x.cps.size) (hsz : x.cps.size ≤ 1000000) (h : ∀ t' k, Q (.bytes (x.cps.map (·.toUInt8)) t') { s with toks := k }) :
    wpAny (model prog w) A (call (.builtin "str.encode") [.str x t, .str (Str.ofString "ascii") u]) Q E s := by
  refine wpAny_call (codeAny_call_builtin F.slot_str_encode.plain F.entry_str_encode (F.slot_str_encode.check _ _ _ _ _ _ _ _ (typeIs_str _ _ _) (F.args_str_encode_2 _ _) ?_))
  show wpAny _ _ (Builtin.«str.encode» _) _ _ _
  rw [encode_ascii_tree, encodeRoad_ascii]
  refine wpAny_bind (wpAny_bind (narrow_ascii hb h1 hsz ?_))
  refine wpAny_mkBytes ?_ (by rw [Array.size_map]; exact Nat.le_trans hsz (by decide))
  exact wpAny_pure (h _ _)
end
end Mine
end
noncomputable section
namespace Mine
open PySem.Calls
open PyProof.Rows.LCg
open PySem.Builtin
noncomputable abbrev cpsI (s : Str) : List Int := s.cps.toList.map fun (c : Nat) => (c : Int)
noncomputable def joinI : List (List Int) → List Int
  | [] => []
  | [x] => x
  | x :: r => x ++ [32] ++ joinI r
noncomputable def wayZ (wd : Nat → List Int) (T : Int) (am : List Int) : List (List Int) :=
  apD (if T < 0 then -T else T).toNat :: ((List.range 5).filter fun c => decide (am.getD c 0 > 0)).map fun c => wd c ++ [32] ++ apD (am.getD c 0).toNat
noncomputable def textZ (wd : Nat → List Int) (T : Int) (am : List Int) : List Int := [70, 76, 65, 71, 83, 32, 40] ++ joinI (wayZ wd T am) ++ [41]
noncomputable def goodZ (T : Int) (am : List Int) : Bool := decide (T ≠ 0) && am.all fun x => decide (0 ≤ x) && decide (x ≤ 8 * (if T < 0 then -T else T))
theorem BA.snoc {b : Array UInt8} {x : List Int} (t : Tok) (hb : KBw.bInts b = x) : ∀ {vs : List Value} {l : List (List Int)}, BA vs l → BA (vs ++ [.bytes b t]) (l ++ [x]) := by
  intro vs l h
  induction h with
  | nil => exact .cons t hb .nil
  | cons t' hb' _ ih => exact .cons t' hb' ih
theorem BA.bl : ∀ {vs : List Value} {l : List (List Int)}, BA vs l → ∃ bl : List (Array UInt8 × Tok), vs = bvals bl ∧ bl.map (fun p => KBw.bInts p.1) = l := by
  intro vs l h
  induction h with
  | nil => exact ⟨[], rfl, rfl⟩
  | @cons b x vs l t hb _ ih =>
    obtain ⟨bl, e1, e2⟩ := ih
    exact ⟨(b, t) :: bl, by rw [e1]; rfl, by rw [← e2, ← hb]; rfl⟩
theorem apD_len : ∀ {k n : Nat}, n < 16 ^ k → (apD n).length ≤ k
  | 0, n, h => by
    have : n = 0 := by simpa using h
    subst this
    exact Nat.le_refl _
  | k + 1, 0, _ => Nat.zero_le _
  | k + 1, n + 1, h => by
    rw [apD_suc]
    rw [List.length_append, List.length_singleton]
    exact Nat.succ_le_succ (apD_len (by rw [Nat.div_lt_iff_lt_mul (by decide)]; rw [Nat.pow_succ] at h; exact h))
theorem joined_ints (sep : Array UInt8) (hs : KBw.bInts sep = [32]) : ∀ (l : List (Array UInt8)), KBw.bInts (Bytes.joined sep l) = joinI (l.map KBw.bInts) := by
  have app : ∀ a b : Array UInt8, KBw.bInts (a ++ b) = KBw.bInts a ++ KBw.bInts b := fun a b => KBw.ints_app rfl rfl
  have key : ∀ (l : List (Array UInt8)) (k : Nat) (acc : Array UInt8), KBw.bInts ((l.zipIdx (k + 1)).foldl (fun out (p, i) => (if i > 0 then out ++ sep else out) ++ p) acc) = KBw.bInts acc ++ (l.flatMap fun x => [32] ++ KBw.bInts x) := by
    intro l
    induction l with
    | nil => intro k acc; simp
    | cons x l ih =>
      intro k acc
      rw [List.zipIdx_cons, List.foldl_cons]
      dsimp only
      rw [ih, if_pos (Nat.succ_pos k), app, app, hs, List.flatMap_cons]
      simp only [List.append_assoc]
  have jn : ∀ (x : List Int) (l : List (List Int)), joinI (x :: l) = x ++ (l.flatMap fun y => [32] ++ y) := by
    intro x l
    induction l generalizing x with
    | nil => simp [joinI]
    | cons y l ih =>
      show x ++ [32] ++ joinI (y :: l) = _
      rw [ih, List.flatMap_cons]
      simp only [List.append_assoc]
  intro l
  cases l with
  | nil => rfl
  | cons x l =>
    unfold Bytes.joined
    rw [List.zipIdx_cons, List.foldl_cons]
    dsimp only
    rw [key, if_neg (by decide), List.map_cons, jn, app]
    simp only [List.flatMap_map]
    rfl
theorem apD_rng : ∀ (n : Nat), ∀ z ∈ apD n, 65 ≤ z ∧ z ≤ 80
  | 0, z, h => by rw [apD_zero] at h; cases h
  | n + 1, z, h => by
    rw [apD_suc] at h
    rcases List.mem_append.mp h with h | h
    · exact apD_rng _ z h
    · rw [List.mem_singleton.mp h]
      have := Nat.mod_lt (n + 1) (by decide : 0 < 16)
      exact ⟨lin1 (cx1 _) (.num 0) (.var 0) (.num 65) (.add (.num 65) (.var 0)) 1 1 rfl (nn _), lin1 (cx1 _) (.add (.var 0) (.num 1)) (.num 16) (.add (.num 65) (.var 0)) (.num 80) 1 1 rfl (nlt this)⟩
decreasing_by omega
theorem apD_ne {n : Nat} (h : 0 < n) : 1 ≤ (apD n).length := by
  obtain ⟨k, rfl⟩ : ∃ k, n = k + 1 := ⟨n - 1, by exact gneq (lin1 (cx2 _ _) (.var 0) (.add (.var 1) (.num 1)) (.var 0) (.add (.var 1) (.num 1)) 1 1 rfl (ns1 _ _)) (lin1 (cx2 _ _) (.add (.var 0) (.num 1)) (.var 1) (.add (.var 0) (.num 1)) (.var 1) 1 1 rfl (ns2 (lin1 (cx1 _) (.add (.num 0) (.num 1)) (.var 0) (.num 1) (.var 0) 1 1 rfl (nlt h))))⟩
  rw [apD_suc]
  rw [List.length_append, List.length_singleton]
  exact Nat.le_add_left _ _
noncomputable def Lt (z : Int) : Prop := z = 32 ∨ (65 ≤ z ∧ z ≤ 80)
theorem joinI_lt : ∀ (l : List (List Int)), (∀ x ∈ l, ∀ z ∈ x, Lt z) → ∀ z ∈ joinI l, Lt z
  | [], _, z, h => nomatch h
  | [x], hl, z, h => hl x List.mem_cons_self z h
  | x :: y :: r, hl, z, h => by
    have h' : z ∈ x ++ [32] ++ joinI (y :: r) := h
    rcases List.mem_append.mp h' with h | h
    · rcases List.mem_append.mp h with h | h
      · exact hl x List.mem_cons_self z h
      · exact .inl (List.mem_singleton.mp h)
    · exact joinI_lt (y :: r) (fun x hx => hl x (List.mem_cons_of_mem _ hx)) z h
theorem joinI_len : ∀ (l : List (List Int)) (k : Nat), (∀ x ∈ l, x.length ≤ k) → (joinI l).length ≤ (k + 1) * l.length
  | [], _, _ => Nat.zero_le _
  | [x], k, hl => by
    have := hl x List.mem_cons_self
    show x.length ≤ _
    rw [List.length_singleton]; exact gnle (lin1 (cx2 _ _) (.var 0) (.var 1) (.var 0) (.mulR (.add (.var 1) (.num 1)) 1) 1 1 rfl (nle this))
  | x :: y :: r, k, hl => by
    have h1 := hl x List.mem_cons_self
    have h2 := joinI_len (y :: r) k (fun x hx => hl x (List.mem_cons_of_mem _ hx))
    show (x ++ [32] ++ joinI (y :: r)).length ≤ _
    rw [List.length_append, List.length_append, List.length_singleton, List.length_cons, Nat.mul_succ]
    exact gnle (lin2 (cx4 _ _ _ _) (.var 0) (.var 1) (.var 2) (.var 3) (.add (.add (.var 0) (.num 1)) (.var 2)) (.add (.var 3) (.add (.var 1) (.num 1))) 1 1 1 rfl (nle h1) (nle h2))
theorem joinI_pos {x : List Int} {l : List (List Int)} (h : 1 ≤ x.length) : 1 ≤ (joinI (x :: l)).length := by
  cases l with
  | nil => exact h
  | cons y r =>
    show 1 ≤ (x ++ [32] ++ joinI (y :: r)).length
    rw [List.length_append, List.length_append]; exact gnle (lin3 (cx3 _ _ _) (.num 1) (.var 0) (.num 0) (.var 1) (.num 0) (.var 2) (.num 1) (.add (.add (.var 0) (.var 1)) (.var 2)) 1 1 1 1 rfl (nle h) (nn _) (nn _))
theorem way_facts {wd : Nat → List Int} {T : Int} {am : List Int} (hw : ∀ c, c < 5 → (wd c).length ≤ 10 ∧ ∀ z ∈ wd c, 65 ≤ z ∧ z ≤ 80) (ham : ∀ z ∈ am, 0 ≤ z ∧ z < 65536) (hU : 0 < (if T < 0 then -T else T)) (hU2 : (if T < 0 then -T else T) < 65536) :
    (∀ x ∈ wayZ wd T am, x.length ≤ 15 ∧ ∀ z ∈ x, Lt z) ∧ (wayZ wd T am).length ≤ 6 := by
  constructor
  · intro x hx
    unfold wayZ at hx
    rcases List.mem_cons.mp hx with rfl | hx
    · refine ⟨Nat.le_trans (apD_len (k := 4) (by show _ < 65536; exact gnlt (lin2 (cx2 _ _) (.add (.var 0) (.num 1)) (.num 65536) (.var 1) (.var 0) (.add (.var 1) (.num 1)) (.num 65536) 1 1 1 rfl hU2 (tn2 (lin1 (cx1 _) (.add (.num 0) (.num 1)) (.var 0) (.num 0) (.var 0) 1 1 rfl hU))))) (by decide), fun z hz => .inr (apD_rng _ z hz)⟩
    · obtain ⟨c, hc, rfl⟩ := List.mem_map.mp hx
      have hc5 : c < 5 := List.mem_range.mp (List.mem_filter.mp hc).1
      have hz : (am.getD c 0) < 65536 ∧ 0 ≤ am.getD c 0 := by
        rw [List.getD_eq_getElem?_getD]
        cases e : am[c]? with
        | none => simp
        | some v => have := ham v (List.mem_of_getElem? e); simp; exact ⟨lin1 (cx1 _) (.add (.var 0) (.num 1)) (.num 65536) (.add (.var 0) (.num 1)) (.num 65536) 1 1 rfl this.2, lin1 (cx1 _) (.num 0) (.var 0) (.num 0) (.var 0) 1 1 rfl this.1⟩
      have h1 := hw c hc5
      refine ⟨?_, fun z hz => ?_⟩
      · rw [List.length_append, List.length_append, List.length_singleton]
        have := apD_len (k := 4) (n := (am.getD c 0).toNat) (by show _ < 65536; exact gnlt (lin2 (cx2 _ _) (.add (.var 0) (.num 1)) (.num 65536) (.var 1) (.var 0) (.add (.var 1) (.num 1)) (.num 65536) 1 1 1 rfl hz.1 (tn2 (lin1 (cx1 _) (.num 0) (.var 0) (.num 0) (.var 0) 1 1 rfl hz.2))))
        exact gnle (lin2 (cx2 _ _) (.var 0) (.num 10) (.var 1) (.num 4) (.add (.add (.var 0) (.num 1)) (.var 1)) (.num 15) 1 1 1 rfl (nle h1.1) (nle this))
      · rcases List.mem_append.mp hz with hz | hz
        · rcases List.mem_append.mp hz with hz | hz
          · exact .inr (h1.2 z hz)
          · exact .inl (List.mem_singleton.mp hz)
        · exact .inr (apD_rng _ z hz)
  · unfold wayZ
    rw [List.length_cons, List.length_map]
    exact Nat.succ_le_succ (Nat.le_trans (List.length_filter_le _ _) (by simp))
theorem bytes_of {b : Array UInt8} {l : List Int} (h : KBw.bInts b = l) (hl : ∀ z ∈ l, Lt z) : (∀ i, i < b.size → (b.getD i 0).toNat < 128) := by
  intro i hi
  have hm : ((b.getD i 0).toNat : Int) ∈ l := by
    rw [← h]
    refine List.mem_map.mpr ⟨b.getD i 0, ?_, rfl⟩
    rw [Array.getD_eq_getD_getElem?, Array.getElem?_eq_getElem hi, Option.getD_some]
    exact Array.mem_toList_iff.mpr (Array.getElem_mem hi)
  have := hl _ hm
  unfold Lt at this
  omega
theorem plain_way1 : PlainS (Str.ofString "Way") := ⟨by decide, by decide⟩
theorem plain_way2 : PlainS (Str.ofString "wAY") := ⟨by decide, by decide⟩
theorem text_plain {tx : Str} {J : List Int} (hC : cpsI tx = J) (hlt : ∀ z ∈ J, Lt z) (hs : tx.length ≤ 96) : PlainS (Str.ofString "FLAGS (" ++ tx ++ Str.ofString ")") ∧ cpsI (Str.ofString "FLAGS (" ++ tx ++ Str.ofString ")") = [70, 76, 65, 71, 83, 32, 40] ++ J ++ [41] := by
  have e : (Str.ofString "FLAGS (" ++ tx ++ Str.ofString ")").cps = #[70, 76, 65, 71, 83, 32, 40] ++ tx.cps ++ #[41] := rfl
  refine ⟨⟨?_, ?_⟩, ?_⟩
  · rw [e, Array.size_append, Array.size_append]
    have : tx.cps.size ≤ 96 := hs
    show 7 + _ + 1 ≤ _
    omega
  · intro i hi
    rw [e] at hi ⊢
    have hm : (#[70, 76, 65, 71, 83, 32, 40] ++ tx.cps ++ #[41]).getD i 0 ∈ (#[70, 76, 65, 71, 83, 32, 40] ++ tx.cps ++ #[41]) := by
      rw [Array.getD_eq_getD_getElem?, Array.getElem?_eq_getElem hi, Option.getD_some]
      exact Array.getElem_mem hi
    rw [Array.mem_append, Array.mem_append] at hm
    rcases hm with (h | h) | h
    · simp only [List.mem_toArray, List.mem_cons, List.not_mem_nil, or_false] at h
      omega
    · have h2 := hlt ((#[70, 76, 65, 71, 83, 32, 40] ++ tx.cps ++ #[41]).getD i 0 : Nat) (by rw [← hC]; exact List.mem_map.mpr ⟨_, Array.mem_toList_iff.mpr h, rfl⟩)
      unfold Lt at h2
      omega
    · simp only [List.mem_toArray, List.mem_cons, List.not_mem_nil, or_false] at h
      exact ⟨gnle (lin1 (cx1 _) (.num 41) (.var 0) (.num 32) (.var 0) 1 1 rfl (neq2 h)), gnlt (lin1 (cx1 _) (.var 0) (.num 41) (.add (.var 0) (.num 1)) (.num 127) 1 1 rfl (neq1 h))⟩
  · unfold cpsI
    rw [e]
    simp only [Array.toList_append, List.map_append]
    rw [show (tx.cps.toList.map fun (c : Nat) => (c : Int)) = J from hC]
    rfl
end Mine
end
noncomputable section
namespace Mine
open PySem.Calls
open PyProof.Rows.LCg
section
variable {prog : Program} {w : World} {A : Around} {E : Value → Shared → Prop} {s : Shared} {h₀ : Heap} {env : Env}
theorem range_walksS {I : Addr} (hh : A.handled = none) (a c : Int) (n : Nat) : Walks prog w A I [I] [I] n (fun i v => ∃ t, v = .int (a + (i : Int) * c) t) (fun i h => IsRangeIter h I (a + (i : Nat) * c) ((n : Int) - (i : Nat)) c) :=
  let W : Walks prog w A I [I] [I] n (fun i v => i < n ∧ ∃ t, v = .int (a + i * c) t) (fun i h => IsRangeIter h I (a + (i : Nat) * c) ((n : Int) - (i : Nat)) c) := (Walks.range hh I a c n).bound
  { sub := W.sub, frame := W.frame, done := W.done, self := W.self,
    item := fun i s Q E hi st hQ => W.item i s Q E hi st fun v h' tk hP => hQ v h' tk (by obtain ⟨_, t, rfl⟩ := hP; exact ⟨t, rfl⟩) }
noncomputable def SrcS (prog : Program) (w : World) (A : Around) (h₀ : Heap) (env : Env) (x : Str) (body : List Stmt) (Q : Flow → Shared → Prop) (E : Value → Shared → Prop) (c : Int) (n : Nat) (J : Nat → (Str → Option Value) → List (Addr × Obj) → Prop) (xv : Value) (s₁ : Shared) : Prop :=
  ∃ r a b t u v m news, xv = .ref r ∧ Fr h₀ env.locals s₁.heap m ∧ News h₀ env.locals s₁.heap news ∧ IsRange s₁.heap r a b c t u v ∧ Builtin.Range.small a b c = true ∧ Builtin.Range.rangeSize a b c = ((n : Nat) : Int) ∧ J 0 m news ∧
    (∀ i m₁ news₁ I oI h tk t, i < n → J i m₁ news₁ → Fr h₀ env.locals h (fun y => if y = x then some (.int (a + (i : Int) * c) t) else m₁ y) → News h₀ env.locals h ((I, oI) :: news₁) → (∀ p ∈ news₁, p.1 ≠ I) →
      wpAny (model prog w) A (execs body env) (TurnR h₀ env.locals I oI (J (i + 1)) { s₁ with heap := h, toks := tk }) E { s₁ with heap := h, toks := tk }) ∧
    ∀ h' tk m' news', Fr h₀ env.locals h' m' → News h₀ env.locals h' news' → J n m' news' → Q .next { s₁ with heap := h', toks := tk }
theorem For_S {Q : Flow → Shared → Prop} {x : Str} {px pos : Pos} {iter : Expr} {body : List Stmt} {c : Int} {n : Nat} (J : Nat → (Str → Option Value) → List (Addr × Obj) → Prop) (h₀ : Heap) (hx : env.kindOf x = some .local)
    (hp : (env.scope.kind == .class || (env.scope.kind == .module && env.locals != env.globals)) = false) (hh : A.handled = none)
    (h : wpAny (model prog w) A (eval iter env) (SrcS prog w A h₀ env x body Q E c n J) E s)
    (hs : ∀ x, foldedSetIterable iter env x = pure x := by intro _; rfl)
    (hE : PassesOwn (model prog w) A env E := by passes_own) :
    wpAny (model prog w) A (exec (.For (.Name x px) iter body [] pos) env) Q E s := by
  refine For_invV h₀ hx hp (wpAny_mono h (fun xv s₁ h₁ => ?_) fun _ _ e => e) hs hE
  refine ob8 h₁ fun r a b t u v m news h₁ => ?_
  rw [h₁.1]
  exact wpAny_pyIter_range h₁.2.2.2.1 h₁.2.2.2.2.1 (loop_core J (range_walksS hh a c n) (fun i h st => ⟨_, st⟩) (by show IsRangeIter _ _ _ _ _; rw [h₁.2.2.2.2.2.1]; simpa using Heap.get?_push_size _ rfl) h₁.2.1 h₁.2.2.1 h₁.2.2.2.2.2.2.1 h₁.2.2.2.2.2.2.2.1 h₁.2.2.2.2.2.2.2.2)
end
end Mine
end
noncomputable section
namespace Mine
open PySem.Calls
open PyProof.Rows.LCg
section
variable {prog : Program} {w : World} {A : Around} {E : Value → Shared → Prop} {s : Shared} {h₀ : Heap} {L : Addr} {m : Str → Option Value} {env : Env}
theorem rest_indV {elt : Expr} {x : Str} {scope : Scope} {cl : List (Str × Addr)} {S : List (Addr × Obj) → Prop} {P : Nat → Value → Prop} {Fin : List Value → List (Addr × Obj) → Prop} {news : List (Addr × Obj)} {n : Nat} (J : Nat → List Value → List (Addr × Obj) → Prop) (h0 : J 0 [] [])
    (turn : ∀ i ys Ls, i < n → J i ys Ls → (∀ p ∈ Ls, Off1 p.1 news) → ∀ v I oI C oC D m₂ h tk (E' : Value → Shared → Prop), P i v → NsObj oC m₂ → m₂ x = some v → Fr h₀ L h m → News h₀ L h ((I, oI) :: (C, oC) :: (D, lst ys) :: (news ++ Ls)) → Off3 I C D (news ++ Ls) → ((@Ne Nat I C) ∧ (@Ne Nat I D) ∧ (@Ne Nat C D)) →
      wpAny (model prog w) A (eval elt (compEnvC scope cl C env)) (CompEnd h₀ L m { s with heap := h, toks := tk } I oI C oC D (lst ys) S (fun y news' => ∃ Ls', news' = news ++ Ls' ∧ (∀ p ∈ Ls', Off1 p.1 news) ∧ J (i + 1) (ys ++ [y]) Ls')) E' { s with heap := h, toks := tk })
    (fin : ∀ ys Ls, J n ys Ls → (∀ p ∈ Ls, Off1 p.1 news) → Fin ys (news ++ Ls)) : CompRest prog w A h₀ L m env elt x scope cl s S P Fin n 0 [] news := by
  refine rest_indG (fun i ys nw => ∃ Ls, nw = news ++ Ls ∧ (∀ p ∈ Ls, Off1 p.1 news) ∧ J i ys Ls) ⟨[], (List.append_nil _).symm, fun _ h => absurd h List.not_mem_nil, h0⟩ ?_ ?_
  · rintro i ys _ hi ⟨Ls, rfl, hO, hJ⟩
    exact turn i ys Ls hi hJ hO
  · rintro ys _ ⟨Ls, rfl, hO, hJ⟩
    exact fin ys Ls hJ hO
end
end Mine
end
noncomputable section
namespace Mine
open PySem.Calls
local macro_rules | `(tactic| k_mem) => `(tactic| first | (show (_ : Addr × Obj) ∈ (_ : List (Addr × Obj)); with_reducible assumption) | (refine LampsIn.mem (by with_reducible assumption) ?_; decide))
local macro_rules | `(tactic| k_mem) => `(tactic| ((repeat' (first | (with_reducible assumption) | refine List.mem_cons_of_mem _ ?_)); done))
local macro_rules | `(tactic| k_ne) => `(tactic| first | (show @Ne Nat _ _; with_reducible assumption) | (refine Ne.symm ?_; show @Ne Nat _ _; with_reducible assumption))
local macro_rules | `(tactic| k_all) => `(tactic| with_reducible assumption)
local macro_rules | `(tactic| walk_at "call ref") => `(tactic| (k_here; with_reducible refine halt_in ?_))
section
open PySem.Calls
open PyProof.Rows.LCg
noncomputable def trip (a b c g1 g2 g3 : Int) : List (Int × Int) := if c < a then [(c, g3), (a, g1), (b, g2)] else if c < b then [(a, g1), (c, g3), (b, g2)] else [(a, g1), (b, g2), (c, g3)]
theorem offs {l : List (Addr × Obj)} {D : Addr} (h : ∀ q ∈ l, q.1 < D) : ∀ q ∈ l, q.1 ≠ D := fun q hq => Nat.ne_of_lt (h q hq)
theorem sorted3 {prog : Program} {w : World} {A : Around} {E : Value → Shared → Prop} {s : Shared} {h₀ : Heap} {L : Addr} {m : Str → Option Value} {news : List (Addr × Obj)} {Q : Value → Shared → Prop}
    {l ta tb tc : Addr} {k ka kb kc : Nat} {a b c g1 g2 g3 : Int} {τa τb τc σ1 σ2 σ3 : Tok} (F : Fr h₀ L s.heap m) (N : News h₀ L s.heap news) (hl : (l, W.listOf [Value.ref ta, .ref tb, .ref tc].toArray k) ∈ news)
    (ma : (ta, tupO #[.int a τa, .int g1 σ1] ka) ∈ news) (mb : (tb, tupO #[.int b τb, .int g2 σ2] kb) ∈ news) (mc : (tc, tupO #[.int c τc, .int g3 σ3] kc) ∈ news) (hab : a < b) (hca : c ≠ a) (hcb : c ≠ b)
    (h : ∀ D c' h' T0 T1 T2 n0 n1 n2 p0 p1 p2 τ0 τ1 τ2 σ0 σ1 σ2 k0 k1 k2, [(n0, p0), (n1, p1), (n2, p2)] = trip a b c g1 g2 g3 → (T0, tupO #[.int n0 τ0, .int p0 σ0] k0) ∈ news → (T1, tupO #[.int n1 τ1, .int p1 σ1] k1) ∈ news → (T2, tupO #[.int n2 τ2, .int p2 σ2] k2) ∈ news →
      Fr h₀ L h' m → News h₀ L h' ((D, W.listOf [Value.ref T0, .ref T1, .ref T2].toArray c') :: news) → (∀ q ∈ news, q.1 < D) → Q (.ref D) { s with heap := h' }) : wpAny (model prog w) A (call (.builtin "sorted") [.ref l]) Q E s := by
  refine kat_sorted (vs := [.ref ta, .ref tb, .ref tc]) F N (News.isList N hl) (Nat.le_of_ble_eq_true rfl) (Nat.le_of_ble_eq_true rfl) ?_
  intro D e1 h' F' N' l1
  have u1 := offs l1
  kat_kinds
  repeat' (first
    | (kat_flag; (with_reducible show wpAny _ _ (oneLt' true (Value.int _ _) (Value.int _ _)) _ _ _); refine oneLt_int ?_)
    | ((with_reducible show wpAny _ _ (eqBool (Value.int _ _) (Value.int _ _)) _ _ _); refine wpAny_eqBool_int ?_)
    | ((with_reducible show wpAny _ _ (keyLt' _ (Value.int _ _) (Value.int _ _)) _ _ _); k_dflt (refine kat_lt_int ?_))
    | ((with_reducible show wpAny _ _ (keyLt' _ (Value.ref _) (Value.ref _)) _ _ _); k_dflt (refine' kat_lt ?a_4 ?b_4 ?c_4 ?d_4 ?_; (case a_4 => exact News.get (by k_asm) (by k_mem)); (case b_4 => exact rfl); (case c_4 => exact News.get (by k_asm) (by k_mem)); (case d_4 => exact rfl); k_whole))
    | (refine kas_split (fun hk => absurd hk ?f_5) (fun _ => ?_); (case f_5 => (simp only [decide_eq_true_eq]; (first | exact ginlt (lin1 (cx2 _ _) (.add (.var 0) (.num 1)) (.var 1) (.var 0) (.var 1) 1 1 rfl hab) | omega))))
    | (refine kas_split (fun _ => ?_) (fun hk => absurd hk ?f_6); (case f_6 => (simp only [decide_eq_false_iff_not, Int.not_lt]; (first | exact ginle (lin1 (cx2 _ _) (.add (.var 0) (.num 1)) (.var 1) (.add (.var 0) (.num 1)) (.var 1) 1 1 rfl hab) | omega))))
    | (refine kat_go (fun hk => absurd hk ?f_7) (fun _ => ?_); (case f_7 => (simp only [beq_iff_eq]; (first | exact gine2 (lin1 (cx2 _ _) (.add (.var 0) (.num 1)) (.var 1) (.add (.var 0) (.num 1)) (.var 1) 1 1 rfl hab) | exact gine1 (lin1 (cx2 _ _) (.add (.var 0) (.num 1)) (.var 1) (.add (.var 0) (.num 1)) (.var 1) 1 1 rfl hab) | omega))))
    | (kas_out; k_dflt (refine' KasFin.intro ?F_8 ?N_8 ?U_8 ?_; (case F_8 => k_asm); (case N_8 => k_asm); (case U_8 => (refine UpdF.head ?_; with_reducible assumption)); k_whole); intro h' c' F' N'; (try dsimp only at N'); (try k_sweep))
    | (k_unfold; (try dsimp only)) | (k_end; wrow_close) | walk1 | (dsimp only; walk1) | (leave1; try dsimp only))
  all_goals first
    | exact h D _ _ tc ta tb c a b g3 g1 g2 _ _ _ _ _ _ _ _ _ (by unfold trip; rw [if_pos (by omega)]) mc ma mb (by k_asm) (by k_asm) l1
    | exact h D _ _ ta tc tb a c b g1 g3 g2 _ _ _ _ _ _ _ _ _ (by unfold trip; rw [if_neg (by omega), if_pos (by omega)]) ma mc mb (by k_asm) (by k_asm) l1
    | exact h D _ _ ta tb tc a b c g1 g2 g3 _ _ _ _ _ _ _ _ _ (by unfold trip; rw [if_neg (by omega), if_neg (by omega)]) ma mb mc (by k_asm) (by k_asm) l1
end
section
open PySem.Calls
open PyProof.Rows.LCg
inductive TI (news : List (Addr × Obj)) : List Value → List Str → Prop
  | nil : TI news [] []
  | cons {p : Addr} {t1 t2 : Tok} {k : Nat} {nm tx : Str} {r : List Value} {l : List Str} (hn : nm = Str.ofString "Way" ∨ nm = Str.ofString "wAY") (hm : (p, tupO #[.str nm t1, .str tx t2] k) ∈ news) (h : TI news r l) : TI news (.ref p :: r) (tx :: l)
theorem TI.mono {news news' : List (Addr × Obj)} (hs : ∀ p ∈ news, p ∈ news') : ∀ {a : List Value} {b : List Str}, TI news a b → TI news' a b := by
  intro a b h
  induction h with
  | nil => exact .nil
  | cons hn hm _ ih => exact .cons hn (hs _ hm) ih
theorem TI.get {news : List (Addr × Obj)} : ∀ {a : List Value} {b : List Str}, TI news a b → ∀ {i : Nat} {v : Value}, a[i]? = some v → ∃ p t1 t2 k nm tx, v = .ref p ∧ (nm = Str.ofString "Way" ∨ nm = Str.ofString "wAY") ∧ (p, tupO #[.str nm t1, .str tx t2] k) ∈ news ∧ b[i]? = some tx := by
  intro a b h
  induction h with
  | nil => intro i v e; exact nomatch (show (none : Option Value) = some v from e)
  | cons hn hm _ ih =>
    intro i v e
    cases i with
    | zero => exact ⟨_, _, _, _, _, _, (Option.some.inj e).symm, hn, hm, rfl⟩
    | succ i => exact ih e
theorem TI.len {news : List (Addr × Obj)} : ∀ {a : List Value} {b : List Str}, TI news a b → a.length = b.length := by
  intro a b h
  induction h with
  | nil => rfl
  | cons _ _ _ ih => exact congrArg Nat.succ ih
theorem TI.snoc {news : List (Addr × Obj)} {p : Addr} {t1 t2 : Tok} {k : Nat} {nm tx : Str} (hn : nm = Str.ofString "Way" ∨ nm = Str.ofString "wAY") (hm : (p, tupO #[.str nm t1, .str tx t2] k) ∈ news) : ∀ {a : List Value} {b : List Str}, TI news a b → TI news (a ++ [.ref p]) (b ++ [tx]) := by
  intro a b h
  induction h with
  | nil => exact .cons hn hm .nil
  | cons hn' hm' _ ih => exact .cons hn' hm' ih
theorem strs_snoc {y : Str} {t : Tok} : ∀ {ys : List Value} {l : List Str}, StrsAre ys l → StrsAre (ys ++ [.str y t]) (l ++ [y]) := by
  intro a b h
  induction h with
  | nil => exact .cons _ _ .nil
  | cons _ _ _ ih => exact .cons _ _ ih
theorem strs_take {y : Str} {t : Tok} {ys : List Value} {l : List Str} {i : Nat} (h : StrsAre ys (l.take i)) (e : l[i]? = some y) : StrsAre (ys ++ [.str y t]) (l.take (i + 1)) := by
  rw [List.take_add_one, e]
  exact strs_snoc h
theorem plain_way : PlainS (Str.ofString "way") := by
  refine ⟨by decide, ?_⟩
  decide
local macro_rules | `(tactic| walk_at "eval ListComp") => `(tactic| (k_here; with_reducible refine halt_in ?_))
theorem all_ok (w : World) (x dx q : Addr) (tk t0 : Tok) (its : Array Value) (txs : List Str) (n : Nat) (hit : its.size ≤ 100) (rest : List (Addr × Obj)) (hI : TI rest its.toList txs) :
   Ctr w 3 20 147 [.ref x, .str (Str.ofString "way") t0] (tabL w x dx q its n tk ++ rest) (fun _ v add => ∃ D ys, v = .ref D ∧ add = [(D, lst ys)] ∧ StrsAre ys txs ∧ Off1 D (tabL w x dx q its n tk ++ rest)) := by
  intro mean mg mb dp un gd cn cs a ccd cl outer A₀ base h₀ L m s Q E B F X N T hk hd hu hret
  have hpw := plain_way
  simp only [tabL, List.cons_append, List.nil_append] at N hret
  (refine wpAny_call ?_; k_dflt (refine' enterPC (news₀ := ((q, W.listOf its n) :: (x, instObj 208 dx) :: (dx, dictOf [{ hash := PyData.keyHash w.params (Str.ofString "_headers"), key := .str (Str.ofString "_headers") tk, val := .ref q }] 1) :: rest)) ?k1 ?k2 ?k3 ?k4 ?k5 ?kS ?kA ?kF ?kK ?k6 ?k7 ?k8 ?k9 ?kB ?kD ?_ ?c2 ?c3 ?c4; (case kA => exact rfl); (case kF => exact rfl); (case kK => assumption); (case k1 => k_asm); (case k2 => k_asm); (case k3 => k_asm); (case k4 => k_asm); (case k5 => k_asm); (case kS => first | exact fun _ h => h | exact List.forall_mem_nil _ | (intro p hp; simp only [List.mem_cons, List.not_mem_nil, or_false] at hp; rcases hp with rfl | hp <;> first | assumption | (rcases hp with rfl | hp <;> first | assumption | (rcases hp with rfl | hp <;> first | assumption | (rcases hp with rfl | hp <;> first | assumption | (rcases hp with rfl | hp <;> first | assumption | (rcases hp with rfl | hp <;> first | assumption | (rcases hp with rfl | hp <;> first | assumption | (rcases hp with rfl | hp <;> first | assumption | (subst hp; assumption))))))))) | (intro p hp; simp only [List.mem_cons, List.not_mem_nil, or_false] at hp; subst hp; assumption)); (case k6 => k_is); (case k7 => k_is); (case k8 => ktr_room); (case k9 => exact BindsTo.of_eq rfl); (case kB => exact rfl); (case kD => decide); (case c2 => exact rfl); (case c3 => exact rfl); (case c4 => exact rfl); k_whole; intro g' L' h' tk' cells' FG' F' N' Y' B' X' T' lt' old'; (try dsimp only); k_cells Y'; (try simp only [List.cons_append, List.nil_append, List.append_nil] at N'); (try k_fold); refine wpLA ?_; intro Ax Qx Ex))
  have hrest : ∀ p ∈ rest, p.1 ≠ L' + 1 := fun p hp => Nat.ne_of_lt (Nat.lt_succ_of_lt (lt' p (List.mem_cons_of_mem _ (List.mem_cons_of_mem _ (List.mem_cons_of_mem _ hp)))))
  k_lt lt'
  repeat' (first
    | ((with_reducible show wpAny _ _ (call (Value.ref 109) _ _) _ _ _); k_dflt ((refine' conv_ok _ _ _ _ _ ?hv_1 _ _ _ _ _ _ _ _ _ _ _ _ _ _ _ _ _ _ _ _ _ ?k1_1 ?k2_1 ?k3_1 ?k4_1 ?k5_1 ?k6_1 ?k7_1 ?k8_1 ?_); (case hv_1 => with_reducible assumption); (case k4_1 => k_asm); (case k1_1 => k_asm); (case k2_1 => k_asm); (case k3_1 => k_asm); (case k5_1 => k_asm); (case k6_1 => first | exact rfl | assumption); (case k7_1 => ktr_room); (case k8_1 => ktr_units); k_whole; intro v9 add9 h9 tk9 R9 F9 N9; obtain ⟨e9, e9'⟩ := R9; subst e9 e9'; (try dsimp only [List.nil_append, List.cons_append] at N9); (try dsimp only); (try k_fold)))
    | (k_unfold; (try dsimp only)) | (k_end; wrow_close) | walk1 | (dsimp only; walk1) | (leave1; try dsimp only))
  refine Halt.out ?_
  refine LCt.ListComp_T (by k_asm) rfl (by decide) rfl (by decide) rfl ?_
  k_steps
  refine LCt.CompSrcT.ledger rfl (by k_asm) (by k_asm) (List.mem_cons_of_mem _ List.mem_cons_self) (Nat.le_trans hit (by decide)) ?_
  intro g
  have hlen : its.size = txs.length := by rw [← hI.len, Array.length_toList]
  refine restT_F (fun i ys => StrsAre ys (txs.take i)) (.inr ⟨_, List.mem_cons_of_mem _ List.mem_cons_self, rfl, _, rfl⟩) .nil ?_ ?_
  · intro i ys v I oI C oC D m₂ h tk E' hi hv hJ hC hX F N
    refine ob6 (hI.get (i := i) (v := v) (by rw [Array.getElem?_toList]; exact hv)) fun p t1 t2 k nm tx hq => ?_
    rw [hq.1] at hX
    have hm := hq.2.2.1
    have htx := hq.2.2.2
    rcases hq.2.1 with e | e <;> rw [e] at hm
    · clear e hq
      k_steps
      exact EndF.intro (by k_asm) (by k_asm) (fun p hp => by repeat' (first | exact hp | refine List.mem_cons_of_mem _ ?_)) (strs_take hJ htx)
    · clear e hq
      k_steps
      exact EndF.intro (by k_asm) (by k_asm) (fun p hp => by repeat' (first | exact hp | refine List.mem_cons_of_mem _ ?_)) (strs_take hJ htx)
  · intro ys hJ
    rw [hlen, List.take_length] at hJ
    intro D h9 tk9 F9 N9 o9
    exact ⟨_, _, _, F9, N9, (fun p hp => List.mem_cons_of_mem _ (List.mem_cons_of_mem _ hp)), fun F N => hret _ [_] _ _ ⟨D, ys, rfl, rfl, hJ, o9.2⟩ F (pick1 N)⟩
end
section
open PySem.Calls
open PyProof.Rows.LCg
theorem cross_ok (w : World) (la lb : Addr) (a0 a1 a2 b0 b1 b2 : Int) (ta0 ta1 ta2 tb0 tb1 tb2 : Tok) (na nb : Nat) (news : List (Addr × Obj))
   (ha : (la, W.listOf #[.int a0 ta0, .int a1 ta1, .int a2 ta2] na) ∈ news) (hb : (lb, W.listOf #[.int b0 tb0, .int b1 tb1, .int b2 tb2] nb) ∈ news)
   (hb0 : Sm b0) (hb2 : Sm b2) (hb02 : Sm (b0 - b2)) (hb12 : Sm (b1 - b2)) :
   Ctr w 1 8 243 [.ref la, .ref lb] news (fun _ v add => add = [] ∧ ∃ t, v = .int ((a0-a2)*(b1-b2)-(a1-a2)*(b0-b2)) t) := by
  intro mean mg mb dp un gd cn cs a ccd cl outer A₀ base h₀ L m s Q E B F X N T hk hd hu hret
  (refine wpAny_call ?_; k_dflt (refine' enterP (news₀ := [(la, W.listOf #[.int a0 ta0, .int a1 ta1, .int a2 ta2] na), (lb, W.listOf #[.int b0 tb0, .int b1 tb1, .int b2 tb2] nb)]) ?k1 ?k2 ?k3 ?k4 ?k5 ?kS ?kA ?kF ?kK ?k6 ?k7 ?k8 ?k9 ?kB ?_ ?c2 ?c3 ?c4 ?c5; (case kA => exact rfl); (case kF => exact rfl); (case kK => assumption); (case k1 => k_asm); (case k2 => k_asm); (case k3 => k_asm); (case k4 => k_asm); (case k5 => k_asm); (case kS => first | exact fun _ h => h | exact List.forall_mem_nil _ | (intro p hp; simp only [List.mem_cons, List.not_mem_nil, or_false] at hp; rcases hp with rfl | hp <;> first | assumption | (rcases hp with rfl | hp <;> first | assumption | (rcases hp with rfl | hp <;> first | assumption | (rcases hp with rfl | hp <;> first | assumption | (rcases hp with rfl | hp <;> first | assumption | (rcases hp with rfl | hp <;> first | assumption | (rcases hp with rfl | hp <;> first | assumption | (rcases hp with rfl | hp <;> first | assumption | (subst hp; assumption))))))))) | (intro p hp; simp only [List.mem_cons, List.not_mem_nil, or_false] at hp; subst hp; assumption)); (case k6 => k_is); (case k7 => k_is); (case k8 => ktr_room); (case k9 => exact BindsTo.of_eq rfl); (case c5 => decide); (case kB => exact locs rfl); (case c2 => exact rfl); (case c3 => exact rfl); (case c4 => exact rfl); k_whole; intro g' L' h' FG' F' N' B' X' T' lt' old'; (try dsimp only); (try k_fold); refine wpLA ?_; intro Ax Qx Ex))
  repeat' (first
    | (k_dflt ((with_reducible refine mul_int ?_ ?hmul_1); (case hmul_1 => first | (refine mulR ?_; first | (with_reducible assumption) | assumption | (refine Lmp.Ok.sm (by with_reducible assumption) ?_ _; first | decide | exact lt5 (by with_reducible assumption) (Int.lt_of_lt_of_le (by with_reducible assumption) (by decide)))) | (refine mulL ?_; first | (with_reducible assumption) | assumption | (refine Sm.of ?_ ?_ <;> decide)))))
    | (k_unfold; (try dsimp only)) | (k_end; wrow_close) | walk1 | (dsimp only; walk1) | (leave1; try dsimp only))
  exact ⟨_, _, _, by k_asm, by k_asm, fun p hp => hp, fun F N => hret _ [] _ _ ⟨rfl, _, rfl⟩ F (pick0 N)⟩

theorem whole_ok (w : World) (la : Addr) (a0 a1 a2 : Int) (ta0 ta1 ta2 : Tok) (na : Nat) (news : List (Addr × Obj))
   (ha : (la, W.listOf #[.int a0 ta0, .int a1 ta1, .int a2 ta2] na) ∈ news) :
   Ctr w 1 8 260 [.ref la] news (fun _ v add => ∃ q t0 t1 t2 n, v = .ref q ∧ add = [(q, W.listOf #[.int (30 * a0 + 59 * a1 + 11 * a2) t0, .int (5990 * a0 - 2773 * a1 - 3217 * a2) t1, .int (2130 * a0 - 5251 * a1 + 3121 * a2) t2] n)] ∧ Off1 q news) := by
  intro mean mg mb dp un gd cn cs a ccd cl outer A₀ base h₀ L m s Q E B F X N T hk hd hu hret
  (refine wpAny_call ?_; k_dflt (refine' enterP (news₀ := news) ?k1 ?k2 ?k3 ?k4 ?k5 ?kS ?kA ?kF ?kK ?k6 ?k7 ?k8 ?k9 ?kB ?_ ?c2 ?c3 ?c4 ?c5; (case kA => exact rfl); (case kF => exact rfl); (case kK => assumption); (case k1 => k_asm); (case k2 => k_asm); (case k3 => k_asm); (case k4 => k_asm); (case k5 => k_asm); (case kS => first | exact fun _ h => h | exact List.forall_mem_nil _ | (intro p hp; simp only [List.mem_cons, List.not_mem_nil, or_false] at hp; rcases hp with rfl | hp <;> first | assumption | (rcases hp with rfl | hp <;> first | assumption | (rcases hp with rfl | hp <;> first | assumption | (rcases hp with rfl | hp <;> first | assumption | (rcases hp with rfl | hp <;> first | assumption | (rcases hp with rfl | hp <;> first | assumption | (rcases hp with rfl | hp <;> first | assumption | (rcases hp with rfl | hp <;> first | assumption | (subst hp; assumption))))))))) | (intro p hp; simp only [List.mem_cons, List.not_mem_nil, or_false] at hp; subst hp; assumption)); (case k6 => k_is); (case k7 => k_is); (case k8 => ktr_room); (case k9 => exact BindsTo.of_eq rfl); (case c5 => decide); (case kB => exact locs rfl); (case c2 => exact rfl); (case c3 => exact rfl); (case c4 => exact rfl); k_whole; intro g' L' h' FG' F' N' B' X' T' lt' old'; (try dsimp only); (try k_fold); refine wpLA ?_; intro Ax Qx Ex))
  k_steps
  rename_i l9 _ _ _ lt9
  exact ⟨_, _, _, by k_asm, by k_asm, (fun p hp => by repeat' (first | exact hp | refine List.mem_cons_of_mem _ ?_)), fun F N => hret _ [_] _ _ ⟨l9, _, _, _, _, rfl, rfl, off_of lt9⟩ F (pick1 N)⟩

noncomputable def plainB (p a0 a1 a2 : Int) : Array UInt8 := byteArr [66 + p, 65 + a0, 65 + a1, 65 + a2]
theorem plain_ok (w : World) (la : Addr) (p a0 a1 a2 : Int) (tp ta0 ta1 ta2 : Tok) (na : Nat) (news : List (Addr × Obj))
   (ha : (la, W.listOf #[.int a0 ta0, .int a1 ta1, .int a2 ta2] na) ∈ news) (hp : 0 ≤ p ∧ p < 5)
   (ha0 : 0 ≤ a0 ∧ a0 < 16) (ha1 : 0 ≤ a1 ∧ a1 < 16) (ha2 : 0 ≤ a2 ∧ a2 < 16) :
   Ctr w 1 8 229 [.int p tp, .ref la] news (fun _ v add => add = [] ∧ ∃ t, v = .bytes (plainB p a0 a1 a2) t) := by
  intro mean mg mb dp un gd cn cs a ccd cl outer A₀ base h₀ L m s Q E B F X N T hk hd hu hret
  (refine wpAny_call ?_; k_dflt (refine' enterP (news₀ := news) ?k1 ?k2 ?k3 ?k4 ?k5 ?kS ?kA ?kF ?kK ?k6 ?k7 ?k8 ?k9 ?kB ?_ ?c2 ?c3 ?c4 ?c5; (case kA => exact rfl); (case kF => exact rfl); (case kK => assumption); (case k1 => k_asm); (case k2 => k_asm); (case k3 => k_asm); (case k4 => k_asm); (case k5 => k_asm); (case kS => first | exact fun _ h => h | exact List.forall_mem_nil _ | (intro p hp; simp only [List.mem_cons, List.not_mem_nil, or_false] at hp; rcases hp with rfl | hp <;> first | assumption | (rcases hp with rfl | hp <;> first | assumption | (rcases hp with rfl | hp <;> first | assumption | (rcases hp with rfl | hp <;> first | assumption | (rcases hp with rfl | hp <;> first | assumption | (rcases hp with rfl | hp <;> first | assumption | (rcases hp with rfl | hp <;> first | assumption | (rcases hp with rfl | hp <;> first | assumption | (subst hp; assumption))))))))) | (intro p hp; simp only [List.mem_cons, List.not_mem_nil, or_false] at hp; subst hp; assumption)); (case k6 => k_is); (case k7 => k_is); (case k8 => ktr_room); (case k9 => exact BindsTo.of_eq rfl); (case c5 => decide); (case kB => exact locs rfl); (case c2 => exact rfl); (case c3 => exact rfl); (case c4 => exact rfl); k_whole; intro g' L' h' FG' F' N' B' X' T' lt' old'; (try dsimp only); (try k_fold); refine wpLA ?_; intro Ax Qx Ex))
  repeat' (first
    | ((with_reducible show wpAny _ _ (subscriptTail _ _ (Value.ref _) (Value.int _ _)) _ _ _); k_dflt ((with_unfolding_all (refine' lit_sub ?kn_2 ?km_2 ?k3_2 ?k4_2 ?k5_2 ?_ ?k8_2)); (case k3_2 => decide); (case k4_2 => decide); (case kn_2 => k_asm); (case km_2 => k_mem); (case k5_2 => rfl); (case k8_2 => with_unfolding_all rfl); k_whole))
    | (k_unfold; (try dsimp only)) | (k_end; wrow_close) | walk1 | (dsimp only; walk1) | (leave1; try dsimp only))
  exact ⟨_, _, _, by k_asm, by k_asm, (fun p hp => by repeat' (first | exact hp | refine List.mem_cons_of_mem _ ?_)), fun F N => hret _ [] _ _ ⟨rfl, _, rfl⟩ F (pick0 N)⟩

noncomputable def yY (r g b : UInt64) : UInt64 := Float64.add (Float64.add (Float64.mul 4599075939470750515 r) (Float64.mul 4603489467105573601 g)) (Float64.mul 4592590756007337001 b)
noncomputable def yI (r g b : UInt64) : UInt64 := Float64.sub (Float64.mul 4604840546993784750 (Float64.sub r (yY r g b))) (Float64.mul 4598535507515466056 (Float64.sub b (yY r g b)))
noncomputable def yQ (r g b : UInt64) : UInt64 := Float64.add (Float64.mul 4602318531202457272 (Float64.sub r (yY r g b))) (Float64.mul 4601057523306793533 (Float64.sub b (yY r g b)))
theorem yiq_ok (w : World) (r g b : UInt64) (tr tg tb : Tok) (news : List (Addr × Obj)) :
   Ctr w 1 8 45 [.float r tr, .float g tg, .float b tb] news (fun _ v add => ∃ q t1 t2 t3 n, v = .ref q ∧ add = [(q, ({ cls := .type "tuple", data := .seq #[.float (yY r g b) t1, .float (yI r g b) t2, .float (yQ r g b) t3] n } : Obj))] ∧ Off1 q news) := by
  intro mean mg mb dp un gd cn cs a ccd cl outer A₀ base h₀ L m s Q E B F X N T hk hd hu hret
  (refine wpAny_call ?_; k_dflt (refine' enterP (news₀ := news) ?k1 ?k2 ?k3 ?k4 ?k5 ?kS ?kA ?kF ?kK ?k6 ?k7 ?k8 ?k9 ?kB ?_ ?c2 ?c3 ?c4 ?c5; (case kA => exact rfl); (case kF => exact rfl); (case kK => assumption); (case k1 => k_asm); (case k2 => k_asm); (case k3 => k_asm); (case k4 => k_asm); (case k5 => k_asm); (case kS => first | exact fun _ h => h | exact List.forall_mem_nil _ | (intro p hp; simp only [List.mem_cons, List.not_mem_nil, or_false] at hp; rcases hp with rfl | hp <;> first | assumption | (rcases hp with rfl | hp <;> first | assumption | (rcases hp with rfl | hp <;> first | assumption | (rcases hp with rfl | hp <;> first | assumption | (rcases hp with rfl | hp <;> first | assumption | (rcases hp with rfl | hp <;> first | assumption | (rcases hp with rfl | hp <;> first | assumption | (rcases hp with rfl | hp <;> first | assumption | (subst hp; assumption))))))))) | (intro p hp; simp only [List.mem_cons, List.not_mem_nil, or_false] at hp; subst hp; assumption)); (case k6 => k_is); (case k7 => k_is); (case k8 => ktr_room); (case k9 => exact BindsTo.of_eq rfl); (case c5 => decide); (case kB => exact locs rfl); (case c2 => exact rfl); (case c3 => exact rfl); (case c4 => exact rfl); k_whole; intro g' L' h' FG' F' N' B' X' T' lt' old'; (try dsimp only); (try k_fold); refine wpLA ?_; intro Ax Qx Ex))
  k_steps
  rename_i l9 _ _ _ lt9
  exact ⟨_, _, _, by k_asm, by k_asm, (fun p hp => by repeat' (first | exact hp | refine List.mem_cons_of_mem _ ?_)), fun F N => hret _ [_] _ _ ⟨l9, _, _, _, _, rfl, rfl, off_of lt9⟩ F (pick1 N)⟩
theorem plain_c {w : World} {la : Addr} {p a0 a1 a2 : Int} {tp ta0 ta1 ta2 : Tok} {na : Nat} {news : List (Addr × Obj)}
   (ha : (la, W.listOf #[.int a0 ta0, .int a1 ta1, .int a2 ta2] na) ∈ news) (hp : 0 ≤ p ∧ p < 5)
   (ha0 : 0 ≤ a0 ∧ a0 < 16) (ha1 : 0 ≤ a1 ∧ a1 < 16) (ha2 : 0 ≤ a2 ∧ a2 < 16) :
   CtrC w 1 8 229 [.int p tp, .ref la] news (fun K => ∀ t, K (.bytes (plainB p a0 a1 a2) t) []) :=
  Ctr.toC (fun K => ∀ t, K (.bytes (plainB p a0 a1 a2) t) []) (plain_ok w la p a0 a1 a2 tp ta0 ta1 ta2 na news ha hp ha0 ha1 ha2) (by intro K h _ _ _ R9; obtain ⟨e1, t, e2⟩ := R9; subst e1 e2; exact h t)
theorem cross_c {w : World} {la lb : Addr} {a0 a1 a2 b0 b1 b2 : Int} {ta0 ta1 ta2 tb0 tb1 tb2 : Tok} {na nb : Nat} {news : List (Addr × Obj)}
   (ha : (la, W.listOf #[.int a0 ta0, .int a1 ta1, .int a2 ta2] na) ∈ news) (hb : (lb, W.listOf #[.int b0 tb0, .int b1 tb1, .int b2 tb2] nb) ∈ news)
   (hb0 : Sm b0) (hb2 : Sm b2) (hb02 : Sm (b0 - b2)) (hb12 : Sm (b1 - b2)) :
   CtrC w 1 8 243 [.ref la, .ref lb] news (fun K => ∀ t, K (.int ((a0-a2)*(b1-b2)-(a1-a2)*(b0-b2)) t) []) :=
  Ctr.toC (fun K => ∀ t, K (.int ((a0-a2)*(b1-b2)-(a1-a2)*(b0-b2)) t) []) (cross_ok w la lb a0 a1 a2 b0 b1 b2 ta0 ta1 ta2 tb0 tb1 tb2 na nb news ha hb hb0 hb2 hb02 hb12) (by intro K h _ _ _ R9; obtain ⟨e1, t, e2⟩ := R9; subst e1 e2; exact h t)
theorem whole_c {w : World} {la : Addr} {a0 a1 a2 : Int} {ta0 ta1 ta2 : Tok} {na : Nat} {news : List (Addr × Obj)}
   (ha : (la, W.listOf #[.int a0 ta0, .int a1 ta1, .int a2 ta2] na) ∈ news) :
   CtrC w 1 8 260 [.ref la] news (fun K => ∀ q t0 t1 t2 n, Off1 q news → K (.ref q) [(q, W.listOf #[.int (30 * a0 + 59 * a1 + 11 * a2) t0, .int (5990 * a0 - 2773 * a1 - 3217 * a2) t1, .int (2130 * a0 - 5251 * a1 + 3121 * a2) t2] n)]) :=
  Ctr.toC (fun K => ∀ q t0 t1 t2 n, Off1 q news → K (.ref q) [(q, W.listOf #[.int (30 * a0 + 59 * a1 + 11 * a2) t0, .int (5990 * a0 - 2773 * a1 - 3217 * a2) t1, .int (2130 * a0 - 5251 * a1 + 3121 * a2) t2] n)]) (whole_ok w la a0 a1 a2 ta0 ta1 ta2 na news ha) (by intro K h _ _ _ R9; obtain ⟨q, t0, t1, t2, n, e1, e2, l⟩ := R9; subst e1 e2; exact h q t0 t1 t2 n l)
theorem yiq_c {w : World} {r g b : UInt64} {tr tg tb : Tok} {news : List (Addr × Obj)} :
   CtrC w 1 8 45 [.float r tr, .float g tg, .float b tb] news (fun K => ∀ q t1 t2 t3 n, Off1 q news → K (.ref q) [(q, ({ cls := .type "tuple", data := .seq #[.float (yY r g b) t1, .float (yI r g b) t2, .float (yQ r g b) t3] n } : Obj))]) :=
  Ctr.toC (fun K => ∀ q t1 t2 t3 n, Off1 q news → K (.ref q) [(q, ({ cls := .type "tuple", data := .seq #[.float (yY r g b) t1, .float (yI r g b) t2, .float (yQ r g b) t3] n } : Obj))]) (yiq_ok w r g b tr tg tb news) (by intro K h _ _ _ R9; obtain ⟨q, t0, t1, t2, n, e1, e2, l⟩ := R9; subst e1 e2; exact h q t0 t1 t2 n l)
end
section
open PySem.Calls
noncomputable def fq (a b : Int) : UInt64 := Float64.ofFrac (decide (a < 0) != decide (b < 0)) a.natAbs b.natAbs
noncomputable def Trunc (x : UInt64) (n : Int) : Prop := ∃ sg m e, Float64.decode x = .fin sg m e ∧ Float64.truncOf sg m e = n
noncomputable abbrev chE (c : UInt64) (S : Int) : UInt64 := Float64.add (Float64.mul (Float64.mul (Float64.add c (Float64.ofInt 1)) (Float64.ofInt S)) (Float64.ofInt 10000)) 4602678819172646912
noncomputable abbrev luE (c : UInt64) (S : Int) : UInt64 := Float64.add (Float64.mul (Float64.mul c (Float64.ofInt S)) (Float64.ofInt 100)) 4602678819172646912
theorem small_fits {a : Int} (h0 : 0 ≤ a) (h1 : a < 1048576) : a.natAbs < 2 ^ 1023 := Nat.lt_of_lt_of_le (by omega : a.natAbs < 2 ^ 20) (Nat.pow_le_pow_right (by decide) (by decide))
section
variable {prog : Program} {w : World} {A : Around} {E : Value → Shared → Prop} {s : Shared} {t u : Tok} {Q : Value → Shared → Prop}
theorem div_ok {a b : Int} (hA : A.handled = none) (hb : b ≠ 0) (ha : a.natAbs < 2 ^ 1023) (h : Q (.float (fq a b) s.toks) { s with toks := s.toks + 1 }) : wpAny (model prog w) A (binaryOp .Div (.int a t) (.int b u)) Q E s :=
  PySem.Flt.div_ii_fits hA ha (fun e => absurd e hb) fun _ _ => h
theorem addfi_ok {a : UInt64} {n : Int} (hA : A.handled = none) (hn : n.natAbs < 2 ^ 1023) (h : Q (.float (Float64.add a (Float64.ofInt n)) s.toks) { s with toks := s.toks + 1 }) : wpAny (model prog w) A (binaryOp .Add (.float a t) (.int n u)) Q E s :=
  add_fi_sharp hA (fun h0 => absurd (Nat.lt_of_lt_of_le hn (by decide +kernel)) (Nat.not_lt.mpr h0)) fun _ => h
theorem mulfi_ok {a : UInt64} {n : Int} (hA : A.handled = none) (hn : n.natAbs < 2 ^ 1023) (h : Q (.float (Float64.mul a (Float64.ofInt n)) s.toks) { s with toks := s.toks + 1 }) : wpAny (model prog w) A (binaryOp .Mult (.float a t) (.int n u)) Q E s :=
  mul_fi_sharp hA (fun h0 => absurd (Nat.lt_of_lt_of_le hn (by decide +kernel)) (Nat.not_lt.mpr h0)) fun _ => h
theorem int_ok {x : UInt64} {n : Int} (hx : Trunc x n) (h : Q (.int n s.toks) { s with toks := s.toks + 1 }) : wpAny (model prog w) A (call (.type "int") [.float x t]) Q E s := by
  obtain ⟨sg, m, e, hd, rfl⟩ := hx
  exact call_int_float hd h
end
end
section
open PySem.Calls
open PyProof.Rows.LCg
noncomputable def mixAt (P : Lmp) (as : List Int) (i : Nat) : Int := ((rangeKs 0 (5 - 0 : Int).toNat).map fun k => as.getD k.toNat 0 * P.at k.toNat i).sum
theorem mix_ok (w : World) (P : Lmp) (lam la : Addr) (a0 a1 a2 a3 a4 : Int) (ta0 ta1 ta2 ta3 ta4 : Tok) (nl na : Nat) (news : List (Addr × Obj))
   (ha : (la, W.listOf #[.int a0 ta0, .int a1 ta1, .int a2 ta2, .int a3 ta3, .int a4 ta4] na) ∈ news)
   (hl : (lam, P.all nl) ∈ news) (hP : LampsIn P news) (hO : P.Ok) :
   Ctr w 1 8 248 [.ref lam, .ref la] news (fun _ v add => ∃ q t0 t1 t2 n, v = .ref q ∧ add = [(q, W.listOf #[.int (mixAt P [a0, a1, a2, a3, a4] 0) t0, .int (mixAt P [a0, a1, a2, a3, a4] 1) t1, .int (mixAt P [a0, a1, a2, a3, a4] 2) t2] n)] ∧ Off1 q news) := by
  intro mean mg mb dp un gd cn cs a ccd cl outer A₀ base h₀ L m s Q E B F X N T hk hd hu hret
  (refine wpAny_call ?_; k_dflt (refine' enterPC (news₀ := news) ?k1 ?k2 ?k3 ?k4 ?k5 ?kS ?kA ?kF ?kK ?k6 ?k7 ?k8 ?k9 ?kB ?kD ?_ ?c2 ?c3 ?c4; (case kA => exact rfl); (case kF => exact rfl); (case kK => assumption); (case k1 => k_asm); (case k2 => k_asm); (case k3 => k_asm); (case k4 => k_asm); (case k5 => k_asm); (case kS => first | exact fun _ h => h | exact List.forall_mem_nil _ | (intro p hp; simp only [List.mem_cons, List.not_mem_nil, or_false] at hp; rcases hp with rfl | hp <;> first | assumption | (rcases hp with rfl | hp <;> first | assumption | (rcases hp with rfl | hp <;> first | assumption | (rcases hp with rfl | hp <;> first | assumption | (rcases hp with rfl | hp <;> first | assumption | (rcases hp with rfl | hp <;> first | assumption | (rcases hp with rfl | hp <;> first | assumption | (rcases hp with rfl | hp <;> first | assumption | (subst hp; assumption))))))))) | (intro p hp; simp only [List.mem_cons, List.not_mem_nil, or_false] at hp; subst hp; assumption)); (case k6 => k_is); (case k7 => k_is); (case k8 => ktr_room); (case k9 => exact BindsTo.of_eq rfl); (case kB => exact rfl); (case kD => decide); (case c2 => exact rfl); (case c3 => exact rfl); (case c4 => exact rfl); k_whole; intro g' L' h' tk' cells' FG' F' N' Y' B' X' T' lt' old'; (try dsimp only); k_cells Y'; (try simp only [List.cons_append, List.nil_append, List.append_nil] at N'); (try k_fold); refine wpLA ?_; intro Ax Qx Ex))
  k_steps
  refine ListComp_CR (n := 3) F' rfl (fun _ => rfl) (fun _ => rfl) rfl (by decide) rfl rfl (by decide) rfl rfl ?_
  k_steps
  refine ⟨_, _, _, _, _, rfl, by k_asm, by k_asm, by k_asm, fun g => ?_⟩
  refine RestC.rangeF (fun i ys => IntsAre ys ((List.range i).map (mixAt P [a0, a1, a2, a3, a4]))) trivial IntsAre.nil ?_ ?_
  · intro i ys k t I oI C oC X oX D h tk E' hi hk0 hJ hX F N
    refine wpLA ?_
    intro AQt Qt Et
    have hlo : 0 ≤ k := by exact lin2 (cx2 _ _) (.var 0) (.var 1) (.num 0) (.var 0) (.num 0) (.var 1) 1 1 1 rfl (ieq2 hk0) (nn _)
    have hhi : k < 3 := by exact lin2 (cx2 _ _) (.add (.var 0) (.num 1)) (.num 3) (.var 1) (.var 0) (.add (.var 1) (.num 1)) (.num 3) 1 1 1 rfl (nlt hi) (ieq1 hk0)
    repeat' (first
      | (k_dflt ((with_reducible refine mul_int ?_ ?hmul_1); (case hmul_1 => first | (refine mulR ?_; first | (with_reducible assumption) | assumption | (refine Lmp.Ok.sm (by with_reducible assumption) ?_ _; first | decide | exact lt5 (by with_reducible assumption) (Int.lt_of_lt_of_le (by with_reducible assumption) (by decide)))) | (refine mulL ?_; first | (with_reducible assumption) | assumption | (refine Sm.of ?_ ?_ <;> decide)))))
      | ((with_reducible show wpAny _ _ (subscriptTail _ _ (Value.ref _) (Value.int _ _)) _ _ _); k_dflt ((with_unfolding_all (refine' lamps_sub ?k1_2 ?k2_2 ?k3_2 ?k4_2 ?_ ?k5_2)); (case k1_2 => k_asm); (case k2_2 => k_mem); (case k3_2 => first | decide | (with_reducible assumption)); (case k4_2 => first | decide | (exact Int.lt_of_lt_of_le (by with_reducible assumption) (by decide))); (case k5_2 => with_unfolding_all rfl); k_whole))
      | ((with_reducible show wpAny _ _ (subscriptTail _ _ (Value.ref (Lmp.l _ _)) (Value.int _ _)) _ _ _); k_dflt ((with_unfolding_all (refine' lamp_sub ?k1_3 ?k2_3 ?k3_3 ?k4_3 ?k5_3 ?_ ?k7_3)); (case k1_3 => k_asm); (case k2_3 => repeat' (first | (with_reducible assumption) | refine LampsIn.cons ?_)); (case k3_3 => first | decide | exact lt5 (by with_reducible assumption) (Int.lt_of_lt_of_le (by with_reducible assumption) (by decide))); (case k4_3 => first | decide | (with_reducible assumption)); (case k5_3 => first | decide | (exact Int.lt_of_lt_of_le (by with_reducible assumption) (by decide))); (case k7_3 => with_unfolding_all rfl); k_whole; intro _))
      | ((with_reducible show wpAny _ _ (subscriptTail _ _ (Value.ref _) (Value.int _ _)) _ _ _); k_dflt ((with_unfolding_all (refine' ints_sub ?kn_4 ?km_4 ?k2_4 ?k3_4 ?k4_4 ?k5_4 ?_ ?k8_4 ?k9_4)); (case kn_4 => k_asm); (case km_4 => k_mem); (case k2_4 => with_reducible l_ints); (case k8_4 => with_unfolding_all rfl); (case k9_4 => intro _; with_unfolding_all rfl); (case k3_4 => first | decide | (with_reducible assumption)); (case k4_4 => first | (simp only [List.length_cons, List.length_nil]; decide) | (exact Int.lt_of_lt_of_le (by with_reducible assumption) (by simp only [List.length_cons, List.length_nil]; decide))); (case k5_4 => first | decide | (exact Int.lt_of_lt_of_le (by with_reducible assumption) (by decide))); k_whole; intro _))
      | (k_unfold; (try dsimp only)) | (k_end; wrow_close) | walk1 | (dsimp only; walk1) | (leave1; try dsimp only))
    refine (EndF.intro (by k_asm) (by k_asm) ?_ ?_)
    · intro p hp
      repeat' (first | exact hp | refine List.mem_cons_of_mem _ ?_)
    · rw [List.range_succ, List.map_append]
      refine IntsAre.append hJ (ints_one ?_)
      rw [hk0]
      show _ = mixAt P [a0, a1, a2, a3, a4] i
      unfold mixAt
      rw [Int.toNat_natCast]
  · intro ys hJ
    refine ob3 (ints3 hJ) fun t0 t1 t2 eys => ?_
    intro D h9 tk9 F9 N9 o9
    rw [eys] at N9
    k_steps
    exact ⟨_, _, _, by k_asm, by k_asm, (fun p hp => by repeat' (first | exact hp | refine List.mem_cons_of_mem _ ?_)), fun F N => hret _ [_] _ _ ⟨D, t0, t1, t2, 3, rfl, rfl, o9.2.2⟩ F (pick1 N)⟩
theorem mix_c {w : World} {P : Lmp} {lam la : Addr} {a0 a1 a2 a3 a4 : Int} {ta0 ta1 ta2 ta3 ta4 : Tok} {nl na : Nat} {news : List (Addr × Obj)}
   (ha : (la, W.listOf #[.int a0 ta0, .int a1 ta1, .int a2 ta2, .int a3 ta3, .int a4 ta4] na) ∈ news)
   (hl : (lam, P.all nl) ∈ news) (hP : LampsIn P news) (hO : P.Ok) :
   CtrC w 1 8 248 [.ref lam, .ref la] news (fun K => ∀ q t0 t1 t2 n, Off1 q news → K (.ref q) [(q, W.listOf #[.int (mixAt P [a0, a1, a2, a3, a4] 0) t0, .int (mixAt P [a0, a1, a2, a3, a4] 1) t1, .int (mixAt P [a0, a1, a2, a3, a4] 2) t2] n)]) :=
  Ctr.toC (fun K => ∀ q t0 t1 t2 n, Off1 q news → K (.ref q) [(q, W.listOf #[.int (mixAt P [a0, a1, a2, a3, a4] 0) t0, .int (mixAt P [a0, a1, a2, a3, a4] 1) t1, .int (mixAt P [a0, a1, a2, a3, a4] 2) t2] n)]) (mix_ok w P lam la a0 a1 a2 a3 a4 ta0 ta1 ta2 ta3 ta4 nl na news ha hl hP hO) (by intro K h _ _ _ R9; obtain ⟨q, t0, t1, t2, n, e1, e2, l⟩ := R9; subst e1 e2; exact h q t0 t1 t2 n l)
end
section
open PySem.Calls
open PyProof.Rows.LCg
local macro_rules | `(tactic| walk_at "subscriptTail") => `(tactic| (k_here; (with_reducible show wpAny _ _ (subscriptTail _ _ (Value.ref _) (Value.int _ _)) _ _ _); with_reducible refine halt_in ?_))
noncomputable def Lmp.G (P : Lmp) (i j : Nat) : Int := (P.x i - P.z i) * (P.y j - P.z j) - (P.y i - P.z i) * (P.x j - P.z j)
theorem Lmp.Ok.G {P : Lmp} (h : P.Ok) {i j : Nat} (hi : i < 5) (hj : j < 5) : -1000 ≤ P.G i j ∧ P.G i j ≤ 1000 := by
  have h1 := h.x i hi; have h2 := h.y i hi; have h3 := h.z i hi
  have h4 := h.x j hj; have h5 := h.y j hj; have h6 := h.z j hj
  unfold Lmp.G
  have key : ∀ u v : Int, -15 ≤ u → u ≤ 15 → -15 ≤ v → v ≤ 15 → -225 ≤ u * v ∧ u * v ≤ 225 := by
    intro u v a b c d
    have e1 : 0 ≤ (15 - u) * (15 + v) := Int.mul_nonneg (by exact lin1 (cx1 _) (.var 0) (.num 15) (.num 0) (.sub (.num 15) (.var 0)) 1 1 rfl b) (by exact lin1 (cx1 _) (.neg (.num 15)) (.var 0) (.num 0) (.add (.num 15) (.var 0)) 1 1 rfl c)
    have e2 : 0 ≤ (15 + u) * (15 - v) := Int.mul_nonneg (by exact lin1 (cx1 _) (.neg (.num 15)) (.var 0) (.num 0) (.add (.num 15) (.var 0)) 1 1 rfl a) (by exact lin1 (cx1 _) (.var 0) (.num 15) (.num 0) (.sub (.num 15) (.var 0)) 1 1 rfl d)
    have e3 : 0 ≤ (15 - u) * (15 - v) := Int.mul_nonneg (by exact lin1 (cx1 _) (.var 0) (.num 15) (.num 0) (.sub (.num 15) (.var 0)) 1 1 rfl b) (by exact lin1 (cx1 _) (.var 0) (.num 15) (.num 0) (.sub (.num 15) (.var 0)) 1 1 rfl d)
    have e4 : 0 ≤ (15 + u) * (15 + v) := Int.mul_nonneg (by exact lin1 (cx1 _) (.neg (.num 15)) (.var 0) (.num 0) (.add (.num 15) (.var 0)) 1 1 rfl a) (by exact lin1 (cx1 _) (.neg (.num 15)) (.var 0) (.num 0) (.add (.num 15) (.var 0)) 1 1 rfl c)
    simp only [Int.mul_add, Int.add_mul, Int.mul_sub, Int.sub_mul] at e1 e2 e3 e4
    exact ⟨lin2 (cx3 _ _ _) (.num 0) (.sub (.sub (.mulL 15 (.num 15)) (.mulR (.var 0) 15)) (.sub (.mulL 15 (.var 1)) (.var 2))) (.num 0) (.add (.add (.mulL 15 (.num 15)) (.mulR (.var 0) 15)) (.add (.mulL 15 (.var 1)) (.var 2))) (.neg (.num 225)) (.var 2) 1 1 2 rfl e3 e4, lin2 (cx3 _ _ _) (.num 0) (.add (.sub (.mulL 15 (.num 15)) (.mulR (.var 0) 15)) (.sub (.mulL 15 (.var 1)) (.var 2))) (.num 0) (.sub (.add (.mulL 15 (.num 15)) (.mulR (.var 0) 15)) (.add (.mulL 15 (.var 1)) (.var 2))) (.var 2) (.num 225) 1 1 2 rfl e1 e2⟩
  have k1 := key (P.x i - P.z i) (P.y j - P.z j) (by exact lin2 (cx2 _ _) (.num 0) (.var 0) (.var 1) (.num 15) (.neg (.num 15)) (.sub (.var 0) (.var 1)) 1 1 1 rfl h1.1 h3.2) (by exact lin2 (cx2 _ _) (.var 0) (.num 15) (.num 0) (.var 1) (.sub (.var 0) (.var 1)) (.num 15) 1 1 1 rfl h1.2 h3.1) (by exact lin2 (cx2 _ _) (.num 0) (.var 0) (.var 1) (.num 15) (.neg (.num 15)) (.sub (.var 0) (.var 1)) 1 1 1 rfl h5.1 h6.2) (by exact lin2 (cx2 _ _) (.var 0) (.num 15) (.num 0) (.var 1) (.sub (.var 0) (.var 1)) (.num 15) 1 1 1 rfl h5.2 h6.1)
  have k2 := key (P.y i - P.z i) (P.x j - P.z j) (by exact lin2 (cx2 _ _) (.num 0) (.var 0) (.var 1) (.num 15) (.neg (.num 15)) (.sub (.var 0) (.var 1)) 1 1 1 rfl h2.1 h3.2) (by exact lin2 (cx2 _ _) (.var 0) (.num 15) (.num 0) (.var 1) (.sub (.var 0) (.var 1)) (.num 15) 1 1 1 rfl h2.2 h3.1) (by exact lin2 (cx2 _ _) (.num 0) (.var 0) (.var 1) (.num 15) (.neg (.num 15)) (.sub (.var 0) (.var 1)) 1 1 1 rfl h4.1 h6.2) (by exact lin2 (cx2 _ _) (.var 0) (.num 15) (.num 0) (.var 1) (.sub (.var 0) (.var 1)) (.num 15) 1 1 1 rfl h4.2 h6.1)
  exact ⟨lin2 (cx2 _ _) (.neg (.num 225)) (.var 0) (.var 1) (.num 225) (.neg (.num 1000)) (.sub (.var 0) (.var 1)) 1 1 1 rfl k1.1 k2.2, lin2 (cx2 _ _) (.var 0) (.num 225) (.neg (.num 225)) (.var 1) (.sub (.var 0) (.var 1)) (.num 1000) 1 1 1 rfl k1.2 k2.1⟩
theorem crossL_ok (w : World) (P : Lmp) (i j : Nat) (hi : i < 5) (hj : j < 5) (news : List (Addr × Obj)) (hP : LampsIn P news) (hO : P.Ok) : Ctr w 1 8 243 [.ref (P.l i), .ref (P.l j)] news (fun _ v add => add = [] ∧ ∃ t, v = .int (P.G i j) t) := by
  have h4 := hO.x j hj; have h5 := hO.y j hj; have h6 := hO.z j hj
  exact cross_ok w (P.l i) (P.l j) (P.x i) (P.y i) (P.z i) (P.x j) (P.y j) (P.z j) _ _ _ _ _ _ _ _ news (hP i hi) (hP j hj) ⟨by exact lin1 (cx1 _) (.num 0) (.var 0) (.add (.neg (.num 18446744073709551616)) (.num 1)) (.var 0) 1 1 rfl h4.1, by exact lin1 (cx1 _) (.var 0) (.num 15) (.add (.var 0) (.num 1)) (.num 18446744073709551616) 1 1 rfl h4.2⟩ ⟨by exact lin1 (cx1 _) (.num 0) (.var 0) (.add (.neg (.num 18446744073709551616)) (.num 1)) (.var 0) 1 1 rfl h6.1, by exact lin1 (cx1 _) (.var 0) (.num 15) (.add (.var 0) (.num 1)) (.num 18446744073709551616) 1 1 rfl h6.2⟩ ⟨by exact lin2 (cx2 _ _) (.num 0) (.var 0) (.var 1) (.num 15) (.add (.neg (.num 18446744073709551616)) (.num 1)) (.sub (.var 0) (.var 1)) 1 1 1 rfl h4.1 h6.2, by exact lin2 (cx2 _ _) (.var 0) (.num 15) (.num 0) (.var 1) (.add (.sub (.var 0) (.var 1)) (.num 1)) (.num 18446744073709551616) 1 1 1 rfl h4.2 h6.1⟩ ⟨by exact lin2 (cx2 _ _) (.num 0) (.var 0) (.var 1) (.num 15) (.add (.neg (.num 18446744073709551616)) (.num 1)) (.sub (.var 0) (.var 1)) 1 1 1 rfl h5.1 h6.2, by exact lin2 (cx2 _ _) (.var 0) (.num 15) (.num 0) (.var 1) (.add (.sub (.var 0) (.var 1)) (.num 1)) (.num 18446744073709551616) 1 1 1 rfl h5.2 h6.1⟩
noncomputable def worthT (lu : List Int) (t : List (Int × Int)) : Int :=
  if (t.map fun p => lu.getD p.1.toNat 0 * p.2).sum ≠ 0 then (t.map fun p => lu.getD p.1.toNat 0 * p.2).sum else ((t.map (·.2)).filter (· ≠ 0)).getD 0 0
noncomputable def worthZ (P : Lmp) (lu : List Int) (a b c : Int) : Int := worthT lu (trip a b c (P.G b.toNat c.toNat) (P.G c.toNat a.toNat) (P.G a.toNat b.toNat))
noncomputable def isLit (P : Lmp) (lu : List Int) (a b c : Int) : Bool := decide (c ≠ a) && decide (c ≠ b) && decide (worthZ P lu a b c * P.G a.toNat b.toNat < 0)
noncomputable def litZ (P : Lmp) (lu : List Int) (a b : Int) (n : Nat) : List Int := ((List.range n).map fun (i : Nat) => (0 : Int) + (i : Int)).filter (isLit P lu a b)
theorem crossL_c {w : World} {P : Lmp} {i j : Nat} {news : List (Addr × Obj)} (hi : i < 5) (hj : j < 5) (hP : LampsIn P news) (hO : P.Ok) : CtrC w 1 8 243 [.ref (P.l i), .ref (P.l j)] news (fun K => ∀ t, K (.int (P.G i j) t) []) :=
  Ctr.toC (fun K => ∀ t, K (.int (P.G i j) t) []) (crossL_ok w P i j hi hj news hP hO) (by intro K h _ _ _ R9; obtain ⟨e1, t, e2⟩ := R9; subst e1 e2; exact h t)
local macro_rules | `(tactic| walk_at "exec For Name Call cons nil") => `(tactic| (k_here; with_reducible refine halt_in ?_))
local macro_rules | `(tactic| walk_at "call builtin:list.append") => `(tactic| (k_here; with_reducible refine halt_in ?_))
theorem litZ_no {P : Lmp} {lu : List Int} {a b c : Int} {i : Nat} {ys : List Value} (hc : (0 : Int) + (i : Int) = c) (h : isLit P lu a b c = false) (hI : IntsAre ys (litZ P lu a b i)) : IntsAre ys (litZ P lu a b (i + 1)) := by
  unfold litZ at hI ⊢
  rw [List.range_succ, List.map_append, List.filter_append, List.map_singleton, hc, List.filter_cons_of_neg (by rw [h]; simp), List.filter_nil, List.append_nil]
  exact hI
theorem litZ_yes {P : Lmp} {lu : List Int} {a b c : Int} {i : Nat} {ys : List Value} (t : Tok) (hc : (0 : Int) + (i : Int) = c) (h : isLit P lu a b c = true) (hI : IntsAre ys (litZ P lu a b i)) : IntsAre (ys ++ [.int c t]) (litZ P lu a b (i + 1)) := by
  unfold litZ at hI ⊢
  rw [List.range_succ, List.map_append, List.filter_append, List.map_singleton, hc, List.filter_cons_of_pos h, List.filter_nil]
  exact IntsAre.append hI (ints_one rfl)
theorem lit_dec {P : Lmp} {lu : List Int} {a b c W : Int} (hca : c ≠ a) (hcb : c ≠ b) (hw : worthZ P lu a b c = W) : isLit P lu a b c = decide (W * P.G a.toNat b.toNat < 0) := by
  unfold isLit
  rw [hw, decide_eq_true hca, decide_eq_true hcb]
  rfl
theorem worth_ne {P : Lmp} {lu : List Int} {a b c n0 n1 n2 p0 p1 p2 : Int} (ht : [(n0, p0), (n1, p1), (n2, p2)] = trip a b c (P.G b.toNat c.toNat) (P.G c.toNat a.toNat) (P.G a.toNat b.toNat)) (h : lu.getD n0.toNat 0 * p0 + (lu.getD n1.toNat 0 * p1 + (lu.getD n2.toNat 0 * p2 + 0)) ≠ 0) :
    worthZ P lu a b c = lu.getD n0.toNat 0 * p0 + (lu.getD n1.toNat 0 * p1 + (lu.getD n2.toNat 0 * p2 + 0)) := by
  unfold worthZ
  rw [← ht]
  exact if_pos h
theorem worth_eq {P : Lmp} {lu : List Int} {a b c n0 n1 n2 p0 p1 p2 : Int} (ht : [(n0, p0), (n1, p1), (n2, p2)] = trip a b c (P.G b.toNat c.toNat) (P.G c.toNat a.toNat) (P.G a.toNat b.toNat)) (h : lu.getD n0.toNat 0 * p0 + (lu.getD n1.toNat 0 * p1 + (lu.getD n2.toNat 0 * p2 + 0)) = 0) :
    worthZ P lu a b c = ([p0, p1, p2].filter (· ≠ 0)).getD 0 0 := by
  unfold worthZ
  rw [← ht]
  exact if_neg (fun q => q h)
theorem trip_nz {a b c g1 g2 g3 n0 n1 n2 p0 p1 p2 : Int} (ht : [(n0, p0), (n1, p1), (n2, p2)] = trip a b c g1 g2 g3) (h : g3 ≠ 0) : 0 < ([p0, p1, p2].filter (· ≠ 0)).length := by
  have hm : (c, g3) ∈ trip a b c g1 g2 g3 := by
    unfold trip
    split
    · simp
    · split <;> simp
  rw [← ht] at hm
  have hm2 : g3 ∈ [p0, p1, p2].filter (· ≠ 0) := by
    rw [List.mem_filter]
    refine ⟨?_, by simpa using h⟩
    simp only [List.mem_cons, Prod.mk.injEq, List.not_mem_nil, or_false] at hm ⊢
    rcases hm with ⟨_, e⟩ | ⟨_, e⟩ | ⟨_, e⟩ <;> simp [e]
  exact List.length_pos_of_mem hm2
theorem lit_off {P : Lmp} {lu : List Int} {a b c : Int} (h : c = a ∨ c = b) : isLit P lu a b c = false := by
  unfold isLit
  rcases h with h | h <;> simp [h]
theorem ints_sub0 {prog : Program} {w : World} {A : Around} {E : Value → Shared → Prop} {s : Shared} {h₀ : Heap} {L : Addr} {news : List (Addr × Obj)} {Q : Value → Shared → Prop} {la : Addr} {vs : List Value} {ns : List Int} {na : Nat} {u : Tok} {value slice : Expr} (N : News h₀ L s.heap news) (hm : (la, W.listOf vs.toArray na) ∈ news) (hI : IntsAre vs ns) (h1 : 0 < ns.length)
    (h : ∀ t, Q (.int (ns.getD 0 0) t) s)
    (hs : subscripted slice false (.ref la) (.int 0 u) = operate [.ref la, .int 0 u] (getItem (.ref la) (.int 0 u))) :
    wpAny (model prog w) A (subscriptTail value slice (.ref la) (.int 0 u)) Q E s := by
  cases hI with
  | nil => exact absurd h1 (Nat.lt_irrefl _)
  | cons n t hI => exact tail_any (News.isList N hm).typeIs slot_list_getitem.lookup (wpAny_getItem_list (News.isList N hm) (by decide) (by decide) rfl (h t)) hs
theorem trip_all {a b c g1 g2 g3 : Int} (p : Int × Int → Prop) (h1 : p (a, g1)) (h2 : p (b, g2)) (h3 : p (c, g3)) : ∀ x ∈ trip a b c g1 g2 g3, p x := by
  intro x hx
  unfold trip at hx
  split at hx
  · simp only [List.mem_cons, List.not_mem_nil, or_false] at hx
    rcases hx with rfl | rfl | rfl <;> assumption
  · split at hx <;> (simp only [List.mem_cons, List.not_mem_nil, or_false] at hx; rcases hx with rfl | rfl | rfl <;> assumption)
noncomputable abbrev Fct (x : Int × Int) : Prop := 0 ≤ x.1 ∧ x.1 < 5 ∧ Sm x.2
theorem sortedL {prog : Program} {w : World} {A : Around} {E : Value → Shared → Prop} {s : Shared} {h₀ : Heap} {L : Addr} {m : Str → Option Value} {news : List (Addr × Obj)} {Q : Value → Shared → Prop}
    {l ta tb tc : Addr} {k ka kb kc : Nat} {a b c g1 g2 g3 : Int} {τa τb τc σ1 σ2 σ3 : Tok} (F : Fr h₀ L s.heap m) (N : News h₀ L s.heap news) (hl : (l, W.listOf [Value.ref ta, .ref tb, .ref tc].toArray k) ∈ news)
    (ma : (ta, tupO #[.int a τa, .int g1 σ1] ka) ∈ news) (mb : (tb, tupO #[.int b τb, .int g2 σ2] kb) ∈ news) (mc : (tc, tupO #[.int c τc, .int g3 σ3] kc) ∈ news) (hab : a < b) (hca : c ≠ a) (hcb : c ≠ b)
    (ha0 : 0 ≤ a) (hb5 : b < 5) (hc0 : 0 ≤ c) (hc5 : c < 5) (s1 : Sm g1) (s2 : Sm g2) (s3 : Sm g3)
    (h : ∀ D c' h' T0 T1 T2 n0 n1 n2 p0 p1 p2 τ0 τ1 τ2 σ0 σ1 σ2 k0 k1 k2, [(n0, p0), (n1, p1), (n2, p2)] = trip a b c g1 g2 g3 → 0 ≤ n0 → n0 < 5 → 0 ≤ n1 → n1 < 5 → 0 ≤ n2 → n2 < 5 → Sm p0 → Sm p1 → Sm p2 →
      Fr h₀ L h' m → News h₀ L h' ((D, W.listOf [Value.ref T0, .ref T1, .ref T2].toArray c') :: (T0, tupO #[.int n0 τ0, .int p0 σ0] k0) :: (T1, tupO #[.int n1 τ1, .int p1 σ1] k1) :: (T2, tupO #[.int n2 τ2, .int p2 σ2] k2) :: news) → (∀ q ∈ news, q.1 < D) → Q (.ref D) { s with heap := h' }) : wpAny (model prog w) A (call (.builtin "sorted") [.ref l]) Q E s := by
  refine sorted3 F N hl ma mb mc hab hca hcb ?_
  intro D c' h' T0 T1 T2 n0 n1 n2 p0 p1 p2 τ0 τ1 τ2 σ0 σ1 σ2 k0 k1 k2 ht m0 m1 m2 F' N' l1
  have hf := trip_all (a := a) (b := b) (c := c) (g1 := g1) (g2 := g2) (g3 := g3) Fct ⟨ha0, by show a < 5; exact lin2 (cx2 _ _) (.add (.var 0) (.num 1)) (.var 1) (.add (.var 1) (.num 1)) (.num 5) (.add (.var 0) (.num 1)) (.num 5) 1 1 1 rfl hab hb5, s1⟩ ⟨by show 0 ≤ b; exact lin2 (cx2 _ _) (.add (.var 0) (.num 1)) (.var 1) (.num 0) (.var 0) (.num 0) (.var 1) 1 1 1 rfl hab ha0, hb5, s2⟩ ⟨hc0, hc5, s3⟩
  rw [← ht] at hf
  have f0 := hf (n0, p0) (by simp)
  have f1 := hf (n1, p1) (by simp)
  have f2 := hf (n2, p2) (by simp)
  refine h D c' h' T0 T1 T2 n0 n1 n2 p0 p1 p2 τ0 τ1 τ2 σ0 σ1 σ2 k0 k1 k2 ht f0.1 f0.2.1 f1.1 f1.2.1 f2.1 f2.2.1 f0.2.2 f1.2.2 f2.2.2 F' (fun p hp => ?_) l1
  rcases List.mem_cons.mp hp with rfl | hp
  · exact N' _ List.mem_cons_self
  rcases List.mem_cons.mp hp with rfl | hp
  · exact N' _ (List.mem_cons_of_mem _ m0)
  rcases List.mem_cons.mp hp with rfl | hp
  · exact N' _ (List.mem_cons_of_mem _ m1)
  rcases List.mem_cons.mp hp with rfl | hp
  · exact N' _ (List.mem_cons_of_mem _ m2)
  · exact N' _ (List.mem_cons_of_mem _ hp)
local macro_rules | `(tactic| walk_at "call builtin:sorted") => `(tactic| (k_here; with_reducible refine halt_in ?_))
local macro_rules | `(tactic| walk_at "eval ListComp") => `(tactic| (k_here; (with_reducible show wpAny _ _ (eval (Expr.ListComp _ [⟨_, _, _ :: _, _⟩] _ _) _) _ _ _); with_reducible refine halt_in ?_))
theorem use_J {J K : Nat → (Str → Option Value) → List (Addr × Obj) → Prop} (h : J = K) {i : Nat} {m : Str → Option Value} {l : List (Addr × Obj)} (k : K i m l) : J i m l := h ▸ k
theorem len_snoc {i : Nat} {ys : List Value} {v : Value} (h : ys.length ≤ i) : (ys ++ [v]).length ≤ i + 1 := by rw [List.length_append]; exact Nat.succ_le_succ h
theorem pick3 {T0 T1 T2 : Addr} {n0 n1 n2 p0 p1 p2 : Int} {τ0 τ1 τ2 σ0 σ1 σ2 : Tok} {k0 k1 k2 : Nat} {led : List (Addr × Obj)} (m0 : (T0, tupO #[.int n0 τ0, .int p0 σ0] k0) ∈ led) (m1 : (T1, tupO #[.int n1 τ1, .int p1 σ1] k1) ∈ led) (m2 : (T2, tupO #[.int n2 τ2, .int p2 σ2] k2) ∈ led)
    {j : Nat} {v : Value} (hj : j < 3) (hv : (#[Value.ref T0, .ref T1, .ref T2] : Array Value)[j]? = some v) {G : Value → Prop}
    (k : ∀ T n p τ σ kk, (T, tupO #[.int n τ, .int p σ] kk) ∈ led → [p0, p1, p2].take (j + 1) = [p0, p1, p2].take j ++ [p] → G (.ref T)) : G v := by
  have hj3 : j = 0 ∨ j = 1 ∨ j = 2 := lin_or3 (by exact gnlt (lin1 (cx1 _) (.add (.var 0) (.num 1)) (.num 3) (.add (.var 0) (.num 1)) (.num 3) 1 1 rfl (nlt hj)))
  rcases hj3 with rfl | rfl | rfl <;> (cases hv; first | exact k _ _ _ _ _ _ m0 rfl | exact k _ _ _ _ _ _ m1 rfl | exact k _ _ _ _ _ _ m2 rfl)
theorem lit_ok (w : World) (P : Lmp) (lam lua : Addr) (nl nu : Nat) (ia ib : Int) (ta tb : Tok) (u0 u1 u2 u3 u4 : Int) (tu0 tu1 tu2 tu3 tu4 : Tok) (news : List (Addr × Obj))
   (hl : (lam, P.all nl) ∈ news) (hP : LampsIn P news) (hO : P.Ok) (hu : (lua, W.listOf #[.int u0 tu0, .int u1 tu1, .int u2 tu2, .int u3 tu3, .int u4 tu4] nu) ∈ news)
   (ha0 : 0 ≤ ia) (hab : ia < ib) (hb5 : ib < 5) (ht : P.G ia.toNat ib.toNat ≠ 0) (hus : ∀ x ∈ [u0, u1, u2, u3, u4], 0 ≤ x ∧ x ≤ 2000) :
   Ctr w 2 20 265 [.ref lam, .ref lua, .int ia ta, .int ib tb] news (fun _ v add => ∃ D ys k, v = .ref D ∧ add = [(D, W.listOf (List.toArray ys) k)] ∧ IntsAre ys (litZ P [u0, u1, u2, u3, u4] ia ib 5) ∧ Off1 D news) := by
  intro mean mg mb dp un gd cn cs a ccd cl outer A₀ base h₀ L m s Q E B F X N T hk hd hu hret
  (refine wpAny_call ?_; k_dflt (refine' enterPC (news₀ := news) ?k1 ?k2 ?k3 ?k4 ?k5 ?kS ?kA ?kF ?kK ?k6 ?k7 ?k8 ?k9 ?kB ?kD ?_ ?c2 ?c3 ?c4; (case kA => exact rfl); (case kF => exact rfl); (case kK => assumption); (case k1 => k_asm); (case k2 => k_asm); (case k3 => k_asm); (case k4 => k_asm); (case k5 => k_asm); (case kS => first | exact fun _ h => h | exact List.forall_mem_nil _ | (intro p hp; simp only [List.mem_cons, List.not_mem_nil, or_false] at hp; rcases hp with rfl | hp <;> first | assumption | (rcases hp with rfl | hp <;> first | assumption | (rcases hp with rfl | hp <;> first | assumption | (rcases hp with rfl | hp <;> first | assumption | (rcases hp with rfl | hp <;> first | assumption | (rcases hp with rfl | hp <;> first | assumption | (rcases hp with rfl | hp <;> first | assumption | (rcases hp with rfl | hp <;> first | assumption | (subst hp; assumption))))))))) | (intro p hp; simp only [List.mem_cons, List.not_mem_nil, or_false] at hp; subst hp; assumption)); (case k6 => k_is); (case k7 => k_is); (case k8 => ktr_room); (case k9 => exact BindsTo.of_eq rfl); (case kB => exact rfl); (case kD => decide); (case c2 => exact rfl); (case c3 => exact rfl); (case c4 => exact rfl); k_whole; intro g' L' h' tk' cells' FG' F' N' Y' B' X' T' lt' old'; (try dsimp only); k_cells Y'; (try simp only [List.cons_append, List.nil_append, List.append_nil] at N'); (try k_fold); refine wpLB ?_; intro Ax Qx))
  have ht0 := ht
  have ha5 : ia < 5 := by exact lin2 (cx2 _ _) (.add (.var 0) (.num 1)) (.var 1) (.add (.var 1) (.num 1)) (.num 5) (.add (.var 0) (.num 1)) (.num 5) 1 1 1 rfl hab hb5
  have hb0 : 0 ≤ ib := by exact lin2 (cx2 _ _) (.num 0) (.var 0) (.add (.var 0) (.num 1)) (.var 1) (.num 0) (.var 1) 1 1 1 rfl ha0 hab
  repeat' (first
    | ((with_reducible show wpAny _ _ (subscriptTail _ _ (Value.ref _) (Value.int _ _)) _ _ _); k_dflt ((with_unfolding_all (refine' lamps_sub ?k1_1 ?k2_1 ?k3_1 ?k4_1 ?_ ?k5_1)); (case k1_1 => k_asm); (case k2_1 => k_mem); (case k3_1 => first | decide | (with_reducible assumption)); (case k4_1 => first | decide | (exact Int.lt_of_lt_of_le (by with_reducible assumption) (by decide))); (case k5_1 => with_unfolding_all rfl); k_whole))
    | (k_unfold; (try dsimp only)) | (k_end; wrow_close) | walk1 | (dsimp only; walk1) | (leave1; try dsimp only))
  refine Halt.out ?_
  refine' crossL_c ?hi ?hj ?hP ?hO ?k1 ?k2 ?k3 ?k4 ?k5 ?k6 ?k7 ?k8 ?_
  case k4 => k_asm
  case hi => exact lt5 (by with_reducible assumption) (by with_reducible assumption)
  case hj => exact lt5 (by with_reducible assumption) (by with_reducible assumption)
  case hP => repeat' (first | (with_reducible assumption) | refine LampsIn.cons ?_)
  case hO => with_reducible assumption
  case k1 => k_asm
  case k2 => k_asm
  case k3 => k_asm
  case k5 => k_asm
  case k6 => first | exact rfl | assumption
  case k7 => ktr_room
  case k8 => ktr_units
  intro t91 h91 tk91 F91 N9
  (try dsimp only [List.nil_append, List.cons_append] at N9)
  (try dsimp only)
  (try k_fold)
  k_steps
  rename_i oc hoc h92 lD h93 ll h94 F4 N4
  refine Halt.out ?_
  obtain ⟨J0, Ji, Je⟩ : ∃ J0 : Nat → (Str → Option Value) → List (Addr × Obj) → Prop, (∀ (i : Nat) (m₁ : Str → Option Value) (ys : List Value) (k : Nat) (t ta' tb' : Tok), m₁ (Str.ofString "lit") = some (.ref lD) → m₁ (Str.ofString "turn") = some (.int (P.G ia.toNat ib.toNat) t) → m₁ (Str.ofString "lamps") = some (.ref lam) → m₁ (Str.ofString "a") = some (.int ia ta') → m₁ (Str.ofString "b") = some (.int ib tb') → ys.length ≤ i → IntsAre ys (litZ P [u0, u1, u2, u3, u4] ia ib i) → J0 i m₁ ((lD, W.listOf (List.toArray ys) k) :: (L' + 1, oc) :: news)) ∧
      (∀ i m₁ (G : List (Addr × Obj) → Prop), (∀ (ys : List Value) (k : Nat) (t ta' tb' : Tok), m₁ (Str.ofString "lit") = some (.ref lD) → m₁ (Str.ofString "turn") = some (.int (P.G ia.toNat ib.toNat) t) → m₁ (Str.ofString "lamps") = some (.ref lam) → m₁ (Str.ofString "a") = some (.int ia ta') → m₁ (Str.ofString "b") = some (.int ib tb') → ys.length ≤ i → IntsAre ys (litZ P [u0, u1, u2, u3, u4] ia ib i) → G ((lD, W.listOf (List.toArray ys) k) :: (L' + 1, oc) :: news)) → ∀ news₁, J0 i m₁ news₁ → G news₁) :=
    ⟨fun i m₁ news₁ => ∀ (G : List (Addr × Obj) → Prop), (∀ (ys : List Value) (k : Nat) (t ta' tb' : Tok), m₁ (Str.ofString "lit") = some (.ref lD) → m₁ (Str.ofString "turn") = some (.int (P.G ia.toNat ib.toNat) t) → m₁ (Str.ofString "lamps") = some (.ref lam) → m₁ (Str.ofString "a") = some (.int ia ta') → m₁ (Str.ofString "b") = some (.int ib tb') → ys.length ≤ i → IntsAre ys (litZ P [u0, u1, u2, u3, u4] ia ib i) → G ((lD, W.listOf (List.toArray ys) k) :: (L' + 1, oc) :: news)) → G news₁, fun i m₁ ys k t ta' tb' a b c d e f g G hG => hG ys k t ta' tb' a b c d e f g, fun i m₁ G hG _ h => h G hG⟩
  refine For_R (a := 0) (b := 5) (n := 5) J0 g' rfl rfl rfl rfl rfl ?_
  k_steps
  refine ⟨_, _, _, _, _, _, rfl, by k_asm, by k_asm, by k_asm, Ji 0 _ [] 0 _ _ _ nm_here (by refine nm_skip ?_ nm_here; decide +kernel) rfl rfl rfl (Nat.le_refl _) .nil, ?_, ?_⟩
  · intro i m₁ news₁ I oI h tk t hi hj
    intro F N off
    revert N off
    refine Je _ _ (fun news₁ => News g' L' h ((I, oI) :: news₁) → (∀ p ∈ news₁, p.1 ≠ I) → _) ?_ _ hj
    clear hj news₁
    intro ys k t1 t2 t3 e1 e2 e3 e4 e5 hyl hI N off
    refine wpLA ?_
    intro AQx Qx Ex
    generalize hc : (0 : Int) + (i : Int) = c at F
    have hlo : 0 ≤ c := by exact lin2 (cx2 _ _) (.add (.num 0) (.var 0)) (.var 1) (.num 0) (.var 0) (.num 0) (.var 1) 1 1 1 rfl (ieq1 hc) (nn _)
    have hhi : c < 5 := by exact lin2 (cx2 _ _) (.add (.var 0) (.num 1)) (.num 5) (.var 1) (.add (.num 0) (.var 0)) (.add (.var 1) (.num 1)) (.num 5) 1 1 1 rfl (nlt hi) (ieq2 hc)
    have sm1 : Sm (P.G ib.toNat c.toNat) := by have := hO.G (i := ib.toNat) (j := c.toNat) (by exact gnlt (lin2 (cx2 _ _) (.add (.var 0) (.num 1)) (.num 5) (.var 1) (.var 0) (.add (.var 1) (.num 1)) (.num 5) 1 1 1 rfl hb5 (tn2 (lin1 (cx1 _) (.num 0) (.var 0) (.num 0) (.var 0) 1 1 rfl hb0)))) (by exact gnlt (lin2 (cx2 _ _) (.add (.var 0) (.num 1)) (.num 5) (.var 1) (.var 0) (.add (.var 1) (.num 1)) (.num 5) 1 1 1 rfl hhi (tn2 (lin1 (cx1 _) (.num 0) (.var 0) (.num 0) (.var 0) 1 1 rfl hlo)))); exact ⟨by exact lin1 (cx1 _) (.neg (.num 1000)) (.var 0) (.add (.neg (.num 18446744073709551616)) (.num 1)) (.var 0) 1 1 rfl this.1, by exact lin1 (cx1 _) (.var 0) (.num 1000) (.add (.var 0) (.num 1)) (.num 18446744073709551616) 1 1 rfl this.2⟩
    have sm2 : Sm (P.G c.toNat ia.toNat) := by have := hO.G (i := c.toNat) (j := ia.toNat) (by exact gnlt (lin2 (cx2 _ _) (.add (.var 0) (.num 1)) (.num 5) (.var 1) (.var 0) (.add (.var 1) (.num 1)) (.num 5) 1 1 1 rfl hhi (tn2 (lin1 (cx1 _) (.num 0) (.var 0) (.num 0) (.var 0) 1 1 rfl hlo)))) (by exact gnlt (lin2 (cx2 _ _) (.add (.var 0) (.num 1)) (.num 5) (.var 1) (.var 0) (.add (.var 1) (.num 1)) (.num 5) 1 1 1 rfl ha5 (tn2 (lin1 (cx1 _) (.num 0) (.var 0) (.num 0) (.var 0) 1 1 rfl ha0)))); exact ⟨by exact lin1 (cx1 _) (.neg (.num 1000)) (.var 0) (.add (.neg (.num 18446744073709551616)) (.num 1)) (.var 0) 1 1 rfl this.1, by exact lin1 (cx1 _) (.var 0) (.num 1000) (.add (.var 0) (.num 1)) (.num 18446744073709551616) 1 1 rfl this.2⟩
    have sm3 : Sm (P.G ia.toNat ib.toNat) := by have := hO.G (i := ia.toNat) (j := ib.toNat) (by exact gnlt (lin2 (cx2 _ _) (.add (.var 0) (.num 1)) (.num 5) (.var 1) (.var 0) (.add (.var 1) (.num 1)) (.num 5) 1 1 1 rfl ha5 (tn2 (lin1 (cx1 _) (.num 0) (.var 0) (.num 0) (.var 0) 1 1 rfl ha0)))) (by exact gnlt (lin2 (cx2 _ _) (.add (.var 0) (.num 1)) (.num 5) (.var 1) (.var 0) (.add (.var 1) (.num 1)) (.num 5) 1 1 1 rfl hb5 (tn2 (lin1 (cx1 _) (.num 0) (.var 0) (.num 0) (.var 0) 1 1 rfl hb0)))); exact ⟨by exact lin1 (cx1 _) (.neg (.num 1000)) (.var 0) (.add (.neg (.num 18446744073709551616)) (.num 1)) (.var 0) 1 1 rfl this.1, by exact lin1 (cx1 _) (.var 0) (.num 1000) (.add (.var 0) (.num 1)) (.num 18446744073709551616) 1 1 rfl this.2⟩
    have hrest : ∀ p ∈ (L' + 1, oc) :: news, p.1 ≠ lD := fun p hp => by
      rcases List.mem_cons.mp hp with rfl | hp
      · exact Nat.ne_of_lt ll.1
      · exact Nat.ne_of_lt (allLt_mem ll.2 p hp)
    have offA : ∀ o, ∀ p ∈ (lD, o) :: (L' + 1, oc) :: news, p.1 ≠ I := fun o p hp => by
      rcases List.mem_cons.mp hp with rfl | hp
      · exact off (lD, W.listOf (List.toArray ys) k) List.mem_cons_self
      · exact off _ (List.mem_cons_of_mem _ hp)
    have off2 : ∀ p ∈ (lD, W.listOf (List.toArray ys) k) :: (L' + 1, oc) :: news, p.1 ≠ I := off
    repeat' (first
      | ((with_reducible show wpAny _ _ (subscriptTail _ _ (Value.ref _) (Value.int _ _)) _ _ _); k_dflt ((with_unfolding_all (refine' lamps_sub ?k1_2 ?k2_2 ?k3_2 ?k4_2 ?_ ?k5_2)); (case k1_2 => k_asm); (case k2_2 => k_mem); (case k3_2 => first | decide | (with_reducible assumption)); (case k4_2 => first | decide | (exact Int.lt_of_lt_of_le (by with_reducible assumption) (by decide))); (case k5_2 => with_unfolding_all rfl); k_whole))
      | ((with_reducible show wpAny _ _ (eval (Expr.Name _ _) _) _ _ _); k_dflt ((refine' nameX_L ?F_3 ?v_3 ?_ ?a_3 ?b_3); (case a_3 => rfl); (case b_3 => rfl); (case F_3 => k_asm); (case v_3 => (try dsimp only); (repeat' ((show (_ : Option Value) = some _); first | (with_reducible assumption) | exact nm_here | (refine' nm_skip ?hne_3 ?_; (case hne_3 => decide +kernel)))); done); k_whole))
      | (k_unfold; (try dsimp only)) | (k_end; wrow_close) | walk1 | (dsimp only; walk1) | (leave1; try dsimp only))
    · refine Halt.out ?_
      refine' crossL_c ?hi ?hj ?hP ?hO ?k1 ?k2 ?k3 ?k4 ?k5 ?k6 ?k7 ?k8 ?_
      case k4 => k_asm
      case hi => exact lt5 (by with_reducible assumption) (by with_reducible assumption)
      case hj => exact lt5 (by with_reducible assumption) (by with_reducible assumption)
      case hP => repeat' (first | (with_reducible assumption) | refine LampsIn.cons ?_)
      case hO => with_reducible assumption
      case k1 => k_asm
      case k2 => k_asm
      case k3 => k_asm
      case k5 => k_asm
      case k6 => first | exact rfl | assumption
      case k7 => ktr_room
      case k8 => ktr_units
      intro t51 h51 tk51 F51 N9
      (try dsimp only [List.nil_append, List.cons_append] at N9)
      (try dsimp only)
      (try k_fold)
      repeat' (first
        | ((with_reducible show wpAny _ _ (subscriptTail _ _ (Value.ref _) (Value.int _ _)) _ _ _); k_dflt ((with_unfolding_all (refine' lamps_sub ?k1_4 ?k2_4 ?k3_4 ?k4_4 ?_ ?k5_4)); (case k1_4 => k_asm); (case k2_4 => k_mem); (case k3_4 => first | decide | (with_reducible assumption)); (case k4_4 => first | decide | (exact Int.lt_of_lt_of_le (by with_reducible assumption) (by decide))); (case k5_4 => with_unfolding_all rfl); k_whole))
        | ((with_reducible show wpAny _ _ (eval (Expr.Name _ _) _) _ _ _); k_dflt ((refine' nameX_L ?F_5 ?v_5 ?_ ?a_5 ?b_5); (case a_5 => rfl); (case b_5 => rfl); (case F_5 => k_asm); (case v_5 => (try dsimp only); (repeat' ((show (_ : Option Value) = some _); first | (with_reducible assumption) | exact nm_here | (refine' nm_skip ?hne_5 ?_; (case hne_5 => decide +kernel)))); done); k_whole))
        | (k_unfold; (try dsimp only)) | (k_end; wrow_close) | walk1 | (dsimp only; walk1) | (leave1; try dsimp only))
      refine Halt.out ?_
      refine' crossL_c ?hi ?hj ?hP ?hO ?k1 ?k2 ?k3 ?k4 ?k5 ?k6 ?k7 ?k8 ?_
      case k4 => k_asm
      case hi => exact lt5 (by with_reducible assumption) (by with_reducible assumption)
      case hj => exact lt5 (by with_reducible assumption) (by with_reducible assumption)
      case hP => repeat' (first | (with_reducible assumption) | refine LampsIn.cons ?_)
      case hO => with_reducible assumption
      case k1 => k_asm
      case k2 => k_asm
      case k3 => k_asm
      case k5 => k_asm
      case k6 => first | exact rfl | assumption
      case k7 => ktr_room
      case k8 => ktr_units
      intro t52 h52 tk52 F52 N9
      (try dsimp only [List.nil_append, List.cons_append] at N9)
      (try dsimp only)
      (try k_fold)
      repeat' (first
        | ((with_reducible show wpAny _ _ (eval (Expr.Name _ _) _) _ _ _); k_dflt ((refine' nameX_L ?F_6 ?v_6 ?_ ?a_6 ?b_6); (case a_6 => rfl); (case b_6 => rfl); (case F_6 => k_asm); (case v_6 => (try dsimp only); (repeat' ((show (_ : Option Value) = some _); first | (with_reducible assumption) | exact nm_here | (refine' nm_skip ?hne_6 ?_; (case hne_6 => decide +kernel)))); done); k_whole))
        | (k_unfold; (try dsimp only)) | (k_end; wrow_close) | walk1 | (dsimp only; walk1) | (leave1; try dsimp only))
      refine Halt.out ?_
      have hca : c ≠ ia := by assumption
      have hcb : c ≠ ib := by assumption
      refine sortedL (by k_asm) (by k_asm) List.mem_cons_self (by k_mem) (by k_mem) (by k_mem) hab hca hcb ha0 hb5 hlo hhi sm1 sm2 sm3 ?_
      intro D8 c8 h8 T0 T1 T2 n0 n1 n2 p0 p1 p2 τ0 τ1 τ2 σ0 σ1 σ2 k0 k1 k2 ht f1 f2 f3 f4 f5 f6 f7 f8 f9 F8 N8 l8
      have N9 : News g' L' h8 ((D8, W.listOf [Value.ref T0, .ref T1, .ref T2].toArray c8) :: (T0, tupO #[.int n0 τ0, .int p0 σ0] k0) :: (T1, tupO #[.int n1 τ1, .int p1 σ1] k1) :: (T2, tupO #[.int n2 τ2, .int p2 σ2] k2) :: (I, oI) :: (lD, W.listOf ys.toArray k) :: (L' + 1, oc) :: news) := fun p hp => N8 p (by
        rcases List.mem_cons.mp hp with rfl | hp
        · exact List.mem_cons_self
        rcases List.mem_cons.mp hp with rfl | hp
        · exact List.mem_cons_of_mem _ List.mem_cons_self
        rcases List.mem_cons.mp hp with rfl | hp
        · exact List.mem_cons_of_mem _ (List.mem_cons_of_mem _ List.mem_cons_self)
        rcases List.mem_cons.mp hp with rfl | hp
        · exact List.mem_cons_of_mem _ (List.mem_cons_of_mem _ (List.mem_cons_of_mem _ List.mem_cons_self))
        · repeat' (first | exact hp | refine List.mem_cons_of_mem _ ?_))
      clear N8 l8
      repeat' (first
        | (k_dflt (refine' CompEnd.intro ?F_7 ?N_7 _ ?sub_7 ?off_7 ?S_7 ?_; (case F_7 => k_asm); (case N_7 => k_asm); (case sub_7 => (intro p hp; repeat' (first | exact hp | refine List.mem_cons_of_mem _ ?_))); (case off_7 => assumption); (case S_7 => first | exact trivial | exact Or.inr ⟨_, (by k_mem), rfl, _, rfl⟩); k_whole))
        | ((with_reducible show wpAny _ _ (subscriptTail _ _ (Value.ref _) (Value.int _ _)) _ _ _); k_dflt ((with_unfolding_all (refine' ints_sub ?kn_8 ?km_8 ?k2_8 ?k3_8 ?k4_8 ?k5_8 ?_ ?k8_8 ?k9_8)); (case kn_8 => k_asm); (case km_8 => k_mem); (case k2_8 => with_reducible l_ints); (case k8_8 => with_unfolding_all rfl); (case k9_8 => intro _; with_unfolding_all rfl); (case k3_8 => with_reducible assumption); (case k4_8 => exact Int.lt_of_lt_of_le (b := 5) (by with_reducible assumption) (by simp only [List.length_cons, List.length_nil]; decide)); (case k5_8 => exact Int.lt_of_lt_of_le (b := 5) (by with_reducible assumption) (by decide)); k_whole; intro _))
        | (k_dflt ((with_reducible refine mul_int ?_ ?hmul_9); (case hmul_9 => first | (refine mulR ?_; first | (with_reducible assumption) | assumption | (refine Lmp.Ok.sm (by with_reducible assumption) ?_ _; first | decide | exact lt5 (by with_reducible assumption) (Int.lt_of_lt_of_le (by with_reducible assumption) (by decide)))) | (refine mulL ?_; first | (with_reducible assumption) | assumption | (refine Sm.of ?_ ?_ <;> decide)))))
        | ((with_reducible show wpAny _ _ (eval (Expr.Name _ _) _) _ _ _); k_dflt ((refine' nameX_L ?F_10 ?v_10 ?_ ?a_10 ?b_10); (case a_10 => rfl); (case b_10 => rfl); (case F_10 => k_asm); (case v_10 => (try dsimp only); (repeat' ((show (_ : Option Value) = some _); first | (with_reducible assumption) | exact nm_here | (refine' nm_skip ?hne_10 ?_; (case hne_10 => decide +kernel)))); done); k_whole))
        | (k_unfold; (try dsimp only)) | (k_end; wrow_close) | walk1 | (dsimp only; walk1) | (leave1; try dsimp only))
      · refine Halt.out ?_
        rename_i e1
        refine ListComp_PT (by k_asm) rfl (by decide) rfl (by decide) rfl rfl (by decide +kernel) rfl ?_
        repeat' (first
          | ((with_reducible show wpAny _ _ (eval (Expr.Name _ _) _) _ _ _); k_dflt ((refine' nameX_L ?F_11 ?v_11 ?_ ?a_11 ?b_11); (case a_11 => rfl); (case b_11 => rfl); (case F_11 => k_asm); (case v_11 => (try dsimp only); (repeat' ((show (_ : Option Value) = some _); first | (with_reducible assumption) | exact nm_here | (refine' nm_skip ?hne_11 ?_; (case hne_11 => decide +kernel)))); done); k_whole))
          | (k_unfold; (try dsimp only)) | (k_end; wrow_close) | walk1 | (dsimp only; walk1) | (leave1; try dsimp only))
        refine ⟨D8, #[.ref T0, .ref T1, .ref T2], (D8, W.listOf [Value.ref T0, .ref T1, .ref T2].toArray c8) :: (T0, tupO #[.int n0 τ0, .int p0 σ0] k0) :: (T1, tupO #[.int n1 τ1, .int p1 σ1] k1) :: (T2, tupO #[.int n2 τ2, .int p2 σ2] k2) :: (I, oI) :: (lD, W.listOf ys.toArray k) :: (L' + 1, oc) :: news, rfl, by k_asm, news_sub (by k_asm) (fun p hp => by repeat' (first | exact hp | refine List.mem_cons_of_mem _ ?_)), .inr ⟨_, List.mem_cons_self, rfl, _, rfl⟩, by show 3 ≤ sizeLine; decide, fun g => ?_⟩
        refine restPT_ind (fun i ys => IntsAre ys (([p0, p1, p2].take i).filter (· ≠ 0))) .nil ?_ ?_
        · intro j zs hj hJ v hv
          apply pick3 (List.mem_cons_of_mem _ List.mem_cons_self) (List.mem_cons_of_mem _ (List.mem_cons_of_mem _ List.mem_cons_self)) (List.mem_cons_of_mem _ (List.mem_cons_of_mem _ (List.mem_cons_of_mem _ List.mem_cons_self))) hj hv
          intro T n p τ σ kk hm htk
          refine ⟨T, _, _, _, _, rfl, hm, rfl, rfl, ?_⟩
          intro I2 oI2 C2 oC2 D2 m2 h2 tk2 E2 hC2 hx2 hy2 F2 N2 off3 ne2
          repeat' (first
            | (k_dflt (refine' CompEnd.intro ?F_12 ?N_12 _ ?sub_12 ?off_12 ?S_12 ?_; (case F_12 => k_asm); (case N_12 => k_asm); (case sub_12 => (intro p hp; repeat' (first | exact hp | refine List.mem_cons_of_mem _ ?_))); (case off_12 => assumption); (case S_12 => first | exact trivial | exact Or.inr ⟨_, (by k_mem), rfl, _, rfl⟩); k_whole))
            | (k_unfold; (try dsimp only)) | (k_end; wrow_close) | walk1 | (dsimp only; walk1) | (leave1; try dsimp only))
          · rw [htk]
            refine nz_yes hJ ?_ _
            assumption
          · rw [htk]
            refine nz_no hJ ?_
            first | assumption | (rename_i e9; exact Decidable.of_not_not e9) | (rename_i e9; omega)
        · intro zs hJ D9 h9 tk9 F9 N9 o9
          have hw9 := worth_eq ht e1
          have hnz := trip_nz ht ht0
          have hJ' : IntsAre zs ([p0, p1, p2].filter (· ≠ 0)) := hJ
          k_steps
          refine Halt.out ?_
          refine ints_sub0 N9 List.mem_cons_self hJ' hnz ?_ (by with_unfolding_all rfl)
          intro t9'
          repeat' (first
            | (k_dflt ((with_reducible refine mul_int ?_ ?hmul_13); (case hmul_13 => first | (refine mulR ?_; first | (with_reducible assumption) | assumption | (refine Lmp.Ok.sm (by with_reducible assumption) ?_ _; first | decide | exact lt5 (by with_reducible assumption) (Int.lt_of_lt_of_le (by with_reducible assumption) (by decide)))) | (refine mulL ?_; first | (with_reducible assumption) | assumption | (refine Sm.of ?_ ?_ <;> decide)))))
            | ((with_reducible show wpAny _ _ (eval (Expr.Name _ _) _) _ _ _); k_dflt ((refine' nameX_L ?F_14 ?v_14 ?_ ?a_14 ?b_14); (case a_14 => rfl); (case b_14 => rfl); (case F_14 => k_asm); (case v_14 => (try dsimp only); (repeat' ((show (_ : Option Value) = some _); first | (with_reducible assumption) | exact nm_here | (refine' nm_skip ?hne_14 ?_; (case hne_14 => decide +kernel)))); done); k_whole))
            | (k_unfold; (try dsimp only)) | (k_end; wrow_close) | walk1 | (dsimp only; walk1) | (leave1; try dsimp only))
          · rename_i e2
            refine Halt.out ?_
            refine append_K (D := lD) (news := (I, oI) :: (lD, W.listOf ys.toArray k) :: (L' + 1, oc) :: news) (by k_asm) (news_sub (by k_asm) (fun p hp => by repeat' (first | exact hp | refine List.mem_cons_of_mem _ ?_))) (Upd.tail (Ne.symm (off _ List.mem_cons_self)) (Upd.head hrest)) ?_ (by rw [List.size_toArray]; exact Nat.le_trans hyl (Nat.le_trans (Nat.le_of_lt hi) (by decide)))
            rw [List.push_toArray]
            intro h7 F7 N7
            k_steps
            refine (TurnR.next (by k_asm) (by k_asm) ((lD, W.listOf (List.toArray (ys ++ [.int c t])) (k + 1)) :: (L' + 1, oc) :: news) (fun p hp => by repeat' (first | exact hp | refine List.mem_cons_of_mem _ ?_)) (offA _) (Ji _ _ (ys ++ [.int c t]) _ t1 t2 t3 ?_ ?_ ?_ ?_ ?_ (len_snoc hyl) (litZ_yes t hc ((lit_dec hca hcb hw9).trans (decide_eq_true e2)) hI)))
            all_goals (repeat' ((show (_ : Option Value) = some _); first | (with_reducible assumption) | exact nm_here | (refine' nm_skip ?hne ?_; (case hne => decide +kernel))))
          · rename_i e2
            refine (TurnR.next (by k_asm) (by k_asm) ((lD, W.listOf (List.toArray (ys)) k) :: (L' + 1, oc) :: news) (fun p hp => by repeat' (first | exact hp | refine List.mem_cons_of_mem _ ?_)) off2 (Ji _ _ ys _ t1 t2 t3 ?_ ?_ ?_ ?_ ?_ (Nat.le_succ_of_le hyl) (litZ_no hc ((lit_dec hca hcb hw9).trans (decide_eq_false e2)) hI)))
            all_goals (repeat' ((show (_ : Option Value) = some _); first | (with_reducible assumption) | exact nm_here | (refine' nm_skip ?hne ?_; (case hne => decide +kernel))))
      · rename_i e1 _ e2
        have hw9 := worth_ne ht e1
        refine Halt.out ?_
        refine append_K (D := lD) (news := (I, oI) :: (lD, W.listOf ys.toArray k) :: (L' + 1, oc) :: news) (by k_asm) (news_sub (by k_asm) (fun p hp => by repeat' (first | exact hp | refine List.mem_cons_of_mem _ ?_))) (Upd.tail (Ne.symm (off _ List.mem_cons_self)) (Upd.head hrest)) ?_ (by rw [List.size_toArray]; exact Nat.le_trans hyl (Nat.le_trans (Nat.le_of_lt hi) (by decide)))
        rw [List.push_toArray]
        intro h7 F7 N7
        k_steps
        refine (TurnR.next (by k_asm) (by k_asm) ((lD, W.listOf (List.toArray (ys ++ [.int c t])) (k + 1)) :: (L' + 1, oc) :: news) (fun p hp => by repeat' (first | exact hp | refine List.mem_cons_of_mem _ ?_)) (offA _) (Ji _ _ (ys ++ [.int c t]) _ t1 t2 t3 ?_ ?_ ?_ ?_ ?_ (len_snoc hyl) (litZ_yes t hc ((lit_dec hca hcb hw9).trans (decide_eq_true e2)) hI)))
        all_goals (repeat' ((show (_ : Option Value) = some _); first | (with_reducible assumption) | exact nm_here | (refine' nm_skip ?hne ?_; (case hne => decide +kernel))))
      · rename_i e1 _ e2
        have hw9 := worth_ne ht e1
        refine (TurnR.next (by k_asm) (by k_asm) ((lD, W.listOf (List.toArray (ys)) k) :: (L' + 1, oc) :: news) (fun p hp => by repeat' (first | exact hp | refine List.mem_cons_of_mem _ ?_)) off2 (Ji _ _ ys _ t1 t2 t3 ?_ ?_ ?_ ?_ ?_ (Nat.le_succ_of_le hyl) (litZ_no hc ((lit_dec hca hcb hw9).trans (decide_eq_false e2)) hI)))
        all_goals (repeat' ((show (_ : Option Value) = some _); first | (with_reducible assumption) | exact nm_here | (refine' nm_skip ?hne ?_; (case hne => decide +kernel))))
    · have hcc : c = ia ∨ c = ib := by omega
      refine (TurnR.next (by k_asm) (by k_asm) ((lD, W.listOf (List.toArray (ys)) k) :: (L' + 1, oc) :: news) (fun p hp => by repeat' (first | exact hp | refine List.mem_cons_of_mem _ ?_)) off2 (Ji _ _ ys _ t1 t2 t3 ?_ ?_ ?_ ?_ ?_ (Nat.le_succ_of_le hyl) (litZ_no hc (lit_off hcc) hI)))
      all_goals (repeat' ((show (_ : Option Value) = some _); first | (with_reducible assumption) | exact nm_here | (refine' nm_skip ?hne ?_; (case hne => decide +kernel))))
    · have hcc : c = ia ∨ c = ib := by omega
      refine (TurnR.next (by k_asm) (by k_asm) ((lD, W.listOf (List.toArray (ys)) k) :: (L' + 1, oc) :: news) (fun p hp => by repeat' (first | exact hp | refine List.mem_cons_of_mem _ ?_)) off2 (Ji _ _ ys _ t1 t2 t3 ?_ ?_ ?_ ?_ ?_ (Nat.le_succ_of_le hyl) (litZ_no hc (lit_off hcc) hI)))
      all_goals (repeat' ((show (_ : Option Value) = some _); first | (with_reducible assumption) | exact nm_here | (refine' nm_skip ?hne ?_; (case hne => decide +kernel))))
  · intro h' tk m' news' F N hj
    revert N
    refine Je _ _ (fun news' => News g' L' h' news' → _) ?_ _ hj
    clear hj news'
    intro ys k t1 t2 t3 e1 e2 e3 e4 e5 hyl hI N
    repeat' (first
      | ((with_reducible show wpAny _ _ (eval (Expr.Name _ _) _) _ _ _); k_dflt ((refine' nameX_L ?F_15 ?v_15 ?_ ?a_15 ?b_15); (case a_15 => rfl); (case b_15 => rfl); (case F_15 => k_asm); (case v_15 => (try dsimp only); (repeat' ((show (_ : Option Value) = some _); first | (with_reducible assumption) | exact nm_here | (refine' nm_skip ?hne_15 ?_; (case hne_15 => decide +kernel)))); done); k_whole))
      | (k_unfold; (try dsimp only)) | (k_end; wrow_close) | walk1 | (dsimp only; walk1) | (leave1; try dsimp only))
    exact ⟨_, _, _, F, N, fun p hp => List.mem_cons_of_mem _ (List.mem_cons_of_mem _ hp), fun F N => hret _ [_] _ _ ⟨lD, ys, k, rfl, rfl, hI, off_of (allLt_mem ll.2)⟩ F (pick1 N)⟩
theorem lit_c {w : World} {P : Lmp} {lam lua : Addr} {nl nu : Nat} {ia ib : Int} {ta tb : Tok} {u0 u1 u2 u3 u4 : Int} {tu0 tu1 tu2 tu3 tu4 : Tok} {news : List (Addr × Obj)}
   (hl : (lam, P.all nl) ∈ news) (hP : LampsIn P news) (hO : P.Ok) (hu : (lua, W.listOf #[.int u0 tu0, .int u1 tu1, .int u2 tu2, .int u3 tu3, .int u4 tu4] nu) ∈ news)
   (ha0 : 0 ≤ ia) (hab : ia < ib) (hb5 : ib < 5) (ht : P.G ia.toNat ib.toNat ≠ 0) (hus : ∀ x ∈ [u0, u1, u2, u3, u4], 0 ≤ x ∧ x ≤ 2000) :
   CtrC w 2 20 265 [.ref lam, .ref lua, .int ia ta, .int ib tb] news (fun K => ∀ D ys k, IntsAre ys (litZ P [u0, u1, u2, u3, u4] ia ib 5) → Off1 D news → K (.ref D) [(D, W.listOf (List.toArray ys) k)]) :=
  Ctr.toC (fun K => ∀ D ys k, IntsAre ys (litZ P [u0, u1, u2, u3, u4] ia ib 5) → Off1 D news → K (.ref D) [(D, W.listOf (List.toArray ys) k)]) (lit_ok w P lam lua nl nu ia ib ta tb u0 u1 u2 u3 u4 tu0 tu1 tu2 tu3 tu4 news hl hP hO hu ha0 hab hb5 ht hus) (by intro K h _ _ _ R9; obtain ⟨D, ys, k, e1, e2, I, l⟩ := R9; subst e1 e2; exact h D ys k I l)
end
section
open PySem.Calls
open PyProof.Rows.LCg
noncomputable def readZ (ns : List Int) : Int := ns.foldl (fun t l => 16 * t + l - 65) 0
theorem read_ok (w : World) (b : Array UInt8) (tr : Tok) (ns : List Int) (news : List (Addr × Obj)) (hb : KBw.bInts b = ns) (hl : ns.length ≤ 100) :
   Ctr w 1 8 236 [.bytes b tr] news (fun _ v add => add = [] ∧ ∃ t, v = .int (readZ ns) t) := by
  intro mean mg mb dp un gd cn cs a ccd cl outer A₀ base h₀ L m s Q E B F X N T hk hd hu hret
  (refine wpAny_call ?_; k_dflt (refine' enterP (news₀ := []) ?k1 ?k2 ?k3 ?k4 ?k5 ?kS ?kA ?kF ?kK ?k6 ?k7 ?k8 ?k9 ?kB ?_ ?c2 ?c3 ?c4 ?c5; (case kA => exact rfl); (case kF => exact rfl); (case kK => assumption); (case k1 => k_asm); (case k2 => k_asm); (case k3 => k_asm); (case k4 => k_asm); (case k5 => k_asm); (case kS => first | exact fun _ h => h | exact List.forall_mem_nil _ | (intro p hp; simp only [List.mem_cons, List.not_mem_nil, or_false] at hp; rcases hp with rfl | hp <;> first | assumption | (rcases hp with rfl | hp <;> first | assumption | (rcases hp with rfl | hp <;> first | assumption | (rcases hp with rfl | hp <;> first | assumption | (rcases hp with rfl | hp <;> first | assumption | (rcases hp with rfl | hp <;> first | assumption | (rcases hp with rfl | hp <;> first | assumption | (rcases hp with rfl | hp <;> first | assumption | (subst hp; assumption))))))))) | (intro p hp; simp only [List.mem_cons, List.not_mem_nil, or_false] at hp; subst hp; assumption)); (case k6 => k_is); (case k7 => k_is); (case k8 => ktr_room); (case k9 => exact BindsTo.of_eq rfl); (case c5 => decide); (case kB => exact locs rfl); (case c2 => exact rfl); (case c3 => exact rfl); (case c4 => exact rfl); k_whole; intro g' L' h' FG' F' N' B' X' T' lt' old'; (try dsimp only); (try k_fold); refine wpLA ?_; intro Ax Qx Ex))
  k_steps
  exact ⟨_, _, _, by k_asm, by k_asm, (fun p hp => absurd hp List.not_mem_nil), fun F N => hret _ [] _ _ ⟨rfl, _, rfl⟩ F (pick0 N)⟩
theorem read_c {w : World} {b : Array UInt8} {tr : Tok} {ns : List Int} {news : List (Addr × Obj)} (hb : KBw.bInts b = ns) (hl : ns.length ≤ 100) :
   CtrC w 1 8 236 [.bytes b tr] news (fun K => ∀ t, K (.int (readZ ns) t) []) :=
  Ctr.toC (fun K => ∀ t, K (.int (readZ ns) t) []) (read_ok w b tr ns news hb hl) (by intro K h _ _ _ R9; obtain ⟨e1, t, e2⟩ := R9; subst e1 e2; exact h t)
end
section
open PySem.Calls
open PyProof.Rows.LCg
local macro_rules | `(tactic| walk_at "exec Assign cons ListComp") => `(tactic| (k_here; with_reducible refine halt_in ?_))
theorem pick2 {x0 x1 : UInt64} {τ0 τ1 : Tok} {N0 N1 S : Int} (h0 : Trunc (chE x0 S) N0) (h1 : Trunc (chE x1 S) N1) {i : Nat} {v : Value} (hi : i < 2) (hv : (#[Value.float x0 τ0, .float x1 τ1] : Array Value)[i]? = some v) {G : Prop}
    (k : ∀ x τ N, v = .float x τ → Trunc (chE x S) N → [N0 - 10000 * S, N1 - 10000 * S].take (i + 1) = [N0 - 10000 * S, N1 - 10000 * S].take i ++ [N - 10000 * S] → G) : G := by
  have h2 : i = 0 ∨ i = 1 := by omega
  rcases h2 with rfl | rfl
  · exact k _ _ _ (Option.some.inj hv).symm h0 rfl
  · exact k _ _ _ (Option.some.inj hv).symm h1 rfl
theorem seen_ok (w : World) (la : Addr) (S a0 a1 a2 : Int) (ts ta0 ta1 ta2 : Tok) (na : Nat) (news : List (Addr × Obj))
   (ha : (la, W.listOf #[.int a0 ta0, .int a1 ta1, .int a2 ta2] na) ∈ news) (hS : 0 ≤ S) (hS' : S < 1048576) (hS0 : S ≠ 0) (hSm : Sm S)
   (ha0 : 0 ≤ a0) (ha0' : a0 < 1048576) (ha1 : 0 ≤ a1) (ha1' : a1 < 1048576) (ha2 : 0 ≤ a2) (ha2' : a2 < 1048576) 
   (NY NI NQ : Int) (hY : Trunc (luE (yY (fq a0 S) (fq a1 S) (fq a2 S)) S) NY) (hI : Trunc (chE (yI (fq a0 S) (fq a1 S) (fq a2 S)) S) NI) (hQ : Trunc (chE (yQ (fq a0 S) (fq a1 S) (fq a2 S)) S) NQ) :
   Ctr w 2 20 253 [.ref la, .int S ts] news (fun _ v add => ∃ q t0 t1 t2 n, v = .ref q ∧ add = [(q, W.listOf #[.int NY t0, .int (NI - 10000 * S) t1, .int (NQ - 10000 * S) t2] n)] ∧ Off1 q news) := by
  intro mean mg mb dp un gd cn cs a ccd cl outer A₀ base h₀ L m s Q E B F X N T hk hd hu hret
  (refine wpAny_call ?_; k_dflt (refine' enterPC (news₀ := [(la, W.listOf #[.int a0 ta0, .int a1 ta1, .int a2 ta2] na)]) ?k1 ?k2 ?k3 ?k4 ?k5 ?kS ?kA ?kF ?kK ?k6 ?k7 ?k8 ?k9 ?kB ?kD ?_ ?c2 ?c3 ?c4; (case kA => exact rfl); (case kF => exact rfl); (case kK => assumption); (case k1 => k_asm); (case k2 => k_asm); (case k3 => k_asm); (case k4 => k_asm); (case k5 => k_asm); (case kS => first | exact fun _ h => h | exact List.forall_mem_nil _ | (intro p hp; simp only [List.mem_cons, List.not_mem_nil, or_false] at hp; rcases hp with rfl | hp <;> first | assumption | (rcases hp with rfl | hp <;> first | assumption | (rcases hp with rfl | hp <;> first | assumption | (rcases hp with rfl | hp <;> first | assumption | (rcases hp with rfl | hp <;> first | assumption | (rcases hp with rfl | hp <;> first | assumption | (rcases hp with rfl | hp <;> first | assumption | (rcases hp with rfl | hp <;> first | assumption | (subst hp; assumption))))))))) | (intro p hp; simp only [List.mem_cons, List.not_mem_nil, or_false] at hp; subst hp; assumption)); (case k6 => k_is); (case k7 => k_is); (case k8 => ktr_room); (case k9 => exact BindsTo.of_eq rfl); (case kB => exact rfl); (case kD => decide); (case c2 => exact rfl); (case c3 => exact rfl); (case c4 => exact rfl); k_whole; intro g' L' h' tk' cells' FG' F' N' Y' B' X' T' lt' old'; (try dsimp only); k_cells Y'; (try simp only [List.cons_append, List.nil_append, List.append_nil] at N'); (try k_fold); refine wpLA ?_; intro Ax Qx Ex))
  repeat' (first
    | ((with_reducible show wpAny _ _ (binaryOp .Div (Value.int _ _) (Value.int _ _)) _ _ _); k_dflt ((refine' div_ok rfl ?hb_1 ?ha_1 ?_); (case hb_1 => k_asm); (case ha_1 => exact small_fits (by k_asm) (by k_asm)); k_whole))
    | ((with_reducible show wpAny _ _ (subscriptTail _ _ (Value.ref _) (Value.int _ _)) _ _ _); k_dflt ((with_unfolding_all (refine' lit_sub ?kn_2 ?km_2 ?k3_2 ?k4_2 ?k5_2 ?_ ?k8_2)); (case k3_2 => decide); (case k4_2 => decide); (case kn_2 => k_asm); (case km_2 => k_mem); (case k5_2 => rfl); (case k8_2 => with_unfolding_all rfl); k_whole))
    | (k_unfold; (try dsimp only)) | (k_end; wrow_close) | walk1 | (dsimp only; walk1) | (leave1; try dsimp only))
  refine Halt.out ?_
  refine' yiq_c ?k1 ?k2 ?k3 ?k4 ?k5 ?k6 ?k7 ?k8 ?_
  case k4 => k_asm
  case k1 => k_asm
  case k2 => k_asm
  case k3 => k_asm
  case k5 => k_asm
  case k6 => first | exact rfl | assumption
  case k7 => ktr_room
  case k8 => ktr_units
  intro q1 ty1 ti1 tq1 n1 l1 h1 tk1 F1 N9
  (try dsimp only [List.nil_append, List.cons_append] at N9)
  (try dsimp only)
  (try k_fold)
  k_steps
  refine Halt.out ?_
  refine Assign_ListComp_T (by k_asm) rfl rfl (by decide) rfl (by decide) rfl rfl rfl rfl ?_
  k_steps
  refine ⟨_, _, _, _, rfl, ?hz, by k_asm, by k_asm, List.mem_cons_self, fun g => ?_⟩
  case hz => exact (by decide : 2 ≤ sizeLine)
  refine rest_F (fun i ys => IntsAre ys ([NI - 10000 * S, NQ - 10000 * S].take i)) List.mem_cons_self .nil ?_ ?_
  · intro i ys v I oI C oC D m₂ h tk E' hi hv hJ hC hX F N
    refine pick2 hI hQ hi hv ?_
    intro x τ NN ev hN htk
    rw [ev] at hX
    clear hv ev
    refine wpLA ?_
    intro AQt Qt Et
    repeat' (first
      | ((with_reducible show wpAny _ _ (binaryOp .Mult (Value.float _ _) (Value.int _ _)) _ _ _); k_dflt ((refine' mulfi_ok rfl (small_fits ?h0_3 ?h1_3) ?_); (case h0_3 => first | decide | k_asm); (case h1_3 => first | decide | k_asm); k_whole))
      | ((with_reducible show wpAny _ _ (binaryOp .Add (Value.float _ _) (Value.int _ _)) _ _ _); k_dflt ((refine' addfi_ok rfl (small_fits ?h0_4 ?h1_4) ?_); (case h0_4 => first | decide | k_asm); (case h1_4 => first | decide | k_asm); k_whole))
      | ((with_reducible show wpAny _ _ (call (Value.type "int") [Value.float _ _]) _ _ _); k_dflt ((refine' int_ok ?hx_5 ?_); (case hx_5 => k_asm); k_whole))
      | (k_dflt ((with_reducible refine mul_int ?_ ?hmul_6); (case hmul_6 => first | (refine mulR ?_; first | (with_reducible assumption) | assumption | (refine Lmp.Ok.sm (by with_reducible assumption) ?_ _; first | decide | exact lt5 (by with_reducible assumption) (Int.lt_of_lt_of_le (by with_reducible assumption) (by decide)))) | (refine mulL ?_; first | (with_reducible assumption) | assumption | (refine Sm.of ?_ ?_ <;> decide)))))
      | (k_unfold; (try dsimp only)) | (k_end; wrow_close) | walk1 | (dsimp only; walk1) | (leave1; try dsimp only))
    refine (EndF.intro (by k_asm) (by k_asm) (fun p hp => by repeat' (first | exact hp | refine List.mem_cons_of_mem _ ?_)) ?_)
    rw [htk]
    exact IntsAre.append hJ (ints_one rfl)
  intro ys hJ
  refine ob2 (ints2 hJ) fun u0 u1 eys => ?_
  rw [eys]
  intro D h9 tk9 F9 N9 o9
  repeat' (first
    | ((with_reducible show wpAny _ _ (binaryOp .Mult (Value.float _ _) (Value.int _ _)) _ _ _); k_dflt ((refine' mulfi_ok rfl (small_fits ?h0_7 ?h1_7) ?_); (case h0_7 => first | decide | k_asm); (case h1_7 => first | decide | k_asm); k_whole))
    | ((with_reducible show wpAny _ _ (call (Value.type "int") [Value.float _ _]) _ _ _); k_dflt ((refine' int_ok ?hx_8 ?_); (case hx_8 => k_asm); k_whole))
    | (k_unfold; (try dsimp only)) | (k_end; wrow_close) | walk1 | (dsimp only; walk1) | (leave1; try dsimp only))
  refine ⟨_, _, _, by k_asm, by k_asm, (fun p hp => by repeat' (first | exact hp | refine List.mem_cons_of_mem _ ?_)), fun F N => hret _ [_] _ _ ⟨_, _, _, _, _, rfl, rfl, off_old1 old' ?_ ?_⟩ F (pick1 N)⟩
  · rename_i N8 l9
    exact (N8 _ List.mem_cons_self).2.2
  · rename_i l9
    exact Nat.ne_of_lt l9.2.2.2.2.2
end
section
open PySem.Calls
open PyProof.Rows.LCg
noncomputable abbrev wY (a b c : Int) : Int := 30 * a + 59 * b + 11 * c
noncomputable abbrev wI (a b c : Int) : Int := 5990 * a - 2773 * b - 3217 * c
noncomputable abbrev wQ (a b c : Int) : Int := 2130 * a - 5251 * b + 3121 * c
noncomputable def FlOk (S a b c : Int) : Prop := (0 ≤ a ∧ a ≤ 300000 ∧ 0 ≤ b ∧ b ≤ 300000 ∧ 0 ≤ c ∧ c ≤ 300000) ∧ Trunc (luE (yY (fq a S) (fq b S) (fq c S)) S) (wY a b c) ∧ Trunc (chE (yI (fq a S) (fq b S) (fq c S)) S) (wI a b c + 10000 * S) ∧ Trunc (chE (yQ (fq a S) (fq b S) (fq c S)) S) (wQ a b c + 10000 * S)
theorem seenW_ok (w : World) (la : Addr) (S a0 a1 a2 : Int) (ts ta0 ta1 ta2 : Tok) (na : Nat) (news : List (Addr × Obj))
   (ha : (la, W.listOf #[.int a0 ta0, .int a1 ta1, .int a2 ta2] na) ∈ news) (hS : S = 16 ∨ S = 1024 ∨ S = 262144) (hf : FlOk S a0 a1 a2) :
   Ctr w 2 20 253 [.ref la, .int S ts] news (fun _ v add => ∃ q t0 t1 t2 n, v = .ref q ∧ add = [(q, W.listOf #[.int (wY a0 a1 a2) t0, .int (wI a0 a1 a2) t1, .int (wQ a0 a1 a2) t2] n)] ∧ Off1 q news) := by
  intro mean mg mb dp un gd cn cs a ccd cl outer A₀ base h₀ L m s Q E B F X N T hk hd hu hret
  obtain ⟨⟨b1, b2, b3, b4, b5, b6⟩, f1, f2, f3⟩ := hf
  refine seen_ok w la S a0 a1 a2 ts ta0 ta1 ta2 na news ha (by omega) (by omega) (by omega) ⟨by omega, by omega⟩ b1 (by exact lin1 (cx1 _) (.var 0) (.num 300000) (.add (.var 0) (.num 1)) (.num 1048576) 1 1 rfl b2) b3 (by exact lin1 (cx1 _) (.var 0) (.num 300000) (.add (.var 0) (.num 1)) (.num 1048576) 1 1 rfl b4) b5 (by exact lin1 (cx1 _) (.var 0) (.num 300000) (.add (.var 0) (.num 1)) (.num 1048576) 1 1 rfl b6) _ _ _ f1 f2 f3 mean mg mb dp un gd cn cs a ccd cl outer A₀ base h₀ L m s Q E B F X N T hk hd hu fun v add h' tk' R F' N' => ?_
  obtain ⟨q, t0, t1, t2, n, e1, e2, l⟩ := R
  refine hret v add h' tk' ⟨q, t0, t1, t2, n, e1, ?_, l⟩ F' N'
  rw [e2, show wI a0 a1 a2 + 10000 * S - 10000 * S = wI a0 a1 a2 by exact Int.le_antisymm (lin0 (cx2 _ _) (.sub (.add (.var 0) (.mulL 10000 (.var 1))) (.mulL 10000 (.var 1))) (.var 0) 1 rfl) (lin0 (cx2 _ _) (.var 0) (.sub (.add (.var 0) (.mulL 10000 (.var 1))) (.mulL 10000 (.var 1))) 1 rfl), show wQ a0 a1 a2 + 10000 * S - 10000 * S = wQ a0 a1 a2 by exact Int.le_antisymm (lin0 (cx2 _ _) (.sub (.add (.var 0) (.mulL 10000 (.var 1))) (.mulL 10000 (.var 1))) (.var 0) 1 rfl) (lin0 (cx2 _ _) (.var 0) (.sub (.add (.var 0) (.mulL 10000 (.var 1))) (.mulL 10000 (.var 1))) 1 rfl)]
theorem seen_c {w : World} {la : Addr} {S a0 a1 a2 : Int} {ts ta0 ta1 ta2 : Tok} {na : Nat} {news : List (Addr × Obj)}
   (ha : (la, W.listOf #[.int a0 ta0, .int a1 ta1, .int a2 ta2] na) ∈ news) (hS : S = 16 ∨ S = 1024 ∨ S = 262144) (hf : FlOk S a0 a1 a2) :
   CtrC w 2 20 253 [.ref la, .int S ts] news (fun K => ∀ q t0 t1 t2 n, Off1 q news → K (.ref q) [(q, W.listOf #[.int (wY a0 a1 a2) t0, .int (wI a0 a1 a2) t1, .int (wQ a0 a1 a2) t2] n)]) :=
  Ctr.toC (fun K => ∀ q t0 t1 t2 n, Off1 q news → K (.ref q) [(q, W.listOf #[.int (wY a0 a1 a2) t0, .int (wI a0 a1 a2) t1, .int (wQ a0 a1 a2) t2] n)]) (seenW_ok w la S a0 a1 a2 ts ta0 ta1 ta2 na news ha hS hf) (by intro K h _ _ _ R9; obtain ⟨q, t0, t1, t2, n, e1, e2, l⟩ := R9; subst e1 e2; exact h q t0 t1 t2 n l)
theorem fits_ok (w : World) (P : Lmp) (T q lam mx : Addr) (unit x0 x1 x2 x3 x4 : Int) (tu tx0 tx1 tx2 tx3 tx4 : Tok) (kt kq nl nm : Nat) (m0 m1 m2 : Int) (tm0 tm1 tm2 : Tok) (news : List (Addr × Obj))
   (hT : (T, tupO #[.int unit tu, .ref q] kt) ∈ news) (hq : (q, W.listOf #[.int x0 tx0, .int x1 tx1, .int x2 tx2, .int x3 tx3, .int x4 tx4] kq) ∈ news) (hl : (lam, P.all nl) ∈ news) (hP : LampsIn P news) (hO : P.Ok) (hm : (mx, W.listOf #[.int m0 tm0, .int m1 tm1, .int m2 tm2] nm) ∈ news)
   (hf1 : FlOk 262144 (mixAt P [x0, x1, x2, x3, x4] 0) (mixAt P [x0, x1, x2, x3, x4] 1) (mixAt P [x0, x1, x2, x3, x4] 2)) (hf2 : FlOk 1024 m0 m1 m2) (hun : Sm unit)
   (hY : wY (mixAt P [x0, x1, x2, x3, x4] 0) (mixAt P [x0, x1, x2, x3, x4] 1) (mixAt P [x0, x1, x2, x3, x4] 2) ≤ unit * wY m0 m1 m2) (hI : wI (mixAt P [x0, x1, x2, x3, x4] 0) (mixAt P [x0, x1, x2, x3, x4] 1) (mixAt P [x0, x1, x2, x3, x4] 2) = unit * wI m0 m1 m2) (hQ : wQ (mixAt P [x0, x1, x2, x3, x4] 0) (mixAt P [x0, x1, x2, x3, x4] 1) (mixAt P [x0, x1, x2, x3, x4] 2) = unit * wQ m0 m1 m2) :
   Ctr w 4 100 289 [.ref T, .ref lam, .ref mx] news (fun _ v add => v = .bool true ∧ add = []) := by
  intro mean mg mb dp un gd cn cs a ccd cl outer A₀ base h₀ L m s Q E B F X N T hk hd hu hret
  (refine wpAny_call ?_; k_dflt (refine' enterP (news₀ := news) ?k1 ?k2 ?k3 ?k4 ?k5 ?kS ?kA ?kF ?kK ?k6 ?k7 ?k8 ?k9 ?kB ?_ ?c2 ?c3 ?c4 ?c5; (case kA => exact rfl); (case kF => exact rfl); (case kK => assumption); (case k1 => k_asm); (case k2 => k_asm); (case k3 => k_asm); (case k4 => k_asm); (case k5 => k_asm); (case kS => first | exact fun _ h => h | exact List.forall_mem_nil _ | (intro p hp; simp only [List.mem_cons, List.not_mem_nil, or_false] at hp; rcases hp with rfl | hp <;> first | assumption | (rcases hp with rfl | hp <;> first | assumption | (rcases hp with rfl | hp <;> first | assumption | (rcases hp with rfl | hp <;> first | assumption | (rcases hp with rfl | hp <;> first | assumption | (rcases hp with rfl | hp <;> first | assumption | (rcases hp with rfl | hp <;> first | assumption | (rcases hp with rfl | hp <;> first | assumption | (subst hp; assumption))))))))) | (intro p hp; simp only [List.mem_cons, List.not_mem_nil, or_false] at hp; subst hp; assumption)); (case k6 => k_is); (case k7 => k_is); (case k8 => ktr_room); (case k9 => exact BindsTo.of_eq rfl); (case c5 => decide); (case kB => exact locs rfl); (case c2 => exact rfl); (case c3 => exact rfl); (case c4 => exact rfl); k_whole; intro g' L' h' FG' F' N' B' X' T' lt' old'; (try dsimp only); (try k_fold); refine wpLC ?_; intro Qx Ex))
  k_steps
  refine Halt.out ?_
  refine' mix_c ?ha ?hl ?hP ?hO ?k1 ?k2 ?k3 ?k4 ?k5 ?k6 ?k7 ?k8 ?_
  case k4 => k_asm
  case ha => k_mem
  case hl => k_mem
  case hP => repeat' (first | (with_reducible assumption) | refine LampsIn.cons ?_)
  case hO => with_reducible assumption
  case k1 => k_asm
  case k2 => k_asm
  case k3 => k_asm
  case k5 => k_asm
  case k6 => first | exact rfl | assumption
  case k7 => ktr_room
  case k8 => ktr_units
  intro q1 a1 b1 c1 n1 l1 h1 tk1 F1 N9
  (try dsimp only [List.nil_append, List.cons_append] at N9)
  (try dsimp only)
  (try k_fold)
  k_steps
  refine Halt.out ?_
  refine' seen_c ?ha ?hS ?hf ?k1 ?k2 ?k3 ?k4 ?k5 ?k6 ?k7 ?k8 ?_
  case k4 => k_asm
  case ha => k_mem
  case hS => first | exact .inl rfl | exact .inr (.inl rfl) | exact .inr (.inr rfl)
  case hf => with_reducible assumption
  case k1 => k_asm
  case k2 => k_asm
  case k3 => k_asm
  case k5 => k_asm
  case k6 => first | exact rfl | assumption
  case k7 => ktr_room
  case k8 => ktr_units
  intro q2 a2 b2 c2 n2 l2 h2 tk2 F2 N9
  (try dsimp only [List.nil_append, List.cons_append] at N9)
  (try dsimp only)
  (try k_fold)
  k_steps
  refine Halt.out ?_
  refine' seen_c ?ha ?hS ?hf ?k1 ?k2 ?k3 ?k4 ?k5 ?k6 ?k7 ?k8 ?_
  case k4 => k_asm
  case ha => k_mem
  case hS => first | exact .inl rfl | exact .inr (.inl rfl) | exact .inr (.inr rfl)
  case hf => with_reducible assumption
  case k1 => k_asm
  case k2 => k_asm
  case k3 => k_asm
  case k5 => k_asm
  case k6 => first | exact rfl | assumption
  case k7 => ktr_room
  case k8 => ktr_units
  intro q3 a3 b3 c3 n3 l3 h3 tk3 F3 N9
  (try dsimp only [List.nil_append, List.cons_append] at N9)
  (try dsimp only)
  (try k_fold)
  k_steps
  refine Halt.out ?_
  refine' whole_c ?ha ?k1 ?k2 ?k3 ?k4 ?k5 ?k6 ?k7 ?k8 ?_
  case k4 => k_asm
  case ha => k_mem
  case k1 => k_asm
  case k2 => k_asm
  case k3 => k_asm
  case k5 => k_asm
  case k6 => first | exact rfl | assumption
  case k7 => ktr_room
  case k8 => ktr_units
  intro q4 a4 b4 c4 n4 l4 h4 tk4 F4 N9
  (try dsimp only [List.nil_append, List.cons_append] at N9)
  (try dsimp only)
  (try k_fold)
  k_steps
  refine Halt.out ?_
  refine' whole_c ?ha ?k1 ?k2 ?k3 ?k4 ?k5 ?k6 ?k7 ?k8 ?_
  case k4 => k_asm
  case ha => k_mem
  case k1 => k_asm
  case k2 => k_asm
  case k3 => k_asm
  case k5 => k_asm
  case k6 => first | exact rfl | assumption
  case k7 => ktr_room
  case k8 => ktr_units
  intro q5 a5 b5 c5 n5 l5 h5 tk5 F5 N9
  (try dsimp only [List.nil_append, List.cons_append] at N9)
  (try dsimp only)
  (try k_fold)
  repeat' (first
    | (k_dflt ((with_reducible refine mul_int ?_ ?hmul_1); (case hmul_1 => first | (refine mulR ?_; first | (with_reducible assumption) | assumption | (refine Lmp.Ok.sm (by with_reducible assumption) ?_ _; first | decide | exact lt5 (by with_reducible assumption) (Int.lt_of_lt_of_le (by with_reducible assumption) (by decide)))) | (refine mulL ?_; first | (with_reducible assumption) | assumption | (refine Sm.of ?_ ?_ <;> decide)))))
    | (k_unfold; (try dsimp only)) | (k_end; wrow_close) | walk1 | (dsimp only; walk1) | (leave1; try dsimp only))
  · rename_i h8 F8 N8 l8
    refine ⟨_, _, _, F8, N8, fun p hp => by repeat' (first | exact hp | refine List.mem_cons_of_mem _ ?_), fun F N => hret _ [] _ _ ⟨?_, rfl⟩ F (pick0 N)⟩
    refine congrArg Value.bool (decide_eq_true ?_)
    show [wI _ _ _, wQ _ _ _] = [unit * wI m0 m1 m2, unit * wQ m0 m1 m2]
    rw [hI, hQ]
  · rename_i hc
    exact absurd hY hc
end
section
open PySem.Calls
open PyProof.Rows.LCg
local macro_rules | `(tactic| walk_at "eval ListComp") => `(tactic| (k_here; with_reducible refine halt_in ?_))
local macro_rules | `(tactic| walk_at "subscriptTail Name Slice ref ref") => `(tactic| (k_here; with_reducible refine halt_in ?_))
local macro_rules | `(tactic| walk_at "CompSrc") => `(tactic| (k_here; with_reducible refine halt_in ?_))
noncomputable abbrev CtrB (w : World) (d u : Nat) (f : Addr) (vs : List Value) (Pre : Heap → Prop) (news : List (Addr × Obj)) (Ret : Heap → Value → List (Addr × Obj) → Prop) : Prop :=
  ∀ (mean : ExcName → Option Value) (mg mb : Str → Option Value) (dp un : Nat) (gd : Option (List Code)) (cn : Str) (cs : Scope) (a : Addr) (ccd : Value) (cl : List (Str × Addr)) (outer : List Env) (A₀ : Around) (base h₀ : Heap) (L : Addr) (m : Str → Option Value) (s : Shared) (Q E : Value → Shared → Prop),
    Below A₀ base outer h₀ → Fr h₀ L s.heap m → (_root_.hd.heap_39 w.params).In h₀ → News h₀ L s.heap news → Top V0 loose0 mean mg mb h₀ → cs.kind = .function → dp + d < recursionLimit → un + u < cLine → Pre h₀ →
    (∀ (v : Value) (add : List (Addr × Obj)) (h' : Heap) (tk' : Nat), Ret s.heap v add → Fr h₀ L h' m → News h₀ L h' (add ++ news) → Q v { s with heap := h', toks := tk' }) →
    wpAny (model PP w) (ktrTop dp un gd cn cs L a ccd cl outer) (call (.ref f) vs) Q E s
theorem numbersB_ok (w : World) (la : Addr) (vs : List Value) (ns : List Int) (news : List (Addr × Obj)) (hI : IntsAre vs ns) (hlen : ns.length ≤ 63) :
   CtrB w 1 20 217 [.ref la] (fun h₀ => h₀.IsList la vs.toArray) news (fun _ v add => ∃ D ys ms, v = .ref D ∧ add = [(D, lst ys)] ∧ IntsAre ys ms ∧ ms.length = 5 ∧ (∀ k ∈ ms, 0 ≤ k ∧ k < 4608) ∧ Off1 D news) := by
  intro mean mg mb dp un gd cn cs a ccd cl outer A₀ base h₀ L m s Q E B F X N T hk hd hu hpre hret
  (refine wpAny_call ?_; k_dflt (refine' enterPC (news₀ := []) ?k1 ?k2 ?k3 ?k4 ?k5 ?kS ?kA ?kF ?kK ?k6 ?k7 ?k8 ?k9 ?kB ?kD ?_ ?c2 ?c3 ?c4; (case kA => exact rfl); (case kF => exact rfl); (case kK => assumption); (case k1 => k_asm); (case k2 => k_asm); (case k3 => k_asm); (case k4 => k_asm); (case k5 => k_asm); (case kS => first | exact fun _ h => h | exact List.forall_mem_nil _ | (intro p hp; simp only [List.mem_cons, List.not_mem_nil, or_false] at hp; rcases hp with rfl | hp <;> first | assumption | (rcases hp with rfl | hp <;> first | assumption | (rcases hp with rfl | hp <;> first | assumption | (rcases hp with rfl | hp <;> first | assumption | (rcases hp with rfl | hp <;> first | assumption | (rcases hp with rfl | hp <;> first | assumption | (rcases hp with rfl | hp <;> first | assumption | (rcases hp with rfl | hp <;> first | assumption | (subst hp; assumption))))))))) | (intro p hp; simp only [List.mem_cons, List.not_mem_nil, or_false] at hp; subst hp; assumption)); (case k6 => k_is); (case k7 => k_is); (case k8 => ktr_room); (case k9 => exact BindsTo.of_eq rfl); (case kB => exact rfl); (case kD => decide); (case c2 => exact rfl); (case c3 => exact rfl); (case c4 => exact rfl); k_whole; intro g' L' h' tk' cells' FG' F' N' Y' B' X' T' lt' old'; (try dsimp only); k_cells Y'; (try simp only [List.cons_append, List.nil_append, List.append_nil] at N'); (try k_fold); refine wpLA ?_; intro Ax Qx Ex))
  have hpre2 : g'.IsList la vs.toArray := by obtain ⟨o, e, r⟩ := hpre; exact ⟨o, FG'.keep _ _ e, r⟩
  k_steps
  refine Halt.out ?_
  refine LCg.ListComp_U (by k_asm) rfl (by decide) rfl (by decide) rfl ?_
  k_steps
  refine Halt.out ?_
  refine LCg.CompSrc.range (n := 5) rfl (by k_asm) (by k_asm) (by k_asm) rfl rfl (by decide) ?_
  intro g
  have hsz : vs.length ≤ sizeLine := Nat.le_trans (Nat.le_of_eq hI.length) (Nat.le_trans hlen (by decide))
  refine rest_rangeF (fun i ys => ∃ ms, IntsAre ys ms ∧ ms.length = i ∧ ∀ k ∈ ms, 0 ≤ k ∧ k < 4608) trivial ⟨[], .nil, rfl, fun _ h => absurd h List.not_mem_nil⟩ ?_ ?_
  · intro i ys kk t I oI C oC D m₂ h tk E' hi hkk hJ hC hX F N
    refine wpLA ?_
    intro AQt Qt Et
    (try simp only [List.cons_append, List.nil_append] at N)
    have hlo : 0 ≤ kk := by exact lin2 (cx2 _ _) (.var 0) (.var 1) (.num 0) (.var 0) (.num 0) (.var 1) 1 1 1 rfl (ieq2 hkk) (nn _)
    have hhi : kk < 5 := by exact lin2 (cx2 _ _) (.add (.var 0) (.num 1)) (.num 5) (.var 1) (.var 0) (.add (.var 1) (.num 1)) (.num 5) 1 1 1 rfl (nlt hi) (ieq1 hkk)
    k_steps
    refine Halt.out ?_
    refine slice_list3 (by k_asm) (by k_asm) (by is_list) (.int _ _) .none (.int _ _) (by decide) ?_ (by with_unfolding_all rfl) (by intro _; with_unfolding_all rfl) (by rw [List.size_toArray]; exact hsz)
    intro h8 F8 N8
    have hP : IntsAre (slicePick vs.toArray (some kk) none (some 5)).toList (pickNums ns (some kk) none (some 5)) := hI.pick _ _ _
    have hPl : (pickNums ns (some kk) none (some 5)).length ≤ 63 := Nat.le_trans (length_pickNums_le hI _ _ _) hlen
    generalize (slicePick vs.toArray (some kk) none (some 5)) = pv at N8 hP
    generalize pickNums ns (some kk) none (some 5) = pn at hP hPl
    k_steps
    refine (EndF.intro (by k_asm) (by k_asm) (fun p hp => by repeat' (first | exact hp | refine List.mem_cons_of_mem _ ?_)) ?_)
    refine ob1 hJ fun ms hm => un3 hm fun hm1 hm2 hm3 => ⟨_, IntsAre.append hm1 (ints_one rfl), by rw [List.length_append, hm2]; rfl, ?_⟩
    intro k hk
    rcases List.mem_append.mp hk with hk | hk
    · exact hm3 k hk
    · rw [List.mem_singleton.mp hk, Int.fmod_eq_emod_of_nonneg _ (by decide)]
      exact ⟨lin1 (cx1 _) (.num 0) (.var 0) (.num 0) (.var 0) 1 1 rfl (md1 _ (by decide)), lin1 (cx1 _) (.add (.var 0) (.num 1)) (.num 4608) (.add (.var 0) (.num 1)) (.num 4608) 1 1 rfl (md2 _ (by decide))⟩
  · intro ys hJ
    refine ob1 hJ fun ms hm => un3 hm fun hm1 hm2 hm3 => ?_
    intro D h9 tk9 F9 N9 o9
    (try simp only [List.cons_append, List.nil_append] at N9)
    exact ⟨_, _, _, F9, N9, fun p hp => by repeat' (first | exact hp | refine List.mem_cons_of_mem _ ?_), fun F N => hret _ [_] _ _ ⟨D, ys, ms, rfl, rfl, hm1, hm2, hm3, off_old old' (N9 _ List.mem_cons_self).2.2⟩ F (pick1 N)⟩
end
section
open PySem.Calls
open PyProof.Rows.LCg
local macro_rules | `(tactic| walk_at "eval ListComp") => `(tactic| (k_here; with_reducible refine halt_in ?_))
local macro_rules | `(tactic| walk_at "exec Assign cons ListComp") => `(tactic| (k_here; with_reducible refine halt_in ?_))
local macro_rules | `(tactic| walk_at "eval IfExp") => `(tactic| (k_here; with_reducible refine halt_in ?_))
local macro_rules | `(tactic| walk_at "CompSrc") => `(tactic| (k_here; with_reducible refine halt_in ?_))
noncomputable def baseZ (lit : List Int) (T : Int) (k : Nat) : Int := if ((0 : Int) + (k : Int)) ∈ lit then 8 * (if T < 0 then -T else T) else 0
theorem crossRL_ok (w : World) (P : Lmp) (q : Addr) (j nq : Nat) (r0 r1 r2 : Int) (t0 t1 t2 : Tok) (hj : j < 5) (news : List (Addr × Obj)) (hq : (q, W.listOf #[.int r0 t0, .int r1 t1, .int r2 t2] nq) ∈ news) (hP : LampsIn P news) (hO : P.Ok) :
   Ctr w 1 8 243 [.ref q, .ref (P.l j)] news (fun _ v add => add = [] ∧ ∃ t, v = .int ((r0 - r2) * (P.y j - P.z j) - (r1 - r2) * (P.x j - P.z j)) t) := by
  have h4 := hO.x j hj; have h5 := hO.y j hj; have h6 := hO.z j hj
  exact cross_ok w q (P.l j) r0 r1 r2 (P.x j) (P.y j) (P.z j) _ _ _ _ _ _ _ _ news hq (hP j hj) ⟨by exact lin1 (cx1 _) (.num 0) (.var 0) (.add (.neg (.num 18446744073709551616)) (.num 1)) (.var 0) 1 1 rfl h4.1, by exact lin1 (cx1 _) (.var 0) (.num 15) (.add (.var 0) (.num 1)) (.num 18446744073709551616) 1 1 rfl h4.2⟩ ⟨by exact lin1 (cx1 _) (.num 0) (.var 0) (.add (.neg (.num 18446744073709551616)) (.num 1)) (.var 0) 1 1 rfl h6.1, by exact lin1 (cx1 _) (.var 0) (.num 15) (.add (.var 0) (.num 1)) (.num 18446744073709551616) 1 1 rfl h6.2⟩ ⟨by exact lin2 (cx2 _ _) (.num 0) (.var 0) (.var 1) (.num 15) (.add (.neg (.num 18446744073709551616)) (.num 1)) (.sub (.var 0) (.var 1)) 1 1 1 rfl h4.1 h6.2, by exact lin2 (cx2 _ _) (.var 0) (.num 15) (.num 0) (.var 1) (.add (.sub (.var 0) (.var 1)) (.num 1)) (.num 18446744073709551616) 1 1 1 rfl h4.2 h6.1⟩ ⟨by exact lin2 (cx2 _ _) (.num 0) (.var 0) (.var 1) (.num 15) (.add (.neg (.num 18446744073709551616)) (.num 1)) (.sub (.var 0) (.var 1)) 1 1 1 rfl h5.1 h6.2, by exact lin2 (cx2 _ _) (.var 0) (.num 15) (.num 0) (.var 1) (.add (.sub (.var 0) (.var 1)) (.num 1)) (.num 18446744073709551616) 1 1 1 rfl h5.2 h6.1⟩
noncomputable def Rb (r : Int) : Prop := -100000 ≤ r ∧ r ≤ 100000
theorem crossLR_ok (w : World) (P : Lmp) (q : Addr) (j nq : Nat) (r0 r1 r2 : Int) (t0 t1 t2 : Tok) (hj : j < 5) (b0 : Rb r0) (b1 : Rb r1) (b2 : Rb r2) (news : List (Addr × Obj)) (hq : (q, W.listOf #[.int r0 t0, .int r1 t1, .int r2 t2] nq) ∈ news) (hP : LampsIn P news) :
   Ctr w 1 8 243 [.ref (P.l j), .ref q] news (fun _ v add => add = [] ∧ ∃ t, v = .int ((P.x j - P.z j) * (r1 - r2) - (P.y j - P.z j) * (r0 - r2)) t) := by
  obtain ⟨h1, h2⟩ := b0; obtain ⟨h3, h4⟩ := b1; obtain ⟨h5, h6⟩ := b2
  exact cross_ok w (P.l j) q (P.x j) (P.y j) (P.z j) r0 r1 r2 _ _ _ _ _ _ _ _ news (hP j hj) hq ⟨by exact lin1 (cx1 _) (.neg (.num 100000)) (.var 0) (.add (.neg (.num 18446744073709551616)) (.num 1)) (.var 0) 1 1 rfl h1, by exact lin1 (cx1 _) (.var 0) (.num 100000) (.add (.var 0) (.num 1)) (.num 18446744073709551616) 1 1 rfl h2⟩ ⟨by exact lin1 (cx1 _) (.neg (.num 100000)) (.var 0) (.add (.neg (.num 18446744073709551616)) (.num 1)) (.var 0) 1 1 rfl h5, by exact lin1 (cx1 _) (.var 0) (.num 100000) (.add (.var 0) (.num 1)) (.num 18446744073709551616) 1 1 rfl h6⟩ ⟨by exact lin2 (cx2 _ _) (.neg (.num 100000)) (.var 0) (.var 1) (.num 100000) (.add (.neg (.num 18446744073709551616)) (.num 1)) (.sub (.var 0) (.var 1)) 1 1 1 rfl h1 h6, by exact lin2 (cx2 _ _) (.var 0) (.num 100000) (.neg (.num 100000)) (.var 1) (.add (.sub (.var 0) (.var 1)) (.num 1)) (.num 18446744073709551616) 1 1 1 rfl h2 h5⟩ ⟨by exact lin2 (cx2 _ _) (.neg (.num 100000)) (.var 0) (.var 1) (.num 100000) (.add (.neg (.num 18446744073709551616)) (.num 1)) (.sub (.var 0) (.var 1)) 1 1 1 rfl h3 h6, by exact lin2 (cx2 _ _) (.var 0) (.num 100000) (.neg (.num 100000)) (.var 1) (.add (.sub (.var 0) (.var 1)) (.num 1)) (.num 18446744073709551616) 1 1 1 rfl h4 h5⟩
theorem litZ_in {P : Lmp} {lu : List Int} {a b : Int} {n : Nat} : ∀ x ∈ litZ P lu a b n, 0 ≤ x ∧ x < n := by
  intro x hx
  unfold litZ at hx
  rw [List.mem_filter, List.mem_map] at hx
  obtain ⟨⟨i, hi, rfl⟩, _⟩ := hx
  have := List.mem_range.mp hi
  exact ⟨lin1 (cx1 _) (.num 0) (.var 0) (.num 0) (.add (.num 0) (.var 0)) 1 1 rfl (nn _), lin1 (cx2 _ _) (.add (.var 0) (.num 1)) (.var 1) (.add (.add (.num 0) (.var 0)) (.num 1)) (.var 1) 1 1 rfl (nlt this)⟩
theorem litZ_len {P : Lmp} {lu : List Int} {a b : Int} {n : Nat} : (litZ P lu a b n).length ≤ n := by
  unfold litZ
  refine Nat.le_trans (List.length_filter_le _ _) ?_
  rw [List.length_map, List.length_range]
  exact Nat.le_refl _
noncomputable def restZ (P : Lmp) (ms lit : List Int) (k : Nat) : Int := ms.getD k 0 - 8 * (lit.map fun c => P.at c.toNat k).sum
theorem crossRL_c {w : World} {P : Lmp} {q : Addr} {j nq : Nat} {r0 r1 r2 : Int} {t0 t1 t2 : Tok} {news : List (Addr × Obj)} (hj : j < 5) (hq : (q, W.listOf #[.int r0 t0, .int r1 t1, .int r2 t2] nq) ∈ news) (hP : LampsIn P news) (hO : P.Ok) :
   CtrC w 1 8 243 [.ref q, .ref (P.l j)] news (fun K => ∀ t, K (.int ((r0 - r2) * (P.y j - P.z j) - (r1 - r2) * (P.x j - P.z j)) t) []) :=
  Ctr.toC (fun K => ∀ t, K (.int ((r0 - r2) * (P.y j - P.z j) - (r1 - r2) * (P.x j - P.z j)) t) []) (crossRL_ok w P q j nq r0 r1 r2 t0 t1 t2 hj news hq hP hO) (by intro K h _ _ _ R9; obtain ⟨e1, t, e2⟩ := R9; subst e1 e2; exact h t)
theorem crossLR_c {w : World} {P : Lmp} {q : Addr} {j nq : Nat} {r0 r1 r2 : Int} {t0 t1 t2 : Tok} {news : List (Addr × Obj)} (hj : j < 5) (hq : (q, W.listOf #[.int r0 t0, .int r1 t1, .int r2 t2] nq) ∈ news) (hP : LampsIn P news) (b0 : Rb r0) (b1 : Rb r1) (b2 : Rb r2) :
   CtrC w 1 8 243 [.ref (P.l j), .ref q] news (fun K => ∀ t, K (.int ((P.x j - P.z j) * (r1 - r2) - (P.y j - P.z j) * (r0 - r2)) t) []) :=
  Ctr.toC (fun K => ∀ t, K (.int ((P.x j - P.z j) * (r1 - r2) - (P.y j - P.z j) * (r0 - r2)) t) []) (crossLR_ok w P q j nq r0 r1 r2 t0 t1 t2 hj b0 b1 b2 news hq hP) (by intro K h _ _ _ R9; obtain ⟨e1, t, e2⟩ := R9; subst e1 e2; exact h t)
theorem ifx {n : Int} {s : Shared} {hp : Heap} {v : Value} {s' : Shared} {G : Value → Shared → Prop} (h : Halt (∃ t tk, v = .int n t ∧ s' = { s with heap := hp, toks := tk })) (k : ∀ t tk, G (.int n t) { s with heap := hp, toks := tk }) : G v s' := by
  obtain ⟨t, tk, e1, e2⟩ := (show ∃ t tk, v = .int n t ∧ s' = { s with heap := hp, toks := tk } from h)
  rw [e1, e2]; exact k t tk
noncomputable def amtsZ (P : Lmp) (lu ms : List Int) (a b : Int) : List Int :=
  (((List.range 5).map (baseZ (litZ P lu a b 5) (P.G a.toNat b.toNat))).set a.toNat ((if P.G a.toNat b.toNat > 0 then (1 : Int) else -1) * ((restZ P ms (litZ P lu a b 5) 0 - restZ P ms (litZ P lu a b 5) 2) * (P.y b.toNat - P.z b.toNat) - (restZ P ms (litZ P lu a b 5) 1 - restZ P ms (litZ P lu a b 5) 2) * (P.x b.toNat - P.z b.toNat)))).set b.toNat
    ((if P.G a.toNat b.toNat > 0 then (1 : Int) else -1) * ((P.x a.toNat - P.z a.toNat) * (restZ P ms (litZ P lu a b 5) 1 - restZ P ms (litZ P lu a b 5) 2) - (P.y a.toNat - P.z a.toNat) * (restZ P ms (litZ P lu a b 5) 0 - restZ P ms (litZ P lu a b 5) 2)))
theorem off1_mem {d : Addr} : ∀ {l : List (Addr × Obj)}, Off1 d l → ∀ p ∈ l, p.1 ≠ d
  | [], _, _, h => nomatch h
  | _ :: _, x, p, h => by
    rcases List.mem_cons.mp h with rfl | h
    · exact x.1
    · exact off1_mem x.2 p h
theorem base_in {lz : List Int} {i : Nat} {k : Int} (hk : k = (i : Int)) (h : (lz.any fun x => x == k) = true) (T : Int) : 8 * (if T < 0 then -T else T) = baseZ lz T i := by
  unfold baseZ
  obtain ⟨x, hx, e⟩ := List.any_eq_true.mp h
  have hm : (0 : Int) + (i : Int) ∈ lz := by rw [Int.zero_add, ← hk, ← eq_of_beq e]; exact hx
  rw [if_pos hm]
theorem base_out {lz : List Int} {i : Nat} {k : Int} (hk : k = (i : Int)) (h : (lz.any fun x => x == k) = false) (T : Int) : 0 = baseZ lz T i := by
  unfold baseZ
  have hm : ¬ (0 : Int) + (i : Int) ∈ lz := fun hm => by
    have : (lz.any fun x => x == k) = true := List.any_eq_true.mpr ⟨_, hm, by rw [Int.zero_add, hk]; exact beq_self_eq_true _⟩
    rw [h] at this; cases this
  rw [if_neg hm]
local macro_rules | `(tactic| walk_at "setItem ref int") => `(tactic| (k_here; with_reducible refine halt_in ?_))
theorem restZ_b {P : Lmp} (hO : P.Ok) {ms lit : List Int} {k : Nat} (hm : 0 ≤ ms.getD k 0 ∧ ms.getD k 0 ≤ 2000) (hl : lit.length ≤ 5) (hlz : ∀ x ∈ lit, 0 ≤ x ∧ x < 5) : Rb (restZ P ms lit k) := by
  have key : ∀ (l : List Int), (∀ x ∈ l, 0 ≤ x ∧ x < 5) → 0 ≤ (l.map fun c => P.at c.toNat k).sum ∧ (l.map fun c => P.at c.toNat k).sum ≤ 15 * (l.length : Int) := by
    intro l
    induction l with
    | nil => intro _; exact ⟨Int.le_refl _, Int.le_refl _⟩
    | cons a l ih =>
      intro h
      have h1 := ih (fun x hx => h x (List.mem_cons_of_mem _ hx))
      have h2 := h a List.mem_cons_self
      have h3 := hO.at (i := a.toNat) (by exact gnlt (lin2 (cx2 _ _) (.add (.var 0) (.num 1)) (.num 5) (.var 1) (.var 0) (.add (.var 1) (.num 1)) (.num 5) 1 1 1 rfl h2.2 (tn2 (lin1 (cx1 _) (.num 0) (.var 0) (.num 0) (.var 0) 1 1 rfl h2.1)))) k
      rw [List.map_cons, List.sum_cons, List.length_cons]
      exact ⟨lin2 (cx2 _ _) (.num 0) (.var 0) (.num 0) (.var 1) (.num 0) (.add (.var 1) (.var 0)) 1 1 1 rfl h1.1 h3.1, lin2 (cx3 _ _ _) (.var 0) (.mulL 15 (.var 1)) (.var 2) (.num 15) (.add (.var 2) (.var 0)) (.mulL 15 (.add (.var 1) (.num 1))) 1 1 1 rfl h1.2 h3.2⟩
  have h := key lit hlz
  unfold restZ Rb
  exact ⟨lin3 (cx3 _ _ _) (.num 0) (.var 0) (.var 1) (.num 5) (.var 2) (.mulL 15 (.var 1)) (.neg (.num 100000)) (.sub (.var 0) (.mulL 8 (.var 2))) 1 120 8 1 rfl hm.1 (nle hl) h.2, lin2 (cx2 _ _) (.var 0) (.num 2000) (.num 0) (.var 1) (.sub (.var 0) (.mulL 8 (.var 1))) (.num 100000) 1 8 1 rfl hm.2 h.1⟩
theorem amts_ok (w : World) (P : Lmp) (lam lua mx : Addr) (nl nu nm : Nat) (ia ib : Int) (ta tb : Tok) (u0 u1 u2 u3 u4 : Int) (tu0 tu1 tu2 tu3 tu4 : Tok) (m0 m1 m2 : Int) (tm0 tm1 tm2 : Tok) (news : List (Addr × Obj))
   (hl : (lam, P.all nl) ∈ news) (hP : LampsIn P news) (hO : P.Ok) (hu : (lua, W.listOf #[.int u0 tu0, .int u1 tu1, .int u2 tu2, .int u3 tu3, .int u4 tu4] nu) ∈ news) (hm : (mx, W.listOf #[.int m0 tm0, .int m1 tm1, .int m2 tm2] nm) ∈ news)
   (ha0 : 0 ≤ ia) (hab : ia < ib) (hb5 : ib < 5) (ht : P.G ia.toNat ib.toNat ≠ 0) (hus : ∀ x ∈ [u0, u1, u2, u3, u4], 0 ≤ x ∧ x ≤ 2000) (hms : ∀ x ∈ [m0, m1, m2], 0 ≤ x ∧ x ≤ 2000) :
   Ctr w 3 60 270 [.ref lam, .ref lua, .ref mx, .int ia ta, .int ib tb] news (fun _ v add => ∃ D ys k, v = .ref D ∧ add = [(D, W.listOf (List.toArray ys) k)] ∧ IntsAre ys (amtsZ P [u0, u1, u2, u3, u4] [m0, m1, m2] ia ib) ∧ Off1 D news) := by
  intro mean mg mb dp un gd cn cs a ccd cl outer A₀ base h₀ L m s Q E B F X N T hk hd hu hret
  (refine wpAny_call ?_; k_dflt (refine' enterPC (news₀ := news) ?k1 ?k2 ?k3 ?k4 ?k5 ?kS ?kA ?kF ?kK ?k6 ?k7 ?k8 ?k9 ?kB ?kD ?_ ?c2 ?c3 ?c4; (case kA => exact rfl); (case kF => exact rfl); (case kK => assumption); (case k1 => k_asm); (case k2 => k_asm); (case k3 => k_asm); (case k4 => k_asm); (case k5 => k_asm); (case kS => first | exact fun _ h => h | exact List.forall_mem_nil _ | (intro p hp; simp only [List.mem_cons, List.not_mem_nil, or_false] at hp; rcases hp with rfl | hp <;> first | assumption | (rcases hp with rfl | hp <;> first | assumption | (rcases hp with rfl | hp <;> first | assumption | (rcases hp with rfl | hp <;> first | assumption | (rcases hp with rfl | hp <;> first | assumption | (rcases hp with rfl | hp <;> first | assumption | (rcases hp with rfl | hp <;> first | assumption | (rcases hp with rfl | hp <;> first | assumption | (subst hp; assumption))))))))) | (intro p hp; simp only [List.mem_cons, List.not_mem_nil, or_false] at hp; subst hp; assumption)); (case k6 => k_is); (case k7 => k_is); (case k8 => ktr_room); (case k9 => exact BindsTo.of_eq rfl); (case kB => exact rfl); (case kD => decide); (case c2 => exact rfl); (case c3 => exact rfl); (case c4 => exact rfl); k_whole; intro g' L' h' tk' cells' FG' F' N' Y' B' X' T' lt' old'; (try dsimp only); k_cells Y'; (try simp only [List.cons_append, List.nil_append, List.append_nil] at N'); (try k_fold); refine wpLA ?_; intro Ax Qx Ex))
  have ha5 : ia < 5 := by exact lin2 (cx2 _ _) (.add (.var 0) (.num 1)) (.var 1) (.add (.var 1) (.num 1)) (.num 5) (.add (.var 0) (.num 1)) (.num 5) 1 1 1 rfl hab hb5
  have hb0 : 0 ≤ ib := by exact lin2 (cx2 _ _) (.num 0) (.var 0) (.add (.var 0) (.num 1)) (.var 1) (.num 0) (.var 1) 1 1 1 rfl ha0 hab
  have hf : ∀ j : Nat, ∀ p ∈ news, p.1 ≠ L' + j := fun j p hp => Nat.ne_of_lt (Nat.lt_of_lt_of_le (lt' p hp) (Nat.le_add_right _ _))
  have hf1 : ∀ p ∈ news, p.1 ≠ L' + 1 := hf 1
  have hf2 : ∀ p ∈ news, p.1 ≠ L' + 1 + 1 := hf 2
  have hf3 : ∀ p ∈ news, p.1 ≠ L' + 1 + 1 + 1 := hf 3
  have hf4 : ∀ p ∈ news, p.1 ≠ L' + 1 + 1 + 1 + 1 := hf 4
  k_steps
  refine Halt.out ?_
  refine' lit_c ?hl ?hP ?hO ?hu ?ha0 ?hab ?hb5 ?ht ?hus ?k1 ?k2 ?k3 ?k4 ?k5 ?k6 ?k7 ?k8 ?_
  case k4 => k_asm
  case hl => k_mem
  case hP => repeat' (first | (with_reducible assumption) | refine LampsIn.cons ?_)
  case hO => with_reducible assumption
  case hu => k_mem
  case ha0 => with_reducible assumption
  case hab => with_reducible assumption
  case hb5 => with_reducible assumption
  case ht => with_reducible assumption
  case hus => with_reducible assumption
  case k1 => k_asm
  case k2 => k_asm
  case k3 => k_asm
  case k5 => k_asm
  case k6 => first | exact rfl | assumption
  case k7 => ktr_room
  case k8 => ktr_units
  intro D9 y9 k9 I9 l9 h91 tk91 F91 N9
  (try dsimp only [List.nil_append, List.cons_append] at N9)
  (try dsimp only)
  (try k_fold)
  (try simp only [LCg.Off1, and_true] at l9)
  repeat' (first
    | ((with_reducible show wpAny _ _ (subscriptTail _ _ (Value.ref _) (Value.int _ _)) _ _ _); k_dflt ((with_unfolding_all (refine' lamps_sub ?k1_1 ?k2_1 ?k3_1 ?k4_1 ?_ ?k5_1)); (case k1_1 => k_asm); (case k2_1 => k_mem); (case k3_1 => first | decide | (with_reducible assumption)); (case k4_1 => first | decide | (exact Int.lt_of_lt_of_le (by with_reducible assumption) (by decide))); (case k5_1 => with_unfolding_all rfl); k_whole))
    | (k_unfold; (try dsimp only)) | (k_end; wrow_close) | walk1 | (dsimp only; walk1) | (leave1; try dsimp only))
  refine Halt.out ?_
  refine' crossL_c ?hi ?hj ?hP ?hO ?k1 ?k2 ?k3 ?k4 ?k5 ?k6 ?k7 ?k8 ?_
  case k4 => k_asm
  case hi => exact lt5 (by with_reducible assumption) (by with_reducible assumption)
  case hj => exact lt5 (by with_reducible assumption) (by with_reducible assumption)
  case hP => repeat' (first | (with_reducible assumption) | refine LampsIn.cons ?_)
  case hO => with_reducible assumption
  case k1 => k_asm
  case k2 => k_asm
  case k3 => k_asm
  case k5 => k_asm
  case k6 => first | exact rfl | assumption
  case k7 => ktr_room
  case k8 => ktr_units
  intro t92 h92 tk92 F92 N9
  (try dsimp only [List.nil_append, List.cons_append] at N9)
  (try dsimp only)
  (try k_fold)
  k_steps
  rename_i hp oTurn F4 N4 dTurn
  generalize hlitz : litZ P [u0, u1, u2, u3, u4] ia ib 5 = lz at I9
  have hlz : ∀ x ∈ lz, 0 ≤ x ∧ x < 5 := hlitz ▸ litZ_in
  have hll : lz.length ≤ 5 := hlitz ▸ litZ_len
  have hyl : y9.length ≤ 5 := Nat.le_trans (Nat.le_of_eq I9.length) hll
  refine Halt.out ?_
  refine wpAny_mono (Q := fun v s' => Halt (∃ t tk, v = .int (if P.G ia.toNat ib.toNat > 0 then 1 else -1) t ∧ s' = { s with heap := hp, toks := tk })) ?_ ?_ (fun _ _ e => e)
  · refine wpAny_IfExp ?_
    k_steps
    · exact Halt.out ⟨_, _, by rw [if_pos (by assumption)], rfl⟩
    · exact Halt.out ⟨_, _, by rw [if_neg (by assumption)], rfl⟩
  intro v s' hx
  apply ifx hx
  clear hx v s'
  intro tsd tk
  generalize hsd : (if P.G ia.toNat ib.toNat > 0 then (1 : Int) else -1) = sd
  k_steps
  refine Halt.out ?_
  refine Assign_ListComp_CR (n := 3) (by k_asm) rfl rfl (fun _ => rfl) (fun _ => rfl) rfl (by decide) rfl rfl rfl rfl (by decide) rfl rfl ?_
  k_steps
  refine ⟨_, _, _, _, _, rfl, by k_asm, by k_asm, by k_asm, fun g => ?_⟩
  refine RestC.rangeF (fun i ys => IntsAre ys ((List.range i).map (restZ P [m0, m1, m2] lz))) trivial .nil ?_ ?_
  · intro i ys c t I oI C oC X oX D h tk E' hi hc hJ hX F N
    refine wpLA ?_
    intro AQt Qt Et
    have hlo : 0 ≤ c := by exact lin2 (cx2 _ _) (.var 0) (.var 1) (.num 0) (.var 0) (.num 0) (.var 1) 1 1 1 rfl (ieq2 hc) (nn _)
    have hhi : c < 3 := by exact lin2 (cx2 _ _) (.add (.var 0) (.num 1)) (.num 3) (.var 1) (.var 0) (.add (.var 1) (.num 1)) (.num 3) 1 1 1 rfl (nlt hi) (ieq1 hc)
    repeat' (first
      | ((with_reducible show wpAny _ _ (subscriptTail _ _ (Value.ref _) (Value.int _ _)) _ _ _); k_dflt ((with_unfolding_all (refine' ints_sub ?kn_2 ?km_2 ?k2_2 ?k3_2 ?k4_2 ?k5_2 ?_ ?k8_2 ?k9_2)); (case kn_2 => k_asm); (case km_2 => k_mem); (case k2_2 => with_reducible l_ints); (case k8_2 => with_unfolding_all rfl); (case k9_2 => intro _; with_unfolding_all rfl); (case k3_2 => first | decide | (with_reducible assumption)); (case k4_2 => first | (simp only [List.length_cons, List.length_nil]; decide) | (exact Int.lt_of_lt_of_le (by with_reducible assumption) (by simp only [List.length_cons, List.length_nil]; decide))); (case k5_2 => first | decide | (exact Int.lt_of_lt_of_le (by with_reducible assumption) (by decide))); k_whole; intro _))
      | (k_unfold; (try dsimp only)) | (k_end; wrow_close) | walk1 | (dsimp only; walk1) | (leave1; try dsimp only))
    refine Halt.out ?_
    refine LCg.ListComp_U (by k_asm) rfl (by decide) rfl (by decide) rfl ?_
    k_steps
    refine Halt.out ?_
    refine LCg.CompSrc.ledger rfl (by k_asm) (by k_asm) (show (D9, W.listOf y9.toArray k9) ∈ _ by repeat' (first | exact List.mem_cons_self | refine List.mem_cons_of_mem _ ?_)) (by rw [List.size_toArray]; exact Nat.le_trans hyl (by decide)) ?_
    intro g2
    refine rest_intsPF I9 (fun x => P.at x.toNat c.toNat) (.inr ⟨_, (show (D9, W.listOf y9.toArray k9) ∈ _ by repeat' (first | exact List.mem_cons_self | refine List.mem_cons_of_mem _ ?_)), rfl, _, rfl⟩) ?_ ?_
    · intro zs n t2 I2 oI2 C2 oC2 D2 m2 h2 tk2 E2 hn hC2 hX2 F2 N2
      have hnb := hlz n hn
      have hn0 := hnb.1
      have hn5 := hnb.2
      refine wpLA ?_
      intro AQu Qu Eu
      repeat' (first
        | ((with_reducible show wpAny _ _ (subscriptTail _ _ (Value.ref _) (Value.int _ _)) _ _ _); k_dflt ((with_unfolding_all (refine' lamps_sub ?k1_3 ?k2_3 ?k3_3 ?k4_3 ?_ ?k5_3)); (case k1_3 => k_asm); (case k2_3 => k_mem); (case k3_3 => first | decide | (with_reducible assumption)); (case k4_3 => first | decide | (exact Int.lt_of_lt_of_le (by with_reducible assumption) (by decide))); (case k5_3 => with_unfolding_all rfl); k_whole))
        | ((with_reducible show wpAny _ _ (subscriptTail _ _ (Value.ref (Lmp.l _ _)) (Value.int _ _)) _ _ _); k_dflt ((with_unfolding_all (refine' lamp_sub ?k1_4 ?k2_4 ?k3_4 ?k4_4 ?k5_4 ?_ ?k7_4)); (case k1_4 => k_asm); (case k2_4 => repeat' (first | (with_reducible assumption) | refine LampsIn.cons ?_)); (case k3_4 => first | decide | exact lt5 (by with_reducible assumption) (Int.lt_of_lt_of_le (by with_reducible assumption) (by decide))); (case k4_4 => first | decide | (with_reducible assumption)); (case k5_4 => first | decide | (exact Int.lt_of_lt_of_le (by with_reducible assumption) (by decide))); (case k7_4 => with_unfolding_all rfl); k_whole; intro _))
        | (k_unfold; (try dsimp only)) | (k_end; wrow_close) | walk1 | (dsimp only; walk1) | (leave1; try dsimp only))
      exact (EndF.intro (by k_asm) (by k_asm) (fun p hp => by repeat' (first | exact hp | refine List.mem_cons_of_mem _ ?_)) ⟨_, rfl⟩)
    · intro zs hJ2 D2 h2 tk2 F2 N2 off2
      k_steps
      refine (EndF.intro (by k_asm) (by k_asm) (fun p hp => by repeat' (first | exact hp | refine List.mem_cons_of_mem _ ?_)) ?_)
      rw [List.range_succ, List.map_append]
      refine IntsAre.append hJ (ints_one ?_)
      rw [hc]
      show _ = restZ P [m0, m1, m2] lz i
      unfold restZ
      rw [Int.toNat_natCast]
  · intro ys hJ
    intro D h9 tk9 F9 N9 o9
    refine ob3 (ints3 hJ) fun t0 t1 t2 eys => ?_
    rw [eys] at N9
    generalize hr0 : restZ P [m0, m1, m2] lz 0 = r0 at N9
    generalize hr1 : restZ P [m0, m1, m2] lz 1 = r1 at N9
    generalize hr2 : restZ P [m0, m1, m2] lz 2 = r2 at N9
    have hb0' : Rb r0 := hr0 ▸ restZ_b hO (hms m0 (by simp)) hll hlz
    have hb1' : Rb r1 := hr1 ▸ restZ_b hO (hms m1 (by simp)) hll hlz
    have hb2' : Rb r2 := hr2 ▸ restZ_b hO (hms m2 (by simp)) hll hlz
    k_steps
    refine Halt.out ?_
    refine LCg.Assign_ListComp_U (by k_asm) rfl rfl rfl (by decide) rfl (by decide) rfl rfl rfl ?_
    k_steps
    refine Halt.out ?_
    refine LCg.CompSrc.range (n := 5) rfl (by k_asm) (by k_asm) (by k_asm) rfl rfl (by decide) ?_
    intro g
    refine rest_rangeF (fun i zs => IntsAre zs ((List.range i).map (baseZ lz (P.G ia.toNat ib.toNat)))) trivial .nil ?_ ?_
    · intro i zs kk t I oI C oC D2 m2 h tk E' hi hkk hJ hC hX F N
      refine wpLA ?_
      intro AQt Qt Et
      k_steps
      refine Halt.out ?_
      refine wpAny_IfExp ?_
      k_steps
      · rename_i e1 _ _
        refine (EndF.intro (by k_asm) (by k_asm) (fun p hp => by repeat' (first | exact hp | refine List.mem_cons_of_mem _ ?_)) ?_)
        rw [List.range_succ, List.map_append]
        exact IntsAre.append hJ (ints_one (base_in hkk e1 _))
      · rename_i e1
        refine (EndF.intro (by k_asm) (by k_asm) (fun p hp => by repeat' (first | exact hp | refine List.mem_cons_of_mem _ ?_)) ?_)
        rw [List.range_succ, List.map_append]
        exact IntsAre.append hJ (ints_one (base_out hkk e1 _))
    · intro zs hJ2 D2 h2 tk2 F2 N2 off2
      have u2 := off1_mem off2
      repeat' (first
        | ((with_reducible show wpAny _ _ (subscriptTail _ _ (Value.ref _) (Value.int _ _)) _ _ _); k_dflt ((with_unfolding_all (refine' lamps_sub ?k1_5 ?k2_5 ?k3_5 ?k4_5 ?_ ?k5_5)); (case k1_5 => k_asm); (case k2_5 => k_mem); (case k3_5 => first | decide | (with_reducible assumption)); (case k4_5 => first | decide | (exact Int.lt_of_lt_of_le (by with_reducible assumption) (by decide))); (case k5_5 => with_unfolding_all rfl); k_whole))
        | (k_unfold; (try dsimp only)) | (k_end; wrow_close) | walk1 | (dsimp only; walk1) | (leave1; try dsimp only))
      refine Halt.out ?_
      refine' crossRL_c ?hj ?hq ?hP ?hO ?k1 ?k2 ?k3 ?k4 ?k5 ?k6 ?k7 ?k8 ?_
      case k4 => k_asm
      case hj => exact lt5 (by with_reducible assumption) (by with_reducible assumption)
      case hq => repeat' (first | exact List.mem_cons_self | refine List.mem_cons_of_mem _ ?_)
      case hP => repeat' (first | (with_reducible assumption) | refine LampsIn.cons ?_)
      case hO => with_reducible assumption
      case k1 => k_asm
      case k2 => k_asm
      case k3 => k_asm
      case k5 => k_asm
      case k6 => first | exact rfl | assumption
      case k7 => ktr_room
      case k8 => ktr_units
      intro t93 h93 tk93 F93 N9
      (try dsimp only [List.nil_append, List.cons_append] at N9)
      (try dsimp only)
      (try k_fold)
      k_steps
      refine Halt.out ?_
      refine' ksa_set ?k1 ?k2 ?k3 ?k4 ?k5 ?k6 ?k7 ?_
      case k1 => k_asm
      case k2 => k_asm
      case k3 => exact Upd.head (by with_reducible assumption)
      case k4 => with_reducible assumption
      case k5 => with_reducible assumption
      case k6 => exact Int.lt_of_lt_of_le (b := 5) (by with_reducible assumption) (by (try rw [List.length_set]); simp only [List.length_map, List.length_range]; decide)
      case k7 => exact Int.lt_of_lt_of_le (b := 5) (by with_reducible assumption) (by decide)
      intro h' F' N' hi' hl' hs'
      repeat' (first
        | ((with_reducible show wpAny _ _ (subscriptTail _ _ (Value.ref _) (Value.int _ _)) _ _ _); k_dflt ((with_unfolding_all (refine' lamps_sub ?k1_6 ?k2_6 ?k3_6 ?k4_6 ?_ ?k5_6)); (case k1_6 => k_asm); (case k2_6 => k_mem); (case k3_6 => first | decide | (with_reducible assumption)); (case k4_6 => first | decide | (exact Int.lt_of_lt_of_le (by with_reducible assumption) (by decide))); (case k5_6 => with_unfolding_all rfl); k_whole))
        | (k_unfold; (try dsimp only)) | (k_end; wrow_close) | walk1 | (dsimp only; walk1) | (leave1; try dsimp only))
      refine Halt.out ?_
      refine' crossLR_c ?hj ?hq ?hP ?b0 ?b1 ?b2 ?k1 ?k2 ?k3 ?k4 ?k5 ?k6 ?k7 ?k8 ?_
      case k4 => k_asm
      case hj => exact lt5 (by with_reducible assumption) (by with_reducible assumption)
      case hq => repeat' (first | exact List.mem_cons_self | refine List.mem_cons_of_mem _ ?_)
      case hP => repeat' (first | (with_reducible assumption) | refine LampsIn.cons ?_)
      case b0 => with_reducible assumption
      case b1 => with_reducible assumption
      case b2 => with_reducible assumption
      case k1 => k_asm
      case k2 => k_asm
      case k3 => k_asm
      case k5 => k_asm
      case k6 => first | exact rfl | assumption
      case k7 => ktr_room
      case k8 => ktr_units
      intro t94 h94 tk94 F94 N9
      (try dsimp only [List.nil_append, List.cons_append] at N9)
      (try dsimp only)
      (try k_fold)
      k_steps
      refine Halt.out ?_
      refine' ksa_set ?k1 ?k2 ?k3 ?k4 ?k5 ?k6 ?k7 ?_
      case k1 => k_asm
      case k2 => k_asm
      case k3 => exact Upd.head (by with_reducible assumption)
      case k4 => with_reducible assumption
      case k5 => with_reducible assumption
      case k6 => exact Int.lt_of_lt_of_le (b := 5) (by with_reducible assumption) (by (try rw [List.length_set]); simp only [List.length_map, List.length_range]; decide)
      case k7 => exact Int.lt_of_lt_of_le (b := 5) (by with_reducible assumption) (by decide)
      intro h' F' N' hi' hl' hs'
      k_steps
      refine ⟨_, _, _, by k_asm, by k_asm, (fun p hp => by repeat' (first | exact hp | refine List.mem_cons_of_mem _ ?_)), fun F N => hret _ [_] _ _ ⟨D2, _, _, rfl, rfl, ?_, ?_⟩ F (pick1 N)⟩
      · unfold amtsZ
        rw [hlitz, hsd, hr0, hr1, hr2]
        assumption
      · exact off2.2.2.2.2.2.2
theorem amts_c {w : World} {P : Lmp} {lam lua mx : Addr} {nl nu nm : Nat} {ia ib : Int} {ta tb : Tok} {u0 u1 u2 u3 u4 : Int} {tu0 tu1 tu2 tu3 tu4 : Tok} {m0 m1 m2 : Int} {tm0 tm1 tm2 : Tok} {news : List (Addr × Obj)}
   (hl : (lam, P.all nl) ∈ news) (hP : LampsIn P news) (hO : P.Ok) (hu : (lua, W.listOf #[.int u0 tu0, .int u1 tu1, .int u2 tu2, .int u3 tu3, .int u4 tu4] nu) ∈ news) (hm : (mx, W.listOf #[.int m0 tm0, .int m1 tm1, .int m2 tm2] nm) ∈ news)
   (ha0 : 0 ≤ ia) (hab : ia < ib) (hb5 : ib < 5) (ht : P.G ia.toNat ib.toNat ≠ 0) (hus : ∀ x ∈ [u0, u1, u2, u3, u4], 0 ≤ x ∧ x ≤ 2000) (hms : ∀ x ∈ [m0, m1, m2], 0 ≤ x ∧ x ≤ 2000) :
   CtrC w 3 60 270 [.ref lam, .ref lua, .ref mx, .int ia ta, .int ib tb] news (fun K => ∀ D ys k, IntsAre ys (amtsZ P [u0, u1, u2, u3, u4] [m0, m1, m2] ia ib) → Off1 D news → K (.ref D) [(D, W.listOf (List.toArray ys) k)]) :=
  Ctr.toC (fun K => ∀ D ys k, IntsAre ys (amtsZ P [u0, u1, u2, u3, u4] [m0, m1, m2] ia ib) → Off1 D news → K (.ref D) [(D, W.listOf (List.toArray ys) k)]) (amts_ok w P lam lua mx nl nu nm ia ib ta tb u0 u1 u2 u3 u4 tu0 tu1 tu2 tu3 tu4 m0 m1 m2 tm0 tm1 tm2 news hl hP hO hu hm ha0 hab hb5 ht hus hms) (by intro K h _ _ _ R9; obtain ⟨D, ys, k, e1, e2, I, l⟩ := R9; subst e1 e2; exact h D ys k I l)
end
section
open PySem.Calls
open PyProof.Rows.LCg
local macro_rules | `(tactic| walk_at "eval ListComp") => `(tactic| (k_here; with_reducible refine halt_in ?_))
local macro_rules | `(tactic| walk_at "exec Assign cons ListComp") => `(tactic| (k_here; with_reducible refine halt_in ?_))
local macro_rules | `(tactic| walk_at "eval IfExp") => `(tactic| (k_here; with_reducible refine halt_in ?_))
local macro_rules | `(tactic| walk_at "CompSrc") => `(tactic| (k_here; with_reducible refine halt_in ?_))
local macro_rules | `(tactic| walk_at "exec For Name Call cons nil") => `(tactic| (k_here; with_reducible refine halt_in ?_))
local macro_rules | `(tactic| walk_at "call builtin:min") => `(tactic| (k_here; with_reducible refine halt_in ?_))
local macro_rules | `(tactic| walk_at "call builtin:max") => `(tactic| (k_here; with_reducible refine halt_in ?_))
local macro_rules | `(tactic| walk_at "getMethod bytes") => `(tactic| (k_here; with_reducible refine halt_in ?_))
local macro_rules | `(tactic| walk_at "binaryOp Add bytes bytes") => `(tactic| (k_here; with_reducible refine halt_in ?_))
structure Wds where
  b : Nat → Array UInt8
  t : Nat → Tok
noncomputable abbrev Wds.obj (W : Wds) (k : Nat) : Obj := PySem.W.listOf #[.bytes (W.b 0) (W.t 0), .bytes (W.b 1) (W.t 1), .bytes (W.b 2) (W.t 2), .bytes (W.b 3) (W.t 3), .bytes (W.b 4) (W.t 4)] k
noncomputable def row (i m : Nat) : List (Int × Int) := (List.range m).map fun (j : Nat) => ((0 : Int) + (i : Int), (0 : Int) + (i : Int) + 1 + (j : Int))
noncomputable def prs (n : Nat) : List (Int × Int) := (List.range n).flatMap fun i => row i (4 - i)
inductive TX (f : Int × Int → List Int) : List Str → List (Int × Int) → Prop
  | nil : TX f [] []
  | cons {s : Str} {p : Int × Int} {r : List Str} {l : List (Int × Int)} (h : cpsI s = f p) (t : TX f r l) : TX f (s :: r) (p :: l)
theorem TX.snoc {f : Int × Int → List Int} {s : Str} {p : Int × Int} (h : cpsI s = f p) : ∀ {r : List Str} {l : List (Int × Int)}, TX f r l → TX f (r ++ [s]) (l ++ [p]) := by
  intro r l t
  induction t with
  | nil => exact .cons h .nil
  | cons h' _ ih => exact .cons h' ih
theorem range_fact {c : Int} {i : Nat} (h : (0 : Int) + (i : Int) = c) (hi : i < 5) : Builtin.Range.small (c + 1) 5 1 = true ∧ Builtin.Range.rangeSize (c + 1) 5 1 = ((4 - i : Nat) : Int) := by
  have : i = 0 ∨ i = 1 ∨ i = 2 ∨ i = 3 ∨ i = 4 := lin_or5 (by exact gnlt (lin1 (cx1 _) (.add (.var 0) (.num 1)) (.num 5) (.add (.var 0) (.num 1)) (.num 5) 1 1 rfl (nlt hi)))
  rcases this with e | e | e | e | e <;> subst e <;> (have hc : c = _ := h.symm; subst hc; decide)
section
variable {α : Type} {a b c d e f g i z : α} {l r s : List α}
theorem sub_cons (h : a ∈ l) (t : ∀ p ∈ r, p ∈ l) : ∀ p ∈ a :: r, p ∈ l
  | _, .head _ => h
  | p, .tail _ hp => t p hp
theorem sub_app (h : ∀ p ∈ s, p ∈ l) (t : ∀ p ∈ r, p ∈ l) (p : α) (hp : p ∈ s ++ r) : p ∈ l := (List.mem_append.mp hp).elim (h p) (t p)
theorem mm0 : a ∈ a :: l := .head _
theorem mm1 : b ∈ a :: b :: l := .tail _ mm0
theorem mm2 : c ∈ a :: b :: c :: l := .tail _ mm1
theorem mm3 : d ∈ a :: b :: c :: d :: l := .tail _ mm2
theorem mm4 : e ∈ a :: b :: c :: d :: e :: l := .tail _ mm3
theorem mm5 : f ∈ a :: b :: c :: d :: e :: f :: l := .tail _ mm4
theorem mm6 : g ∈ a :: b :: c :: d :: e :: f :: g :: l := .tail _ mm5
theorem mm7 : i ∈ a :: b :: c :: d :: e :: f :: g :: i :: l := .tail _ mm6
theorem past3 (p : α) (h : p ∈ l) : p ∈ a :: b :: c :: l := .tail _ (.tail _ (.tail _ h))
theorem past4 (p : α) (h : p ∈ l) : p ∈ a :: b :: c :: d :: l := .tail _ (past3 p h)
theorem past6 (p : α) (h : p ∈ l) : p ∈ a :: b :: c :: d :: e :: f :: l := past3 p (past3 p h)
theorem past7 (p : α) (h : p ∈ l) : p ∈ a :: b :: c :: d :: e :: f :: g :: l := past4 p (past3 p h)
theorem past8 (p : α) (h : p ∈ l) : p ∈ a :: b :: c :: d :: e :: f :: g :: i :: l := past4 p (past4 p h)
theorem perm5 : ∀ p ∈ d :: e :: a :: b :: c :: r, p ∈ a :: b :: c :: d :: e :: r := sub_cons mm3 (sub_cons mm4 (sub_cons mm0 (sub_cons mm1 (sub_cons mm2 (fun p h => past4 p (.tail _ h))))))
theorem tab_in : ∀ p ∈ [e, f, g], p ∈ a :: b :: c :: d :: e :: f :: g :: r := sub_cons mm4 (sub_cons mm5 (sub_cons mm6 (fun _ h => nomatch h)))
theorem rest_in : ∀ p ∈ a :: b :: c :: d :: r, p ∈ a :: b :: c :: d :: e :: f :: g :: r := sub_cons mm0 (sub_cons mm1 (sub_cons mm2 (sub_cons mm3 past7)))
theorem tab_next {a b c d e f z : Addr × Obj} {y : Addr} {o u : Obj} {l r s : List (Addr × Obj)} (h : r = s ++ l) (k : o = u) : ∀ p ∈ a :: b :: c :: d :: e :: f :: (y, u) :: ((z :: s) ++ l), p ∈ ([e, f, (y, o)] ++ [z]) ++ (a :: b :: c :: d :: r) := by
  subst h k
  exact sub_cons mm4 <| sub_cons mm5 (sub_cons mm6 (sub_cons mm7 (sub_cons mm0 (sub_cons mm1 (sub_cons mm2 (sub_cons mm3 (fun p hp => past8 p hp)))))))
theorem tab_end {a b e f : Addr × Obj} {y : Addr} {o u : Obj} {l s k : List (Addr × Obj)} (h : o = u) : ∀ p ∈ [e, f, (y, o)] ++ s ++ l, p ∈ (a :: b :: e :: f :: (y, u) :: (s ++ k)) ++ l := by
  subst h
  exact sub_app (sub_app (sub_cons mm2 (sub_cons mm3 (sub_cons mm4 (fun _ h => nomatch h)))) fun p h => past4 p (.tail _ (List.mem_append_left _ (List.mem_append_left _ h)))) fun p h => past4 p (.tail _ (List.mem_append_right _ h))
end
theorem not3 {p q x y : Addr} (h1 : @Ne Nat p q) (h2 : @Ne Nat p x) (h3 : @Ne Nat p y) : p ∉ [q, x, y] := fun h => by
  cases h with
  | head => exact h1 rfl
  | tail _ h => cases h with
    | head => exact h2 rfl
    | tail _ h => cases h with
      | head => exact h3 rfl
      | tail _ h => cases h
theorem offs3 {q x y : Addr} {l : List (Addr × Obj)} (h1 : LCg.Off1 q l) (h2 : LCg.Off1 x l) (h3 : LCg.Off1 y l) : ∀ p ∈ l, p.1 ∉ [q, x, y] := fun p hp => not3 (off1_mem h1 p hp) (off1_mem h2 p hp) (off1_mem h3 p hp)
theorem no_cons {ys : List Addr} {a : Addr × Obj} {l : List (Addr × Obj)} (h : a.1 ∉ ys) (t : ∀ p ∈ l, p.1 ∉ ys) : ∀ p ∈ a :: l, p.1 ∉ ys
  | _, .head _ => h
  | p, .tail _ hp => t p hp
theorem ne_cons {y : Addr} {a : Addr × Obj} {l : List (Addr × Obj)} (h : a.1 ≠ y) (t : ∀ p ∈ l, p.1 ≠ y) : ∀ p ∈ a :: l, p.1 ≠ y
  | _, .head _ => h
  | p, .tail _ hp => t p hp
theorem words_sub {prog : Program} {w : World} {A : Around} {E : Value → Shared → Prop} {s : Shared} {h₀ : Heap} {L : Addr} {news : List (Addr × Obj)} {Q : Value → Shared → Prop} {Wd : Wds} {wa : Addr} {nw : Nat} {k : Int} {u : Tok} {value slice : Expr} (N : News h₀ L s.heap news) (hm : (wa, Wd.obj nw) ∈ news) (h0 : 0 ≤ k) (h5 : k < 5) (h : Q (.bytes (Wd.b k.toNat) (Wd.t k.toNat)) s)
    (hs : subscripted slice false (.ref wa) (.int k u) = operate [.ref wa, .int k u] (getItem (.ref wa) (.int k u))) :
    wpAny (model prog w) A (subscriptTail value slice (.ref wa) (.int k u)) Q E s := by
  have hl : s.heap.IsList wa #[.bytes (Wd.b 0) (Wd.t 0), .bytes (Wd.b 1) (Wd.t 1), .bytes (Wd.b 2) (Wd.t 2), .bytes (Wd.b 3) (Wd.t 3), .bytes (Wd.b 4) (Wd.t 4)] := News.isList N hm
  refine tail_any hl.typeIs slot_list_getitem.lookup (wpAny_getItem_list hl h0 (by exact lin1 (cx1 _) (.add (.var 0) (.num 1)) (.num 5) (.add (.var 0) (.num 1)) (.num 9223372036854775808) 1 1 rfl h5) ?_ h) hs
  have : k.toNat = 0 ∨ k.toNat = 1 ∨ k.toNat = 2 ∨ k.toNat = 3 ∨ k.toNat = 4 := lin_or5 (by exact gnlt (lin2 (cx2 _ _) (.add (.var 0) (.num 1)) (.num 5) (.var 1) (.var 0) (.add (.var 1) (.num 1)) (.num 5) 1 1 1 rfl h5 (tn2 (lin1 (cx1 _) (.num 0) (.var 0) (.num 0) (.var 0) 1 1 rfl h0))))
  rcases this with e | e | e | e | e <;> rw [e] <;> rfl
local macro_rules | `(tactic| walk_at "CompSrcT") => `(tactic| (k_here; with_reducible refine halt_in ?_))
theorem row_succ {f : Int × Int → List Int} {gz : Int × Int → Bool} {txs : List Str} {i j : Nat} {ia ib : Int} (hc : (0 : Int) + (i : Int) = ia) (hd : ia + 1 + (j : Int) = ib) :
    (prs i ++ row i (j + 1)).filter gz = (prs i ++ row i j).filter gz ++ (if gz (ia, ib) = true then [(ia, ib)] else []) := by
  have e : row i (j + 1) = row i j ++ [(ia, ib)] := by
    unfold row
    rw [List.range_succ, List.map_append, List.map_singleton, hc, hd]
  rw [e, ← List.append_assoc, List.filter_append (prs i ++ row i j)]
  congr 1
  by_cases h : gz (ia, ib) = true
  · rw [if_pos h, List.filter_cons_of_pos h, List.filter_nil]
  · rw [if_neg h, List.filter_cons_of_neg h, List.filter_nil]
theorem tx_no {f : Int × Int → List Int} {gz : Int × Int → Bool} {txs : List Str} {i j : Nat} {ia ib : Int} (hc : (0 : Int) + (i : Int) = ia) (hd : ia + 1 + (j : Int) = ib) (hg : gz (ia, ib) = false) (h : TX f txs ((prs i ++ row i j).filter gz)) : TX f txs ((prs i ++ row i (j + 1)).filter gz) := by
  rw [row_succ (f := f) (txs := txs) hc hd, if_neg (by rw [hg]; simp), List.append_nil]
  exact h
theorem tx_yes {f : Int × Int → List Int} {gz : Int × Int → Bool} {txs : List Str} {s : Str} {i j : Nat} {ia ib : Int} (hc : (0 : Int) + (i : Int) = ia) (hd : ia + 1 + (j : Int) = ib) (hg : gz (ia, ib) = true) (hs : cpsI s = f (ia, ib)) (h : TX f txs ((prs i ++ row i j).filter gz)) : TX f (txs ++ [s]) ((prs i ++ row i (j + 1)).filter gz) := by
  rw [row_succ (f := f) (txs := txs) hc hd, if_pos hg]
  exact TX.snoc hs h
theorem prs_succ {i : Nat} : prs (i + 1) = prs i ++ row i (4 - i) := by
  unfold prs
  rw [List.range_succ, List.flatMap_append]
  simp
theorem good_yes {T : Int} {am : List Int} (hT : T ≠ 0) (h : ∀ z ∈ am, 0 ≤ z ∧ z ≤ 8 * (if T < 0 then -T else T)) : goodZ T am = true := by
  unfold goodZ
  rw [decide_eq_true hT, Bool.true_and, List.all_eq_true]
  intro z hz
  have := h z hz
  rw [decide_eq_true this.1, decide_eq_true this.2]; rfl
theorem good_no {T : Int} {am : List Int} {z : Int} (hz : z ∈ am) (h : ¬ 0 ≤ z ∨ ¬ z ≤ 8 * (if T < 0 then -T else T)) : goodZ T am = false := by
  unfold goodZ
  rw [Bool.and_eq_false_iff]
  refine .inr (List.all_eq_false.mpr ⟨z, hz, ?_⟩)
  rcases h with h | h
  · rw [decide_eq_false h]; simp
  · rw [decide_eq_false h]; simp
theorem good_zero {T : Int} {am : List Int} (h : T = 0) : goodZ T am = false := by
  unfold goodZ
  rw [decide_eq_false (by simpa using h)]; rfl
theorem amtsZ_len {P : Lmp} {lu ms : List Int} {a b : Int} : (amtsZ P lu ms a b).length = 5 := by
  unfold amtsZ
  rw [List.length_set, List.length_set, List.length_map, List.length_range]
theorem table_ok (w : World) (f : Int × Int → List Int) (gz : Int × Int → Bool) (P : Lmp) (Wd : Wds) (lam lua mx wa : Addr) (nl nu nm nw : Nat) (u0 u1 u2 u3 u4 : Int) (tu0 tu1 tu2 tu3 tu4 : Tok) (m0 m1 m2 : Int) (tm0 tm1 tm2 : Tok) (news : List (Addr × Obj))
   (hl : (lam, P.all nl) ∈ news) (hP : LampsIn P news) (hO : P.Ok) (hw : (wa, Wd.obj nw) ∈ news) (hlu : (lua, W.listOf #[.int u0 tu0, .int u1 tu1, .int u2 tu2, .int u3 tu3, .int u4 tu4] nu) ∈ news) (hm : (mx, W.listOf #[.int m0 tm0, .int m1 tm1, .int m2 tm2] nm) ∈ news)
   (hWs : ∀ c, c < 5 → (Wd.b c).size ≤ 10) (hWl : ∀ c, c < 5 → ∀ z ∈ KBw.bInts (Wd.b c), 65 ≤ z ∧ z ≤ 80) (hus : ∀ x ∈ [u0, u1, u2, u3, u4], 0 ≤ x ∧ x ≤ 2000) (hms : ∀ x ∈ [m0, m1, m2], 0 ≤ x ∧ x ≤ 2000)
   (hfz : ∀ p, f p = textZ (fun c => KBw.bInts (Wd.b c)) (P.G p.1.toNat p.2.toNat) (amtsZ P [u0, u1, u2, u3, u4] [m0, m1, m2] p.1 p.2)) (hgz : ∀ p, gz p = goodZ (P.G p.1.toNat p.2.toNat) (amtsZ P [u0, u1, u2, u3, u4] [m0, m1, m2] p.1 p.2)) :
   Ctr w 6 100 275 [.ref lam, .ref wa, .ref lua, .ref mx] news (fun _ v add => ∃ x dx q its n tk tup txs, v = .ref x ∧ add = tabL w x dx q its n tk ++ tup ∧ its.size ≤ 5 * 5 ∧ TI tup its.toList txs ∧ TX f txs ((prs 5).filter gz)) := by
  intro mean mg mb dp un gd cn cs a ccd cl outer A₀ base h₀ L m s Q E B F X N T hk hd hu hret
  (refine wpAny_call ?_; k_dflt (refine' enterPC (news₀ := news) ?k1 ?k2 ?k3 ?k4 ?k5 ?kS ?kA ?kF ?kK ?k6 ?k7 ?k8 ?k9 ?kB ?kD ?_ ?c2 ?c3 ?c4; (case kA => exact rfl); (case kF => exact rfl); (case kK => assumption); (case k1 => k_asm); (case k2 => k_asm); (case k3 => k_asm); (case k4 => k_asm); (case k5 => k_asm); (case kS => first | exact fun _ h => h | exact List.forall_mem_nil _ | (intro p hp; simp only [List.mem_cons, List.not_mem_nil, or_false] at hp; rcases hp with rfl | hp <;> first | assumption | (rcases hp with rfl | hp <;> first | assumption | (rcases hp with rfl | hp <;> first | assumption | (rcases hp with rfl | hp <;> first | assumption | (rcases hp with rfl | hp <;> first | assumption | (rcases hp with rfl | hp <;> first | assumption | (rcases hp with rfl | hp <;> first | assumption | (rcases hp with rfl | hp <;> first | assumption | (subst hp; assumption))))))))) | (intro p hp; simp only [List.mem_cons, List.not_mem_nil, or_false] at hp; subst hp; assumption)); (case k6 => k_is); (case k7 => k_is); (case k8 => ktr_room); (case k9 => exact BindsTo.of_eq rfl); (case kB => exact rfl); (case kD => decide); (case c2 => exact rfl); (case c3 => exact rfl); (case c4 => exact rfl); k_whole; intro g' L' h' tk' cells' FG' F' N' Y' B' X' T' lt' old'; (try dsimp only); k_cells Y'; (try simp only [List.cons_append, List.nil_append, List.append_nil] at N'); (try k_fold); refine wpLB ?_; intro Ax Qx))
  have hf : ∀ j : Nat, ∀ p ∈ news, p.1 ≠ L' + j := fun j p hp => Nat.ne_of_lt (Nat.lt_of_lt_of_le (lt' p hp) (Nat.le_add_right _ _))
  have hf1 : ∀ p ∈ news, p.1 ≠ L' + 1 := hf 1
  have hf2 : ∀ p ∈ news, p.1 ≠ L' + 1 + 1 := hf 2
  k_steps
  refine Halt.out ?_
  refine' hdr_c ?k1 ?k2 ?k3 ?k4 ?k5 ?k6 ?k7 ?k8 ?_
  case k4 => k_asm
  case k1 => k_asm
  case k2 => k_asm
  case k3 => k_asm
  case k5 => k_asm
  case k6 => first | exact rfl | assumption
  case k7 => ktr_room
  case k8 => ktr_units
  intro x dx q tk0 lq lx ldx nxq ndq ndx h90 tk90 F90 N9
  (try dsimp only [List.nil_append, List.cons_append] at N9)
  (try dsimp only)
  (try k_fold)
  (try simp only [tabL, List.cons_append, List.nil_append] at N9)
  k_steps
  rename_i oA oW dA dW hp F4 N4
  refine Halt.out ?_
  obtain ⟨od, hod⟩ : ∃ od, dictOf [{ hash := PyData.keyHash w.params (Str.ofString "_headers"), key := .str (Str.ofString "_headers") tk0, val := .ref q }] 1 = od := ⟨_, rfl⟩
  rw [hod] at N4
  obtain ⟨J0, J0i, J0e⟩ : ∃ J0 : Nat → (Str → Option Value) → List (Addr × Obj) → Prop, (∀ (i : Nat) (m₁ : Str → Option Value) (its : Array Value) (nt : Nat) (txs : List Str) (tup : List (Addr × Obj)) (oA' : Obj) (va : Option Value), m₁ (Str.ofString "table") = some (.ref x) → m₁ (Str.ofString "lamps") = some (.ref lam) → m₁ (Str.ofString "lumas") = some (.ref lua) → m₁ (Str.ofString "mix") = some (.ref mx) → oA'.data = .cell va → its.size ≤ 5 * i → TI tup its.toList txs → TX f txs ((prs i).filter gz) → Off1 q tup → Off1 x tup → Off1 dx tup → Off1 (L' + 1) tup → Off1 (L' + 1 + 1) tup → J0 i m₁ ((L' + 1 + 1, oA') :: (L' + 1, oW) :: (q, W.listOf its nt) :: (x, instObj 208 dx) :: (dx, od) :: (tup ++ news))) ∧
      (∀ i m₁ (G : List (Addr × Obj) → Prop), (∀ (its : Array Value) (nt : Nat) (txs : List Str) (tup : List (Addr × Obj)) (oA' : Obj) (va : Option Value), m₁ (Str.ofString "table") = some (.ref x) → m₁ (Str.ofString "lamps") = some (.ref lam) → m₁ (Str.ofString "lumas") = some (.ref lua) → m₁ (Str.ofString "mix") = some (.ref mx) → oA'.data = .cell va → its.size ≤ 5 * i → TI tup its.toList txs → TX f txs ((prs i).filter gz) → Off1 q tup → Off1 x tup → Off1 dx tup → Off1 (L' + 1) tup → Off1 (L' + 1 + 1) tup → G ((L' + 1 + 1, oA') :: (L' + 1, oW) :: (q, W.listOf its nt) :: (x, instObj 208 dx) :: (dx, od) :: (tup ++ news))) → ∀ news₁, J0 i m₁ news₁ → G news₁) :=
    ⟨fun i m₁ news₁ => ∀ (G : List (Addr × Obj) → Prop), (∀ (its : Array Value) (nt : Nat) (txs : List Str) (tup : List (Addr × Obj)) (oA' : Obj) (va : Option Value), m₁ (Str.ofString "table") = some (.ref x) → m₁ (Str.ofString "lamps") = some (.ref lam) → m₁ (Str.ofString "lumas") = some (.ref lua) → m₁ (Str.ofString "mix") = some (.ref mx) → oA'.data = .cell va → its.size ≤ 5 * i → TI tup its.toList txs → TX f txs ((prs i).filter gz) → Off1 q tup → Off1 x tup → Off1 dx tup → Off1 (L' + 1) tup → Off1 (L' + 1 + 1) tup → G ((L' + 1 + 1, oA') :: (L' + 1, oW) :: (q, W.listOf its nt) :: (x, instObj 208 dx) :: (dx, od) :: (tup ++ news))) → G news₁, fun i m₁ its nt txs tup oA' va a b c d e f g h j k l m n G hG => hG its nt txs tup oA' va a b c d e f g h j k l m n, fun i m₁ G hG _ h => h G hG⟩
  refine For_R (a := 0) (b := 5) (n := 5) J0 g' rfl rfl rfl rfl rfl ?_
  k_steps
  refine ⟨_, _, _, _, _, _, rfl, by k_asm, news_sub (by k_asm) perm5, by k_asm, J0i 0 _ #[] 0 [] [] oA _ nm_here rfl rfl rfl dA (Nat.le_refl _) .nil .nil trivial trivial trivial trivial trivial, ?_, ?_⟩
  · intro i m₁ news₁ I oI h tk t hi hJ
    intro F N off
    revert N off
    refine J0e _ _ (fun news₁ => News g' L' h ((I, oI) :: news₁) → (∀ p ∈ news₁, p.1 ≠ I) → _) ?_ _ hJ
    clear hJ news₁
    intro its nt txs tup oA' va e1 e2 e3 e4 dA' hsz hTI hTX o1 o2 o3 o4 o5 N off
    refine wpLB ?_
    intro AQx Qx
    generalize hc : (0 : Int) + (i : Int) = ia at F
    have hsm := (range_fact hc hi).1
    have hrn := (range_fact hc hi).2
    have ha0 : 0 ≤ ia := by exact lin2 (cx2 _ _) (.add (.num 0) (.var 0)) (.var 1) (.num 0) (.var 0) (.num 0) (.var 1) 1 1 1 rfl (ieq1 hc) (nn _)
    have ha5 : ia < 5 := by exact lin2 (cx2 _ _) (.add (.var 0) (.num 1)) (.num 5) (.var 1) (.add (.num 0) (.var 0)) (.add (.var 1) (.num 1)) (.num 5) 1 1 1 rfl (nlt hi) (ieq2 hc)
    have n12 : @Ne Nat (L' + 1) (L' + 1 + 1) := Nat.ne_of_lt (Nat.lt_succ_self _)
    have nq2 : @Ne Nat q (L' + 1 + 1) := Ne.symm lq.1
    have nx2 : @Ne Nat x (L' + 1 + 1) := Ne.symm lx.1
    have nd2 : @Ne Nat dx (L' + 1 + 1) := Ne.symm ldx.1
    have nI2 : @Ne Nat (L' + 1 + 1) I := off _ List.mem_cons_self
    have nI1 : L' + 1 ≠ I := off _ (List.mem_cons_of_mem _ List.mem_cons_self)
    have nIq : q ≠ I := off _ (List.mem_cons_of_mem _ (List.mem_cons_of_mem _ List.mem_cons_self))
    have nIx : x ≠ I := off _ (List.mem_cons_of_mem _ (List.mem_cons_of_mem _ (List.mem_cons_of_mem _ List.mem_cons_self)))
    have nId : dx ≠ I := off _ (List.mem_cons_of_mem _ (List.mem_cons_of_mem _ (List.mem_cons_of_mem _ (List.mem_cons_of_mem _ List.mem_cons_self))))
    have nIt : ∀ p ∈ tup ++ news, p.1 ≠ I := fun p hp => off p (by repeat' (first | exact hp | refine List.mem_cons_of_mem _ ?_))
    have nIn : ∀ p ∈ news, p.1 ≠ I := fun p hp => nIt p (List.mem_append_right _ hp)
    have oI0 : Off1 I tup := by
      have : ∀ l : List (Addr × Obj), (∀ p ∈ l, p.1 ≠ I) → Off1 I l := fun l => by
        induction l with
        | nil => intro _; trivial
        | cons a l ih => intro h; exact ⟨h a List.mem_cons_self, ih fun p hp => h p (List.mem_cons_of_mem _ hp)⟩
      exact this tup fun p hp => nIt p (List.mem_append_left _ hp)
    clear nIt off
    k_steps
    refine Halt.out ?_
    obtain ⟨J1, J1i, J1e⟩ : ∃ J1 : Nat → (Str → Option Value) → List (Addr × Obj) → Prop, (∀ (j : Nat) (m₁ : Str → Option Value) (its : Array Value) (nt : Nat) (txs : List Str) (tup : List (Addr × Obj)) (oA' : Obj) (va : Option Value) (ta : Tok), m₁ (Str.ofString "table") = some (.ref x) → m₁ (Str.ofString "lamps") = some (.ref lam) → m₁ (Str.ofString "lumas") = some (.ref lua) → m₁ (Str.ofString "mix") = some (.ref mx) → m₁ (Str.ofString "a") = some (.int ia ta) → oA'.data = .cell va → its.size ≤ 5 * i + j → TI tup its.toList txs → TX f txs ((prs i ++ row i j).filter gz) → Off1 q tup → Off1 x tup → Off1 dx tup → Off1 (L' + 1) tup → Off1 (L' + 1 + 1) tup → Off1 I tup → J1 j m₁ ((I, oI) :: (L' + 1 + 1, oA') :: (L' + 1, oW) :: (q, W.listOf its nt) :: (x, instObj 208 dx) :: (dx, od) :: (tup ++ news))) ∧
        (∀ j m₁ (G : List (Addr × Obj) → Prop), (∀ (its : Array Value) (nt : Nat) (txs : List Str) (tup : List (Addr × Obj)) (oA' : Obj) (va : Option Value) (ta : Tok), m₁ (Str.ofString "table") = some (.ref x) → m₁ (Str.ofString "lamps") = some (.ref lam) → m₁ (Str.ofString "lumas") = some (.ref lua) → m₁ (Str.ofString "mix") = some (.ref mx) → m₁ (Str.ofString "a") = some (.int ia ta) → oA'.data = .cell va → its.size ≤ 5 * i + j → TI tup its.toList txs → TX f txs ((prs i ++ row i j).filter gz) → Off1 q tup → Off1 x tup → Off1 dx tup → Off1 (L' + 1) tup → Off1 (L' + 1 + 1) tup → Off1 I tup → G ((I, oI) :: (L' + 1 + 1, oA') :: (L' + 1, oW) :: (q, W.listOf its nt) :: (x, instObj 208 dx) :: (dx, od) :: (tup ++ news))) → ∀ news₁, J1 j m₁ news₁ → G news₁) :=
      ⟨fun j m₁ news₁ => ∀ (G : List (Addr × Obj) → Prop), (∀ (its : Array Value) (nt : Nat) (txs : List Str) (tup : List (Addr × Obj)) (oA' : Obj) (va : Option Value) (ta : Tok), m₁ (Str.ofString "table") = some (.ref x) → m₁ (Str.ofString "lamps") = some (.ref lam) → m₁ (Str.ofString "lumas") = some (.ref lua) → m₁ (Str.ofString "mix") = some (.ref mx) → m₁ (Str.ofString "a") = some (.int ia ta) → oA'.data = .cell va → its.size ≤ 5 * i + j → TI tup its.toList txs → TX f txs ((prs i ++ row i j).filter gz) → Off1 q tup → Off1 x tup → Off1 dx tup → Off1 (L' + 1) tup → Off1 (L' + 1 + 1) tup → Off1 I tup → G ((I, oI) :: (L' + 1 + 1, oA') :: (L' + 1, oW) :: (q, W.listOf its nt) :: (x, instObj 208 dx) :: (dx, od) :: (tup ++ news))) → G news₁, fun i m₁ its nt txs tup oA' va ta a b c d e f g h j k l m n o p G hG => hG its nt txs tup oA' va ta a b c d e f g h j k l m n o p, fun i m₁ G hG _ h => h G hG⟩
    refine For_R (a := ia + 1) (b := 5) (n := 4 - i) J1 g' rfl rfl rfl hsm hrn ?_
    repeat' (first
      | ((with_reducible show wpAny _ _ (eval (Expr.Name _ _) _) _ _ _); k_dflt ((refine' nameX_L ?F_1 ?v_1 ?_ ?a_1 ?b_1); (case a_1 => rfl); (case b_1 => rfl); (case F_1 => k_asm); (case v_1 => (try dsimp only); (repeat' ((show (_ : Option Value) = some _); first | (with_reducible assumption) | exact nm_here | (refine' nm_skip ?hne_1 ?_; (case hne_1 => decide +kernel)))); done); k_whole))
      | (k_unfold; (try dsimp only)) | (k_end; wrow_close) | walk1 | (dsimp only; walk1) | (leave1; try dsimp only))
    refine ⟨_, _, _, _, _, _, rfl, by k_asm, by k_asm, by k_asm, ?_, ?_, ?_⟩
    · refine J1i 0 _ its nt txs tup oA' va t ?_ ?_ ?_ ?_ ?_ dA' hsz hTI (by rw [show row i 0 = [] from rfl, List.append_nil]; exact hTX) o1 o2 o3 o4 o5 oI0
      iterate 5 (focus (repeat' ((show (_ : Option Value) = some _); first | (with_reducible assumption) | exact nm_here | (refine' nm_skip ?hne ?_; (case hne => decide +kernel)))))
    · clear hsz hTI hTX o1 o2 o3 o4 o5 e1 e2 e3 e4 dA' oI0
      intro j m₁ news₁ I2 oI2 h tk t2 hj hJ
      intro F N off
      revert N off
      refine J1e _ _ (fun news₁ => News g' L' h ((I2, oI2) :: news₁) → (∀ p ∈ news₁, p.1 ≠ I2) → _) ?_ _ hJ
      clear hJ news₁
      intro its nt txs tup oA' va ta e1 e2 e3 e4 e5 dA' hsz hTI hTX o1 o2 o3 o4 o5 o6 N off
      refine wpLA ?_
      intro AQx Qx Ex
      generalize hd' : ia + 1 + (j : Int) = ib at F
      have hab : ia < ib := by exact lin2 (cx3 _ _ _) (.add (.add (.var 0) (.num 1)) (.var 1)) (.var 2) (.num 0) (.var 1) (.add (.var 0) (.num 1)) (.var 2) 1 1 1 rfl (ieq1 hd') (nn _)
      have ha5' : ia < 5 := ha5
      have hb5 : ib < 5 := by exact lin4 (cx5 _ _ _ _ _) (.var 0) (.add (.num 0) (.var 1)) (.add (.var 2) (.num 1)) (.var 3) (.var 4) (.add (.add (.var 0) (.num 1)) (.var 2)) (.add (.var 3) (.var 1)) (.num 4) (.add (.var 4) (.num 1)) (.num 5) 1 1 1 1 1 rfl (ieq2 hc) (nlt hj) (ieq2 hd') (ns2 (lin1 (cx1 _) (.add (.var 0) (.num 1)) (.num 5) (.var 0) (.num 4) 1 1 rfl (nlt hi)))
      have hb0 : 0 ≤ ib := by exact lin2 (cx2 _ _) (.num 0) (.var 0) (.add (.var 0) (.num 1)) (.var 1) (.num 0) (.var 1) 1 1 1 rfl ha0 hab
      have n2I : @Ne Nat I I2 := off _ List.mem_cons_self
      have n22 : @Ne Nat (L' + 1 + 1) I2 := off _ (List.mem_cons_of_mem _ List.mem_cons_self)
      generalize hrest' : tup ++ news = rest at N off
      have hrest : rest = tup ++ news := hrest'.symm
      have hl' : (lam, P.all nl) ∈ rest := hrest ▸ List.mem_append_right _ hl
      have hP' : LampsIn P rest := hP.mono fun p hp => hrest ▸ List.mem_append_right _ hp
      have hw' : (wa, Wd.obj nw) ∈ rest := hrest ▸ List.mem_append_right _ hw
      have hu' : (lua, W.listOf #[.int u0 tu0, .int u1 tu1, .int u2 tu2, .int u3 tu3, .int u4 tu4] nu) ∈ rest := hrest ▸ List.mem_append_right _ hlu
      have hm' : (mx, W.listOf #[.int m0 tm0, .int m1 tm1, .int m2 tm2] nm) ∈ rest := hrest ▸ List.mem_append_right _ hm
      have hro : ∀ p ∈ rest, p.1 ≠ L' + 1 + 1 := fun p hp => by
        rw [hrest] at hp
        rcases List.mem_append.mp hp with hp | hp
        · exact off1_mem o5 p hp
        · exact hf2 p hp
      have hro2 : ∀ p ∈ (L' + 1, oW) :: (q, W.listOf its nt) :: (x, instObj 208 dx) :: (dx, od) :: rest, p.1 ≠ L' + 1 + 1 := ne_cons n12 (ne_cons nq2 (ne_cons nx2 (ne_cons nd2 hro)))
      have offO : ∀ o, ∀ p ∈ (I, oI) :: (L' + 1 + 1, o) :: (L' + 1, oW) :: (q, W.listOf its nt) :: (x, instObj 208 dx) :: (dx, od) :: (tup ++ news), p.1 ≠ I2 := fun o => hrest ▸ ne_cons n2I (ne_cons n22 fun p hp => off p (.tail _ (.tail _ hp)))
      clear hl hP hw hlu hm
      by_cases hT : P.G ia.toNat ib.toNat = 0
      · have hu0 : ¬ (if P.G ia.toNat ib.toNat < 0 then -P.G ia.toNat ib.toNat else P.G ia.toNat ib.toNat) > 0 := by rw [hT]; decide
        have hgb : gz (ia, ib) = false := by
          rw [hgz]
          exact good_zero hT
        repeat' (first
          | ((with_reducible show wpAny _ _ (subscriptTail _ _ (Value.ref _) (Value.int _ _)) _ _ _); k_dflt ((with_unfolding_all (refine' lamps_sub ?k1_2 ?k2_2 ?k3_2 ?k4_2 ?_ ?k5_2)); (case k1_2 => k_asm); (case k2_2 => k_mem); (case k3_2 => first | decide | (with_reducible assumption)); (case k4_2 => first | decide | (exact Int.lt_of_lt_of_le (by with_reducible assumption) (by decide))); (case k5_2 => with_unfolding_all rfl); k_whole))
          | ((with_reducible show wpAny _ _ (eval (Expr.Name _ _) _) _ _ _); k_dflt ((refine' nameX_L ?F_3 ?v_3 ?_ ?a_3 ?b_3); (case a_3 => rfl); (case b_3 => rfl); (case F_3 => k_asm); (case v_3 => (try dsimp only); (repeat' ((show (_ : Option Value) = some _); first | (with_reducible assumption) | exact nm_here | (refine' nm_skip ?hne_3 ?_; (case hne_3 => decide +kernel)))); done); k_whole))
          | (k_unfold; (try dsimp only)) | (k_end; wrow_close) | walk1 | (dsimp only; walk1) | (leave1; try dsimp only))
        refine Halt.out ?_
        refine' crossL_c ?hi ?hj ?hP ?hO ?k1 ?k2 ?k3 ?k4 ?k5 ?k6 ?k7 ?k8 ?_
        case k4 => k_asm
        case hi => exact lt5 (by with_reducible assumption) (by with_reducible assumption)
        case hj => exact lt5 (by with_reducible assumption) (by with_reducible assumption)
        case hP => repeat' (first | (with_reducible assumption) | refine LampsIn.cons ?_)
        case hO => with_reducible assumption
        case k1 => k_asm
        case k2 => k_asm
        case k3 => k_asm
        case k5 => k_asm
        case k6 => first | exact rfl | assumption
        case k7 => ktr_room
        case k8 => ktr_units
        intro t91 h91 tk91 F91 N9
        (try dsimp only [List.nil_append, List.cons_append] at N9)
        (try dsimp only)
        (try k_fold)
        k_steps
        refine Halt.out ?_
        refine wpAny_IfExp ?_
        repeat' (first
          | ((with_reducible show wpAny _ _ (eval (Expr.Name _ _) _) _ _ _); k_dflt ((refine' nameX_L ?F_4 ?v_4 ?_ ?a_4 ?b_4); (case a_4 => rfl); (case b_4 => rfl); (case F_4 => k_asm); (case v_4 => (try dsimp only); (repeat' ((show (_ : Option Value) = some _); first | (with_reducible assumption) | exact nm_here | (refine' nm_skip ?hne_4 ?_; (case hne_4 => decide +kernel)))); done); k_whole))
          | (k_unfold; (try dsimp only)) | (k_end; wrow_close) | walk1 | (dsimp only; walk1) | (leave1; try dsimp only))
        refine Halt.out ?_
        refine' kso_min ?k1 ?k2 ?k3 ?k4 ?k5 ?k6 ?_
        case k1 => k_asm
        case k2 => k_asm
        case k3 => exact News.isList (by k_asm) (by repeat' (first | exact List.mem_cons_self | refine List.mem_cons_of_mem _ ?_))
        case k4 => with_reducible l_ints
        case k5 => first | (with_reducible assumption) | decide
        case k6 => with_unfolding_all rfl
        intro hq2 M1 t1 k1 F1 N1 m1a m1b
        k_steps
        · exfalso
          repeat (rename (_ : Int) ∈ [(-1 : Int)] => hmm; obtain rfl := List.mem_singleton.mp hmm; clear hmm)
          rename (0 : Int) ≤ -1 => h0
          exact absurd h0 (by decide)
        · rename _ = Data.cell (some (Value.ref _)) => dA2
          refine (TurnR.next (by k_asm) (by k_asm) ((I, oI) :: (L' + 1 + 1, _) :: (L' + 1, oW) :: (q, W.listOf its nt) :: (x, instObj 208 dx) :: (dx, od) :: (tup ++ news)) (fun p hp => by (try rw [← hrest] at hp); repeat' (first | exact hp | refine List.mem_cons_of_mem _ ?_)) (offO _) (J1i _ _ its nt txs tup _ _ ta ?_ ?_ ?_ ?_ ?_ dA2 (Nat.le_trans hsz (Nat.le_succ _)) hTI (tx_no hc hd' hgb hTX) o1 o2 o3 o4 o5 o6))
          all_goals ((try dsimp only); (repeat' ((show (_ : Option Value) = some _); first | (with_reducible assumption) | exact nm_here | (refine' nm_skip ?hne ?_; (case hne => decide +kernel)))))
      · have hlen : 0 < (amtsZ P [u0, u1, u2, u3, u4] [m0, m1, m2] ia ib).length := by rw [amtsZ_len]; decide
        have hu0 : (if P.G ia.toNat ib.toNat < 0 then -P.G ia.toNat ib.toNat else P.G ia.toNat ib.toNat) > 0 := by split <;> omega
        repeat' (first
          | ((with_reducible show wpAny _ _ (subscriptTail _ _ (Value.ref _) (Value.int _ _)) _ _ _); k_dflt ((with_unfolding_all (refine' lamps_sub ?k1_5 ?k2_5 ?k3_5 ?k4_5 ?_ ?k5_5)); (case k1_5 => k_asm); (case k2_5 => k_mem); (case k3_5 => first | decide | (with_reducible assumption)); (case k4_5 => first | decide | (exact Int.lt_of_lt_of_le (by with_reducible assumption) (by decide))); (case k5_5 => with_unfolding_all rfl); k_whole))
          | ((with_reducible show wpAny _ _ (eval (Expr.Name _ _) _) _ _ _); k_dflt ((refine' nameX_L ?F_6 ?v_6 ?_ ?a_6 ?b_6); (case a_6 => rfl); (case b_6 => rfl); (case F_6 => k_asm); (case v_6 => (try dsimp only); (repeat' ((show (_ : Option Value) = some _); first | (with_reducible assumption) | exact nm_here | (refine' nm_skip ?hne_6 ?_; (case hne_6 => decide +kernel)))); done); k_whole))
          | (k_unfold; (try dsimp only)) | (k_end; wrow_close) | walk1 | (dsimp only; walk1) | (leave1; try dsimp only))
        refine Halt.out ?_
        refine' crossL_c ?hi ?hj ?hP ?hO ?k1 ?k2 ?k3 ?k4 ?k5 ?k6 ?k7 ?k8 ?_
        case k4 => k_asm
        case hi => exact lt5 (by with_reducible assumption) (by with_reducible assumption)
        case hj => exact lt5 (by with_reducible assumption) (by with_reducible assumption)
        case hP => repeat' (first | (with_reducible assumption) | refine LampsIn.cons ?_)
        case hO => with_reducible assumption
        case k1 => k_asm
        case k2 => k_asm
        case k3 => k_asm
        case k5 => k_asm
        case k6 => first | exact rfl | assumption
        case k7 => ktr_room
        case k8 => ktr_units
        intro t91 h91 tk91 F91 N9
        (try dsimp only [List.nil_append, List.cons_append] at N9)
        (try dsimp only)
        (try k_fold)
        k_steps
        refine Halt.out ?_
        refine wpAny_IfExp ?_
        repeat' (first
          | ((with_reducible show wpAny _ _ (eval (Expr.Name _ _) _) _ _ _); k_dflt ((refine' nameX_L ?F_7 ?v_7 ?_ ?a_7 ?b_7); (case a_7 => rfl); (case b_7 => rfl); (case F_7 => k_asm); (case v_7 => (try dsimp only); (repeat' ((show (_ : Option Value) = some _); first | (with_reducible assumption) | exact nm_here | (refine' nm_skip ?hne_7 ?_; (case hne_7 => decide +kernel)))); done); k_whole))
          | (k_unfold; (try dsimp only)) | (k_end; wrow_close) | walk1 | (dsimp only; walk1) | (leave1; try dsimp only))
        refine Halt.out ?_
        refine' amts_c ?hl ?hP ?hO ?hu ?hm ?ha0 ?hab ?hb5 ?ht ?hus ?hms ?k1 ?k2 ?k3 ?k4 ?k5 ?k6 ?k7 ?k8 ?_
        case k4 => k_asm
        case hl => k_mem
        case hP => repeat' (first | (with_reducible assumption) | refine LampsIn.cons ?_)
        case hO => with_reducible assumption
        case hu => k_mem
        case hm => k_mem
        case ha0 => with_reducible assumption
        case hab => with_reducible assumption
        case hb5 => with_reducible assumption
        case ht => with_reducible assumption
        case hus => with_reducible assumption
        case hms => with_reducible assumption
        case k1 => k_asm
        case k2 => k_asm
        case k3 => k_asm
        case k5 => k_asm
        case k6 => first | exact rfl | assumption
        case k7 => ktr_room
        case k8 => ktr_units
        intro D9 y9 k9 I9 l9 h92 tk92 F92 N9
        (try dsimp only [List.nil_append, List.cons_append] at N9)
        (try dsimp only)
        (try k_fold)
        (try simp only [LCg.Off1, and_true] at l9)
        k_steps
        rename_i hq oA2 Fq Nq dA2
        refine Halt.out ?_
        refine' kso_min ?k1 ?k2 ?k3 ?k4 ?k5 ?k6 ?_
        case k1 => k_asm
        case k2 => k_asm
        case k3 => exact News.isList (by k_asm) (by repeat' (first | exact List.mem_cons_self | refine List.mem_cons_of_mem _ ?_))
        case k4 => with_reducible l_ints
        case k5 => first | (with_reducible assumption) | decide
        case k6 => with_unfolding_all rfl
        intro hq2 M1 t1 k1 F1 N1 m1a m1b
        k_steps
        · rename_i e1'
          refine Halt.out ?_
          refine' kso_max ?k1 ?k2 ?k3 ?k4 ?k5 ?k6 ?_
          case k1 => k_asm
          case k2 => k_asm
          case k3 => exact News.isList (by k_asm) (by repeat' (first | exact List.mem_cons_self | refine List.mem_cons_of_mem _ ?_))
          case k4 => with_reducible l_ints
          case k5 => first | (with_reducible assumption) | decide
          case k6 => with_unfolding_all rfl
          intro hq3 M2 t2' k2 F2 N2 m2a m2b
          repeat' (first
            | ((with_reducible show wpAny _ _ (eval (Expr.Name _ _) _) _ _ _); k_dflt ((refine' nameX_L ?F_8 ?v_8 ?_ ?a_8 ?b_8); (case a_8 => rfl); (case b_8 => rfl); (case F_8 => k_asm); (case v_8 => (try dsimp only); (repeat' ((show (_ : Option Value) = some _); first | (with_reducible assumption) | exact nm_here | (refine' nm_skip ?hne_8 ?_; (case hne_8 => decide +kernel)))); done); k_whole))
            | (k_unfold; (try dsimp only)) | (k_end; wrow_close) | walk1 | (dsimp only; walk1) | (leave1; try dsimp only))
          · rename_i e2'
            rw [← hod] at N2
            generalize hamz : amtsZ P [u0, u1, u2, u3, u4] [m0, m1, m2] ia ib = am at I9 m1a m1b m2a m2b
            have hl5 : (5 : Int) ≤ (am.length : Int) := by rw [← hamz, amtsZ_len]; decide
            have hGb := hO.G (i := ia.toNat) (j := ib.toNat) (by exact gnlt (lin2 (cx2 _ _) (.add (.var 0) (.num 1)) (.num 5) (.var 1) (.var 0) (.add (.var 1) (.num 1)) (.num 5) 1 1 1 rfl ha5 (tn2 (lin1 (cx1 _) (.num 0) (.var 0) (.num 0) (.var 0) 1 1 rfl ha0)))) (by exact gnlt (lin2 (cx2 _ _) (.add (.var 0) (.num 1)) (.num 5) (.var 1) (.var 0) (.add (.var 1) (.num 1)) (.num 5) 1 1 1 rfl hb5 (tn2 (lin1 (cx1 _) (.num 0) (.var 0) (.num 0) (.var 0) 1 1 rfl hb0))))
            have hab0 : ∀ z ∈ am, 0 ≤ z ∧ z < 65536 := fun z hz => by
              have h1 := m1b z hz
              have h2 := m2b z hz
              clear l9 n22 n2I nI2 n12 nq2 nx2 nd2
              split at e2' <;> (first | exact ⟨lin2 (cx2 _ _) (.num 0) (.var 0) (.var 0) (.var 1) (.num 0) (.var 1) 1 1 1 rfl e1' h1, lin3 (cx3 _ _ _) (.neg (.num 1000)) (.var 0) (.var 1) (.var 2) (.var 2) (.mulL 8 (.neg (.var 0))) (.add (.var 1) (.num 1)) (.num 65536) 8 1 1 1 rfl hGb.1 h2 e2'⟩ | exact ⟨lin2 (cx2 _ _) (.num 0) (.var 0) (.var 0) (.var 1) (.num 0) (.var 1) 1 1 1 rfl e1' h1, lin3 (cx3 _ _ _) (.var 0) (.num 1000) (.var 1) (.var 2) (.var 2) (.mulL 8 (.var 0)) (.add (.var 1) (.num 1)) (.num 65536) 8 1 1 1 rfl hGb.2 h2 e2'⟩)
            have hU : 0 ≤ (if P.G ia.toNat ib.toNat < 0 then -P.G ia.toNat ib.toNat else P.G ia.toNat ib.toNat) ∧ (if P.G ia.toNat ib.toNat < 0 then -P.G ia.toNat ib.toNat else P.G ia.toNat ib.toNat) < 65536 := by clear l9 n22 n2I nI2 n12 nq2 nx2 nd2; split <;> omega
            refine Halt.out ?_
            refine LCt.Assign_ListComp_T (by k_asm) rfl rfl rfl (by decide) rfl (by decide) rfl rfl rfl ?_
            k_steps
            refine Halt.out ?_
            refine LCt.CompSrcT.range (n := 5) rfl (by k_asm) (by k_asm) (by k_asm) rfl rfl (by decide) ?_
            intro g
            refine restT_F (fun i zs => BA zs (((List.range i).filter fun c => decide (am.getD c 0 > 0)).map fun c => KBw.bInts (Wd.b c) ++ [32] ++ apD (am.getD c 0).toNat)) trivial .nil ?_ ?_
            · intro i3 zs v I3 oI3 C3 oC3 D3 m3 h3 tk3 E3 hi3 hv hJ hC3 hX3 F3 N3
              refine ob1 hv fun t3 ev => ?_
              rw [ev] at hX3
              clear hv ev
              generalize hc3 : (0 : Int) + (i3 : Int) = c at hX3
              have hlo : 0 ≤ c := by clear l9 n22 n2I nI2 n12 nq2 nx2 nd2; exact lin2 (cx2 _ _) (.add (.num 0) (.var 0)) (.var 1) (.num 0) (.var 0) (.num 0) (.var 1) 1 1 1 rfl (ieq1 hc3) (nn _)
              have hhi : c < 5 := by clear l9 n22 n2I nI2 n12 nq2 nx2 nd2; exact lin2 (cx2 _ _) (.add (.var 0) (.num 1)) (.num 5) (.var 1) (.add (.num 0) (.var 0)) (.add (.var 1) (.num 1)) (.num 5) 1 1 1 rfl (nlt hi3) (ieq2 hc3)
              have hz0 : 0 ≤ am.getD c.toNat 0 ∧ am.getD c.toNat 0 < 65536 := by
                refine hab0 _ ?_
                rw [List.getD_eq_getElem?_getD, List.getElem?_eq_getElem (by clear l9 n22 n2I nI2 n12 nq2 nx2 nd2; exact gnlt (lin3 (cx3 _ _ _) (.num 5) (.var 0) (.add (.var 1) (.num 1)) (.num 5) (.var 2) (.var 1) (.add (.var 2) (.num 1)) (.var 0) 1 1 1 1 rfl hl5 hhi (tn2 (lin1 (cx1 _) (.num 0) (.var 0) (.num 0) (.var 0) 1 1 rfl hlo)))), Option.getD_some]
                exact List.getElem_mem _
              have hwl : (Wd.b c.toNat).size ≤ 10 := hWs c.toNat (by clear l9 n22 n2I nI2 n12 nq2 nx2 nd2; exact gnlt (lin2 (cx2 _ _) (.add (.var 0) (.num 1)) (.num 5) (.var 1) (.var 0) (.add (.var 1) (.num 1)) (.num 5) 1 1 1 rfl hhi (tn2 (lin1 (cx1 _) (.num 0) (.var 0) (.num 0) (.var 0) 1 1 rfl hlo))))
              have hci : c.toNat = i3 := by clear l9 n22 n2I nI2 n12 nq2 nx2 nd2; exact gneq (lin2 (cx3 _ _ _) (.var 0) (.add (.num 0) (.var 1)) (.var 2) (.var 0) (.var 2) (.var 1) 1 1 1 rfl (ieq2 hc3) (tn2 (lin1 (cx1 _) (.num 0) (.var 0) (.num 0) (.var 0) 1 1 rfl hlo))) (lin2 (cx3 _ _ _) (.add (.num 0) (.var 0)) (.var 1) (.var 1) (.var 2) (.var 0) (.var 2) 1 1 1 rfl (ieq1 hc3) (tn1 _))
              repeat' (first
                | (k_dflt ((with_unfolding_all (refine' words_sub ?k1_9 ?k2_9 ?k3_9 ?k4_9 ?_ ?k5_9)); (case k1_9 => k_asm); (case k2_9 => k_mem); (case k3_9 => with_reducible assumption); (case k4_9 => with_reducible assumption); (case k5_9 => with_unfolding_all rfl); k_whole))
                | (k_unfold; (try dsimp only)) | (k_end; wrow_close) | walk1 | (dsimp only; walk1) | (leave1; try dsimp only))
              · rename am.getD c.toNat 0 > 0 => e3
                refine Halt.out ?_
                refine KBy.add_bytes (Nat.le_trans (Nat.add_le_add hwl (Nat.le_refl _)) (by decide)) ?_
                intro t7 k7
                k_steps
                refine Halt.out ?_
                refine' ap_c ?hn ?k1 ?k2 ?k3 ?k4 ?k5 ?k6 ?k7 ?k8 ?_
                case k4 => k_asm
                case hn => with_reducible assumption
                case k1 => k_asm
                case k2 => k_asm
                case k3 => k_asm
                case k5 => k_asm
                case k6 => first | exact rfl | assumption
                case k7 => ktr_room
                case k8 => ktr_units
                intro b9 t9 hb9 h93 tk93 F93 N9
                (try dsimp only [List.nil_append, List.cons_append] at N9)
                (try dsimp only)
                (try k_fold)
                k_steps
                refine Halt.out ?_
                have hbs := congrArg List.length hb9
                rw [KBw.ints_length] at hbs
                have hb4 := apD_len (k := 4) (n := (am.getD c.toNat 0).toNat) (by show _ < 65536; have := hz0.2; clear l9 n22 n2I nI2 n12 nq2 nx2 nd2; exact gnlt (lin2 (cx2 _ _) (.add (.var 0) (.num 1)) (.num 65536) (.var 1) (.var 0) (.add (.var 1) (.num 1)) (.num 65536) 1 1 1 rfl hz0.2 (tn2 (lin1 (cx1 _) (.num 0) (.var 0) (.num 0) (.var 0) 1 1 rfl hz0.1))))
                rw [← hbs] at hb4
                refine KBy.add_bytes (Nat.le_trans (Nat.add_le_add (by rw [Array.size_append]; exact Nat.add_le_add hwl (Nat.le_refl _)) hb4) (by decide)) ?_
                intro t8 k8
                k_steps
                refine EndF.intro (by k_asm) (by k_asm) (fun p hp => by repeat' (first | exact hp | refine List.mem_cons_of_mem _ ?_)) ?_
                have e3' : am.getD i3 0 > 0 := by rw [← hci]; exact e3
                have hf3 : List.filter (fun c => decide (am.getD c 0 > 0)) [i3] = [i3] := by simp only [List.filter_cons, List.filter_nil, decide_eq_true e3', if_true]
                rw [List.range_succ, List.filter_append, hf3, List.map_append, List.map_singleton]
                refine BA.snoc _ ?_ hJ
                rw [← hci, ← hb9]
                exact KBw.ints_app (KBw.ints_app rfl rfl) rfl
              · rename_i e3
                refine EndF.intro (by k_asm) (by k_asm) (fun p hp => by repeat' (first | exact hp | refine List.mem_cons_of_mem _ ?_)) ?_
                have e3' : ¬ am.getD i3 0 > 0 := by rw [← hci]; exact e3
                have hf3 : List.filter (fun c => decide (am.getD c 0 > 0)) [i3] = [] := by simp only [List.filter_cons, List.filter_nil, decide_eq_false e3', Bool.false_eq_true, if_false]
                rw [List.range_succ, List.filter_append, hf3, List.append_nil]
                exact hJ
            · intro zs hJ D3 h3 tk3 F3 N3 off3
              refine ob1 hJ.bl fun bl hb0 => ?_
              rw [hb0.1] at N3
              have hbl := hb0.2
              clear hb0 hJ
              k_steps
              refine Halt.out ?_
              refine' joinMeth ?_
              repeat' (first
                | ((with_reducible show wpAny _ _ (eval (Expr.Name _ _) _) _ _ _); k_dflt ((refine' nameX_L ?F_10 ?v_10 ?_ ?a_10 ?b_10); (case a_10 => rfl); (case b_10 => rfl); (case F_10 => k_asm); (case v_10 => (try dsimp only); (repeat' ((show (_ : Option Value) = some _); first | (with_reducible assumption) | exact nm_here | (refine' nm_skip ?hne_10 ?_; (case hne_10 => decide +kernel)))); done); k_whole))
                | (k_unfold; (try dsimp only)) | (k_end; wrow_close) | walk1 | (dsimp only; walk1) | (leave1; try dsimp only))
              refine Halt.out ?_
              refine' ap_c ?hn ?k1 ?k2 ?k3 ?k4 ?k5 ?k6 ?k7 ?k8 ?_
              case k4 => k_asm
              case hn => with_reducible assumption
              case k1 => k_asm
              case k2 => k_asm
              case k3 => k_asm
              case k5 => k_asm
              case k6 => first | exact rfl | assumption
              case k7 => ktr_room
              case k8 => ktr_units
              intro bu tu hbu h94 tk94 F94 N9
              (try dsimp only [List.nil_append, List.cons_append] at N9)
              (try dsimp only)
              (try k_fold)
              repeat' (first
                | ((with_reducible show wpAny _ _ (eval (Expr.Name _ _) _) _ _ _); k_dflt ((refine' nameX_L ?F_11 ?v_11 ?_ ?a_11 ?b_11); (case a_11 => rfl); (case b_11 => rfl); (case F_11 => k_asm); (case v_11 => (try dsimp only); (repeat' ((show (_ : Option Value) = some _); first | (with_reducible assumption) | exact nm_here | (refine' nm_skip ?hne_11 ?_; (case hne_11 => decide +kernel)))); done); k_whole))
                | (k_unfold; (try dsimp only)) | (k_end; wrow_close) | walk1 | (dsimp only; walk1) | (leave1; try dsimp only))
              rename_i l4 hp4 F4 N4 ll4
              have hlen3 : bl.length ≤ 5 := by
                have := congrArg List.length hbl
                rw [List.length_map, List.length_map] at this
                rw [this]
                exact Nat.le_trans (List.length_filter_le _ _) (by simp)
              have hway : ((bu, tu) :: bl).map (fun p => KBw.bInts p.1) = wayZ (fun c => KBw.bInts (Wd.b c)) (P.G ia.toNat ib.toNat) am := by
                rw [List.map_cons, hbu, hbl]; rfl
              have hwf := way_facts (wd := fun c => KBw.bInts (Wd.b c)) (T := P.G ia.toNat ib.toNat) (am := am) (fun c hc => ⟨by rw [KBw.ints_length]; exact hWs c hc, hWl c hc⟩) hab0 hu0 hU.2
              have hszb : ∀ p ∈ (bu, tu) :: bl, p.1.size ≤ 1000 := fun p hp => by
                have h1 := (hwf.1 (KBw.bInts p.1) (by rw [← hway]; exact List.mem_map.mpr ⟨p, hp, rfl⟩)).1
                rw [KBw.ints_length] at h1
                exact Nat.le_trans h1 (by decide)
              refine add_lists (vs := [.bytes bu tu]) (ws := bvals bl) (by k_asm) (by k_asm) (News.isList (by k_asm) List.mem_cons_self) (News.isList (by k_asm) (List.mem_cons_of_mem _ List.mem_cons_self)) ?_ (by rw [List.length_map]; exact Nat.le_trans (Nat.add_le_add_left hlen3 _) (by rw [sizeLine_eq]; simp))
              intro h5 F5 N5
              k_steps
              refine call_join ((bu, tu) :: bl) (by k_asm) List.mem_cons_self (Nat.succ_le_succ (Nat.zero_le _)) (Nat.le_trans (Nat.succ_le_succ hlen3) (by decide)) hszb (by decide) ?_
              intro t6 k6
              have hB := joined_ints #[32] rfl (((bu, tu) :: bl).map (·.1))
              rw [List.map_map] at hB
              replace hB := hB.trans (congrArg joinI hway)
              generalize Builtin.Bytes.joined #[32] (((bu, tu) :: bl).map (·.1)) = B at hB ⊢
              have hBs : 1 ≤ B.size ∧ B.size ≤ 96 := by
                rw [← KBw.ints_length, hB]
                refine ⟨joinI_pos (apD_ne ?_), Nat.le_trans (joinI_len _ 15 fun x hx => (hwf.1 x hx).1) ?_⟩
                · have := hu0; clear l9 n22 n2I nI2 n12 nq2 nx2 nd2 ll4; exact gnlt (lin2 (cx2 _ _) (.add (.num 0) (.num 1)) (.var 0) (.var 0) (.var 1) (.add (.num 0) (.num 1)) (.var 1) 1 1 1 rfl hu0 (tn1 _))
                · have := hwf.2; clear l9 n22 n2I nI2 n12 nq2 nx2 nd2 ll4; omega
              have hlt := joinI_lt _ (fun x hx => (hwf.1 x hx).2)
              k_steps
              refine Halt.out ?_
              refine' decodeMeth ?_
              k_steps
              refine call_decode (bytes_of hB hlt) hBs.1 (Nat.le_trans hBs.2 (by decide)) ?_
              intro t7 k7
              have hC : cpsI ⟨B.map (·.toNat)⟩ = joinI (wayZ (fun c => KBw.bInts (Wd.b c)) (P.G ia.toNat ib.toNat) am) := by
                rw [← hB]; simp [cpsI, KBw.bInts]
              have hCs : (⟨B.map (·.toNat)⟩ : Str).length ≤ 96 := by show (B.map (·.toNat)).size ≤ 96; rw [Array.size_map]; exact hBs.2
              generalize (⟨B.map (·.toNat)⟩ : Str) = tx at hC hCs ⊢
              repeat' (first
                | ((with_reducible show wpAny _ _ (eval (Expr.Name _ _) _) _ _ _); k_dflt ((refine' nameX_L ?F_12 ?v_12 ?_ ?a_12 ?b_12); (case a_12 => rfl); (case b_12 => rfl); (case F_12 => k_asm); (case v_12 => (try dsimp only); (repeat' ((show (_ : Option Value) = some _); first | (with_reducible assumption) | exact nm_here | (refine' nm_skip ?hne_12 ?_; (case hne_12 => decide +kernel)))); done); k_whole))
                | (k_unfold; (try dsimp only)) | (k_end; wrow_close) | walk1 | (dsimp only; walk1) | (leave1; try dsimp only))
              rename_i hp6 F6 N6
              refine Halt.out ?_
              refine wpAny_mono (Q := fun v s' => Halt (∃ nmS tn tk, (nmS = Str.ofString "Way" ∨ nmS = Str.ofString "wAY") ∧ v = .str nmS tn ∧ s' = { s with heap := hp6, toks := tk })) ?_ ?_ (fun _ _ e => e)
              · refine wpAny_IfExp ?_
                repeat' (first
                  | ((with_reducible show wpAny _ _ (eval (Expr.Name _ _) _) _ _ _); k_dflt ((refine' nameX_L ?F_13 ?v_13 ?_ ?a_13 ?b_13); (case a_13 => rfl); (case b_13 => rfl); (case F_13 => k_asm); (case v_13 => (try dsimp only); (repeat' ((show (_ : Option Value) = some _); first | (with_reducible assumption) | exact nm_here | (refine' nm_skip ?hne_13 ?_; (case hne_13 => decide +kernel)))); done); k_whole))
                  | (k_unfold; (try dsimp only)) | (k_end; wrow_close) | walk1 | (dsimp only; walk1) | (leave1; try dsimp only))
                · exact Halt.out ⟨_, _, _, .inl rfl, rfl, rfl⟩
                · exact Halt.out ⟨_, _, _, .inr rfl, rfl, rfl⟩
              rintro v s' ⟨nmS, tn, tk, hnm, rfl, rfl⟩
              repeat' (first
                | ((with_reducible show wpAny _ _ (eval (Expr.Name _ _) _) _ _ _); k_dflt ((refine' nameX_L ?F_14 ?v_14 ?_ ?a_14 ?b_14); (case a_14 => rfl); (case b_14 => rfl); (case F_14 => k_asm); (case v_14 => (try dsimp only); (repeat' ((show (_ : Option Value) = some _); first | (with_reducible assumption) | exact nm_here | (refine' nm_skip ?hne_14 ?_; (case hne_14 => decide +kernel)))); done); k_whole))
                | (k_unfold; (try dsimp only)) | (k_end; wrow_close) | walk1 | (dsimp only; walk1) | (leave1; try dsimp only))
              rename_i _ _ _ tq kq _
              refine Halt.out ?_
              have hpt := (text_plain hC hlt hCs).1
              have hcx := (text_plain hC hlt hCs).2
              have hpn : PlainS nmS := by rcases hnm with rfl | rfl; exact plain_way1; exact plain_way2
              generalize Str.ofString "FLAGS (" ++ tx ++ Str.ofString ")" = full at hpt hcx ⊢
              have nq2' : @Ne Nat q I2 := off _ mm3
              have nx2' : @Ne Nat x I2 := off _ mm4
              have nd2' : @Ne Nat dx I2 := off _ mm5
              have hdj : ∀ p ∈ (I2, oI2) :: (I, oI) :: (L' + 1 + 1, oA2) :: (L' + 1, oW) :: rest, p.1 ∉ (tabL w x dx q its nt tk0).map (·.1) := no_cons (not3 nq2'.symm nx2'.symm nd2'.symm) (no_cons (not3 nIq.symm nIx.symm nId.symm) (no_cons (not3 lq.1 lx.1 ldx.1) (no_cons (not3 lq.2.1 lx.2.1 ldx.2.1) (fun p hp => (List.mem_append.mp (hrest ▸ hp)).elim (offs3 o1 o2 o3 p) (offs3 lq.2.2 lx.2.2 ldx.2.2 p)))))
              refine' add_ok w x dx q tk0 its nt nmS full _ _ hpn hpt (by clear l9 n22 n2I nI2 n12 nq2 nx2 nd2 ll4; exact gnle (lin4 (cx4 _ _ _ _) (.add (.var 0) (.num 1)) (.num 5) (.add (.var 1) (.num 1)) (.var 2) (.var 3) (.add (.mulL 5 (.var 0)) (.var 1)) (.add (.var 2) (.var 0)) (.num 4) (.var 3) (.num 100) 4 1 1 1 1 rfl (nlt hi) (nlt hj) (nle hsz) (ns2 (lin1 (cx1 _) (.add (.var 0) (.num 1)) (.num 5) (.var 0) (.num 4) 1 1 rfl (nlt hi))))) ((I2, oI2) :: (I, oI) :: (L' + 1 + 1, oA2) :: (L' + 1, oW) :: rest) _ _ _ _ _ _ _ _ _ _ _ _ _ _ _ _ _ _ _ _ ?k1 ?k2 ?k3 ?k4 ?k4b hdj ?k5 ?k6 ?k7 ?k8 ?_
              case k1 => k_asm
              case k2 => k_asm
              case k3 => k_asm
              case k4 => exact news_sub N6 (fun p h => past4 p (tab_in p h))
              case k4b => exact news_sub N6 (fun p h => past4 p (rest_in p h))
              case k5 => k_asm
              case k6 => first | exact rfl | assumption
              case k7 => ktr_room
              case k8 => ktr_units
              k_whole
              intro v9 chg9 h9 tk9 R9 F9 N9
              obtain ⟨p9, t9', n9, k9', e9, f1, f2, f3, f4⟩ := R9
              subst e9
              k_steps
              have hgood : gz (ia, ib) = true := by
                rw [hgz]
                show goodZ (P.G ia.toNat ib.toNat) (amtsZ P _ _ ia ib) = true
                rw [hamz]
                exact good_yes hT fun z hz => ⟨Int.le_trans e1' (m1b z hz), Int.le_trans (m2b z hz) e2'⟩
              have hcf : cpsI full = f (ia, ib) := by
                rw [hfz, hcx]
                show _ = textZ _ (P.G ia.toNat ib.toNat) (amtsZ P _ _ ia ib)
                rw [hamz]; rfl
              refine (TurnR.next (by k_asm) N9 ((I, oI) :: (L' + 1 + 1, oA2) :: (L' + 1, oW) :: (q, W.listOf (its.push (.ref p9)) n9) :: (x, instObj 208 dx) :: (dx, od) :: (((p9, tupO #[.str nmS tn, .str full t9'] k9') :: tup) ++ news)) (tab_next hrest hod) (ne_cons n2I (ne_cons n22 (ne_cons (off _ mm2) (ne_cons nq2' (ne_cons nx2' (ne_cons nd2' (ne_cons (Ne.symm f1.1) (fun p hp => off p (hrest ▸ past6 p hp))))))))) (J1i _ _ (its.push (.ref p9)) n9 (txs ++ [full]) ((p9, tupO #[.str nmS tn, .str full t9'] k9') :: tup) oA2 _ ta ?_ ?_ ?_ ?_ ?_ dA2 ?_ ?_ (tx_yes hc hd' hgood hcf hTX) ⟨f2, o1⟩ ⟨f3, o2⟩ ⟨f4, o3⟩ ⟨?_, o4⟩ ⟨?_, o5⟩ ⟨?_, o6⟩))
              · ((try dsimp only); (repeat' ((show (_ : Option Value) = some _); first | (with_reducible assumption) | exact nm_here | (refine' nm_skip ?hne ?_; (case hne => decide +kernel)))))
              · ((try dsimp only); (repeat' ((show (_ : Option Value) = some _); first | (with_reducible assumption) | exact nm_here | (refine' nm_skip ?hne ?_; (case hne => decide +kernel)))))
              · ((try dsimp only); (repeat' ((show (_ : Option Value) = some _); first | (with_reducible assumption) | exact nm_here | (refine' nm_skip ?hne ?_; (case hne => decide +kernel)))))
              · ((try dsimp only); (repeat' ((show (_ : Option Value) = some _); first | (with_reducible assumption) | exact nm_here | (refine' nm_skip ?hne ?_; (case hne => decide +kernel)))))
              · ((try dsimp only); (repeat' ((show (_ : Option Value) = some _); first | (with_reducible assumption) | exact nm_here | (refine' nm_skip ?hne ?_; (case hne => decide +kernel)))))
              · rw [Array.size_push]; exact Nat.succ_le_succ hsz
              · rw [Array.toList_push]
                exact TI.snoc hnm List.mem_cons_self (hTI.mono fun p hp => List.mem_cons_of_mem _ hp)
              · exact Ne.symm f1.2.2.2.1
              · exact Ne.symm f1.2.2.1
              · exact Ne.symm f1.2.1
          · rename_i e2'
            have hgb : gz (ia, ib) = false := by
              rw [hgz]
              exact good_no m2a (.inr e2')
            refine (TurnR.next (by k_asm) (by k_asm) ((I, oI) :: (L' + 1 + 1, oA2) :: (L' + 1, oW) :: (q, W.listOf its nt) :: (x, instObj 208 dx) :: (dx, od) :: (tup ++ news)) (fun p hp => by (try rw [← hrest] at hp); repeat' (first | exact hp | refine List.mem_cons_of_mem _ ?_)) (offO oA2) (J1i _ _ its nt txs tup oA2 _ ta ?_ ?_ ?_ ?_ ?_ dA2 (Nat.le_trans hsz (Nat.le_succ _)) hTI (tx_no hc hd' hgb hTX) o1 o2 o3 o4 o5 o6))
            all_goals ((try dsimp only); (repeat' ((show (_ : Option Value) = some _); first | (with_reducible assumption) | exact nm_here | (refine' nm_skip ?hne ?_; (case hne => decide +kernel)))))
        · rename_i e1'
          have hgb : gz (ia, ib) = false := by
            rw [hgz]
            exact good_no m1a (.inl e1')
          refine (TurnR.next (by k_asm) (by k_asm) ((I, oI) :: (L' + 1 + 1, oA2) :: (L' + 1, oW) :: (q, W.listOf its nt) :: (x, instObj 208 dx) :: (dx, od) :: (tup ++ news)) (fun p hp => by (try rw [← hrest] at hp); repeat' (first | exact hp | refine List.mem_cons_of_mem _ ?_)) (offO oA2) (J1i _ _ its nt txs tup oA2 _ ta ?_ ?_ ?_ ?_ ?_ dA2 (Nat.le_trans hsz (Nat.le_succ _)) hTI (tx_no hc hd' hgb hTX) o1 o2 o3 o4 o5 o6))
          all_goals ((try dsimp only); (repeat' ((show (_ : Option Value) = some _); first | (with_reducible assumption) | exact nm_here | (refine' nm_skip ?hne ?_; (case hne => decide +kernel)))))
    · intro h' tk m' news' F N hJ
      revert N
      refine J1e _ _ (fun news' => News g' L' h' news' → _) ?_ _ hJ
      clear hJ news'
      intro its nt txs tup oA' va ta e1 e2 e3 e4 e5 dA' hsz hTI hTX o1 o2 o3 o4 o5 o6 N
      k_steps
      refine (TurnR.next (by k_asm) (by k_asm) ((L' + 1 + 1, oA') :: (L' + 1, oW) :: (q, W.listOf its nt) :: (x, instObj 208 dx) :: (dx, od) :: (tup ++ news)) (fun p hp => hp) (ne_cons nI2 (ne_cons nI1 (ne_cons nIq (ne_cons nIx (ne_cons nId (fun p hp => (List.mem_append.mp hp).elim (off1_mem o6 p) (nIn p))))))) (J0i _ _ its nt txs tup oA' _ ?_ ?_ ?_ ?_ dA' ?_ hTI ?_ o1 o2 o3 o4 o5))
      · ((try dsimp only); (repeat' ((show (_ : Option Value) = some _); first | (with_reducible assumption) | exact nm_here | (refine' nm_skip ?hne ?_; (case hne => decide +kernel)))))
      · ((try dsimp only); (repeat' ((show (_ : Option Value) = some _); first | (with_reducible assumption) | exact nm_here | (refine' nm_skip ?hne ?_; (case hne => decide +kernel)))))
      · ((try dsimp only); (repeat' ((show (_ : Option Value) = some _); first | (with_reducible assumption) | exact nm_here | (refine' nm_skip ?hne ?_; (case hne => decide +kernel)))))
      · ((try dsimp only); (repeat' ((show (_ : Option Value) = some _); first | (with_reducible assumption) | exact nm_here | (refine' nm_skip ?hne ?_; (case hne => decide +kernel)))))
      · clear lq lx ldx nxq ndq ndx; omega
      · rw [prs_succ]; exact hTX
  · intro h' tk m' news' F N hJ
    revert N
    refine J0e _ _ (fun news' => News g' L' h' news' → _) ?_ _ hJ
    clear hJ news'
    intro its nt txs tup oA' va e1 e2 e3 e4 dA' hsz hTI hTX o1 o2 o3 o4 o5 N
    repeat' (first
      | ((with_reducible show wpAny _ _ (eval (Expr.Name _ _) _) _ _ _); k_dflt ((refine' nameX_L ?F_15 ?v_15 ?_ ?a_15 ?b_15); (case a_15 => rfl); (case b_15 => rfl); (case F_15 => k_asm); (case v_15 => (try dsimp only); (repeat' ((show (_ : Option Value) = some _); first | (with_reducible assumption) | exact nm_here | (refine' nm_skip ?hne_15 ?_; (case hne_15 => decide +kernel)))); done); k_whole))
      | (k_unfold; (try dsimp only)) | (k_end; wrow_close) | walk1 | (dsimp only; walk1) | (leave1; try dsimp only))
    exact ⟨_, _, _, F, N, fun p hp => by repeat' (first | exact List.mem_append_right _ hp | refine List.mem_cons_of_mem _ ?_), fun F N => hret _ (tabL w x dx q its nt tk0 ++ tup) _ _ ⟨x, dx, q, its, nt, tk0, tup, txs, rfl, rfl, hsz, hTI, hTX⟩ F (news_sub N (tab_end hod))⟩
end
section
open PySem.Calls
open PyProof.Rows.LCg
theorem BA.at : ∀ {vs : List Value} {l : List (List Int)}, BA vs l → ∀ {i : Nat} {x : List Int}, l[i]? = some x → ∃ b t, vs[i]? = some (.bytes b t) ∧ KBw.bInts b = x := by
  intro vs l h
  induction h with
  | nil => intro i x e; exact nomatch (show (none : Option (List Int)) = some x from e)
  | cons t hb _ ih =>
    intro i x e
    cases i with
    | zero => exact ⟨_, _, rfl, hb.trans (Option.some.inj e)⟩
    | succ i => exact ih e
section
variable {prog : Program} {w : World} {A : Around} {E : Value → Shared → Prop} {s : Shared} {h₀ : Heap} {L : Addr} {news : List (Addr × Obj)}
theorem tup_sub {Q : Value → Shared → Prop} {ta : Addr} {vs : List Value} {l : List (List Int)} {x : List Int} {nk : Nat} {k : Int} {u : Tok} {value slice : Expr} (N : News h₀ L s.heap news) (hm : (ta, tupO vs.toArray nk) ∈ news) (hB : BA vs l) (h0 : 0 ≤ k) (hx : l[k.toNat]? = some x) (hfit : k < 2 ^ 63)
    (h : ∀ b t, KBw.bInts b = x → Q (.bytes b t) s)
    (hs : subscripted slice false (.ref ta) (.int k u) = operate [.ref ta, .int k u] (getItem (.ref ta) (.int k u))) :
    wpAny (model prog w) A (subscriptTail value slice (.ref ta) (.int k u)) Q E s := by
  obtain ⟨b, t, e1, e2⟩ := hB.at hx
  have ht : IsTup s.heap ta vs.toArray := ⟨_, (N _ hm).1, rfl, _, rfl⟩
  have hlt : k.toNat < vs.length := by
    rcases Nat.lt_or_ge k.toNat vs.length with h | h
    · exact h
    · rw [List.getElem?_eq_none h] at e1; cases e1
  have hn : k < ((vs.toArray.size : Nat) : Int) := by rw [List.size_toArray]; exact lin2 (cx3 _ _ _) (.add (.var 0) (.num 1)) (.var 1) (.var 2) (.var 0) (.add (.var 2) (.num 1)) (.var 1) 1 1 1 rfl (nlt hlt) (tn1 _)
  exact tail_any ht.typeIs slot_tuple_getitem.lookup (getItem_tuple ht (by exact lin1 (cx1 _) (.num 0) (.var 0) (.neg (.num 9223372036854775808)) (.var 0) 1 1 rfl h0) hfit (seqIndex_of h0 hn) (by simpa using e1) (h b t e2)) hs
theorem words_index {Q : Value → Shared → Prop} {Wd : Wds} {pl : Addr} {np c : Nat} {b : Array UInt8} {t : Tok} (N : News h₀ L s.heap news) (hm : (pl, Wd.obj np) ∈ news) (hc : c < 5) (hb : KBw.bInts b = KBw.bInts (Wd.b c)) (hi : ∀ d, d < c → KBw.bInts (Wd.b d) ≠ KBw.bInts (Wd.b c))
    (h : Q (.int c s.toks) { s with toks := s.toks + 1 }) : wpAny (model prog w) A (call (.builtin "list.index") [.ref pl, .bytes b t]) Q E s := by
  have inj : ∀ {a b : Array UInt8}, a.toList = b.toList ↔ KBw.bInts a = KBw.bInts b := fun {a b} => by
    constructor
    · intro e; unfold KBw.bInts; rw [e]
    · intro e
      refine (List.map_inj_right (f := fun u : UInt8 => (u.toNat : Int)) (fun x y e => ?_)).mp e
      exact UInt8.toNat_inj.mp (Int.ofNat.inj e)
  refine call_meets PySem.F.slot_list_index ⟨_, (N _ hm).1, rfl⟩ PySem.F.entry_list_index (PySem.F.args_list_index_2 _ _)
    (MeetsSeq.list_index pl #[.bytes (Wd.b 0) (Wd.t 0), .bytes (Wd.b 1) (Wd.t 1), .bytes (Wd.b 2) (Wd.t 2), .bytes (Wd.b 3) (Wd.t 3), .bytes (Wd.b 4) (Wd.t 4)] np (.bytes b t) (fun v => match v with | .bytes c _ => decide (c.toList = b.toList) | _ => false) (fun y hy => ?_) c (by simpa using hc) (by exact lin1 (cx1 _) (.add (.var 0) (.num 1)) (.num 5) (.add (.var 0) (.num 1)) (.sub (.num 9223372036854775808) (.num 1)) 1 1 rfl (nlt hc)) ?_ ?_) ⟨(N _ hm).1, h⟩
  · simp only [List.mem_toArray, List.mem_cons, List.not_mem_nil, or_false] at hy
    rcases hy with rfl | rfl | rfl | rfl | rfl <;> exact fun _ _ _ _ _ _ h => eqBool_bytes h
  · have : ∀ c, c < 5 → ∀ (h : c < 5), (#[Value.bytes (Wd.b 0) (Wd.t 0), .bytes (Wd.b 1) (Wd.t 1), .bytes (Wd.b 2) (Wd.t 2), .bytes (Wd.b 3) (Wd.t 3), .bytes (Wd.b 4) (Wd.t 4)])[c]'h = .bytes (Wd.b c) (Wd.t c) := by
      intro c hc h
      have : c = 0 ∨ c = 1 ∨ c = 2 ∨ c = 3 ∨ c = 4 := lin_or5 (by exact gnlt (lin1 (cx1 _) (.add (.var 0) (.num 1)) (.num 5) (.add (.var 0) (.num 1)) (.num 5) 1 1 rfl (nlt hc)))
      rcases this with rfl | rfl | rfl | rfl | rfl <;> rfl
    rw [this c hc]
    exact decide_eq_true (inj.mpr hb.symm)
  · intro d hd hlt
    have : ∀ c, c < 5 → ∀ (h : c < 5), (#[Value.bytes (Wd.b 0) (Wd.t 0), .bytes (Wd.b 1) (Wd.t 1), .bytes (Wd.b 2) (Wd.t 2), .bytes (Wd.b 3) (Wd.t 3), .bytes (Wd.b 4) (Wd.t 4)])[c]'h = .bytes (Wd.b c) (Wd.t c) := by
      intro c hc h
      have : c = 0 ∨ c = 1 ∨ c = 2 ∨ c = 3 ∨ c = 4 := lin_or5 (by exact gnlt (lin1 (cx1 _) (.add (.var 0) (.num 1)) (.num 5) (.add (.var 0) (.num 1)) (.num 5) 1 1 rfl (nlt hc)))
      rcases this with rfl | rfl | rfl | rfl | rfl <;> rfl
    rw [this d (by exact gnlt (lin2 (cx2 _ _) (.add (.var 0) (.num 1)) (.num 5) (.add (.var 1) (.num 1)) (.var 0) (.add (.var 1) (.num 1)) (.num 5) 1 1 1 rfl (nlt hc) (nlt hlt)))]
    exact decide_eq_false fun e => hi d hlt ((inj.mp e).trans hb)
end
noncomputable def toldZ (ps : List (Nat × List Int)) : List Int := ps.foldl (fun l p => l.set p.1 (readZ p.2)) [0, 0, 0, 0, 0]
theorem toldZ_len {ps : List (Nat × List Int)} : (toldZ ps).length = 5 := by
  have : ∀ (ps : List (Nat × List Int)) (l : List Int), l.length = 5 → (ps.foldl (fun l p => l.set p.1 (readZ p.2)) l).length = 5 := by
    intro ps
    induction ps with
    | nil => intro l h; exact h
    | cons p ps ih => intro l h; exact ih _ (by rw [List.length_set]; exact h)
  exact this ps _ rfl
theorem toldZ_take {ps : List (Nat × List Int)} {i : Nat} {p : Nat × List Int} (h : ps[i]? = some p) : toldZ (ps.take (i + 1)) = (toldZ (ps.take i)).set p.1 (readZ p.2) := by
  rw [List.take_add_one, h]
  unfold toldZ
  rw [List.foldl_append]
  rfl
noncomputable abbrev flatP (wd : Nat → List Int) (ps : List (Nat × List Int)) : List (List Int) := ps.flatMap fun p => [wd p.1, p.2]
theorem flatP_at {wd : Nat → List Int} : ∀ {ps : List (Nat × List Int)} {i : Nat} {p : Nat × List Int}, ps[i]? = some p → (flatP wd ps)[2 * i]? = some (wd p.1) ∧ (flatP wd ps)[2 * i + 1]? = some p.2
  | [], i, p, h => by simp at h
  | q :: ps, 0, p, h => by
    simp only [List.getElem?_cons_zero, Option.some.injEq] at h
    subst h
    exact ⟨rfl, rfl⟩
  | q :: ps, i + 1, p, h => by
    rw [List.getElem?_cons_succ] at h
    have := flatP_at (wd := wd) h
    exact ⟨this.1, this.2⟩
theorem flatP_len {wd : Nat → List Int} : ∀ {ps : List (Nat × List Int)}, (flatP wd ps).length = 2 * ps.length
  | [] => rfl
  | q :: ps => by
    have := flatP_len (wd := wd) (ps := ps)
    show (_ :: _ :: flatP wd ps).length = _
    rw [List.length_cons, List.length_cons, List.length_cons, this]; omega
local macro_rules | `(tactic| walk_at "call builtin:list.index") => `(tactic| (k_here; with_reducible refine halt_in ?_))
local macro_rules | `(tactic| walk_at "call builtin:len") => `(tactic| (k_here; with_reducible refine halt_in ?_))
theorem range2 {n : Nat} {kn : Int} (h : kn = 1 + 2 * (n : Int)) (hn : n ≤ 100) : Builtin.Range.small 1 kn 2 = true ∧ Builtin.Range.rangeSize 1 kn 2 = (n : Int) := by
  have e : Builtin.Range.rangeSize 1 kn 2 = (n : Int) := by
    unfold Builtin.Range.rangeSize
    rw [if_pos (by decide)]
    by_cases h1 : (1 : Int) < kn
    · rw [if_pos h1]; exact Int.le_antisymm (lin3 (cx4 _ _ _ _) (.var 0) (.add (.num 1) (.mulL 2 (.var 1))) (.num 0) (.var 2) (.add (.var 2) (.mulL 2 (.var 3))) (.sub (.sub (.var 0) (.num 1)) (.num 1)) (.add (.var 3) (.num 1)) (.var 1) 1 1 1 2 rfl (ieq1 h) (md1 _ (by decide)) (md3 _ _)) (lin3 (cx4 _ _ _ _) (.add (.num 1) (.mulL 2 (.var 0))) (.var 1) (.add (.var 2) (.num 1)) (.num 2) (.sub (.sub (.var 1) (.num 1)) (.num 1)) (.add (.var 2) (.mulL 2 (.var 3))) (.var 0) (.add (.var 3) (.num 1)) 1 1 1 2 rfl (ieq2 h) (md2 _ (by decide)) (md4 _ _))
    · rw [if_neg h1]; exact Int.le_antisymm (lin1 (cx1 _) (.num 0) (.var 0) (.num 0) (.var 0) 1 1 rfl (nn _)) (lin2 (cx2 _ _) (.add (.num 1) (.mulL 2 (.var 0))) (.var 1) (.var 1) (.num 1) (.var 0) (.num 0) 1 1 2 rfl (ieq2 h) (inlt h1))
  refine ⟨?_, e⟩
  unfold Builtin.Range.small
  rw [e]
  unfold Builtin.Range.rangeFitsLong
  simp only [Bool.and_eq_true, Bool.or_eq_true, decide_eq_true_eq, beq_iff_eq]
  refine ⟨⟨⟨⟨?_, ?_⟩, ?_⟩, ?_⟩, ?_⟩
  · decide
  · exact ⟨lin2 (cx2 _ _) (.add (.num 1) (.mulL 2 (.var 0))) (.var 1) (.num 0) (.var 0) (.neg (.num 9223372036854775808)) (.var 1) 1 2 1 rfl (ieq2 h) (nn _), lin2 (cx2 _ _) (.var 0) (.add (.num 1) (.mulL 2 (.var 1))) (.var 1) (.num 100) (.add (.var 0) (.num 1)) (.num 9223372036854775808) 1 2 1 rfl (ieq1 h) (nle hn)⟩
  · decide
  · exact ⟨lin1 (cx1 _) (.num 0) (.var 0) (.neg (.num 9223372036854775808)) (.var 0) 1 1 rfl (nn _), lin1 (cx1 _) (.var 0) (.num 100) (.add (.var 0) (.num 1)) (.num 9223372036854775808) 1 1 rfl (nle hn)⟩
  · right
    rw [if_pos (by decide)]
    simp only [Bool.and_eq_true, decide_eq_true_eq]
    exact ⟨lin2 (cx2 _ _) (.add (.num 1) (.mulL 2 (.var 0))) (.var 1) (.num 0) (.var 0) (.neg (.num 9223372036854775808)) (.add (.var 1) (.sub (.num 2) (.num 1))) 1 2 1 rfl (ieq2 h) (nn _), lin2 (cx2 _ _) (.var 0) (.add (.num 1) (.mulL 2 (.var 1))) (.var 1) (.num 100) (.add (.add (.var 0) (.sub (.num 2) (.num 1))) (.num 1)) (.num 9223372036854775808) 1 2 1 rfl (ieq1 h) (nle hn)⟩
local macro_rules | `(tactic| walk_at "exec For Name Call cons nil") => `(tactic| (k_here; with_reducible refine halt_in ?_))
theorem told_ok (w : World) (fa pl : Addr) (ws : List Value) (u : List Int) (ps : List (Nat × List Int)) (Wd : Wds) (k np : Nat) (news : List (Addr × Obj))
   (hfa : (fa, tupO ws.toArray k) ∈ news) (hB : BA ws (u :: flatP (fun c => KBw.bInts (Wd.b c)) ps)) (hpl : (pl, Wd.obj np) ∈ news) (hinj : ∀ c d, c < 5 → d < 5 → KBw.bInts (Wd.b c) = KBw.bInts (Wd.b d) → c = d)
   (hps : ∀ p ∈ ps, p.1 < 5 ∧ p.2.length ≤ 100) (hu : u.length ≤ 100) (hn : ps.length ≤ 100) :
   Ctr w 2 40 282 [.ref fa, .ref pl] news (fun _ v add => ∃ T q ys tu kt kq, v = .ref T ∧ add = [(T, tupO #[.int (readZ u) tu, .ref q] kt), (q, W.listOf (List.toArray ys) kq)] ∧ IntsAre ys (toldZ ps) ∧ Off1 T news ∧ Off1 q news) := by
  intro mean mg mb dp un gd cn cs a ccd cl outer A₀ base h₀ L m s Q E B F X N T hk hd hu hret
  (refine wpAny_call ?_; k_dflt (refine' enterP (news₀ := news) ?k1 ?k2 ?k3 ?k4 ?k5 ?kS ?kA ?kF ?kK ?k6 ?k7 ?k8 ?k9 ?kB ?_ ?c2 ?c3 ?c4 ?c5; (case kA => exact rfl); (case kF => exact rfl); (case kK => assumption); (case k1 => k_asm); (case k2 => k_asm); (case k3 => k_asm); (case k4 => k_asm); (case k5 => k_asm); (case kS => first | exact fun _ h => h | exact List.forall_mem_nil _ | (intro p hp; simp only [List.mem_cons, List.not_mem_nil, or_false] at hp; rcases hp with rfl | hp <;> first | assumption | (rcases hp with rfl | hp <;> first | assumption | (rcases hp with rfl | hp <;> first | assumption | (rcases hp with rfl | hp <;> first | assumption | (rcases hp with rfl | hp <;> first | assumption | (rcases hp with rfl | hp <;> first | assumption | (rcases hp with rfl | hp <;> first | assumption | (rcases hp with rfl | hp <;> first | assumption | (subst hp; assumption))))))))) | (intro p hp; simp only [List.mem_cons, List.not_mem_nil, or_false] at hp; subst hp; assumption)); (case k6 => k_is); (case k7 => k_is); (case k8 => ktr_room); (case k9 => exact BindsTo.of_eq rfl); (case c5 => decide); (case kB => exact locs rfl); (case c2 => exact rfl); (case c3 => exact rfl); (case c4 => exact rfl); k_whole; intro g' L' h' FG' F' N' B' X' T' lt' old'; (try dsimp only); (try k_fold); refine wpLB ?_; intro Ax Qx))
  have hwl : ws.length = 1 + 2 * ps.length := by rw [hB.len, List.length_cons, flatP_len]; omega
  obtain ⟨kn, hkn⟩ : ∃ kn : Int, ((ws.toArray.size : Nat) : Int) = kn := ⟨_, rfl⟩
  have hkn2 : kn = 1 + 2 * (ps.length : Int) := by rw [← hkn, List.size_toArray, hwl]; exact Int.le_antisymm (lin0 (cx1 _) (.add (.num 1) (.mulL 2 (.var 0))) (.add (.num 1) (.mulL 2 (.var 0))) 1 rfl) (lin0 (cx1 _) (.add (.num 1) (.mulL 2 (.var 0))) (.add (.num 1) (.mulL 2 (.var 0))) 1 rfl)
  have hkn3 : kn ≤ 16384 := by exact lin2 (cx2 _ _) (.var 0) (.num 100) (.var 1) (.add (.num 1) (.mulL 2 (.var 0))) (.var 1) (.num 16384) 2 1 1 rfl (nle hn) (ieq1 hkn2)
  have hr2 := range2 hkn2 hn
  have h01 : (u :: flatP (fun c => KBw.bInts (Wd.b c)) ps)[(0 : Int).toNat]? = some u := rfl
  have h00 : (0 : Int) ≤ 0 := by decide
  have h02 : (0 : Int) < 2 ^ 63 := by decide
  k_steps
  rename_i q _ l1 _ F4 N4
  refine Halt.out ?_
  obtain ⟨J, hJ⟩ : ∃ J : Nat → (Str → Option Value) → List (Addr × Obj) → Prop, J = fun i m₁ news₁ => ∃ ys, m₁ (Str.ofString "flags") = some (.ref fa) ∧ m₁ (Str.ofString "plain") = some (.ref pl) ∧ m₁ (Str.ofString "amounts") = some (.ref q) ∧ news₁ = (q, W.listOf (List.toArray ys) 0) :: news ∧ IntsAre ys (toldZ (ps.take i)) := ⟨_, rfl⟩
  refine For_S (c := 2) (n := ps.length) J g' rfl rfl rfl ?_
  k_steps
  refine Halt.out ?_
  refine' kun_lenT ?k1 ?k2 ?k3 ?_
  case k1 => exact News.isTup (by k_asm) (by k_mem)
  case k2 => with_reducible assumption
  case k3 => with_reducible assumption
  k_steps
  refine ⟨_, _, _, _, _, _, _, _, rfl, by k_asm, by k_asm, by k_asm, hr2.1, hr2.2, (by rw [hJ]; exact ⟨_, rfl, rfl, nm_here, rfl, by show IntsAre _ [0, 0, 0, 0, 0]; exact .cons _ _ (.cons _ _ (.cons _ _ (.cons _ _ (.cons _ _ .nil))))⟩), ?_, ?_⟩
  · intro i m₁ news₁ I oI h tk t hi hj
    rw [hJ] at hj
    obtain ⟨ys, e1, e2, e3, rfl, hI⟩ := hj
    intro F N off
    obtain ⟨p, hp⟩ : ∃ p, ps[i]? = some p := ⟨_, List.getElem?_eq_getElem hi⟩
    obtain ⟨f1, f2⟩ := flatP_at (wd := fun c => KBw.bInts (Wd.b c)) hp
    obtain ⟨hp5, hpl2⟩ := hps p (List.mem_of_getElem? hp)
    have hp0 : (0 : Int) ≤ (p.1 : Int) := Int.natCast_nonneg _
    have hp6 : ((p.1 : Nat) : Int) < 5 := by exact lin1 (cx1 _) (.add (.var 0) (.num 1)) (.num 5) (.add (.var 0) (.num 1)) (.num 5) 1 1 rfl (nlt hp5)
    have hp6' : ((p.1 : Nat) : Int) < (toldZ (ps.take i)).length := by rw [toldZ_len]; exact hp6
    have hp63 : ((p.1 : Nat) : Int) < 2 ^ 63 := by exact lin1 (cx1 _) (.add (.var 0) (.num 1)) (.num 5) (.add (.var 0) (.num 1)) (.num 9223372036854775808) 1 1 rfl (nlt hp5)
    have hix : ∀ d, d < p.1 → KBw.bInts (Wd.b d) ≠ KBw.bInts (Wd.b p.1) := fun d hd e => by
      have := hinj d p.1 (by exact gnlt (lin2 (cx2 _ _) (.add (.var 0) (.num 1)) (.num 5) (.add (.var 1) (.num 1)) (.var 0) (.add (.var 1) (.num 1)) (.num 5) 1 1 1 rfl (nlt hp5) (nlt hd))) hp5 e
      exact gfalse (lin2 (cx2 _ _) (.add (.var 0) (.num 1)) (.var 1) (.var 1) (.var 0) (.num 1) (.num 0) 1 1 1 rfl (nlt hd) (neq2 this))
    generalize hc : (1 : Int) + (i : Int) * 2 = kk at F
    have k0 : 0 ≤ kk := by exact lin2 (cx2 _ _) (.add (.num 1) (.mulR (.var 0) 2)) (.var 1) (.num 0) (.var 0) (.num 0) (.var 1) 1 2 1 rfl (ieq1 hc) (nn _)
    have k0' : 0 ≤ kk + 1 := by exact lin1 (cx1 _) (.num 0) (.var 0) (.num 0) (.add (.var 0) (.num 1)) 1 1 rfl k0
    have kf : kk < 2 ^ 63 := by exact lin3 (cx3 _ _ _) (.var 0) (.num 100) (.add (.var 1) (.num 1)) (.var 0) (.var 2) (.add (.num 1) (.mulR (.var 1) 2)) (.add (.var 2) (.num 1)) (.num 9223372036854775808) 2 2 1 1 rfl (nle hn) (nlt hi) (ieq2 hc)
    have kf' : kk + 1 < 2 ^ 63 := by exact lin3 (cx3 _ _ _) (.var 0) (.num 100) (.add (.var 1) (.num 1)) (.var 0) (.var 2) (.add (.num 1) (.mulR (.var 1) 2)) (.add (.add (.var 2) (.num 1)) (.num 1)) (.num 9223372036854775808) 2 2 1 1 rfl (nle hn) (nlt hi) (ieq2 hc)
    have x1 : (u :: flatP (fun c => KBw.bInts (Wd.b c)) ps)[kk.toNat]? = some (KBw.bInts (Wd.b p.1)) := by
      rw [show kk.toNat = 2 * i + 1 by exact gneq (lin2 (cx3 _ _ _) (.var 0) (.add (.num 1) (.mulR (.var 1) 2)) (.var 2) (.var 0) (.var 2) (.add (.mulL 2 (.var 1)) (.num 1)) 1 1 1 rfl (ieq2 hc) (tn2 (lin1 (cx1 _) (.num 0) (.var 0) (.num 0) (.var 0) 1 1 rfl k0))) (lin2 (cx3 _ _ _) (.add (.num 1) (.mulR (.var 0) 2)) (.var 1) (.var 1) (.var 2) (.add (.mulL 2 (.var 0)) (.num 1)) (.var 2) 1 1 1 rfl (ieq1 hc) (tn1 _)), List.getElem?_cons_succ]; exact f1
    have x2 : (u :: flatP (fun c => KBw.bInts (Wd.b c)) ps)[(kk + 1).toNat]? = some p.2 := by
      rw [show (kk + 1).toNat = 2 * i + 1 + 1 by exact gneq (lin2 (cx3 _ _ _) (.var 0) (.add (.num 1) (.mulR (.var 1) 2)) (.var 2) (.add (.var 0) (.num 1)) (.var 2) (.add (.add (.mulL 2 (.var 1)) (.num 1)) (.num 1)) 1 1 1 rfl (ieq2 hc) (tn2 (lin1 (cx1 _) (.num 0) (.var 0) (.num 0) (.add (.var 0) (.num 1)) 1 1 rfl k0))) (lin2 (cx3 _ _ _) (.add (.num 1) (.mulR (.var 0) 2)) (.var 1) (.add (.var 1) (.num 1)) (.var 2) (.add (.add (.mulL 2 (.var 0)) (.num 1)) (.num 1)) (.var 2) 1 1 1 rfl (ieq1 hc) (tn1 _)), List.getElem?_cons_succ]; exact f2
    have nI : ∀ r ∈ (I, oI) :: news, r.1 ≠ q := fun r hr => by
      rcases List.mem_cons.mp hr with rfl | hr
      · exact Ne.symm (off _ List.mem_cons_self)
      · exact Nat.ne_of_lt (l1 r hr)
    repeat' (first
      | ((with_reducible show wpAny _ _ (subscriptTail _ _ (Value.ref _) (Value.int _ _)) _ _ _); k_dflt ((with_unfolding_all (refine' tup_sub ?k1_1 ?k2_1 ?k3_1 ?k4_1 ?k5_1 ?k6_1 ?_ ?k7_1)); (case k1_1 => k_asm); (case k2_1 => k_mem); (case k3_1 => with_reducible assumption); (case k4_1 => with_reducible assumption); (case k5_1 => with_reducible assumption); (case k6_1 => with_reducible assumption); (case k7_1 => with_unfolding_all rfl); k_whole; intro _ _ _))
      | ((with_reducible show wpAny _ _ (eval (Expr.Name _ _) _) _ _ _); k_dflt (refine' ld ?k1_2 ?k2_2 ?_; (case k1_2 => k_asm); (case k2_2 => (try dsimp only); (repeat' ((show (_ : Option Value) = some _); first | (with_reducible assumption) | exact nm_here | (refine' nm_skip ?hne_2 ?_; (case hne_2 => decide +kernel)))); done); k_whole))
      | (k_unfold; (try dsimp only)) | (k_end; wrow_close) | walk1 | (dsimp only; walk1) | (leave1; try dsimp only))
    refine Halt.out ?_
    refine' read_c ?hb ?hl ?k1 ?k2 ?k3 ?k4 ?k5 ?k6 ?k7 ?k8 ?_
    case k4 => k_asm
    case hb => with_reducible assumption
    case hl => with_reducible assumption
    case k1 => k_asm
    case k2 => k_asm
    case k3 => k_asm
    case k5 => k_asm
    case k6 => first | exact rfl | assumption
    case k7 => ktr_room
    case k8 => ktr_units
    intro t9 h9 tk9 F9 N9
    (try dsimp only [List.nil_append, List.cons_append] at N9)
    (try dsimp only)
    (try k_fold)
    repeat' (first
      | ((with_reducible show wpAny _ _ (subscriptTail _ _ (Value.ref _) (Value.int _ _)) _ _ _); k_dflt ((with_unfolding_all (refine' tup_sub ?k1_3 ?k2_3 ?k3_3 ?k4_3 ?k5_3 ?k6_3 ?_ ?k7_3)); (case k1_3 => k_asm); (case k2_3 => k_mem); (case k3_3 => with_reducible assumption); (case k4_3 => with_reducible assumption); (case k5_3 => with_reducible assumption); (case k6_3 => with_reducible assumption); (case k7_3 => with_unfolding_all rfl); k_whole; intro _ _ _))
      | ((with_reducible show wpAny _ _ (eval (Expr.Name _ _) _) _ _ _); k_dflt (refine' ld ?k1_4 ?k2_4 ?_; (case k1_4 => k_asm); (case k2_4 => (try dsimp only); (repeat' ((show (_ : Option Value) = some _); first | (with_reducible assumption) | exact nm_here | (refine' nm_skip ?hne_4 ?_; (case hne_4 => decide +kernel)))); done); k_whole))
      | (k_unfold; (try dsimp only)) | (k_end; wrow_close) | walk1 | (dsimp only; walk1) | (leave1; try dsimp only))
    refine Halt.out ?_
    refine' words_index ?k1 ?k2 ?k3 ?k4 ?k5 ?_
    case k1 => k_asm
    case k2 => k_mem
    case k3 => with_reducible assumption
    case k4 => with_reducible assumption
    case k5 => with_reducible assumption
    k_steps
    rename_i b9 tb9 hb9
    refine ksa_set (n := 0) F9 (news' := (q, W.listOf (ys.set p.1 (.int (readZ p.2) t9)).toArray 0) :: (I, oI) :: news) (news_sub (l := (q, W.listOf ys.toArray 0) :: (I, oI) :: news) N9 ?_) ?_ hI hp0 hp6' hp63 ?_
    · intro r hr
      rcases List.mem_cons.mp hr with rfl | hr
      · exact List.mem_cons_of_mem _ List.mem_cons_self
      · rcases List.mem_cons.mp hr with rfl | hr
        · exact List.mem_cons_self
        · exact List.mem_cons_of_mem _ (List.mem_cons_of_mem _ hr)
    · exact Upd.head nI
    intro h8 F8 N8 hI8 _ _
    k_steps
    refine TurnR.next (by k_asm) (by k_asm) ((q, W.listOf (ys.set p.1 (.int (readZ p.2) t9)).toArray 0) :: news) (fun r hr => ?_) (fun r hr => ?_) (use_J hJ ⟨_, ?_, ?_, ?_, rfl, ?_⟩)
    · rcases List.mem_cons.mp hr with rfl | hr
      · exact List.mem_cons_of_mem _ List.mem_cons_self
      · rcases List.mem_cons.mp hr with rfl | hr
        · exact List.mem_cons_self
        · exact List.mem_cons_of_mem _ (List.mem_cons_of_mem _ hr)
    · rcases List.mem_cons.mp hr with rfl | hr
      · exact off (q, W.listOf ys.toArray 0) List.mem_cons_self
      · exact off _ (List.mem_cons_of_mem _ hr)
    · exact (if_neg (by decide +kernel)).trans e1
    · exact (if_neg (by decide +kernel)).trans e2
    · exact (if_neg (by decide +kernel)).trans e3
    · rw [toldZ_take hp]; exact hI8
  · intro h' tk m' news' F N hj
    rw [hJ] at hj
    obtain ⟨ys, e1, e2, e3, rfl, hI⟩ := hj
    rw [List.take_length] at hI
    repeat' (first
      | ((with_reducible show wpAny _ _ (subscriptTail _ _ (Value.ref _) (Value.int _ _)) _ _ _); k_dflt ((with_unfolding_all (refine' tup_sub ?k1_5 ?k2_5 ?k3_5 ?k4_5 ?k5_5 ?k6_5 ?_ ?k7_5)); (case k1_5 => k_asm); (case k2_5 => k_mem); (case k3_5 => with_reducible assumption); (case k4_5 => with_reducible assumption); (case k5_5 => with_reducible assumption); (case k6_5 => with_reducible assumption); (case k7_5 => with_unfolding_all rfl); k_whole; intro _ _ _))
      | ((with_reducible show wpAny _ _ (eval (Expr.Name _ _) _) _ _ _); k_dflt (refine' ld ?k1_6 ?k2_6 ?_; (case k1_6 => k_asm); (case k2_6 => (try dsimp only); (repeat' ((show (_ : Option Value) = some _); first | (with_reducible assumption) | exact nm_here | (refine' nm_skip ?hne_6 ?_; (case hne_6 => decide +kernel)))); done); k_whole))
      | (k_unfold; (try dsimp only)) | (k_end; wrow_close) | walk1 | (dsimp only; walk1) | (leave1; try dsimp only))
    refine Halt.out ?_
    refine' read_c ?hb ?hl ?k1 ?k2 ?k3 ?k4 ?k5 ?k6 ?k7 ?k8 ?_
    case k4 => k_asm
    case hb => with_reducible assumption
    case hl => with_reducible assumption
    case k1 => k_asm
    case k2 => k_asm
    case k3 => k_asm
    case k5 => k_asm
    case k6 => first | exact rfl | assumption
    case k7 => ktr_room
    case k8 => ktr_units
    intro t99 h9 tk9 F9 N9
    (try dsimp only [List.nil_append, List.cons_append] at N9)
    (try dsimp only)
    (try k_fold)
    repeat' (first
      | ((with_reducible show wpAny _ _ (eval (Expr.Name _ _) _) _ _ _); k_dflt (refine' ld ?k1_7 ?k2_7 ?_; (case k1_7 => k_asm); (case k2_7 => (try dsimp only); (repeat' ((show (_ : Option Value) = some _); first | (with_reducible assumption) | exact nm_here | (refine' nm_skip ?hne_7 ?_; (case hne_7 => decide +kernel)))); done); k_whole))
      | (k_unfold; (try dsimp only)) | (k_end; wrow_close) | walk1 | (dsimp only; walk1) | (leave1; try dsimp only))
    rename_i T' h8 F8 N8 l8
    exact ⟨_, _, _, F8, N8, (fun p hp => List.mem_cons_of_mem _ (List.mem_cons_of_mem _ hp)), fun F N => hret _ [_, _] _ _ ⟨T', q, ys, t99, 0, 0, rfl, rfl, hI, off_of_lt l8.2, off_of l1⟩ F (news_sub N fun p hp => by
      simp only [List.mem_append, List.mem_cons, List.not_mem_nil, or_false] at hp ⊢
      rcases hp with (h | h) | h <;> simp [h])⟩
end
section
open PySem.Calls
open PySem.Float64
set_option exponentiation.threshold 3000
theorem grid : ∀ (k M : Nat), M < 2 ^ (53 + k) → ∃ t, V t ≤ M ∧ M < V t + 2 ^ k
  | 0, M, h => by
    have e := V_at (k := 0) (q := M) (by simpa using Nat.le_of_lt h) (.inr rfl)
    refine ⟨0 * 2 ^ 52 + M, ?_, ?_⟩ <;> rw [e] <;> simp
  | k + 1, M, h => by
    by_cases h2 : M < 2 ^ (53 + k)
    · obtain ⟨t, h3, h4⟩ := grid k M h2
      exact ⟨t, h3, Nat.lt_of_lt_of_le h4 (Nat.add_le_add_left (Nat.pow_le_pow_right (by decide) (by exact gnle (lin0 (cx1 _) (.var 0) (.add (.var 0) (.num 1)) 1 rfl))) _)⟩
    · have hp : 0 < 2 ^ (k + 1) := Nat.two_pow_pos _
      have e1 : 2 ^ (53 + (k + 1)) = 2 ^ 53 * 2 ^ (k + 1) := Nat.pow_add _ _ _
      have e2 : 2 ^ (53 + k) = 2 ^ 52 * 2 ^ (k + 1) := by rw [← Nat.pow_add]; congr 1; omega
      have hd := Nat.div_add_mod M (2 ^ (k + 1))
      have hm := Nat.mod_lt M hp
      have q1 : M / 2 ^ (k + 1) < 2 ^ 53 := (Nat.div_lt_iff_lt_mul hp).mpr (by rw [← e1]; exact h)
      have q2 : 2 ^ 52 ≤ M / 2 ^ (k + 1) := (Nat.le_div_iff_mul_le hp).mpr (by rw [← e2]; exact gnle (lin1 (cx2 _ _) (.var 0) (.var 1) (.var 0) (.var 1) 1 1 rfl (nnlt h2)))
      have e := V_at (k := k + 1) (q := M / 2 ^ (k + 1)) (by exact gnle (lin1 (cx1 _) (.add (.var 0) (.num 1)) (.num 9007199254740992) (.var 0) (.num 9007199254740992) 1 1 rfl (nlt q1))) (.inl q2)
      refine ⟨(k + 1) * 2 ^ 52 + M / 2 ^ (k + 1), ?_, ?_⟩
      · rw [e, Nat.mul_comm]; omega
      · rw [e, Nat.mul_comm]; omega
noncomputable def Fl (x : UInt64) (v : Int) : Prop := ∃ a m e, decode x = .fin a m e ∧ val x = v
theorem dist_near {W p q r : Nat} (h : dist W p ≤ dist W q) (g1 : q ≤ W) (g2 : W < q + r) : W ≤ p + r ∧ p ≤ W + r := by
  have e : dist W q = W - q := by unfold dist; rw [Nat.sub_eq_zero_of_le g1, Nat.add_zero]
  have h2 : dist W p ≤ r := Nat.le_trans h (Nat.le_of_lt (by rw [e]; exact Nat.sub_lt_left_of_lt_add g1 g2))
  exact ⟨Nat.sub_le_iff_le_add'.mp (Nat.le_trans (Nat.le_add_right _ _) h2), Nat.sub_le_iff_le_add'.mp (Nat.le_trans (Nat.le_add_left _ _) h2)⟩
theorem near {r : UInt64} {neg : Bool} {W D : Nat} (k : Nat) (hD : 0 < D) (hW : W < D * 2 ^ (53 + k)) (hk : k ≤ 2000) (h : Right r neg W D) : ∃ v, Fl r v ∧ sgn neg W - ((D * 2 ^ k : Nat) : Int) ≤ v * (D : Int) ∧ v * (D : Int) ≤ sgn neg W + ((D * 2 ^ k : Nat) : Int) := by
  obtain ⟨t, e, ht, hi, hn⟩ := h
  have hlt : t < infMag := by
    rcases Nat.lt_or_ge t infMag with h | h
    · exact h
    · exfalso
      have h1 := hi.mp (Nat.le_antisymm ht h)
      have h2 : 2 * W < D * 2 ^ 2054 := by
        have : D * 2 ^ (53 + k) ≤ D * 2 ^ 2053 := Nat.mul_le_mul_left _ (Nat.pow_le_pow_right (by decide) (by exact gnle (lin1 (cx1 _) (.var 0) (.num 2000) (.add (.num 53) (.var 0)) (.num 2053) 1 1 rfl (nle hk))))
        have e : D * 2 ^ 2054 = 2 * (D * 2 ^ 2053) := by rw [show (2054 : Nat) = 2053 + 1 from rfl, Nat.pow_succ]; simp only [Nat.mul_comm, Nat.mul_left_comm]
        exact gnlt (lin3 (cx4 _ _ _ _) (.add (.var 0) (.num 1)) (.var 1) (.var 1) (.var 2) (.mulL 2 (.var 2)) (.var 3) (.add (.mulL 2 (.var 0)) (.num 1)) (.var 3) 2 2 1 1 rfl (nlt hW) (nle this) (neq2 e))
      have h3 : D * 2 ^ 2054 ≤ D * ((2 ^ 54 - 1) * 2 ^ 2045) := Nat.mul_le_mul_left _ (by decide +kernel)
      omega
  obtain ⟨m, ex, hd, hv⟩ := decode_pack neg hlt
  refine ⟨sgn neg (V t), ⟨neg, m, ex, by rw [e]; exact hd, by rw [e]; exact val_pack neg hlt⟩, ?_⟩
  obtain ⟨t', g1, g2⟩ := grid k (W / D) ((Nat.div_lt_iff_lt_mul hD).mpr (by rw [Nat.mul_comm]; exact hW))
  have hdm := Nat.div_add_mod W D
  have hmm := Nat.mod_lt W hD
  have a1 : D * V t' ≤ W := Nat.le_trans (Nat.mul_le_mul_left _ g1) (by omega)
  have a2 : W < D * V t' + D * 2 ^ k := by
    have : D * (W / D + 1) ≤ D * (V t' + 2 ^ k) := Nat.mul_le_mul_left _ g2
    rw [Nat.mul_add, Nat.mul_add, Nat.mul_one] at this
    omega
  obtain ⟨b1, b2⟩ := dist_near (hn hlt t').1 a1 a2
  clear hn hlt hi ht a1 a2 hdm hmm g1 g2 hd hv hW e
  rw [← sgn_mul, Nat.mul_comm (V t) D]
  unfold sgn
  cases neg
  · simp only [Bool.false_eq_true, if_false]; exact ⟨lin1 (cx3 _ _ _) (.var 0) (.add (.var 1) (.var 2)) (.sub (.var 0) (.var 2)) (.var 1) 1 1 rfl (nle b1), lin1 (cx3 _ _ _) (.var 0) (.add (.var 1) (.var 2)) (.var 0) (.add (.var 1) (.var 2)) 1 1 rfl (nle b2)⟩
  · simp only [if_true]; exact ⟨lin1 (cx3 _ _ _) (.var 0) (.add (.var 1) (.var 2)) (.sub (.neg (.var 1)) (.var 2)) (.neg (.var 0)) 1 1 rfl (nle b2), lin1 (cx3 _ _ _) (.var 0) (.add (.var 1) (.var 2)) (.neg (.var 1)) (.add (.neg (.var 0)) (.var 2)) 1 1 rfl (nle b1)⟩
theorem sgn_nat (i : Int) : sgn (decide (i < 0)) i.natAbs = i := by
  unfold sgn
  by_cases h : i < 0
  · simp only [h, decide_true, if_true]; omega
  · simp only [h, decide_false, Bool.false_eq_true, if_false]; omega
noncomputable def UU : Int := 2 ^ 1000
theorem UU_pos : 0 < UU := by unfold UU; exact Int.pow_pos (by decide)
theorem UU_nat (j : Nat) : ((2 ^ (1000 + j) : Nat) : Int) = 2 ^ j * UU := by
  unfold UU
  rw [Nat.pow_add, Int.natCast_mul, Int.natCast_pow, Int.natCast_pow, Int.mul_comm]; rfl
theorem fl_of {x : UInt64} {a : Bool} {m : Nat} {e : Int} (c : Int) (h : decode x = .fin a m e) (hc : sgn a (m * 2 ^ (e + 1074).toNat) = c * UU) : Fl x (c * UU) := ⟨a, m, e, h, by rw [val_eq h, hc]⟩
theorem fl_add {x y : UInt64} {v w : Int} (j : Nat) (hx : Fl x v) (hy : Fl y w) (h1 : -(2 ^ (53 + j) * UU) < v + w) (h2 : v + w < 2 ^ (53 + j) * UU) (hj : j ≤ 1000) : ∃ z, Fl (add x y) z ∧ v + w - 2 ^ j * UU ≤ z ∧ z ≤ v + w + 2 ^ j * UU := by
  obtain ⟨a, m, e, hd, rfl⟩ := hx
  obtain ⟨b, k, f, hd2, rfl⟩ := hy
  obtain ⟨hz, hr⟩ := add_right hd hd2
  have up : (0 : Int) < 2 ^ j * UU := Int.mul_pos (Int.pow_pos (by decide)) UU_pos
  by_cases h0 : val x + val y = 0
  · refine ⟨0, ?_, by exact lin2 (cx3 _ _ _) (.add (.num 0) (.num 1)) (.var 0) (.add (.var 1) (.var 2)) (.num 0) (.sub (.add (.var 1) (.var 2)) (.var 0)) (.num 0) 1 1 1 rfl up (ieq1 h0), by exact lin2 (cx3 _ _ _) (.add (.num 0) (.num 1)) (.var 0) (.num 0) (.add (.var 1) (.var 2)) (.num 0) (.add (.add (.var 1) (.var 2)) (.var 0)) 1 1 1 rfl up (ieq2 h0)⟩
    rw [hz h0]
    unfold zero
    obtain ⟨m', e', hd', _⟩ := decode_pack (a && b) (t := 0) (by decide)
    exact ⟨_, _, _, hd', by rw [val_pack _ (by decide), V_zero]; unfold sgn; simp⟩
  · have e1 := UU_nat (53 + j)
    obtain ⟨z, hz, z1, z2⟩ := near (1000 + j) (by decide) (by rw [Nat.one_mul, show 53 + (1000 + j) = 1000 + (53 + j) by omega]; omega) (by exact gnle (lin1 (cx1 _) (.var 0) (.num 1000) (.add (.num 1000) (.var 0)) (.num 2000) 1 1 rfl (nle hj))) (hr h0)
    rw [sgn_nat, Nat.one_mul, UU_nat] at z1 z2
    exact ⟨z, hz, by omega, by omega⟩
theorem fl_sub {x y : UInt64} {v w : Int} (j : Nat) (hx : Fl x v) (hy : Fl y w) (h1 : -(2 ^ (53 + j) * UU) < v - w) (h2 : v - w < 2 ^ (53 + j) * UU) (hj : j ≤ 1000) : ∃ z, Fl (sub x y) z ∧ v - w - 2 ^ j * UU ≤ z ∧ z ≤ v - w + 2 ^ j * UU := by
  obtain ⟨b, k, f, hd2, rfl⟩ := hy
  have := fl_add (y := Float64.neg y) (w := -val y) j hx ⟨_, _, _, neg_decode hd2, neg_val hd2⟩ (by rw [← Int.sub_eq_add_neg]; exact h1) (by rw [← Int.sub_eq_add_neg]; exact h2) hj
  rw [← Int.sub_eq_add_neg] at this
  unfold PySem.Float64.sub
  exact this
theorem fl_mul {x y : UInt64} {c w : Int} (j : Nat) (hx : Fl x (c * UU)) (hy : Fl y w) (h1 : -(2 ^ (127 + j) * UU) < c * w) (h2 : c * w < 2 ^ (127 + j) * UU) (hj : j ≤ 1000) : ∃ z, Fl (mul x y) z ∧ c * w - 2 ^ (74 + j) * UU ≤ 2 ^ 74 * z ∧ 2 ^ 74 * z ≤ c * w + 2 ^ (74 + j) * UU := by
  obtain ⟨a, m, e, hd, hc⟩ := hx
  obtain ⟨b, k, f, hd2, rfl⟩ := hy
  have hr := mul_right hd hd2
  have hs : sgn (a != b) ((val x).natAbs * (val y).natAbs) = val x * val y := by
    rw [val_natAbs hd, val_natAbs hd2, val_eq hd, val_eq hd2]
    generalize m * 2 ^ (e + 1074).toNat = p
    generalize k * 2 ^ (f + 1074).toNat = q
    unfold sgn
    cases a <;> cases b <;> simp [Int.natCast_mul, Int.neg_mul, Int.mul_neg]
  have hlt : (val x).natAbs * (val y).natAbs < 2 ^ 1074 * 2 ^ (53 + (1000 + j)) := by
    rw [← Int.natAbs_mul, hc, Int.mul_right_comm, Int.natAbs_mul, Nat.mul_comm, show (2 : Nat) ^ 1074 * 2 ^ (53 + (1000 + j)) = 2 ^ 1000 * 2 ^ (1000 + (127 + j)) by rw [← Nat.pow_add, ← Nat.pow_add]; congr 1; omega]
    have e1 : UU.natAbs = 2 ^ 1000 := by unfold UU; rw [Int.natAbs_pow]; rfl
    rw [e1]
    refine Nat.mul_lt_mul_of_pos_left ?_ (Nat.two_pow_pos _)
    have := UU_nat (127 + j)
    omega
  obtain ⟨z, hz, z1, z2⟩ := near (1000 + j) (Nat.two_pow_pos _) hlt (by exact gnle (lin1 (cx1 _) (.var 0) (.num 1000) (.add (.num 1000) (.var 0)) (.num 2000) 1 1 rfl (nle hj))) hr
  refine ⟨z, hz, ?_⟩
  rw [hs, hc] at z1 z2
  have e2 : ((2 ^ 1074 : Nat) : Int) = 2 ^ 74 * UU := UU_nat 74
  have e3 : ((2 ^ 1074 * 2 ^ (1000 + j) : Nat) : Int) = 2 ^ (74 + j) * UU * UU := by
    rw [Int.natCast_mul, e2, UU_nat, Int.pow_add]; ac_rfl
  rw [e2, e3] at z1 z2
  have f1 : z * (2 ^ 74 * UU) = 2 ^ 74 * z * UU := by ac_rfl
  have f2 : c * UU * val y = c * val y * UU := by ac_rfl
  rw [f1, f2] at z1 z2
  rw [← Int.sub_mul] at z1
  rw [← Int.add_mul] at z2
  exact ⟨Int.le_of_mul_le_mul_right z1 UU_pos, Int.le_of_mul_le_mul_right z2 UU_pos⟩
theorem fl_frac {a d : Nat} (j : Nat) (hd : 0 < d) (h : 2 ^ 74 * a < d * 2 ^ (53 + j)) (hj : j ≤ 1000) : ∃ z, Fl (ofFrac false a d) z ∧ 2 ^ 74 * (a : Int) * UU - d * 2 ^ j * UU ≤ d * z ∧ d * z ≤ 2 ^ 74 * (a : Int) * UU + d * 2 ^ j * UU := by
  have hr := ofFrac_right (neg := false) (n := a) (d := d) (W := a * 2 ^ 1074) (D := d) hd rfl hd
  obtain ⟨z, hz, z1, z2⟩ := near (1000 + j) hd (by
    rw [show 53 + (1000 + j) = (53 + j) + 1000 by omega, Nat.pow_add, show (2 : Nat) ^ 1074 = 2 ^ 74 * 2 ^ 1000 by rw [← Nat.pow_add], ← Nat.mul_assoc, ← Nat.mul_assoc]
    exact Nat.mul_lt_mul_of_pos_right (by rw [Nat.mul_comm]; exact h) (Nat.two_pow_pos _)) (by exact gnle (lin1 (cx1 _) (.var 0) (.num 1000) (.add (.num 1000) (.var 0)) (.num 2000) 1 1 rfl (nle hj))) hr
  refine ⟨z, hz, ?_⟩
  have e0 : sgn false (a * 2 ^ 1074) = 2 ^ 74 * (a : Int) * UU := by
    unfold sgn
    simp only [Bool.false_eq_true, if_false]
    rw [Int.natCast_mul, show ((2 ^ 1074 : Nat) : Int) = 2 ^ 74 * UU from UU_nat 74]; ac_rfl
  rw [e0, Int.natCast_mul, UU_nat, ← Int.mul_assoc, Int.mul_comm z] at z1 z2
  exact ⟨z1, z2⟩
theorem trunc_at {x : UInt64} {v N : Int} (hx : Fl x v) (h0 : 0 ≤ N) (h1 : N * 2 ^ 74 * UU < v) (h2 : v < (N + 1) * 2 ^ 74 * UU) : ∃ sg m e, decode x = .fin sg m e ∧ truncOf sg m e = N := by
  obtain ⟨a, m, e, hd, rfl⟩ := hx
  refine ⟨a, m, e, hd, ?_⟩
  have he := decode_ge hd
  have hpos : 0 < val x := Int.lt_of_le_of_lt (Int.mul_nonneg (Int.mul_nonneg h0 (Int.pow_nonneg (by decide))) (Int.le_of_lt UU_pos)) h1
  rw [val_eq hd] at h1 h2 hpos
  have ha : a = false := by
    cases a with
    | false => rfl
    | true => unfold sgn at hpos; simp only [if_true] at hpos; omega
  subst ha
  have e74 : (2 : Int) ^ 74 * UU = 2 ^ 1074 := by unfold UU; rw [← Int.pow_add]
  rw [Int.mul_assoc, e74] at h1 h2
  unfold truncOf floorOf sgn at *
  simp only [Bool.false_eq_true, if_false] at *
  have hm : ((m * 2 ^ (e + 1074).toNat : Nat) : Int) = (m : Int) * 2 ^ (e + 1074).toNat := by rw [Int.natCast_mul, Int.natCast_pow]; rfl
  rw [hm] at h1 h2
  by_cases h : e ≥ 0
  · rw [if_pos h]
    have e1 : (e + 1074).toNat = e.toNat + 1074 := by exact gneq (lin2 (cx3 _ _ _) (.var 0) (.var 1) (.var 2) (.add (.var 0) (.num 1074)) (.var 2) (.add (.var 1) (.num 1074)) 1 1 1 rfl (tn1 _) (tn2 (lin1 (cx1 _) (.neg (.num 1074)) (.var 0) (.num 0) (.add (.var 0) (.num 1074)) 1 1 rfl he))) (lin2 (cx3 _ _ _) (.add (.var 0) (.num 1074)) (.var 1) (.var 2) (.var 0) (.add (.var 2) (.num 1074)) (.var 1) 1 1 1 rfl (tn1 _) (tn2 (lin1 (cx1 _) (.num 0) (.var 0) (.num 0) (.var 0) 1 1 rfl h)))
    rw [e1, Int.pow_add, ← Int.mul_assoc] at h1 h2
    have p : (0 : Int) < 2 ^ 1074 := Int.pow_pos (by decide)
    have a1 := Int.lt_of_mul_lt_mul_right h1 (Int.le_of_lt p)
    have a2 := Int.lt_of_mul_lt_mul_right h2 (Int.le_of_lt p)
    exact Int.le_antisymm (lin1 (cx2 _ _) (.add (.var 0) (.num 1)) (.add (.var 1) (.num 1)) (.var 0) (.var 1) 1 1 rfl a2) (lin1 (cx2 _ _) (.add (.var 0) (.num 1)) (.var 1) (.var 0) (.var 1) 1 1 rfl a1)
  · rw [if_neg h]
    have e1 : (1074 : Nat) = (-e).toNat + (e + 1074).toNat := by omega
    have p : (0 : Int) < 2 ^ (e + 1074).toNat := Int.pow_pos (by decide)
    have q : (0 : Int) < 2 ^ (-e).toNat := Int.pow_pos (by decide)
    have a1 : N * 2 ^ (-e).toNat < m := by
      refine Int.lt_of_mul_lt_mul_right (a := 2 ^ (e + 1074).toNat) ?_ (Int.le_of_lt p)
      rw [Int.mul_assoc, ← Int.pow_add, ← e1]; exact h1
    have a2 : (m : Int) < (N + 1) * 2 ^ (-e).toNat := by
      refine Int.lt_of_mul_lt_mul_right (a := 2 ^ (e + 1074).toNat) ?_ (Int.le_of_lt p)
      rw [Int.mul_assoc, ← Int.pow_add, ← e1]; exact h2
    rw [Int.fdiv_eq_ediv_of_nonneg _ (Int.le_of_lt q)]
    apply Int.le_antisymm
    · exact Int.le_of_lt_add_one (Int.ediv_lt_of_lt_mul q a2)
    · exact (Int.le_ediv_iff_mul_le q).mpr (Int.le_of_lt a1)
end
section
open PySem.Calls
open PySem.Float64
set_option exponentiation.threshold 3000
noncomputable def isFin (x : UInt64) (m : Nat) (e : Int) : Bool := match decode x with
  | .fin false m' e' => m' == m && e' == e
  | _ => false
theorem isFin_eq {x : UInt64} {m : Nat} {e : Int} (h : isFin x m e = true) : decode x = .fin false m e := by
  unfold isFin at h
  split at h
  · rename_i h1
    simp only [Bool.and_eq_true, beq_iff_eq] at h
    rw [h1, h.1, h.2]
  · cases h
theorem lit_fl {x : UInt64} {m : Nat} {e : Int} (h : isFin x m e = true) (c : Int) (hc : ((m * 2 ^ (e + 1074).toNat : Nat) : Int) = c * 2 ^ 1000) : Fl x (c * UU) := fl_of c (isFin_eq h) (by unfold sgn UU; simpa using hc)
theorem fl30 : Fl 4599075939470750515 (5666839779443574046720 * UU) := lit_fl (m := 5404319552844595) (e := -54) (by decide +kernel) _ (by decide +kernel)
theorem fl59 : Fl 4603489467105573601 (11144784899572362117120 * UU) := lit_fl (m := 5314247560297185) (e := -53) (by decide +kernel) _ (by decide +kernel)
theorem fl11 : Fl 4592590756007337001 (2077841252462643904512 * UU) := lit_fl (m := 7926335344172073) (e := -56) (by decide +kernel) _ (by decide +kernel)
theorem fl74 : Fl 4604840546993784750 (13978204789294149664768 * UU) := lit_fl (m := 6665327448508334) (e := -53) (by decide +kernel) _ (by decide +kernel)
theorem fl27 : Fl 4598535507515466056 (5100155801499217166336 * UU) := lit_fl (m := 4863887597560136) (e := -54) (by decide +kernel) _ (by decide +kernel)
theorem fl48 : Fl 4602318531202457272 (9066943647109718474752 * UU) := lit_fl (m := 8646911284551352) (e := -54) (by decide +kernel) _ (by decide +kernel)
theorem fl41 : Fl 4601057523306793533 (7744681031906217689088 * UU) := lit_fl (m := 7385903388887613) (e := -54) (by decide +kernel) _ (by decide +kernel)
theorem flhalf : Fl 4602678819172646912 (9444732965739290427392 * UU) := lit_fl (m := 4503599627370496) (e := -53) (by decide +kernel) _ (by decide +kernel)
theorem fl1 : Fl (Float64.ofInt 1) (18889465931478580854784 * UU) := lit_fl (m := 2 ^ 52) (e := -52) (by decide +kernel) _ (by decide +kernel)
theorem fl100 : Fl (Float64.ofInt 100) (100 * 18889465931478580854784 * UU) := lit_fl (m := 100 * 2 ^ 46) (e := -46) (by decide +kernel) _ (by decide +kernel)
theorem fl10000 : Fl (Float64.ofInt 10000) (10000 * 18889465931478580854784 * UU) := lit_fl (m := 10000 * 2 ^ 39) (e := -39) (by decide +kernel) _ (by decide +kernel)
theorem flS {S : Int} (h : S = 16 ∨ S = 1024 ∨ S = 262144) : Fl (Float64.ofInt S) (S * 18889465931478580854784 * UU) := by
  rcases h with rfl | rfl | rfl
  · exact lit_fl (m := 2 ^ 52) (e := -48) (by decide +kernel) _ (by decide +kernel)
  · exact lit_fl (m := 2 ^ 52) (e := -42) (by decide +kernel) _ (by decide +kernel)
  · exact lit_fl (m := 2 ^ 52) (e := -34) (by decide +kernel) _ (by decide +kernel)
theorem fl_add' {x y : UInt64} {v w : Int} (j : Nat) (B E : Int) (hB : (2 : Int) ^ (53 + j) = B) (hE : (2 : Int) ^ j = E) (hx : Fl x v) (hy : Fl y w) (h1 : -(B * UU) < v + w) (h2 : v + w < B * UU) (hj : j ≤ 1000) : ∃ z, Fl (add x y) z ∧ v + w - E * UU ≤ z ∧ z ≤ v + w + E * UU := by
  subst hB hE; exact fl_add j hx hy h1 h2 hj
theorem fl_sub' {x y : UInt64} {v w : Int} (j : Nat) (B E : Int) (hB : (2 : Int) ^ (53 + j) = B) (hE : (2 : Int) ^ j = E) (hx : Fl x v) (hy : Fl y w) (h1 : -(B * UU) < v - w) (h2 : v - w < B * UU) (hj : j ≤ 1000) : ∃ z, Fl (PySem.Float64.sub x y) z ∧ v - w - E * UU ≤ z ∧ z ≤ v - w + E * UU := by
  subst hB hE; exact fl_sub j hx hy h1 h2 hj
theorem fl_mul' {x y : UInt64} {c w : Int} (j : Nat) (B E : Int) (hB : (2 : Int) ^ (127 + j) = B) (hE : (2 : Int) ^ (74 + j) = E) (hx : Fl x (c * UU)) (hy : Fl y w) (h1 : -(B * UU) < c * w) (h2 : c * w < B * UU) (hj : j ≤ 1000) : ∃ z, Fl (PySem.Float64.mul x y) z ∧ c * w - E * UU ≤ 18889465931478580854784 * z ∧ 18889465931478580854784 * z ≤ c * w + E * UU := by
  subst hB hE; exact fl_mul j hx hy h1 h2 hj
theorem fl_mulr {x y : UInt64} {c w : Int} (j : Nat) (B E : Int) (hB : (2 : Int) ^ (127 + j) = B) (hE : (2 : Int) ^ (74 + j) = E) (hx : Fl x w) (hy : Fl y (c * UU)) (h1 : -(B * UU) < c * w) (h2 : c * w < B * UU) (hj : j ≤ 1000) : ∃ z, Fl (PySem.Float64.mul x y) z ∧ c * w - E * UU ≤ 18889465931478580854784 * z ∧ 18889465931478580854784 * z ≤ c * w + E * UU := by
  have hc : PySem.Float64.mul x y = PySem.Float64.mul y x := by
    obtain ⟨a, m, e, h1, _⟩ := hx
    obtain ⟨b, k, f, h2, _⟩ := hy
    unfold PySem.Float64.mul
    rw [h1, h2]
    show ofBin (a != b) (m * k) (e + f) = ofBin (b != a) (k * m) (f + e)
    rw [Nat.mul_comm, Int.add_comm, bne_comm]
  rw [hc]
  exact fl_mul' j B E hB hE hy hx h1 h2 hj
noncomputable abbrev Li (v : Int) : Prop := -(4194304 * UU) ≤ v ∧ 10 * v ≤ 12 * (18889465931478580854784 * UU)
theorem y_fl {r g b : UInt64} {vr vg vb : Int} (hr : Fl r vr) (hg : Fl g vg) (hb : Fl b vb) (lr : Li vr) (lg : Li vg) (lb : Li vb) : ∃ vy, Fl (yY r g b) vy ∧ 30 * vr + 59 * vg + 11 * vb - 1400 * (4194304 * UU) ≤ 100 * vy ∧ 100 * vy ≤ 30 * vr + 59 * vg + 11 * vb + 1400 * (4194304 * UU) := by
  have hU := UU_pos
  have l1 := lr.1
  have l2 := lr.2
  have l3 := lg.1
  have l4 := lg.2
  have l5 := lb.1
  have l6 := lb.2
  refine ob1 (fl_mul' 22 713623846352979940529142984724747568191373312 79228162514264337593543950336 (by decide) (by decide) fl30 hr (by exact lin2 (cx2 _ _) (.neg (.mulL 4194304 (.var 0))) (.var 1) (.add (.num 0) (.num 1)) (.var 0) (.add (.neg (.mulL 713623846352979940529142984724747568191373312 (.var 0))) (.num 1)) (.mulL 5666839779443574046720 (.var 1)) 5666839779443574046720 713623846352979916760694230445447169737490432 1 rfl lr.1 hU) (by exact lin2 (cx2 _ _) (.mulL 10 (.var 0)) (.mulL 12 (.mulL 18889465931478580854784 (.var 1))) (.add (.num 0) (.num 1)) (.var 1) (.add (.mulL 5666839779443574046720 (.var 0)) (.num 1)) (.mulL 713623846352979940529142984724747568191373312 (.var 1)) 566683977944357404672 585171554009443555987586998330153261529563136 1 rfl lr.2 hU) (by decide)) fun p1 hz3 => ?_
  have f1 := hz3.1
  have a1 := hz3.2.1
  have b1 := hz3.2.2
  clear hz3
  refine ob1 (fl_mul' 22 713623846352979940529142984724747568191373312 79228162514264337593543950336 (by decide) (by decide) fl59 hg (by exact lin2 (cx2 _ _) (.neg (.mulL 4194304 (.var 0))) (.var 1) (.add (.num 0) (.num 1)) (.var 0) (.add (.neg (.mulL 713623846352979940529142984724747568191373312 (.var 0))) (.num 1)) (.mulL 11144784899572362117120 (.var 1)) 11144784899572362117120 713623846352979893784527101308790850906488832 1 rfl lg.1 hU) (by exact lin2 (cx2 _ _) (.mulL 10 (.var 0)) (.mulL 12 (.mulL 18889465931478580854784 (.var 1))) (.add (.num 0) (.num 1)) (.var 1) (.add (.mulL 11144784899572362117120 (.var 0)) (.num 1)) (.mulL 713623846352979940529142984724747568191373312 (.var 1)) 1114478489957236211712 461001004744025054892157670528595644767010816 1 rfl lg.2 hU) (by decide)) fun p2 hz4 => ?_
  have f2 := hz4.1
  have a2 := hz4.2.1
  have b2 := hz4.2.2
  clear hz4
  refine ob1 (fl_mul' 22 713623846352979940529142984724747568191373312 79228162514264337593543950336 (by decide) (by decide) fl11 hb (by exact lin2 (cx2 _ _) (.neg (.mulL 4194304 (.var 0))) (.var 1) (.add (.num 0) (.num 1)) (.var 0) (.add (.neg (.mulL 713623846352979940529142984724747568191373312 (.var 0))) (.num 1)) (.mulL 2077841252462643904512 (.var 1)) 2077841252462643904512 713623846352979931814045108155670388921073664 1 rfl lb.1 hU) (by exact lin2 (cx2 _ _) (.mulL 10 (.var 0)) (.mulL 12 (.mulL 18889465931478580854784 (.var 1))) (.add (.num 0) (.num 1)) (.var 1) (.add (.mulL 2077841252462643904512 (.var 0)) (.num 1)) (.mulL 713623846352979940529142984724747568191373312 (.var 1)) 1038920626231321952256 3332623362468416321082675300950606079550554112 5 rfl lb.2 hU) (by decide)) fun p3 hz5 => ?_
  have f3 := hz5.1
  have a3 := hz5.2.1
  have b3 := hz5.2.2
  clear hz5
  have c1 : 30 * vr - 400 * (4194304 * UU) ≤ 100 * p1 ∧ 100 * p1 ≤ 30 * vr + 400 * (4194304 * UU) := by exact ⟨lin3 (cx3 _ _ _) (.neg (.mulL 4194304 (.var 0))) (.var 1) (.mulL 10 (.var 1)) (.mulL 12 (.mulL 18889465931478580854784 (.var 0))) (.sub (.mulL 5666839779443574046720 (.var 1)) (.mulL 79228162514264337593543950336 (.var 0))) (.mulL 18889465931478580854784 (.var 2)) (.sub (.mulL 30 (.var 1)) (.mulL 400 (.mulL 4194304 (.var 0)))) (.mulL 100 (.var 2)) 6941878729818378464133120 708354972430446784675840 675539944105574525 127605887595351947410597892135139147776 rfl lr.1 lr.2 a1, lin3 (cx3 _ _ _) (.neg (.mulL 4194304 (.var 0))) (.var 1) (.mulL 10 (.var 1)) (.mulL 12 (.mulL 18889465931478580854784 (.var 0))) (.mulL 18889465931478580854784 (.var 2)) (.add (.mulL 5666839779443574046720 (.var 1)) (.mulL 79228162514264337593543950336 (.var 0))) (.mulL 100 (.var 2)) (.add (.mulL 30 (.var 1)) (.mulL 400 (.mulL 4194304 (.var 0)))) 7225220718790557176954880 708354972430446779432960 675539944105574525 127605887595351947410597892135139147776 rfl lr.1 lr.2 b1⟩
  have c2 : 59 * vg - 400 * (4194304 * UU) ≤ 100 * p2 ∧ 100 * p2 ≤ 59 * vg + 400 * (4194304 * UU) := by exact ⟨lin4 (cx4 _ _ _ _) (.neg (.mulL 4194304 (.var 0))) (.var 1) (.mulL 10 (.var 1)) (.mulL 12 (.mulL 18889465931478580854784 (.var 0))) (.mulL 10 (.var 2)) (.mulL 12 (.mulL 18889465931478580854784 (.var 0))) (.sub (.mulL 11144784899572362117120 (.var 2)) (.mulL 79228162514264337593543950336 (.var 0))) (.mulL 18889465931478580854784 (.var 3)) (.sub (.mulL 59 (.var 2)) (.mulL 400 (.mulL 4194304 (.var 0)))) (.mulL 100 (.var 3)) 33434354698717088112967680 3343435469871708811296768 198339392280525135675392 3377699720527872625 638029437976759737052989460675695738880 rfl lr.1 lr.2 lg.2 a2, lin4 (cx4 _ _ _ _) (.neg (.mulL 4194304 (.var 0))) (.var 1) (.mulL 10 (.var 1)) (.mulL 12 (.mulL 18889465931478580854784 (.var 0))) (.neg (.mulL 4194304 (.var 0))) (.var 2) (.mulL 18889465931478580854784 (.var 3)) (.add (.mulL 11144784899572362117120 (.var 2)) (.mulL 79228162514264337593543950336 (.var 0))) (.mulL 100 (.var 3)) (.add (.mulL 59 (.var 2)) (.mulL 400 (.mulL 4194304 (.var 0)))) 7083549724304467747143680 708354972430446774714368 396678784561050271350784 675539944105574525 127605887595351947410597892135139147776 rfl lr.1 lr.2 lg.1 b2⟩
  have c3 : 11 * vb - 400 * (4194304 * UU) ≤ 100 * p3 ∧ 100 * p3 ≤ 11 * vb + 400 * (4194304 * UU) := by exact ⟨lin4 (cx4 _ _ _ _) (.neg (.mulL 4194304 (.var 0))) (.var 1) (.mulL 10 (.var 1)) (.mulL 12 (.mulL 18889465931478580854784 (.var 0))) (.neg (.mulL 4194304 (.var 0))) (.var 2) (.sub (.mulL 2077841252462643904512 (.var 2)) (.mulL 79228162514264337593543950336 (.var 0))) (.mulL 18889465931478580854784 (.var 3)) (.sub (.mulL 11 (.var 2)) (.mulL 400 (.mulL 4194304 (.var 0)))) (.mulL 100 (.var 3)) 7083549724304467819233280 708354972430446781923328 7083549724304469131264 675539944105574525 127605887595351947410597892135139147776 rfl lr.1 lr.2 lb.1 a3, lin4 (cx4 _ _ _ _) (.neg (.mulL 4194304 (.var 0))) (.var 1) (.mulL 10 (.var 1)) (.mulL 12 (.mulL 18889465931478580854784 (.var 0))) (.mulL 10 (.var 2)) (.mulL 12 (.mulL 18889465931478580854784 (.var 0))) (.mulL 18889465931478580854784 (.var 3)) (.add (.mulL 2077841252462643904512 (.var 2)) (.mulL 79228162514264337593543950336 (.var 0))) (.mulL 100 (.var 3)) (.add (.mulL 11 (.var 2)) (.mulL 400 (.mulL 4194304 (.var 0)))) 35382330872900816763617280 3538233087290081676361728 3541774862152234565632 3377699720527872625 638029437976759737052989460675695738880 rfl lr.1 lr.2 lb.2 b3⟩
  clear a1 b1 a2 b2 a3 b3
  have d1 := c1.2
  have c1 := c1.1
  have d2 := c2.2
  have c2 := c2.1
  have d3 := c3.2
  have c3 := c3.1
  refine ob1 (fl_add' 22 37778931862957161709568 4194304 (by decide) (by decide) f1 f2 (by exact lin5 (cx5 _ _ _ _ _) (.neg (.mulL 4194304 (.var 0))) (.var 1) (.neg (.mulL 4194304 (.var 0))) (.var 2) (.add (.num 0) (.num 1)) (.var 0) (.sub (.mulL 30 (.var 1)) (.mulL 400 (.mulL 4194304 (.var 0)))) (.mulL 100 (.var 3)) (.sub (.mulL 59 (.var 2)) (.mulL 400 (.mulL 4194304 (.var 0)))) (.mulL 100 (.var 4)) (.add (.neg (.mulL 37778931862957161709568 (.var 0))) (.num 1)) (.add (.var 3) (.var 4)) 30 59 3777893186295712442220544 1 1 100 rfl lr.1 lg.1 hU c1 c2) (by exact lin5 (cx5 _ _ _ _ _) (.mulL 10 (.var 0)) (.mulL 12 (.mulL 18889465931478580854784 (.var 1))) (.mulL 10 (.var 2)) (.mulL 12 (.mulL 18889465931478580854784 (.var 1))) (.add (.num 0) (.num 1)) (.var 1) (.mulL 100 (.var 3)) (.add (.mulL 30 (.var 0)) (.mulL 400 (.mulL 4194304 (.var 1)))) (.mulL 100 (.var 4)) (.add (.mulL 59 (.var 2)) (.mulL 400 (.mulL 4194304 (.var 1)))) (.add (.add (.var 3) (.var 4)) (.num 1)) (.mulL 37778931862957161709568 (.var 1)) 30 59 17604982248138003802226688 10 10 1000 rfl lr.2 lg.2 hU d1 d2) (by decide)) fun s1 hz2 => ?_
  have g1 := hz2.1
  have a4 := hz2.2.1
  have b4 := hz2.2.2
  clear hz2
  refine ob1 (fl_add' 22 37778931862957161709568 4194304 (by decide) (by decide) g1 f3 (by exact lin8 (cx8 _ _ _ _ _ _ _ _) (.neg (.mulL 4194304 (.var 0))) (.var 1) (.neg (.mulL 4194304 (.var 0))) (.var 2) (.neg (.mulL 4194304 (.var 0))) (.var 3) (.add (.num 0) (.num 1)) (.var 0) (.sub (.mulL 30 (.var 1)) (.mulL 400 (.mulL 4194304 (.var 0)))) (.mulL 100 (.var 4)) (.sub (.mulL 59 (.var 2)) (.mulL 400 (.mulL 4194304 (.var 0)))) (.mulL 100 (.var 5)) (.sub (.mulL 11 (.var 3)) (.mulL 400 (.mulL 4194304 (.var 0)))) (.mulL 100 (.var 6)) (.sub (.add (.var 4) (.var 5)) (.mulL 4194304 (.var 0))) (.var 7) (.add (.neg (.mulL 37778931862957161709568 (.var 0))) (.num 1)) (.add (.var 7) (.var 6)) 30 59 11 3777893186295710298931200 1 1 1 100 100 rfl lr.1 lg.1 lb.1 hU c1 c2 c3 a4) (by exact lin8 (cx8 _ _ _ _ _ _ _ _) (.mulL 10 (.var 0)) (.mulL 12 (.mulL 18889465931478580854784 (.var 1))) (.mulL 10 (.var 2)) (.mulL 12 (.mulL 18889465931478580854784 (.var 1))) (.mulL 10 (.var 3)) (.mulL 12 (.mulL 18889465931478580854784 (.var 1))) (.add (.num 0) (.num 1)) (.var 1) (.mulL 100 (.var 4)) (.add (.mulL 30 (.var 0)) (.mulL 400 (.mulL 4194304 (.var 1)))) (.mulL 100 (.var 5)) (.add (.mulL 59 (.var 2)) (.mulL 400 (.mulL 4194304 (.var 1)))) (.mulL 100 (.var 6)) (.add (.mulL 11 (.var 3)) (.mulL 400 (.mulL 4194304 (.var 1)))) (.var 7) (.add (.add (.var 4) (.var 5)) (.mulL 4194304 (.var 1))) (.add (.add (.var 7) (.var 6)) (.num 1)) (.mulL 37778931862957161709568 (.var 1)) 30 59 11 15111572745182810157875200 10 10 10 1000 1000 rfl lr.2 lg.2 lb.2 hU d1 d2 d3 b4) (by decide)) fun y hz3 => ?_
  have g2 := hz3.1
  have a5 := hz3.2.1
  have b5 := hz3.2.2
  clear hz3
  exact ⟨y, g2, by exact lin5 (cx9 _ _ _ _ _ _ _ _ _) (.sub (.mulL 30 (.var 0)) (.mulL 400 (.mulL 4194304 (.var 1)))) (.mulL 100 (.var 2)) (.sub (.mulL 59 (.var 3)) (.mulL 400 (.mulL 4194304 (.var 1)))) (.mulL 100 (.var 4)) (.sub (.mulL 11 (.var 5)) (.mulL 400 (.mulL 4194304 (.var 1)))) (.mulL 100 (.var 6)) (.sub (.add (.var 2) (.var 4)) (.mulL 4194304 (.var 1))) (.var 7) (.sub (.add (.var 7) (.var 6)) (.mulL 4194304 (.var 1))) (.var 8) (.sub (.add (.add (.mulL 30 (.var 0)) (.mulL 59 (.var 3))) (.mulL 11 (.var 5))) (.mulL 1400 (.mulL 4194304 (.var 1)))) (.mulL 100 (.var 8)) 1 1 1 100 100 1 rfl c1 c2 c3 a4 a5, by exact lin5 (cx9 _ _ _ _ _ _ _ _ _) (.mulL 100 (.var 0)) (.add (.mulL 30 (.var 1)) (.mulL 400 (.mulL 4194304 (.var 2)))) (.mulL 100 (.var 3)) (.add (.mulL 59 (.var 4)) (.mulL 400 (.mulL 4194304 (.var 2)))) (.mulL 100 (.var 5)) (.add (.mulL 11 (.var 6)) (.mulL 400 (.mulL 4194304 (.var 2)))) (.var 7) (.add (.add (.var 0) (.var 3)) (.mulL 4194304 (.var 2))) (.var 8) (.add (.add (.var 7) (.var 5)) (.mulL 4194304 (.var 2))) (.mulL 100 (.var 8)) (.add (.add (.add (.mulL 30 (.var 1)) (.mulL 59 (.var 4))) (.mulL 11 (.var 6))) (.mulL 1400 (.mulL 4194304 (.var 2)))) 1 1 1 100 100 1 rfl d1 d2 d3 b4 b5⟩
theorem i_fl {r g b : UInt64} {vr vg vb : Int} (hr : Fl r vr) (hg : Fl g vg) (hb : Fl b vb) (lr : Li vr) (lg : Li vg) (lb : Li vb) : ∃ v, Fl (yI r g b) v ∧ (5990 * vr - 2773 * vg - 3217 * vb) - 250000 * (4194304 * UU) ≤ 10000 * v ∧ 10000 * v ≤ (5990 * vr - 2773 * vg - 3217 * vb) + 250000 * (4194304 * UU) := by
  have hU := UU_pos
  refine ob1 (y_fl hr hg hb lr lg lb) fun y hz4 => ?_
  have fy := hz4.1
  have y1 := hz4.2.1
  have y2 := hz4.2.2
  clear hz4
  have l1 := lr.1
  have l2 := lr.2
  have l3 := lg.1
  have l4 := lg.2
  have l5 := lb.1
  have l6 := lb.2
  have y3 : -(20 * (4194304 * UU)) ≤ y := by exact lin5 (cx5 _ _ _ _ _) (.neg (.mulL 4194304 (.var 0))) (.var 1) (.mulL 10 (.var 1)) (.mulL 12 (.mulL 18889465931478580854784 (.var 0))) (.neg (.mulL 4194304 (.var 0))) (.var 2) (.neg (.mulL 4194304 (.var 0))) (.var 3) (.sub (.add (.add (.mulL 30 (.var 1)) (.mulL 59 (.var 2))) (.mulL 11 (.var 3))) (.mulL 1400 (.mulL 4194304 (.var 0)))) (.mulL 100 (.var 4)) (.neg (.mulL 20 (.mulL 4194304 (.var 0)))) (.var 4) 810647932926691930 250 1594274268089155879 297237575406452791 27021597764222981 2702159776422298100 rfl lr.1 lr.2 lg.1 lb.1 y1
  have y4 : 100 * y ≤ 121 * (18889465931478580854784 * UU) := by exact lin5 (cx5 _ _ _ _ _) (.neg (.mulL 4194304 (.var 0))) (.var 1) (.mulL 10 (.var 1)) (.mulL 12 (.mulL 18889465931478580854784 (.var 0))) (.mulL 10 (.var 2)) (.mulL 12 (.mulL 18889465931478580854784 (.var 0))) (.mulL 10 (.var 3)) (.mulL 12 (.mulL 18889465931478580854784 (.var 0))) (.mulL 100 (.var 4)) (.add (.add (.add (.mulL 30 (.var 1)) (.mulL 59 (.var 2))) (.mulL 11 (.var 3))) (.mulL 1400 (.mulL 4194304 (.var 0)))) (.mulL 100 (.var 4)) (.mulL 121 (.mulL 18889465931478580854784 (.var 0))) 225179981368454800 833165931063534910 1594274268089155879 297237575406452791 270215977642229810 270215977642229810 rfl lr.1 lr.2 lg.2 lb.2 y2
  refine ob1 (fl_sub' 22 37778931862957161709568 4194304 (by decide) (by decide) hr fy (by exact lin5 (cx5 _ _ _ _ _) (.neg (.mulL 4194304 (.var 0))) (.var 1) (.mulL 10 (.var 2)) (.mulL 12 (.mulL 18889465931478580854784 (.var 0))) (.mulL 10 (.var 3)) (.mulL 12 (.mulL 18889465931478580854784 (.var 0))) (.add (.num 0) (.num 1)) (.var 0) (.mulL 100 (.var 4)) (.add (.add (.add (.mulL 30 (.var 1)) (.mulL 59 (.var 2))) (.mulL 11 (.var 3))) (.mulL 1400 (.mulL 4194304 (.var 0)))) (.add (.neg (.mulL 37778931862957161709568 (.var 0))) (.num 1)) (.sub (.var 1) (.var 4)) 700 59 11 21911780480515092135280640 10 1000 rfl lr.1 lg.2 lb.2 hU y2) (by exact lin5 (cx5 _ _ _ _ _) (.mulL 10 (.var 0)) (.mulL 12 (.mulL 18889465931478580854784 (.var 1))) (.neg (.mulL 4194304 (.var 1))) (.var 2) (.neg (.mulL 4194304 (.var 1))) (.var 3) (.add (.num 0) (.num 1)) (.var 1) (.sub (.add (.add (.mulL 30 (.var 0)) (.mulL 59 (.var 2))) (.mulL 11 (.var 3))) (.mulL 1400 (.mulL 4194304 (.var 1)))) (.mulL 100 (.var 4)) (.add (.sub (.var 0) (.var 4)) (.num 1)) (.mulL 37778931862957161709568 (.var 1)) 7 59 11 2191178048051509213528064 1 100 rfl lr.2 lg.1 lb.1 hU y1) (by decide)) fun d1 hz1 => ?_
  have f1 := hz1.1
  have a1 := hz1.2.1
  have b1 := hz1.2.2
  clear hz1
  refine ob1 (fl_sub' 22 37778931862957161709568 4194304 (by decide) (by decide) hb fy (by exact lin5 (cx5 _ _ _ _ _) (.mulL 10 (.var 0)) (.mulL 12 (.mulL 18889465931478580854784 (.var 1))) (.mulL 10 (.var 2)) (.mulL 12 (.mulL 18889465931478580854784 (.var 1))) (.neg (.mulL 4194304 (.var 1))) (.var 3) (.add (.num 0) (.num 1)) (.var 1) (.mulL 100 (.var 4)) (.add (.add (.add (.mulL 30 (.var 0)) (.mulL 59 (.var 2))) (.mulL 11 (.var 3))) (.mulL 1400 (.mulL 4194304 (.var 1)))) (.add (.neg (.mulL 37778931862957161709568 (.var 1))) (.num 1)) (.sub (.var 3) (.var 4)) 30 59 890 17604982248137974903472128 10 1000 rfl lr.2 lg.2 lb.1 hU y2) (by exact lin5 (cx5 _ _ _ _ _) (.neg (.mulL 4194304 (.var 0))) (.var 1) (.neg (.mulL 4194304 (.var 0))) (.var 2) (.mulL 10 (.var 3)) (.mulL 12 (.mulL 18889465931478580854784 (.var 0))) (.add (.num 0) (.num 1)) (.var 0) (.sub (.add (.add (.mulL 30 (.var 1)) (.mulL 59 (.var 2))) (.mulL 11 (.var 3))) (.mulL 1400 (.mulL 4194304 (.var 0)))) (.mulL 100 (.var 4)) (.add (.sub (.var 3) (.var 4)) (.num 1)) (.mulL 37778931862957161709568 (.var 0)) 300 590 89 17604982248137974903472128 10 1000 rfl lr.1 lg.1 lb.2 hU y1) (by decide)) fun d2 hz2 => ?_
  have f2 := hz2.1
  have a2 := hz2.2.1
  have b2 := hz2.2.2
  clear hz2
  have m1 : -(122 * (18889465931478580854784 * UU)) ≤ 100 * d1 ∧ 100 * d1 ≤ 122 * (18889465931478580854784 * UU) := by exact ⟨lin6 (cx6 _ _ _ _ _ _) (.neg (.mulL 4194304 (.var 0))) (.var 1) (.mulL 10 (.var 1)) (.mulL 12 (.mulL 18889465931478580854784 (.var 0))) (.mulL 10 (.var 2)) (.mulL 12 (.mulL 18889465931478580854784 (.var 0))) (.mulL 10 (.var 3)) (.mulL 12 (.mulL 18889465931478580854784 (.var 0))) (.mulL 100 (.var 4)) (.add (.add (.add (.mulL 30 (.var 1)) (.mulL 59 (.var 2))) (.mulL 11 (.var 3))) (.mulL 1400 (.mulL 4194304 (.var 0)))) (.sub (.sub (.var 1) (.var 4)) (.mulL 4194304 (.var 0))) (.var 5) (.neg (.mulL 122 (.mulL 18889465931478580854784 (.var 0)))) (.mulL 100 (.var 5)) 27471957726959950600 855683929200386390 1594274268089155879 297237575406452791 270215977642229810 27021597764222981000 270215977642229810 rfl lr.1 lr.2 lg.2 lb.2 y2 a1, lin6 (cx6 _ _ _ _ _ _) (.neg (.mulL 4194304 (.var 0))) (.var 1) (.mulL 10 (.var 1)) (.mulL 12 (.mulL 18889465931478580854784 (.var 0))) (.neg (.mulL 4194304 (.var 0))) (.var 2) (.neg (.mulL 4194304 (.var 0))) (.var 3) (.sub (.add (.add (.mulL 30 (.var 1)) (.mulL 59 (.var 2))) (.mulL 11 (.var 3))) (.mulL 1400 (.mulL 4194304 (.var 0)))) (.mulL 100 (.var 4)) (.var 5) (.add (.sub (.var 1) (.var 4)) (.mulL 4194304 (.var 0))) (.mulL 100 (.var 5)) (.mulL 122 (.mulL 18889465931478580854784 (.var 0))) 855683929200386390 274719577269599506 1594274268089155879 297237575406452791 27021597764222981 2702159776422298100 27021597764222981 rfl lr.1 lr.2 lg.1 lb.1 y1 b1⟩
  have m2 : -(122 * (18889465931478580854784 * UU)) ≤ 100 * d2 ∧ 100 * d2 ≤ 122 * (18889465931478580854784 * UU) := by exact ⟨lin6 (cx6 _ _ _ _ _ _) (.neg (.mulL 4194304 (.var 0))) (.var 1) (.mulL 10 (.var 1)) (.mulL 12 (.mulL 18889465931478580854784 (.var 0))) (.mulL 10 (.var 2)) (.mulL 12 (.mulL 18889465931478580854784 (.var 0))) (.neg (.mulL 4194304 (.var 0))) (.var 3) (.mulL 100 (.var 4)) (.add (.add (.add (.mulL 30 (.var 1)) (.mulL 59 (.var 2))) (.mulL 11 (.var 3))) (.mulL 1400 (.mulL 4194304 (.var 0)))) (.sub (.sub (.var 3) (.var 4)) (.mulL 4194304 (.var 0))) (.var 5) (.neg (.mulL 122 (.mulL 18889465931478580854784 (.var 0)))) (.mulL 100 (.var 5)) 3422735716801497510 1152921504606839181 1594274268089155879 24049222010158453090 270215977642229810 27021597764222981000 270215977642229810 rfl lr.1 lr.2 lg.2 lb.1 y2 a2, lin6 (cx6 _ _ _ _ _ _) (.neg (.mulL 4194304 (.var 0))) (.var 1) (.mulL 10 (.var 1)) (.mulL 12 (.mulL 18889465931478580854784 (.var 0))) (.neg (.mulL 4194304 (.var 0))) (.var 2) (.mulL 10 (.var 3)) (.mulL 12 (.mulL 18889465931478580854784 (.var 0))) (.sub (.add (.add (.mulL 30 (.var 1)) (.mulL 59 (.var 2))) (.mulL 11 (.var 3))) (.mulL 1400 (.mulL 4194304 (.var 0)))) (.mulL 100 (.var 4)) (.var 5) (.add (.sub (.var 3) (.var 4)) (.mulL 4194304 (.var 0))) (.mulL 100 (.var 5)) (.mulL 122 (.mulL 18889465931478580854784 (.var 0))) 11529215046068391810 342273571680149751 15942742680891558790 2404922201015845309 270215977642229810 27021597764222981000 270215977642229810 rfl lr.1 lr.2 lg.1 lb.2 y1 b2⟩
  have m1' := m1.2
  have m1 := m1.1
  have m2' := m2.2
  have m2 := m2.1
  refine ob1 (fl_mul' 22 713623846352979940529142984724747568191373312 79228162514264337593543950336 (by decide) (by decide) fl74 f1 (by exact lin6 (cx6 _ _ _ _ _ _) (.neg (.mulL 4194304 (.var 0))) (.var 1) (.mulL 10 (.var 2)) (.mulL 12 (.mulL 18889465931478580854784 (.var 0))) (.mulL 10 (.var 3)) (.mulL 12 (.mulL 18889465931478580854784 (.var 0))) (.add (.num 0) (.num 1)) (.var 0) (.mulL 100 (.var 4)) (.add (.add (.add (.mulL 30 (.var 1)) (.mulL 59 (.var 2))) (.mulL 11 (.var 3))) (.mulL 1400 (.mulL 4194304 (.var 0)))) (.sub (.sub (.var 1) (.var 4)) (.mulL 4194304 (.var 0))) (.var 5) (.add (.neg (.mulL 713623846352979940529142984724747568191373312 (.var 0))) (.num 1)) (.mulL 13978204789294149664768 (.var 5)) 1223092919063238095667200 103089260321044353777664 19220031585279455789056 61478694363309107150244939353564331654974013440 17472755986617687080960 1747275598661768708096000 125 rfl lr.1 lg.2 lb.2 hU y2 a1) (by exact lin6 (cx6 _ _ _ _ _ _) (.mulL 10 (.var 0)) (.mulL 12 (.mulL 18889465931478580854784 (.var 1))) (.neg (.mulL 4194304 (.var 1))) (.var 2) (.neg (.mulL 4194304 (.var 1))) (.var 3) (.add (.num 0) (.num 1)) (.var 1) (.sub (.add (.add (.mulL 30 (.var 0)) (.mulL 59 (.var 2))) (.mulL 11 (.var 3))) (.mulL 1400 (.mulL 4194304 (.var 1)))) (.mulL 100 (.var 4)) (.var 5) (.add (.sub (.var 0) (.var 4)) (.mulL 4194304 (.var 1))) (.add (.mulL 13978204789294149664768 (.var 5)) (.num 1)) (.mulL 713623846352979940529142984724747568191373312 (.var 1)) 24461858381264761913344 206178520642088707555328 38440063170558911578112 12295738872661821430048987870712866330994802688 3494551197323537416192 349455119732353741619200 25 rfl lr.2 lg.1 lb.1 hU y1 b1) (by decide)) fun q1 hz5 => ?_
  have f3 := hz5.1
  have a3 := hz5.2.1
  have b3 := hz5.2.2
  clear hz5
  refine ob1 (fl_mul' 22 713623846352979940529142984724747568191373312 79228162514264337593543950336 (by decide) (by decide) fl27 f2 (by exact lin6 (cx6 _ _ _ _ _ _) (.mulL 10 (.var 0)) (.mulL 12 (.mulL 18889465931478580854784 (.var 1))) (.mulL 10 (.var 2)) (.mulL 12 (.mulL 18889465931478580854784 (.var 1))) (.neg (.mulL 4194304 (.var 1))) (.var 3) (.add (.num 0) (.num 1)) (.var 1) (.mulL 100 (.var 4)) (.add (.add (.add (.mulL 30 (.var 0)) (.mulL 59 (.var 2))) (.mulL 11 (.var 3))) (.mulL 1400 (.mulL 4194304 (.var 1)))) (.sub (.sub (.var 3) (.var 4)) (.mulL 4194304 (.var 1))) (.var 5) (.add (.neg (.mulL 713623846352979940529142984724747568191373312 (.var 1))) (.num 1)) (.mulL 5100155801499217166336 (.var 5)) 19125584255622064373760 37613649036056726601728 567392332916787909754880 76341695023225868252726413627509814881079525376 6375194751874021457920 637519475187402145792000 125 rfl lr.2 lg.2 lb.1 hU y2 a2) (by exact lin6 (cx6 _ _ _ _ _ _) (.neg (.mulL 4194304 (.var 0))) (.var 1) (.neg (.mulL 4194304 (.var 0))) (.var 2) (.mulL 10 (.var 3)) (.mulL 12 (.mulL 18889465931478580854784 (.var 0))) (.add (.num 0) (.num 1)) (.var 0) (.sub (.add (.add (.mulL 30 (.var 1)) (.mulL 59 (.var 2))) (.mulL 11 (.var 3))) (.mulL 1400 (.mulL 4194304 (.var 0)))) (.mulL 100 (.var 4)) (.var 5) (.add (.sub (.var 3) (.var 4)) (.mulL 4194304 (.var 0))) (.add (.mulL 5100155801499217166336 (.var 5)) (.num 1)) (.mulL 713623846352979940529142984724747568191373312 (.var 0)) 191255842556220643737600 376136490360567266017280 56739233291678790975488 76341695023225868252726413627509814881079525376 6375194751874021457920 637519475187402145792000 125 rfl lr.1 lg.1 lb.2 hU y1 b2) (by decide)) fun q2 hz6 => ?_
  have f4 := hz6.1
  have a4 := hz6.2.1
  have b4 := hz6.2.2
  clear hz6
  have c1 : 74 * d1 - 400 * (4194304 * UU) ≤ 100 * q1 ∧ 100 * q1 ≤ 74 * d1 + 400 * (4194304 * UU) := by exact ⟨lin7 (cx7 _ _ _ _ _ _ _) (.neg (.mulL 4194304 (.var 0))) (.var 1) (.mulL 10 (.var 1)) (.mulL 12 (.mulL 18889465931478580854784 (.var 0))) (.neg (.mulL 4194304 (.var 0))) (.var 2) (.neg (.mulL 4194304 (.var 0))) (.var 3) (.sub (.add (.add (.mulL 30 (.var 1)) (.mulL 59 (.var 2))) (.mulL 11 (.var 3))) (.mulL 1400 (.mulL 4194304 (.var 0)))) (.mulL 100 (.var 4)) (.var 5) (.add (.sub (.var 1) (.var 4)) (.mulL 4194304 (.var 0))) (.sub (.mulL 13978204789294149664768 (.var 5)) (.mulL 79228162514264337593543950336 (.var 0))) (.mulL 18889465931478580854784 (.var 6)) (.sub (.mulL 74 (.var 5)) (.mulL 400 (.mulL 4194304 (.var 0)))) (.mulL 100 (.var 6)) 175105349184806436292526080 17708874310761168764928000 1671717734935854714978304 311676187869396641775616 28334198897217876525056 2833419889721787652505600 16888498602639363125 3190147189883798685264947303378478694400 rfl lr.1 lr.2 lg.1 lb.1 y1 b1 a3, lin7 (cx7 _ _ _ _ _ _ _) (.neg (.mulL 4194304 (.var 0))) (.var 1) (.mulL 10 (.var 1)) (.mulL 12 (.mulL 18889465931478580854784 (.var 0))) (.mulL 10 (.var 2)) (.mulL 12 (.mulL 18889465931478580854784 (.var 0))) (.mulL 10 (.var 3)) (.mulL 12 (.mulL 18889465931478580854784 (.var 0))) (.mulL 100 (.var 4)) (.add (.add (.add (.mulL 30 (.var 1)) (.mulL 59 (.var 2))) (.mulL 11 (.var 3))) (.mulL 1400 (.mulL 4194304 (.var 0)))) (.sub (.sub (.var 1) (.var 4)) (.mulL 4194304 (.var 0))) (.var 5) (.mulL 18889465931478580854784 (.var 6)) (.add (.mulL 13978204789294149664768 (.var 5)) (.mulL 79228162514264337593543950336 (.var 0))) (.mulL 100 (.var 6)) (.add (.mulL 74 (.var 5)) (.mulL 400 (.mulL 4194304 (.var 0)))) 885443715538058438246400000 87552674592403218146263040 835858867467927357489152 155838093934698320887808 141670994486089382625280 14167099448608938262528000 84442493013196815625 15950735949418993426324736516892393472000 rfl lr.1 lr.2 lg.2 lb.2 y2 a1 b3⟩
  have c2 : 27 * d2 - 400 * (4194304 * UU) ≤ 100 * q2 ∧ 100 * q2 ≤ 27 * d2 + 400 * (4194304 * UU) := by exact ⟨lin7 (cx7 _ _ _ _ _ _ _) (.neg (.mulL 4194304 (.var 0))) (.var 1) (.mulL 10 (.var 1)) (.mulL 12 (.mulL 18889465931478580854784 (.var 0))) (.mulL 10 (.var 2)) (.mulL 12 (.mulL 18889465931478580854784 (.var 0))) (.neg (.mulL 4194304 (.var 0))) (.var 3) (.mulL 100 (.var 4)) (.add (.add (.add (.mulL 30 (.var 1)) (.mulL 59 (.var 2))) (.mulL 11 (.var 3))) (.mulL 1400 (.mulL 4194304 (.var 0)))) (.sub (.sub (.var 3) (.var 4)) (.mulL 4194304 (.var 0))) (.var 5) (.sub (.mulL 5100155801499217166336 (.var 5)) (.mulL 79228162514264337593543950336 (.var 0))) (.mulL 18889465931478580854784 (.var 6)) (.sub (.mulL 27 (.var 5)) (.mulL 400 (.mulL 4194304 (.var 0)))) (.mulL 100 (.var 6)) 860226278519534488817500160 86872653818869985177501696 1671717734935854714978304 25217437018523910107299840 283341988972178765250560 28334198897217876525056000 84442493013196815625 15950735949418993426324736516892393472000 rfl lr.1 lr.2 lg.2 lb.1 y2 a2 a4, lin7 (cx7 _ _ _ _ _ _ _) (.neg (.mulL 4194304 (.var 0))) (.var 1) (.mulL 10 (.var 1)) (.mulL 12 (.mulL 18889465931478580854784 (.var 0))) (.neg (.mulL 4194304 (.var 0))) (.var 2) (.mulL 10 (.var 3)) (.mulL 12 (.mulL 18889465931478580854784 (.var 0))) (.sub (.add (.add (.mulL 30 (.var 1)) (.mulL 59 (.var 2))) (.mulL 11 (.var 3))) (.mulL 1400 (.mulL 4194304 (.var 0)))) (.mulL 100 (.var 4)) (.var 5) (.add (.sub (.var 3) (.var 4)) (.mulL 4194304 (.var 0))) (.mulL 18889465931478580854784 (.var 6)) (.add (.mulL 5100155801499217166336 (.var 5)) (.mulL 79228162514264337593543950336 (.var 0))) (.mulL 100 (.var 6)) (.add (.mulL 27 (.var 5)) (.mulL 400 (.mulL 4194304 (.var 0)))) 868726538188699851775016960 86022627851953448881750016 16717177349358547149783040 2521743701852391010729984 283341988972178765250560 28334198897217876525056000 84442493013196815625 15950735949418993426324736516892393472000 rfl lr.1 lr.2 lg.1 lb.2 y1 b2 b4⟩
  clear a3 b3 a4 b4
  have c1' := c1.2
  have c1 := c1.1
  have c2' := c2.2
  have c2 := c2.1
  refine ob1 (fl_sub' 22 37778931862957161709568 4194304 (by decide) (by decide) f3 f4 (by exact lin9 (cx9 _ _ _ _ _ _ _ _ _) (.neg (.mulL 4194304 (.var 0))) (.var 1) (.mulL 10 (.var 2)) (.mulL 12 (.mulL 18889465931478580854784 (.var 0))) (.mulL 10 (.var 3)) (.mulL 12 (.mulL 18889465931478580854784 (.var 0))) (.add (.num 0) (.num 1)) (.var 0) (.mulL 100 (.var 4)) (.add (.add (.add (.mulL 30 (.var 1)) (.mulL 59 (.var 2))) (.mulL 11 (.var 3))) (.mulL 1400 (.mulL 4194304 (.var 0)))) (.sub (.sub (.var 1) (.var 4)) (.mulL 4194304 (.var 0))) (.var 5) (.var 6) (.add (.sub (.var 3) (.var 4)) (.mulL 4194304 (.var 0))) (.sub (.mulL 74 (.var 5)) (.mulL 400 (.mulL 4194304 (.var 0)))) (.mulL 100 (.var 7)) (.mulL 100 (.var 8)) (.add (.mulL 27 (.var 6)) (.mulL 400 (.mulL 4194304 (.var 0)))) (.add (.neg (.mulL 37778931862957161709568 (.var 0))) (.num 1)) (.sub (.var 7) (.var 8)) 59900 2773 3217 2420118375141028988956180480 470 74000 27000 1000 1000 100000 rfl lr.1 lg.2 lb.2 hU y2 a1 b2 c1 c2') (by exact lin9 (cx9 _ _ _ _ _ _ _ _ _) (.mulL 10 (.var 0)) (.mulL 12 (.mulL 18889465931478580854784 (.var 1))) (.neg (.mulL 4194304 (.var 1))) (.var 2) (.neg (.mulL 4194304 (.var 1))) (.var 3) (.add (.num 0) (.num 1)) (.var 1) (.sub (.add (.add (.mulL 30 (.var 0)) (.mulL 59 (.var 2))) (.mulL 11 (.var 3))) (.mulL 1400 (.mulL 4194304 (.var 1)))) (.mulL 100 (.var 4)) (.var 5) (.add (.sub (.var 0) (.var 4)) (.mulL 4194304 (.var 1))) (.sub (.sub (.var 3) (.var 4)) (.mulL 4194304 (.var 1))) (.var 6) (.mulL 100 (.var 7)) (.add (.mulL 74 (.var 5)) (.mulL 400 (.mulL 4194304 (.var 1)))) (.sub (.mulL 27 (.var 6)) (.mulL 400 (.mulL 4194304 (.var 1)))) (.mulL 100 (.var 8)) (.add (.sub (.var 7) (.var 8)) (.num 1)) (.mulL 37778931862957161709568 (.var 1)) 599 2773 3217 242011837514102898895618048 47 7400 2700 100 100 10000 rfl lr.2 lg.1 lb.1 hU y1 b1 a2 c1' c2) (by decide)) fun i hz2 => ?_
  have f5 := hz2.1
  have a5 := hz2.2.1
  have b5 := hz2.2.2
  clear hz2
  exact ⟨i, f5, by exact lin8 (cx10 _ _ _ _ _ _ _ _ _ _) (.neg (.mulL 4194304 (.var 0))) (.var 1) (.mulL 10 (.var 1)) (.mulL 12 (.mulL 18889465931478580854784 (.var 0))) (.mulL 100 (.var 2)) (.add (.add (.add (.mulL 30 (.var 1)) (.mulL 59 (.var 3))) (.mulL 11 (.var 4))) (.mulL 1400 (.mulL 4194304 (.var 0)))) (.sub (.sub (.var 1) (.var 2)) (.mulL 4194304 (.var 0))) (.var 5) (.var 6) (.add (.sub (.var 4) (.var 2)) (.mulL 4194304 (.var 0))) (.sub (.mulL 74 (.var 5)) (.mulL 400 (.mulL 4194304 (.var 0)))) (.mulL 100 (.var 7)) (.mulL 100 (.var 8)) (.add (.mulL 27 (.var 6)) (.mulL 400 (.mulL 4194304 (.var 0)))) (.sub (.sub (.var 7) (.var 8)) (.mulL 4194304 (.var 0))) (.var 9) (.sub (.sub (.sub (.mulL 5990 (.var 1)) (.mulL 2773 (.var 3))) (.mulL 3217 (.var 4))) (.mulL 250000 (.mulL 4194304 (.var 0)))) (.mulL 10000 (.var 9)) 420500 42050 1270015094918480107 199959823455250059400 72958313963402048700 2702159776422298100 2702159776422298100 270215977642229810000 27021597764222981 rfl lr.1 lr.2 y2 a1 b2 c1 c2' a5, by exact lin8 (cx10 _ _ _ _ _ _ _ _ _ _) (.neg (.mulL 4194304 (.var 0))) (.var 1) (.mulL 10 (.var 1)) (.mulL 12 (.mulL 18889465931478580854784 (.var 0))) (.sub (.add (.add (.mulL 30 (.var 1)) (.mulL 59 (.var 2))) (.mulL 11 (.var 3))) (.mulL 1400 (.mulL 4194304 (.var 0)))) (.mulL 100 (.var 4)) (.var 5) (.add (.sub (.var 1) (.var 4)) (.mulL 4194304 (.var 0))) (.sub (.sub (.var 3) (.var 4)) (.mulL 4194304 (.var 0))) (.var 6) (.mulL 100 (.var 7)) (.add (.mulL 74 (.var 5)) (.mulL 400 (.mulL 4194304 (.var 0)))) (.sub (.mulL 27 (.var 6)) (.mulL 400 (.mulL 4194304 (.var 0)))) (.mulL 100 (.var 8)) (.var 9) (.add (.sub (.var 7) (.var 8)) (.mulL 4194304 (.var 0))) (.mulL 10000 (.var 9)) (.add (.sub (.sub (.mulL 5990 (.var 1)) (.mulL 2773 (.var 2))) (.mulL 3217 (.var 3))) (.mulL 250000 (.mulL 4194304 (.var 0)))) 420500 42050 1270015094918480107 199959823455250059400 72958313963402048700 2702159776422298100 2702159776422298100 270215977642229810000 27021597764222981 rfl lr.1 lr.2 y1 b1 a2 c1' c2 b5⟩
theorem q_fl {r g b : UInt64} {vr vg vb : Int} (hr : Fl r vr) (hg : Fl g vg) (hb : Fl b vb) (lr : Li vr) (lg : Li vg) (lb : Li vb) : ∃ v, Fl (yQ r g b) v ∧ (2130 * vr - 5251 * vg + 3121 * vb) - 250000 * (4194304 * UU) ≤ 10000 * v ∧ 10000 * v ≤ (2130 * vr - 5251 * vg + 3121 * vb) + 250000 * (4194304 * UU) := by
  have hU := UU_pos
  refine ob1 (y_fl hr hg hb lr lg lb) fun y hz3 => ?_
  have fy := hz3.1
  have y1 := hz3.2.1
  have y2 := hz3.2.2
  clear hz3
  have l1 := lr.1
  have l2 := lr.2
  have l3 := lg.1
  have l4 := lg.2
  have l5 := lb.1
  have l6 := lb.2
  have y3 : -(20 * (4194304 * UU)) ≤ y := by exact lin5 (cx5 _ _ _ _ _) (.neg (.mulL 4194304 (.var 0))) (.var 1) (.mulL 10 (.var 1)) (.mulL 12 (.mulL 18889465931478580854784 (.var 0))) (.neg (.mulL 4194304 (.var 0))) (.var 2) (.neg (.mulL 4194304 (.var 0))) (.var 3) (.sub (.add (.add (.mulL 30 (.var 1)) (.mulL 59 (.var 2))) (.mulL 11 (.var 3))) (.mulL 1400 (.mulL 4194304 (.var 0)))) (.mulL 100 (.var 4)) (.neg (.mulL 20 (.mulL 4194304 (.var 0)))) (.var 4) 810647932926691930 250 1594274268089155879 297237575406452791 27021597764222981 2702159776422298100 rfl lr.1 lr.2 lg.1 lb.1 y1
  have y4 : 100 * y ≤ 121 * (18889465931478580854784 * UU) := by exact lin5 (cx5 _ _ _ _ _) (.neg (.mulL 4194304 (.var 0))) (.var 1) (.mulL 10 (.var 1)) (.mulL 12 (.mulL 18889465931478580854784 (.var 0))) (.mulL 10 (.var 2)) (.mulL 12 (.mulL 18889465931478580854784 (.var 0))) (.mulL 10 (.var 3)) (.mulL 12 (.mulL 18889465931478580854784 (.var 0))) (.mulL 100 (.var 4)) (.add (.add (.add (.mulL 30 (.var 1)) (.mulL 59 (.var 2))) (.mulL 11 (.var 3))) (.mulL 1400 (.mulL 4194304 (.var 0)))) (.mulL 100 (.var 4)) (.mulL 121 (.mulL 18889465931478580854784 (.var 0))) 225179981368454800 833165931063534910 1594274268089155879 297237575406452791 270215977642229810 270215977642229810 rfl lr.1 lr.2 lg.2 lb.2 y2
  refine ob1 (fl_sub' 22 37778931862957161709568 4194304 (by decide) (by decide) hr fy (by exact lin5 (cx5 _ _ _ _ _) (.neg (.mulL 4194304 (.var 0))) (.var 1) (.mulL 10 (.var 2)) (.mulL 12 (.mulL 18889465931478580854784 (.var 0))) (.mulL 10 (.var 3)) (.mulL 12 (.mulL 18889465931478580854784 (.var 0))) (.add (.num 0) (.num 1)) (.var 0) (.mulL 100 (.var 4)) (.add (.add (.add (.mulL 30 (.var 1)) (.mulL 59 (.var 2))) (.mulL 11 (.var 3))) (.mulL 1400 (.mulL 4194304 (.var 0)))) (.add (.neg (.mulL 37778931862957161709568 (.var 0))) (.num 1)) (.sub (.var 1) (.var 4)) 700 59 11 21911780480515092135280640 10 1000 rfl lr.1 lg.2 lb.2 hU y2) (by exact lin5 (cx5 _ _ _ _ _) (.mulL 10 (.var 0)) (.mulL 12 (.mulL 18889465931478580854784 (.var 1))) (.neg (.mulL 4194304 (.var 1))) (.var 2) (.neg (.mulL 4194304 (.var 1))) (.var 3) (.add (.num 0) (.num 1)) (.var 1) (.sub (.add (.add (.mulL 30 (.var 0)) (.mulL 59 (.var 2))) (.mulL 11 (.var 3))) (.mulL 1400 (.mulL 4194304 (.var 1)))) (.mulL 100 (.var 4)) (.add (.sub (.var 0) (.var 4)) (.num 1)) (.mulL 37778931862957161709568 (.var 1)) 7 59 11 2191178048051509213528064 1 100 rfl lr.2 lg.1 lb.1 hU y1) (by decide)) fun d1 hz0 => ?_
  have f1 := hz0.1
  have a1 := hz0.2.1
  have b1 := hz0.2.2
  clear hz0
  refine ob1 (fl_sub' 22 37778931862957161709568 4194304 (by decide) (by decide) hb fy (by exact lin5 (cx5 _ _ _ _ _) (.mulL 10 (.var 0)) (.mulL 12 (.mulL 18889465931478580854784 (.var 1))) (.mulL 10 (.var 2)) (.mulL 12 (.mulL 18889465931478580854784 (.var 1))) (.neg (.mulL 4194304 (.var 1))) (.var 3) (.add (.num 0) (.num 1)) (.var 1) (.mulL 100 (.var 4)) (.add (.add (.add (.mulL 30 (.var 0)) (.mulL 59 (.var 2))) (.mulL 11 (.var 3))) (.mulL 1400 (.mulL 4194304 (.var 1)))) (.add (.neg (.mulL 37778931862957161709568 (.var 1))) (.num 1)) (.sub (.var 3) (.var 4)) 30 59 890 17604982248137974903472128 10 1000 rfl lr.2 lg.2 lb.1 hU y2) (by exact lin5 (cx5 _ _ _ _ _) (.neg (.mulL 4194304 (.var 0))) (.var 1) (.neg (.mulL 4194304 (.var 0))) (.var 2) (.mulL 10 (.var 3)) (.mulL 12 (.mulL 18889465931478580854784 (.var 0))) (.add (.num 0) (.num 1)) (.var 0) (.sub (.add (.add (.mulL 30 (.var 1)) (.mulL 59 (.var 2))) (.mulL 11 (.var 3))) (.mulL 1400 (.mulL 4194304 (.var 0)))) (.mulL 100 (.var 4)) (.add (.sub (.var 3) (.var 4)) (.num 1)) (.mulL 37778931862957161709568 (.var 0)) 300 590 89 17604982248137974903472128 10 1000 rfl lr.1 lg.1 lb.2 hU y1) (by decide)) fun d2 hz1 => ?_
  have f2 := hz1.1
  have a2 := hz1.2.1
  have b2 := hz1.2.2
  clear hz1
  have m1 : -(122 * (18889465931478580854784 * UU)) ≤ 100 * d1 ∧ 100 * d1 ≤ 122 * (18889465931478580854784 * UU) := by exact ⟨lin6 (cx6 _ _ _ _ _ _) (.neg (.mulL 4194304 (.var 0))) (.var 1) (.mulL 10 (.var 1)) (.mulL 12 (.mulL 18889465931478580854784 (.var 0))) (.mulL 10 (.var 2)) (.mulL 12 (.mulL 18889465931478580854784 (.var 0))) (.mulL 10 (.var 3)) (.mulL 12 (.mulL 18889465931478580854784 (.var 0))) (.mulL 100 (.var 4)) (.add (.add (.add (.mulL 30 (.var 1)) (.mulL 59 (.var 2))) (.mulL 11 (.var 3))) (.mulL 1400 (.mulL 4194304 (.var 0)))) (.sub (.sub (.var 1) (.var 4)) (.mulL 4194304 (.var 0))) (.var 5) (.neg (.mulL 122 (.mulL 18889465931478580854784 (.var 0)))) (.mulL 100 (.var 5)) 27471957726959950600 855683929200386390 1594274268089155879 297237575406452791 270215977642229810 27021597764222981000 270215977642229810 rfl lr.1 lr.2 lg.2 lb.2 y2 a1, lin6 (cx6 _ _ _ _ _ _) (.neg (.mulL 4194304 (.var 0))) (.var 1) (.mulL 10 (.var 1)) (.mulL 12 (.mulL 18889465931478580854784 (.var 0))) (.neg (.mulL 4194304 (.var 0))) (.var 2) (.neg (.mulL 4194304 (.var 0))) (.var 3) (.sub (.add (.add (.mulL 30 (.var 1)) (.mulL 59 (.var 2))) (.mulL 11 (.var 3))) (.mulL 1400 (.mulL 4194304 (.var 0)))) (.mulL 100 (.var 4)) (.var 5) (.add (.sub (.var 1) (.var 4)) (.mulL 4194304 (.var 0))) (.mulL 100 (.var 5)) (.mulL 122 (.mulL 18889465931478580854784 (.var 0))) 855683929200386390 274719577269599506 1594274268089155879 297237575406452791 27021597764222981 2702159776422298100 27021597764222981 rfl lr.1 lr.2 lg.1 lb.1 y1 b1⟩
  have m2 : -(122 * (18889465931478580854784 * UU)) ≤ 100 * d2 ∧ 100 * d2 ≤ 122 * (18889465931478580854784 * UU) := by exact ⟨lin6 (cx6 _ _ _ _ _ _) (.neg (.mulL 4194304 (.var 0))) (.var 1) (.mulL 10 (.var 1)) (.mulL 12 (.mulL 18889465931478580854784 (.var 0))) (.mulL 10 (.var 2)) (.mulL 12 (.mulL 18889465931478580854784 (.var 0))) (.neg (.mulL 4194304 (.var 0))) (.var 3) (.mulL 100 (.var 4)) (.add (.add (.add (.mulL 30 (.var 1)) (.mulL 59 (.var 2))) (.mulL 11 (.var 3))) (.mulL 1400 (.mulL 4194304 (.var 0)))) (.sub (.sub (.var 3) (.var 4)) (.mulL 4194304 (.var 0))) (.var 5) (.neg (.mulL 122 (.mulL 18889465931478580854784 (.var 0)))) (.mulL 100 (.var 5)) 3422735716801497510 1152921504606839181 1594274268089155879 24049222010158453090 270215977642229810 27021597764222981000 270215977642229810 rfl lr.1 lr.2 lg.2 lb.1 y2 a2, lin6 (cx6 _ _ _ _ _ _) (.neg (.mulL 4194304 (.var 0))) (.var 1) (.mulL 10 (.var 1)) (.mulL 12 (.mulL 18889465931478580854784 (.var 0))) (.neg (.mulL 4194304 (.var 0))) (.var 2) (.mulL 10 (.var 3)) (.mulL 12 (.mulL 18889465931478580854784 (.var 0))) (.sub (.add (.add (.mulL 30 (.var 1)) (.mulL 59 (.var 2))) (.mulL 11 (.var 3))) (.mulL 1400 (.mulL 4194304 (.var 0)))) (.mulL 100 (.var 4)) (.var 5) (.add (.sub (.var 3) (.var 4)) (.mulL 4194304 (.var 0))) (.mulL 100 (.var 5)) (.mulL 122 (.mulL 18889465931478580854784 (.var 0))) 11529215046068391810 342273571680149751 15942742680891558790 2404922201015845309 270215977642229810 27021597764222981000 270215977642229810 rfl lr.1 lr.2 lg.1 lb.2 y1 b2⟩
  have m1' := m1.2
  have m1 := m1.1
  have m2' := m2.2
  have m2 := m2.1
  refine ob1 (fl_mul' 22 713623846352979940529142984724747568191373312 79228162514264337593543950336 (by decide) (by decide) fl48 f1 (by exact lin6 (cx6 _ _ _ _ _ _) (.neg (.mulL 4194304 (.var 0))) (.var 1) (.mulL 10 (.var 2)) (.mulL 12 (.mulL 18889465931478580854784 (.var 0))) (.mulL 10 (.var 3)) (.mulL 12 (.mulL 18889465931478580854784 (.var 0))) (.add (.num 0) (.num 1)) (.var 0) (.mulL 100 (.var 4)) (.add (.add (.add (.mulL 30 (.var 1)) (.mulL 59 (.var 2))) (.mulL 11 (.var 3))) (.mulL 1400 (.mulL 4194304 (.var 0)))) (.sub (.sub (.var 1) (.var 4)) (.mulL 4194304 (.var 0))) (.var 5) (.add (.neg (.mulL 713623846352979940529142984724747568191373312 (.var 0))) (.num 1)) (.mulL 9066943647109718474752 (.var 5)) 793357569122100366540800 66868709397434173751296 12467047514775862902784 71219659866027324097395946558346991946075996160 11333679558887148093440 1133367955888714809344000 125 rfl lr.1 lg.2 lb.2 hU y2 a1) (by exact lin6 (cx6 _ _ _ _ _ _) (.mulL 10 (.var 0)) (.mulL 12 (.mulL 18889465931478580854784 (.var 1))) (.neg (.mulL 4194304 (.var 1))) (.var 2) (.neg (.mulL 4194304 (.var 1))) (.var 3) (.add (.num 0) (.num 1)) (.var 1) (.sub (.add (.add (.mulL 30 (.var 0)) (.mulL 59 (.var 2))) (.mulL 11 (.var 3))) (.mulL 1400 (.mulL 4194304 (.var 1)))) (.mulL 100 (.var 4)) (.var 5) (.add (.sub (.var 0) (.var 4)) (.mulL 4194304 (.var 1))) (.add (.mulL 9066943647109718474752 (.var 5)) (.num 1)) (.mulL 713623846352979940529142984724747568191373312 (.var 1)) 15867151382442007330816 133737418794868347502592 24934095029551725805568 14243931973205464819479189311669398389215199232 2266735911777429618688 226673591177742961868800 25 rfl lr.2 lg.1 lb.1 hU y1 b1) (by decide)) fun q1 hz4 => ?_
  have f3 := hz4.1
  have a3 := hz4.2.1
  have b3 := hz4.2.2
  clear hz4
  refine ob1 (fl_mul' 22 713623846352979940529142984724747568191373312 79228162514264337593543950336 (by decide) (by decide) fl41 f2 (by exact lin6 (cx6 _ _ _ _ _ _) (.mulL 10 (.var 0)) (.mulL 12 (.mulL 18889465931478580854784 (.var 1))) (.mulL 10 (.var 2)) (.mulL 12 (.mulL 18889465931478580854784 (.var 1))) (.neg (.mulL 4194304 (.var 1))) (.var 3) (.add (.num 0) (.num 1)) (.var 1) (.mulL 100 (.var 4)) (.add (.add (.add (.mulL 30 (.var 0)) (.mulL 59 (.var 2))) (.mulL 11 (.var 3))) (.mulL 1400 (.mulL 4194304 (.var 1)))) (.sub (.sub (.var 3) (.var 4)) (.mulL 4194304 (.var 1))) (.var 5) (.add (.neg (.mulL 713623846352979940529142984724747568191373312 (.var 1))) (.num 1)) (.mulL 7744681031906217689088 (.var 5)) 29042553869648316334080 57117022610308355457024 861595764799566717911040 69672880179057250686732623455522934662950289408 9680851289882772111360 968085128988277211136000 125 rfl lr.2 lg.2 lb.1 hU y2 a2) (by exact lin6 (cx6 _ _ _ _ _ _) (.neg (.mulL 4194304 (.var 0))) (.var 1) (.neg (.mulL 4194304 (.var 0))) (.var 2) (.mulL 10 (.var 3)) (.mulL 12 (.mulL 18889465931478580854784 (.var 0))) (.add (.num 0) (.num 1)) (.var 0) (.sub (.add (.add (.mulL 30 (.var 1)) (.mulL 59 (.var 2))) (.mulL 11 (.var 3))) (.mulL 1400 (.mulL 4194304 (.var 0)))) (.mulL 100 (.var 4)) (.var 5) (.add (.sub (.var 3) (.var 4)) (.mulL 4194304 (.var 0))) (.add (.mulL 7744681031906217689088 (.var 5)) (.num 1)) (.mulL 713623846352979940529142984724747568191373312 (.var 0)) 290425538696483163340800 571170226103083554570240 86159576479956671791104 69672880179057250686732623455522934662950289408 9680851289882772111360 968085128988277211136000 125 rfl lr.1 lg.1 lb.2 hU y1 b2) (by decide)) fun q2 hz5 => ?_
  have f4 := hz5.1
  have a4 := hz5.2.1
  have b4 := hz5.2.2
  clear hz5
  have c1 : 48 * d1 - 400 * (4194304 * UU) ≤ 100 * q1 ∧ 100 * q1 ≤ 48 * d1 + 400 * (4194304 * UU) := by exact ⟨lin7 (cx7 _ _ _ _ _ _ _) (.neg (.mulL 4194304 (.var 0))) (.var 1) (.mulL 10 (.var 1)) (.mulL 12 (.mulL 18889465931478580854784 (.var 0))) (.neg (.mulL 4194304 (.var 0))) (.var 2) (.neg (.mulL 4194304 (.var 0))) (.var 3) (.sub (.add (.add (.mulL 30 (.var 1)) (.mulL 59 (.var 2))) (.mulL 11 (.var 3))) (.mulL 1400 (.mulL 4194304 (.var 0)))) (.mulL 100 (.var 4)) (.var 5) (.add (.sub (.var 1) (.var 4)) (.mulL 4194304 (.var 0))) (.sub (.mulL 9066943647109718474752 (.var 5)) (.mulL 79228162514264337593543950336 (.var 0))) (.mulL 18889465931478580854784 (.var 6)) (.sub (.mulL 48 (.var 5)) (.mulL 400 (.mulL 4194304 (.var 0)))) (.mulL 100 (.var 6)) 173121955262001177071452160 17708874310761167978496000 3343435469871709429956608 623352375738793283551232 56668397794435753050112 5666839779443575305011200 16888498602639363125 3190147189883798685264947303378478694400 rfl lr.1 lr.2 lg.1 lb.1 y1 b1 a3, lin7 (cx7 _ _ _ _ _ _ _) (.neg (.mulL 4194304 (.var 0))) (.var 1) (.mulL 10 (.var 1)) (.mulL 12 (.mulL 18889465931478580854784 (.var 0))) (.mulL 10 (.var 2)) (.mulL 12 (.mulL 18889465931478580854784 (.var 0))) (.mulL 10 (.var 3)) (.mulL 12 (.mulL 18889465931478580854784 (.var 0))) (.mulL 100 (.var 4)) (.add (.add (.add (.mulL 30 (.var 1)) (.mulL 59 (.var 2))) (.mulL 11 (.var 3))) (.mulL 1400 (.mulL 4194304 (.var 0)))) (.sub (.sub (.var 1) (.var 4)) (.mulL 4194304 (.var 0))) (.var 5) (.mulL 18889465931478580854784 (.var 6)) (.add (.mulL 9066943647109718474752 (.var 5)) (.mulL 79228162514264337593543950336 (.var 0))) (.mulL 100 (.var 6)) (.add (.mulL 48 (.var 5)) (.mulL 400 (.mulL 4194304 (.var 0)))) 885443715538058398924800000 86560977631000588535726080 1671717734935854714978304 311676187869396641775616 283341988972178765250560 28334198897217876525056000 84442493013196815625 15950735949418993426324736516892393472000 rfl lr.1 lr.2 lg.2 lb.2 y2 a1 b3⟩
  have c2 : 41 * d2 - 400 * (4194304 * UU) ≤ 100 * q2 ∧ 100 * q2 ≤ 41 * d2 + 400 * (4194304 * UU) := by exact ⟨lin7 (cx7 _ _ _ _ _ _ _) (.neg (.mulL 4194304 (.var 0))) (.var 1) (.mulL 10 (.var 1)) (.mulL 12 (.mulL 18889465931478580854784 (.var 0))) (.neg (.mulL 4194304 (.var 0))) (.var 2) (.mulL 10 (.var 3)) (.mulL 12 (.mulL 18889465931478580854784 (.var 0))) (.sub (.add (.add (.mulL 30 (.var 1)) (.mulL 59 (.var 2))) (.mulL 11 (.var 3))) (.mulL 1400 (.mulL 4194304 (.var 0)))) (.mulL 100 (.var 4)) (.var 5) (.add (.sub (.var 3) (.var 4)) (.mulL 4194304 (.var 0))) (.sub (.mulL 7744681031906217689088 (.var 5)) (.mulL 79228162514264337593543950336 (.var 0))) (.mulL 18889465931478580854784 (.var 6)) (.sub (.mulL 41 (.var 5)) (.mulL 400 (.mulL 4194304 (.var 0)))) (.mulL 100 (.var 6)) 862457596682690367102648320 85076973963758799303606272 22986118855368002330951680 3467397590047037639753728 389595234836745802219520 38959523483674580221952000 84442493013196815625 15950735949418993426324736516892393472000 rfl lr.1 lr.2 lg.1 lb.2 y1 b2 a4, lin7 (cx7 _ _ _ _ _ _ _) (.neg (.mulL 4194304 (.var 0))) (.var 1) (.mulL 10 (.var 1)) (.mulL 12 (.mulL 18889465931478580854784 (.var 0))) (.mulL 10 (.var 2)) (.mulL 12 (.mulL 18889465931478580854784 (.var 0))) (.neg (.mulL 4194304 (.var 0))) (.var 3) (.mulL 100 (.var 4)) (.add (.add (.add (.mulL 30 (.var 1)) (.mulL 59 (.var 2))) (.mulL 11 (.var 3))) (.mulL 1400 (.mulL 4194304 (.var 0)))) (.sub (.sub (.var 3) (.var 4)) (.mulL 4194304 (.var 0))) (.var 5) (.mulL 18889465931478580854784 (.var 6)) (.add (.mulL 7744681031906217689088 (.var 5)) (.mulL 79228162514264337593543950336 (.var 0))) (.mulL 100 (.var 6)) (.add (.mulL 41 (.var 5)) (.mulL 400 (.mulL 4194304 (.var 0)))) 850769739637587993036062720 86245759668269036710264832 2298611885536800233095168 34673975900470376397537280 389595234836745802219520 38959523483674580221952000 84442493013196815625 15950735949418993426324736516892393472000 rfl lr.1 lr.2 lg.2 lb.1 y2 a2 b4⟩
  clear a3 b3 a4 b4
  have c1' := c1.2
  have c1 := c1.1
  have c2' := c2.2
  have c2 := c2.1
  refine ob1 (fl_add' 22 37778931862957161709568 4194304 (by decide) (by decide) f3 f4 (by exact lin9 (cx9 _ _ _ _ _ _ _ _ _) (.neg (.mulL 4194304 (.var 0))) (.var 1) (.mulL 10 (.var 2)) (.mulL 12 (.mulL 18889465931478580854784 (.var 0))) (.neg (.mulL 4194304 (.var 0))) (.var 3) (.add (.num 0) (.num 1)) (.var 0) (.mulL 100 (.var 4)) (.add (.add (.add (.mulL 30 (.var 1)) (.mulL 59 (.var 2))) (.mulL 11 (.var 3))) (.mulL 1400 (.mulL 4194304 (.var 0)))) (.sub (.sub (.var 1) (.var 4)) (.mulL 4194304 (.var 0))) (.var 5) (.sub (.sub (.var 3) (.var 4)) (.mulL 4194304 (.var 0))) (.var 6) (.sub (.mulL 48 (.var 5)) (.mulL 400 (.mulL 4194304 (.var 0)))) (.mulL 100 (.var 7)) (.sub (.mulL 41 (.var 6)) (.mulL 400 (.mulL 4194304 (.var 0)))) (.mulL 100 (.var 8)) (.add (.neg (.mulL 37778931862957161709568 (.var 0))) (.num 1)) (.add (.var 7) (.var 8)) 21300 5251 31210 2587630159021378659053207552 890 48000 41000 1000 1000 100000 rfl lr.1 lg.2 lb.1 hU y2 a1 a2 c1 c2) (by exact lin9 (cx9 _ _ _ _ _ _ _ _ _) (.mulL 10 (.var 0)) (.mulL 12 (.mulL 18889465931478580854784 (.var 1))) (.neg (.mulL 4194304 (.var 1))) (.var 2) (.mulL 10 (.var 3)) (.mulL 12 (.mulL 18889465931478580854784 (.var 1))) (.add (.num 0) (.num 1)) (.var 1) (.sub (.add (.add (.mulL 30 (.var 0)) (.mulL 59 (.var 2))) (.mulL 11 (.var 3))) (.mulL 1400 (.mulL 4194304 (.var 1)))) (.mulL 100 (.var 4)) (.var 5) (.add (.sub (.var 0) (.var 4)) (.mulL 4194304 (.var 1))) (.var 6) (.add (.sub (.var 3) (.var 4)) (.mulL 4194304 (.var 1))) (.mulL 100 (.var 7)) (.add (.mulL 48 (.var 5)) (.mulL 400 (.mulL 4194304 (.var 1)))) (.mulL 100 (.var 8)) (.add (.mulL 41 (.var 6)) (.mulL 400 (.mulL 4194304 (.var 1)))) (.add (.add (.var 7) (.var 8)) (.num 1)) (.mulL 37778931862957161709568 (.var 1)) 2130 52510 3121 2587630159021378659053207552 890 48000 41000 1000 1000 100000 rfl lr.2 lg.1 lb.2 hU y1 b1 b2 c1' c2') (by decide)) fun i hz1 => ?_
  have f5 := hz1.1
  have a5 := hz1.2.1
  have b5 := hz1.2.2
  clear hz1
  exact ⟨i, f5, by exact lin8 (cx10 _ _ _ _ _ _ _ _ _ _) (.neg (.mulL 4194304 (.var 0))) (.var 1) (.mulL 10 (.var 1)) (.mulL 12 (.mulL 18889465931478580854784 (.var 0))) (.mulL 100 (.var 2)) (.add (.add (.add (.mulL 30 (.var 1)) (.mulL 59 (.var 3))) (.mulL 11 (.var 4))) (.mulL 1400 (.mulL 4194304 (.var 0)))) (.sub (.sub (.var 1) (.var 2)) (.mulL 4194304 (.var 0))) (.var 5) (.sub (.sub (.var 4) (.var 2)) (.mulL 4194304 (.var 0))) (.var 6) (.sub (.mulL 48 (.var 5)) (.mulL 400 (.mulL 4194304 (.var 0)))) (.mulL 100 (.var 7)) (.sub (.mulL 41 (.var 6)) (.mulL 400 (.mulL 4194304 (.var 0)))) (.mulL 100 (.var 8)) (.sub (.add (.var 7) (.var 8)) (.mulL 4194304 (.var 0))) (.var 9) (.sub (.add (.sub (.mulL 2130 (.var 1)) (.mulL 5251 (.var 3))) (.mulL 3121 (.var 4))) (.mulL 250000 (.mulL 4194304 (.var 0)))) (.mulL 10000 (.var 9)) 132500 13250 2404922201015845309 129703669268270308800 110788550833314222100 2702159776422298100 2702159776422298100 270215977642229810000 27021597764222981 rfl lr.1 lr.2 y2 a1 a2 c1 c2 a5, by exact lin8 (cx10 _ _ _ _ _ _ _ _ _ _) (.neg (.mulL 4194304 (.var 0))) (.var 1) (.mulL 10 (.var 1)) (.mulL 12 (.mulL 18889465931478580854784 (.var 0))) (.sub (.add (.add (.mulL 30 (.var 1)) (.mulL 59 (.var 2))) (.mulL 11 (.var 3))) (.mulL 1400 (.mulL 4194304 (.var 0)))) (.mulL 100 (.var 4)) (.var 5) (.add (.sub (.var 1) (.var 4)) (.mulL 4194304 (.var 0))) (.var 6) (.add (.sub (.var 3) (.var 4)) (.mulL 4194304 (.var 0))) (.mulL 100 (.var 7)) (.add (.mulL 48 (.var 5)) (.mulL 400 (.mulL 4194304 (.var 0)))) (.mulL 100 (.var 8)) (.add (.mulL 41 (.var 6)) (.mulL 400 (.mulL 4194304 (.var 0)))) (.var 9) (.add (.add (.var 7) (.var 8)) (.mulL 4194304 (.var 0))) (.mulL 10000 (.var 9)) (.add (.add (.sub (.mulL 2130 (.var 1)) (.mulL 5251 (.var 2))) (.mulL 3121 (.var 3))) (.mulL 250000 (.mulL 4194304 (.var 0)))) 132500 13250 2404922201015845309 129703669268270308800 110788550833314222100 2702159776422298100 2702159776422298100 270215977642229810000 27021597764222981 rfl lr.1 lr.2 y1 b1 b2 c1' c2' b5⟩
theorem fq_fl {a S : Int} (hS : S = 16 ∨ S = 1024 ∨ S = 262144) (h0 : 0 ≤ a) (h1 : 10 * a ≤ 11 * S) : ∃ v, Fl (fq a S) v ∧ 18889465931478580854784 * (a * UU) - S * (4194304 * UU) ≤ S * v ∧ S * v ≤ 18889465931478580854784 * (a * UU) + S * (4194304 * UU) := by
  have e1 : fq a S = ofFrac false a.toNat S.toNat := by
    unfold fq
    rw [decide_eq_false (by exact ginlt (lin1 (cx1 _) (.num 0) (.var 0) (.num 0) (.var 0) 1 1 rfl h0) : ¬ a < 0), decide_eq_false (by exact ginlt (lin2 (cx2 _ _) (.num 0) (.var 0) (.mulL 10 (.var 0)) (.mulL 11 (.var 1)) (.num 0) (.var 1) 10 1 11 rfl h0 h1) : ¬ S < 0), show a.natAbs = a.toNat by omega, show S.natAbs = S.toNat by omega]; rfl
  refine ob1 (fl_frac (a := a.toNat) (d := S.toNat) 22 (by omega) (by omega) (by decide)) fun v hz2 => ?_
  have hv := hz2.1
  have v1 := hz2.2.1
  have v2 := hz2.2.2
  clear hz2
  rw [show ((S.toNat : Nat) : Int) = S by exact Int.le_antisymm (lin1 (cx2 _ _) (.var 0) (.var 1) (.var 0) (.var 1) 1 1 rfl (tn2 (lin2 (cx2 _ _) (.num 0) (.var 0) (.mulL 10 (.var 0)) (.mulL 11 (.var 1)) (.num 0) (.var 1) 10 1 11 rfl h0 h1))) (lin1 (cx2 _ _) (.var 0) (.var 1) (.var 0) (.var 1) 1 1 rfl (tn1 _)), show ((a.toNat : Nat) : Int) = a by exact Int.le_antisymm (lin1 (cx2 _ _) (.var 0) (.var 1) (.var 0) (.var 1) 1 1 rfl (tn2 (lin1 (cx1 _) (.num 0) (.var 0) (.num 0) (.var 0) 1 1 rfl h0))) (lin1 (cx2 _ _) (.var 0) (.var 1) (.var 0) (.var 1) 1 1 rfl (tn1 _)), Int.mul_assoc, Int.mul_assoc S] at v1 v2
  exact ⟨v, by rw [e1]; exact hv, v1, v2⟩
theorem fl_mulS {x y : UInt64} {S v : Int} (j : Nat) (B E : Int) (hB : (2 : Int) ^ (53 + j) = B) (hE : (2 : Int) ^ j = E) (hx : Fl x v) (hy : Fl y (S * 18889465931478580854784 * UU)) (h1 : -(B * UU) < S * v) (h2 : S * v < B * UU) (hj : j ≤ 1000) : ∃ z, Fl (PySem.Float64.mul x y) z ∧ S * v - E * UU ≤ z ∧ z ≤ S * v + E * UU := by
  have e0 : S * 18889465931478580854784 * v = 18889465931478580854784 * (S * v) := by rw [Int.mul_comm S, Int.mul_assoc]
  have eB : (2 : Int) ^ (127 + j) = 18889465931478580854784 * B := by rw [← hB, show 127 + j = 74 + (53 + j) by omega, Int.pow_add]; rfl
  have eE : (2 : Int) ^ (74 + j) = 18889465931478580854784 * E := by rw [← hE, Int.pow_add]; rfl
  refine ob1 (fl_mulr j (18889465931478580854784 * B) (18889465931478580854784 * E) eB eE hx hy (by rw [e0, Int.mul_assoc]; exact lin1 (cx2 _ _) (.add (.neg (.var 0)) (.num 1)) (.var 1) (.add (.neg (.mulL 18889465931478580854784 (.var 0))) (.num 1)) (.mulL 18889465931478580854784 (.var 1)) 18889465931478580854784 1 rfl h1) (by rw [e0, Int.mul_assoc]; exact lin1 (cx2 _ _) (.add (.var 0) (.num 1)) (.var 1) (.add (.mulL 18889465931478580854784 (.var 0)) (.num 1)) (.mulL 18889465931478580854784 (.var 1)) 18889465931478580854784 1 rfl h2) hj) fun z hz3 => ?_
  have hz := hz3.1
  have z1 := hz3.2.1
  have z2 := hz3.2.2
  clear hz3
  rw [e0, Int.mul_assoc] at z1 z2
  exact ⟨z, hz, by exact lin1 (cx3 _ _ _) (.sub (.mulL 18889465931478580854784 (.var 0)) (.mulL 18889465931478580854784 (.var 1))) (.mulL 18889465931478580854784 (.var 2)) (.sub (.var 0) (.var 1)) (.var 2) 1 18889465931478580854784 rfl z1, by exact lin1 (cx3 _ _ _) (.mulL 18889465931478580854784 (.var 0)) (.add (.mulL 18889465931478580854784 (.var 1)) (.mulL 18889465931478580854784 (.var 2))) (.var 0) (.add (.var 1) (.var 2)) 1 18889465931478580854784 rfl z2⟩
theorem S_rng {S : Int} (hS : S = 16 ∨ S = 1024 ∨ S = 262144) : 0 < S ∧ S ≤ 262144 := by omega
theorem mul_rng {S z b : Int} (hS : 0 < S ∧ S ≤ 262144) (h1 : -b ≤ z) (h2 : z ≤ b) : -(262144 * b) ≤ S * z ∧ S * z ≤ 262144 * b := by
  have b0 : 0 ≤ b := by exact lin2 (cx2 _ _) (.neg (.var 0)) (.var 1) (.var 1) (.var 0) (.num 0) (.var 0) 1 1 2 rfl h1 h2
  have h3 : S * z ≤ S * b := Int.mul_le_mul_of_nonneg_left h2 (by exact lin1 (cx1 _) (.add (.num 0) (.num 1)) (.var 0) (.num 0) (.var 0) 1 1 rfl hS.1)
  have h4 : S * -b ≤ S * z := Int.mul_le_mul_of_nonneg_left h1 (by exact lin1 (cx1 _) (.add (.num 0) (.num 1)) (.var 0) (.num 0) (.var 0) 1 1 rfl hS.1)
  have h5 : S * b ≤ 262144 * b := Int.mul_le_mul_of_nonneg_right hS.2 b0
  rw [Int.mul_neg] at h4
  exact ⟨lin2 (cx3 _ _ _) (.neg (.var 0)) (.var 1) (.var 0) (.mulL 262144 (.var 2)) (.neg (.mulL 262144 (.var 2))) (.var 1) 1 1 1 rfl h4 h5, lin2 (cx3 _ _ _) (.var 0) (.var 1) (.var 1) (.mulL 262144 (.var 2)) (.var 0) (.mulL 262144 (.var 2)) 1 1 1 rfl h3 h5⟩
theorem lu_any {S : Int} (hS : S = 16 ∨ S = 1024 ∨ S = 262144) {x : UInt64} {v N : Int} (hx : Fl x v) (h0 : 0 ≤ N) (l1 : -(2 * (18889465931478580854784 * UU)) ≤ v) (l2 : v ≤ 2 * (18889465931478580854784 * UU)) (h1 : 18889465931478580854784 * (N * UU) - 1152921504606846976 * UU ≤ 100 * (S * v)) (h2 : 100 * (S * v) ≤ 18889465931478580854784 * (N * UU) + 1152921504606846976 * UU) : Trunc (luE x S) N := by
  have hU := UU_pos
  have r1 := (mul_rng (S_rng hS) l1 l2).1
  have r2 := (mul_rng (S_rng hS) l1 l2).2
  refine ob1 (fl_mulS 41 19807040628566084398385987584 2199023255552 (by decide) (by decide) hx (flS hS) (by exact lin2 (cx2 _ _) (.add (.num 0) (.num 1)) (.var 0) (.neg (.mulL 262144 (.mulL 2 (.mulL 18889465931478580854784 (.var 0))))) (.var 1) (.add (.neg (.mulL 19807040628566084398385987584 (.var 0))) (.num 1)) (.var 1) 9903520314283042199192993792 1 1 rfl hU r1) (by exact lin2 (cx2 _ _) (.add (.num 0) (.num 1)) (.var 0) (.var 1) (.mulL 262144 (.mulL 2 (.mulL 18889465931478580854784 (.var 0)))) (.add (.var 1) (.num 1)) (.mulL 19807040628566084398385987584 (.var 0)) 9903520314283042199192993792 1 1 rfl hU r2) (by decide)) fun t1 hz5 => ?_
  have f1 := hz5.1
  have a1 := hz5.2.1
  have b1 := hz5.2.2
  clear hz5
  refine ob1 (fl_mulS 48 2535301200456458802993406410752 281474976710656 (by decide) (by decide) f1 fl100 (by exact lin3 (cx3 _ _ _) (.add (.num 0) (.num 1)) (.var 0) (.neg (.mulL 262144 (.mulL 2 (.mulL 18889465931478580854784 (.var 0))))) (.var 1) (.sub (.var 1) (.mulL 2199023255552 (.var 0))) (.var 2) (.add (.neg (.mulL 2535301200456458802993406410752 (.var 0))) (.num 1)) (.mulL 100 (.var 2)) 1544949169028154363171781476352 100 100 1 rfl hU r1 a1) (by exact lin3 (cx3 _ _ _) (.add (.num 0) (.num 1)) (.var 0) (.var 1) (.mulL 262144 (.mulL 2 (.mulL 18889465931478580854784 (.var 0)))) (.var 2) (.add (.var 1) (.mulL 2199023255552 (.var 0))) (.add (.mulL 100 (.var 2)) (.num 1)) (.mulL 2535301200456458802993406410752 (.var 0)) 1544949169028154363171781476352 100 100 1 rfl hU r2 b1) (by decide)) fun t2 hz6 => ?_
  have f2 := hz6.1
  have a2 := hz6.2.1
  have b2 := hz6.2.2
  clear hz6
  refine ob1 (fl_add' 49 5070602400912917605986812821504 562949953421312 (by decide) (by decide) f2 flhalf (by exact lin4 (cx4 _ _ _ _) (.add (.num 0) (.num 1)) (.var 0) (.neg (.mulL 262144 (.mulL 2 (.mulL 18889465931478580854784 (.var 0))))) (.var 1) (.sub (.var 1) (.mulL 2199023255552 (.var 0))) (.var 2) (.sub (.mulL 100 (.var 2)) (.mulL 281474976710656 (.var 0))) (.var 3) (.add (.neg (.mulL 5070602400912917605986812821504 (.var 0))) (.num 1)) (.add (.var 3) (.mulL 9444732965739290427392 (.var 0))) 4080250378929345850429501603840 100 100 1 1 rfl hU r1 a1 a2) (by exact lin4 (cx4 _ _ _ _) (.add (.num 0) (.num 1)) (.var 0) (.var 1) (.mulL 262144 (.mulL 2 (.mulL 18889465931478580854784 (.var 0)))) (.var 2) (.add (.var 1) (.mulL 2199023255552 (.var 0))) (.var 3) (.add (.mulL 100 (.var 2)) (.mulL 281474976710656 (.var 0))) (.add (.add (.var 3) (.mulL 9444732965739290427392 (.var 0))) (.num 1)) (.mulL 5070602400912917605986812821504 (.var 0)) 4080250360039879918950920749056 100 100 1 1 rfl hU r2 b1 b2) (by decide)) fun t3 hz0 => ?_
  have f3 := hz0.1
  have a3 := hz0.2.1
  have b3 := hz0.2.2
  clear hz0
  have eN : N * 2 ^ 74 * UU = 18889465931478580854784 * (N * UU) := by rw [Int.mul_comm N, Int.mul_assoc]; rfl
  have eN1 : (N + 1) * 2 ^ 74 * UU = 18889465931478580854784 * (N * UU) + 18889465931478580854784 * UU := by rw [Int.add_mul, Int.add_mul, eN]; rfl
  clear l1 l2 r1 r2
  generalize S * v = w at *
  refine trunc_at f3 h0 ?_ ?_
  · rw [eN]; exact lin5 (cx6 _ _ _ _ _ _) (.add (.num 0) (.num 1)) (.var 0) (.sub (.mulL 100 (.var 1)) (.mulL 281474976710656 (.var 0))) (.var 2) (.sub (.add (.var 2) (.mulL 9444732965739290427392 (.var 0))) (.mulL 562949953421312 (.var 0))) (.var 3) (.sub (.mulL 18889465931478580854784 (.var 4)) (.mulL 1152921504606846976 (.var 0))) (.mulL 100 (.var 5)) (.sub (.var 5) (.mulL 2199023255552 (.var 0))) (.var 1) (.add (.mulL 18889465931478580854784 (.var 4)) (.num 1)) (.var 3) 9443578979907427893248 1 1 1 100 1 rfl hU a2 a3 h1 a1
  · rw [eN1]; exact lin5 (cx6 _ _ _ _ _ _) (.add (.num 0) (.num 1)) (.var 0) (.var 1) (.add (.mulL 100 (.var 2)) (.mulL 281474976710656 (.var 0))) (.var 3) (.add (.add (.var 1) (.mulL 9444732965739290427392 (.var 0))) (.mulL 562949953421312 (.var 0))) (.mulL 100 (.var 4)) (.add (.mulL 18889465931478580854784 (.var 5)) (.mulL 1152921504606846976 (.var 0))) (.var 2) (.add (.var 4) (.mulL 2199023255552 (.var 0))) (.add (.var 3) (.num 1)) (.add (.mulL 18889465931478580854784 (.var 5)) (.mulL 18889465931478580854784 (.var 0))) 9443578979907427893248 1 1 1 100 1 rfl hU b2 b3 h2 b1
theorem ch_any {S : Int} (hS : S = 16 ∨ S = 1024 ∨ S = 262144) {x : UInt64} {v N : Int} (hx : Fl x v) (h0 : 0 ≤ N) (l1 : -(2 * (18889465931478580854784 * UU)) < v) (l2 : v < 2 * (18889465931478580854784 * UU)) (h1 : 18889465931478580854784 * (N * UU) - 18446744073709551616 * UU ≤ 10000 * (S * v) + 10000 * (S * (18889465931478580854784 * UU))) (h2 : 10000 * (S * v) + 10000 * (S * (18889465931478580854784 * UU)) ≤ 18889465931478580854784 * (N * UU) + 18446744073709551616 * UU) : Trunc (chE x S) N := by
  have hU := UU_pos
  refine ob1 (fl_add' 23 75557863725914323419136 8388608 (by decide) (by decide) hx fl1 (by exact lin2 (cx2 _ _) (.add (.neg (.mulL 2 (.mulL 18889465931478580854784 (.var 0)))) (.num 1)) (.var 1) (.add (.var 1) (.num 1)) (.mulL 2 (.mulL 18889465931478580854784 (.var 0))) (.add (.neg (.mulL 75557863725914323419136 (.var 0))) (.num 1)) (.add (.var 1) (.mulL 18889465931478580854784 (.var 0))) 7 3 4 rfl l1 l2) (by exact lin2 (cx2 _ _) (.add (.neg (.mulL 2 (.mulL 18889465931478580854784 (.var 0)))) (.num 1)) (.var 1) (.add (.var 1) (.num 1)) (.mulL 2 (.mulL 18889465931478580854784 (.var 0))) (.add (.add (.var 1) (.mulL 18889465931478580854784 (.var 0))) (.num 1)) (.mulL 75557863725914323419136 (.var 0)) 1 5 4 rfl l1 l2) (by decide)) fun u1 hz1 => ?_
  have g1 := hz1.1
  have p1 := hz1.2.1
  have p2 := hz1.2.2
  clear hz1
  have d1 := (mul_rng (z := u1 - v - 18889465931478580854784 * UU) (b := 8388608 * UU) (S_rng hS) (by exact lin1 (cx3 _ _ _) (.sub (.add (.var 0) (.mulL 18889465931478580854784 (.var 1))) (.mulL 8388608 (.var 1))) (.var 2) (.neg (.mulL 8388608 (.var 1))) (.sub (.sub (.var 2) (.var 0)) (.mulL 18889465931478580854784 (.var 1))) 1 1 rfl p1) (by exact lin1 (cx3 _ _ _) (.var 0) (.add (.add (.var 1) (.mulL 18889465931478580854784 (.var 2))) (.mulL 8388608 (.var 2))) (.sub (.sub (.var 0) (.var 1)) (.mulL 18889465931478580854784 (.var 2))) (.mulL 8388608 (.var 2)) 1 1 rfl p2)).1
  have d2 := (mul_rng (z := u1 - v - 18889465931478580854784 * UU) (b := 8388608 * UU) (S_rng hS) (by exact lin1 (cx3 _ _ _) (.sub (.add (.var 0) (.mulL 18889465931478580854784 (.var 1))) (.mulL 8388608 (.var 1))) (.var 2) (.neg (.mulL 8388608 (.var 1))) (.sub (.sub (.var 2) (.var 0)) (.mulL 18889465931478580854784 (.var 1))) 1 1 rfl p1) (by exact lin1 (cx3 _ _ _) (.var 0) (.add (.add (.var 1) (.mulL 18889465931478580854784 (.var 2))) (.mulL 8388608 (.var 2))) (.sub (.sub (.var 0) (.var 1)) (.mulL 18889465931478580854784 (.var 2))) (.mulL 8388608 (.var 2)) 1 1 rfl p2)).2
  have r1 := (mul_rng (z := u1) (b := 4 * (18889465931478580854784 * UU)) (S_rng hS) (by exact lin3 (cx3 _ _ _) (.add (.neg (.mulL 2 (.mulL 18889465931478580854784 (.var 0)))) (.num 1)) (.var 1) (.add (.var 1) (.num 1)) (.mulL 2 (.mulL 18889465931478580854784 (.var 0))) (.sub (.add (.var 1) (.mulL 18889465931478580854784 (.var 0))) (.mulL 8388608 (.var 0))) (.var 2) (.neg (.mulL 4 (.mulL 18889465931478580854784 (.var 0)))) (.var 2) 15762598695796735 6755399441055743 9007199254740992 9007199254740992 rfl l1 l2 p1) (by exact lin3 (cx3 _ _ _) (.add (.neg (.mulL 2 (.mulL 18889465931478580854784 (.var 0)))) (.num 1)) (.var 1) (.add (.var 1) (.num 1)) (.mulL 2 (.mulL 18889465931478580854784 (.var 0))) (.var 2) (.add (.add (.var 1) (.mulL 18889465931478580854784 (.var 0))) (.mulL 8388608 (.var 0))) (.var 2) (.mulL 4 (.mulL 18889465931478580854784 (.var 0))) 2251799813685247 11258999068426239 9007199254740992 9007199254740992 rfl l1 l2 p2)).1
  have r2 := (mul_rng (z := u1) (b := 4 * (18889465931478580854784 * UU)) (S_rng hS) (by exact lin3 (cx3 _ _ _) (.add (.neg (.mulL 2 (.mulL 18889465931478580854784 (.var 0)))) (.num 1)) (.var 1) (.add (.var 1) (.num 1)) (.mulL 2 (.mulL 18889465931478580854784 (.var 0))) (.sub (.add (.var 1) (.mulL 18889465931478580854784 (.var 0))) (.mulL 8388608 (.var 0))) (.var 2) (.neg (.mulL 4 (.mulL 18889465931478580854784 (.var 0)))) (.var 2) 15762598695796735 6755399441055743 9007199254740992 9007199254740992 rfl l1 l2 p1) (by exact lin3 (cx3 _ _ _) (.add (.neg (.mulL 2 (.mulL 18889465931478580854784 (.var 0)))) (.num 1)) (.var 1) (.add (.var 1) (.num 1)) (.mulL 2 (.mulL 18889465931478580854784 (.var 0))) (.var 2) (.add (.add (.var 1) (.mulL 18889465931478580854784 (.var 0))) (.mulL 8388608 (.var 0))) (.var 2) (.mulL 4 (.mulL 18889465931478580854784 (.var 0))) 2251799813685247 11258999068426239 9007199254740992 9007199254740992 rfl l1 l2 p2)).2
  rw [Int.mul_sub, Int.mul_sub] at d1 d2
  refine ob1 (fl_mulS 43 79228162514264337593543950336 8796093022208 (by decide) (by decide) g1 (flS hS) (by exact lin3 (cx3 _ _ _) (.add (.neg (.mulL 2 (.mulL 18889465931478580854784 (.var 0)))) (.num 1)) (.var 1) (.add (.var 1) (.num 1)) (.mulL 2 (.mulL 18889465931478580854784 (.var 0))) (.neg (.mulL 262144 (.mulL 4 (.mulL 18889465931478580854784 (.var 0))))) (.var 2) (.add (.neg (.mulL 79228162514264337593543950336 (.var 0))) (.num 1)) (.var 2) 786432 786432 1 1 rfl l1 l2 r1) (by exact lin3 (cx3 _ _ _) (.add (.neg (.mulL 2 (.mulL 18889465931478580854784 (.var 0)))) (.num 1)) (.var 1) (.add (.var 1) (.num 1)) (.mulL 2 (.mulL 18889465931478580854784 (.var 0))) (.var 2) (.mulL 262144 (.mulL 4 (.mulL 18889465931478580854784 (.var 0)))) (.add (.var 2) (.num 1)) (.mulL 79228162514264337593543950336 (.var 0)) 786432 786432 1 1 rfl l1 l2 r2) (by decide)) fun t1 hz4 => ?_
  have f1 := hz4.1
  have a1 := hz4.2.1
  have b1 := hz4.2.2
  clear hz4
  clear l1 l2 p1 p2
  refine ob1 (fl_mulS 57 1298074214633706907132624082305024 144115188075855872 (by decide) (by decide) f1 fl10000 (by exact lin3 (cx3 _ _ _) (.add (.num 0) (.num 1)) (.var 0) (.neg (.mulL 262144 (.mulL 4 (.mulL 18889465931478580854784 (.var 0))))) (.var 1) (.sub (.var 1) (.mulL 8796093022208 (.var 0))) (.var 2) (.add (.neg (.mulL 1298074214633706907132624082305024 (.var 0))) (.num 1)) (.mulL 10000 (.var 2)) 1100003808348045975187833984385024 10000 10000 1 rfl hU r1 a1) (by exact lin3 (cx3 _ _ _) (.add (.num 0) (.num 1)) (.var 0) (.var 1) (.mulL 262144 (.mulL 4 (.mulL 18889465931478580854784 (.var 0)))) (.var 2) (.add (.var 1) (.mulL 8796093022208 (.var 0))) (.add (.mulL 10000 (.var 2)) (.num 1)) (.mulL 1298074214633706907132624082305024 (.var 0)) 1100003808348045975187833984385024 10000 10000 1 rfl hU r2 b1) (by decide)) fun t2 hz5 => ?_
  have f2 := hz5.1
  have a2 := hz5.2.1
  have b2 := hz5.2.2
  clear hz5
  refine ob1 (fl_add' 58 2596148429267413814265248164610048 288230376151711744 (by decide) (by decide) f2 flhalf (by exact lin4 (cx4 _ _ _ _) (.add (.num 0) (.num 1)) (.var 0) (.neg (.mulL 262144 (.mulL 4 (.mulL 18889465931478580854784 (.var 0))))) (.var 1) (.sub (.var 1) (.mulL 8796093022208 (.var 0))) (.var 2) (.sub (.mulL 10000 (.var 2)) (.mulL 144115188075855872 (.var 0))) (.var 3) (.add (.neg (.mulL 2596148429267413814265248164610048 (.var 0))) (.num 1)) (.add (.var 3) (.mulL 9444732965739290427392 (.var 0))) 2398078022991197471171009281261568 10000 10000 1 1 rfl hU r1 a1 a2) (by exact lin4 (cx4 _ _ _ _) (.add (.num 0) (.num 1)) (.var 0) (.var 1) (.mulL 262144 (.mulL 4 (.mulL 18889465931478580854784 (.var 0)))) (.var 2) (.add (.var 1) (.mulL 8796093022208 (.var 0))) (.var 3) (.add (.mulL 10000 (.var 2)) (.mulL 144115188075855872 (.var 0))) (.add (.add (.var 3) (.mulL 9444732965739290427392 (.var 0))) (.num 1)) (.mulL 2596148429267413814265248164610048 (.var 0)) 2398078022972308005239530700406784 10000 10000 1 1 rfl hU r2 b1 b2) (by decide)) fun t3 hz6 => ?_
  have f3 := hz6.1
  have a3 := hz6.2.1
  have b3 := hz6.2.2
  clear hz6
  have eN : N * 2 ^ 74 * UU = 18889465931478580854784 * (N * UU) := by rw [Int.mul_comm N, Int.mul_assoc]; rfl
  have eN1 : (N + 1) * 2 ^ 74 * UU = 18889465931478580854784 * (N * UU) + 18889465931478580854784 * UU := by rw [Int.add_mul, Int.add_mul, eN]; rfl
  clear r1 r2
  generalize S * v = w at *
  generalize S * (18889465931478580854784 * UU) = o at *
  generalize S * u1 = w1 at *
  refine trunc_at f3 h0 ?_ ?_
  · rw [eN]; exact lin6 (cx8 _ _ _ _ _ _ _ _) (.add (.num 0) (.num 1)) (.var 0) (.sub (.mulL 10000 (.var 1)) (.mulL 144115188075855872 (.var 0))) (.var 2) (.sub (.add (.var 2) (.mulL 9444732965739290427392 (.var 0))) (.mulL 288230376151711744 (.var 0))) (.var 3) (.sub (.mulL 18889465931478580854784 (.var 4)) (.mulL 18446744073709551616 (.var 0))) (.add (.mulL 10000 (.var 5)) (.mulL 10000 (.var 6))) (.sub (.var 7) (.mulL 8796093022208 (.var 0))) (.var 1) (.neg (.mulL 262144 (.mulL 8388608 (.var 0)))) (.sub (.sub (.var 7) (.var 5)) (.var 6)) (.add (.mulL 18889465931478580854784 (.var 4)) (.num 1)) (.var 3) 9425743924938575708160 1 1 1 10000 10000 1 rfl hU a2 a3 h1 a1 d1
  · rw [eN1]; exact lin6 (cx8 _ _ _ _ _ _ _ _) (.add (.num 0) (.num 1)) (.var 0) (.var 1) (.add (.mulL 10000 (.var 2)) (.mulL 144115188075855872 (.var 0))) (.var 3) (.add (.add (.var 1) (.mulL 9444732965739290427392 (.var 0))) (.mulL 288230376151711744 (.var 0))) (.add (.mulL 10000 (.var 4)) (.mulL 10000 (.var 5))) (.add (.mulL 18889465931478580854784 (.var 6)) (.mulL 18446744073709551616 (.var 0))) (.var 2) (.add (.var 7) (.mulL 8796093022208 (.var 0))) (.sub (.sub (.var 7) (.var 4)) (.var 5)) (.mulL 262144 (.mulL 8388608 (.var 0))) (.add (.var 3) (.num 1)) (.add (.mulL 18889465931478580854784 (.var 6)) (.mulL 18889465931478580854784 (.var 0))) 9425743924938575708160 1 1 1 10000 10000 1 rfl hU b2 b3 h2 b1 d2
theorem light_ok {S a v : Int} (hS : 0 < S ∧ S ≤ 262144) (h0 : 0 ≤ a) (h1 : 10 * a ≤ 11 * S) (v1 : 18889465931478580854784 * (a * UU) - S * (4194304 * UU) ≤ S * v) (v2 : S * v ≤ 18889465931478580854784 * (a * UU) + S * (4194304 * UU)) : Li v := by
  have hU := UU_pos
  have k0 : 0 ≤ a * UU := Int.mul_nonneg h0 (Int.le_of_lt hU)
  have k3 : 10 * (a * UU) ≤ 11 * (S * UU) := by rw [← Int.mul_assoc, ← Int.mul_assoc]; exact Int.mul_le_mul_of_nonneg_right h1 (Int.le_of_lt hU)
  have c1 : S * (4194304 * UU) = 4194304 * (S * UU) := by rw [Int.mul_left_comm]
  rw [c1] at v1 v2
  constructor
  · refine Int.le_of_mul_le_mul_left (a := S) ?_ hS.1
    rw [Int.mul_neg, c1]; exact lin2 (cx3 _ _ _) (.sub (.mulL 18889465931478580854784 (.var 0)) (.mulL 4194304 (.var 1))) (.var 2) (.num 0) (.var 0) (.neg (.mulL 4194304 (.var 1))) (.var 2) 1 18889465931478580854784 1 rfl v1 k0
  · refine Int.le_of_mul_le_mul_left (a := S) ?_ hS.1
    rw [Int.mul_left_comm S 10, Int.mul_left_comm S 12, Int.mul_left_comm S 18889465931478580854784]; exact lin3 (cx3 _ _ _) (.sub (.mulL 18889465931478580854784 (.var 0)) (.mulL 4194304 (.var 1))) (.var 2) (.var 2) (.add (.mulL 18889465931478580854784 (.var 0)) (.mulL 4194304 (.var 1))) (.mulL 10 (.var 0)) (.mulL 11 (.var 1)) (.mulL 10 (.var 2)) (.mulL 12 (.mulL 18889465931478580854784 (.var 1))) 2251799813685243 2251799813685253 18889465931478580854784 1 rfl v1 v2 k3
theorem flok {S a b c : Int} (hS : S = 16 ∨ S = 1024 ∨ S = 262144) (a0 : 0 ≤ a) (a1 : 10 * a ≤ 11 * S) (b0 : 0 ≤ b) (b1 : 10 * b ≤ 11 * S) (c0 : 0 ≤ c) (c1 : 10 * c ≤ 11 * S) :
    Trunc (luE (yY (fq a S) (fq b S) (fq c S)) S) (30 * a + 59 * b + 11 * c) ∧ Trunc (chE (yI (fq a S) (fq b S) (fq c S)) S) (5990 * a - 2773 * b - 3217 * c + 10000 * S) ∧ Trunc (chE (yQ (fq a S) (fq b S) (fq c S)) S) (2130 * a - 5251 * b + 3121 * c + 10000 * S) := by
  have hU := UU_pos
  have hSr := S_rng hS
  refine ob1 (fq_fl hS a0 a1) fun va hz0 => ?_
  have fa := hz0.1
  have a2 := hz0.2.1
  have a3 := hz0.2.2
  clear hz0
  refine ob1 (fq_fl hS b0 b1) fun vb hz1 => ?_
  have fb := hz1.1
  have b2 := hz1.2.1
  have b3 := hz1.2.2
  clear hz1
  refine ob1 (fq_fl hS c0 c1) fun vc hz2 => ?_
  have fc := hz2.1
  have c2 := hz2.2.1
  have c3 := hz2.2.2
  clear hz2
  have la := light_ok hSr a0 a1 a2 a3
  have lb := light_ok hSr b0 b1 b2 b3
  have lc := light_ok hSr c0 c1 c2 c3
  have eY : (30 * a + 59 * b + 11 * c) * UU = 30 * (a * UU) + 59 * (b * UU) + 11 * (c * UU) := by simp only [Int.add_mul, Int.mul_assoc]
  have eI : (5990 * a - 2773 * b - 3217 * c + 10000 * S) * UU = 5990 * (a * UU) - 2773 * (b * UU) - 3217 * (c * UU) + 10000 * (S * UU) := by simp only [Int.add_mul, Int.sub_mul, Int.mul_assoc]
  have eQ : (2130 * a - 5251 * b + 3121 * c + 10000 * S) * UU = 2130 * (a * UU) - 5251 * (b * UU) + 3121 * (c * UU) + 10000 * (S * UU) := by simp only [Int.add_mul, Int.sub_mul, Int.mul_assoc]
  have eS : S * (18889465931478580854784 * UU) = 18889465931478580854784 * (S * UU) := by rw [Int.mul_left_comm]
  have nY : 0 ≤ 30 * a + 59 * b + 11 * c := by exact lin3 (cx3 _ _ _) (.num 0) (.var 0) (.num 0) (.var 1) (.num 0) (.var 2) (.num 0) (.add (.add (.mulL 30 (.var 0)) (.mulL 59 (.var 1))) (.mulL 11 (.var 2))) 30 59 11 1 rfl a0 b0 c0
  have nI : 0 ≤ 5990 * a - 2773 * b - 3217 * c + 10000 * S := by exact lin4 (cx4 _ _ _ _) (.num 0) (.var 0) (.mulL 10 (.var 0)) (.mulL 11 (.var 1)) (.mulL 10 (.var 2)) (.mulL 11 (.var 1)) (.mulL 10 (.var 3)) (.mulL 11 (.var 1)) (.num 0) (.add (.sub (.sub (.mulL 5990 (.var 0)) (.mulL 2773 (.var 2))) (.mulL 3217 (.var 3))) (.mulL 10000 (.var 1))) 1000000 34110 30503 35387 110 rfl a0 a1 b1 c1
  have nQ : 0 ≤ 2130 * a - 5251 * b + 3121 * c + 10000 * S := by exact lin4 (cx4 _ _ _ _) (.num 0) (.var 0) (.mulL 10 (.var 0)) (.mulL 11 (.var 1)) (.mulL 10 (.var 2)) (.mulL 11 (.var 1)) (.num 0) (.var 3) (.num 0) (.add (.add (.sub (.mulL 2130 (.var 0)) (.mulL 5251 (.var 2))) (.mulL 3121 (.var 3))) (.mulL 10000 (.var 1))) 656690 42239 57761 343310 110 rfl a0 a1 b1 c0
  refine ob1 (y_fl fa fb fc la lb lc) fun y hz3 => ?_
  have fy := hz3.1
  have y1 := hz3.2.1
  have y2 := hz3.2.2
  clear hz3
  refine ob1 (i_fl fa fb fc la lb lc) fun i hz4 => ?_
  have fi := hz4.1
  have i1 := hz4.2.1
  have i2 := hz4.2.2
  clear hz4
  refine ob1 (q_fl fa fb fc la lb lc) fun q hz5 => ?_
  have fq := hz5.1
  have q1 := hz5.2.1
  have q2 := hz5.2.2
  clear hz5
  have la1 := la.1
  have la2 := la.2
  have lb1 := lb.1
  have lb2 := lb.2
  have lc1 := lc.1
  have lc2 := lc.2
  have s1 := (mul_rng (z := 100 * y - (30 * va + 59 * vb + 11 * vc)) (b := 1400 * (4194304 * UU)) hSr (by exact lin1 (cx5 _ _ _ _ _) (.sub (.add (.add (.mulL 30 (.var 0)) (.mulL 59 (.var 1))) (.mulL 11 (.var 2))) (.mulL 1400 (.mulL 4194304 (.var 3)))) (.mulL 100 (.var 4)) (.neg (.mulL 1400 (.mulL 4194304 (.var 3)))) (.sub (.mulL 100 (.var 4)) (.add (.add (.mulL 30 (.var 0)) (.mulL 59 (.var 1))) (.mulL 11 (.var 2)))) 1 1 rfl y1) (by exact lin1 (cx5 _ _ _ _ _) (.mulL 100 (.var 0)) (.add (.add (.add (.mulL 30 (.var 1)) (.mulL 59 (.var 2))) (.mulL 11 (.var 3))) (.mulL 1400 (.mulL 4194304 (.var 4)))) (.sub (.mulL 100 (.var 0)) (.add (.add (.mulL 30 (.var 1)) (.mulL 59 (.var 2))) (.mulL 11 (.var 3)))) (.mulL 1400 (.mulL 4194304 (.var 4))) 1 1 rfl y2)).1
  have s2 := (mul_rng (z := 100 * y - (30 * va + 59 * vb + 11 * vc)) (b := 1400 * (4194304 * UU)) hSr (by exact lin1 (cx5 _ _ _ _ _) (.sub (.add (.add (.mulL 30 (.var 0)) (.mulL 59 (.var 1))) (.mulL 11 (.var 2))) (.mulL 1400 (.mulL 4194304 (.var 3)))) (.mulL 100 (.var 4)) (.neg (.mulL 1400 (.mulL 4194304 (.var 3)))) (.sub (.mulL 100 (.var 4)) (.add (.add (.mulL 30 (.var 0)) (.mulL 59 (.var 1))) (.mulL 11 (.var 2)))) 1 1 rfl y1) (by exact lin1 (cx5 _ _ _ _ _) (.mulL 100 (.var 0)) (.add (.add (.add (.mulL 30 (.var 1)) (.mulL 59 (.var 2))) (.mulL 11 (.var 3))) (.mulL 1400 (.mulL 4194304 (.var 4)))) (.sub (.mulL 100 (.var 0)) (.add (.add (.mulL 30 (.var 1)) (.mulL 59 (.var 2))) (.mulL 11 (.var 3)))) (.mulL 1400 (.mulL 4194304 (.var 4))) 1 1 rfl y2)).2
  have s3 := (mul_rng (z := 10000 * i - (5990 * va - 2773 * vb - 3217 * vc)) (b := 250000 * (4194304 * UU)) hSr (by exact lin1 (cx5 _ _ _ _ _) (.sub (.sub (.sub (.mulL 5990 (.var 0)) (.mulL 2773 (.var 1))) (.mulL 3217 (.var 2))) (.mulL 250000 (.mulL 4194304 (.var 3)))) (.mulL 10000 (.var 4)) (.neg (.mulL 250000 (.mulL 4194304 (.var 3)))) (.sub (.mulL 10000 (.var 4)) (.sub (.sub (.mulL 5990 (.var 0)) (.mulL 2773 (.var 1))) (.mulL 3217 (.var 2)))) 1 1 rfl i1) (by exact lin1 (cx5 _ _ _ _ _) (.mulL 10000 (.var 0)) (.add (.sub (.sub (.mulL 5990 (.var 1)) (.mulL 2773 (.var 2))) (.mulL 3217 (.var 3))) (.mulL 250000 (.mulL 4194304 (.var 4)))) (.sub (.mulL 10000 (.var 0)) (.sub (.sub (.mulL 5990 (.var 1)) (.mulL 2773 (.var 2))) (.mulL 3217 (.var 3)))) (.mulL 250000 (.mulL 4194304 (.var 4))) 1 1 rfl i2)).1
  have s4 := (mul_rng (z := 10000 * i - (5990 * va - 2773 * vb - 3217 * vc)) (b := 250000 * (4194304 * UU)) hSr (by exact lin1 (cx5 _ _ _ _ _) (.sub (.sub (.sub (.mulL 5990 (.var 0)) (.mulL 2773 (.var 1))) (.mulL 3217 (.var 2))) (.mulL 250000 (.mulL 4194304 (.var 3)))) (.mulL 10000 (.var 4)) (.neg (.mulL 250000 (.mulL 4194304 (.var 3)))) (.sub (.mulL 10000 (.var 4)) (.sub (.sub (.mulL 5990 (.var 0)) (.mulL 2773 (.var 1))) (.mulL 3217 (.var 2)))) 1 1 rfl i1) (by exact lin1 (cx5 _ _ _ _ _) (.mulL 10000 (.var 0)) (.add (.sub (.sub (.mulL 5990 (.var 1)) (.mulL 2773 (.var 2))) (.mulL 3217 (.var 3))) (.mulL 250000 (.mulL 4194304 (.var 4)))) (.sub (.mulL 10000 (.var 0)) (.sub (.sub (.mulL 5990 (.var 1)) (.mulL 2773 (.var 2))) (.mulL 3217 (.var 3)))) (.mulL 250000 (.mulL 4194304 (.var 4))) 1 1 rfl i2)).2
  have s5 := (mul_rng (z := 10000 * q - (2130 * va - 5251 * vb + 3121 * vc)) (b := 250000 * (4194304 * UU)) hSr (by exact lin1 (cx5 _ _ _ _ _) (.sub (.add (.sub (.mulL 2130 (.var 0)) (.mulL 5251 (.var 1))) (.mulL 3121 (.var 2))) (.mulL 250000 (.mulL 4194304 (.var 3)))) (.mulL 10000 (.var 4)) (.neg (.mulL 250000 (.mulL 4194304 (.var 3)))) (.sub (.mulL 10000 (.var 4)) (.add (.sub (.mulL 2130 (.var 0)) (.mulL 5251 (.var 1))) (.mulL 3121 (.var 2)))) 1 1 rfl q1) (by exact lin1 (cx5 _ _ _ _ _) (.mulL 10000 (.var 0)) (.add (.add (.sub (.mulL 2130 (.var 1)) (.mulL 5251 (.var 2))) (.mulL 3121 (.var 3))) (.mulL 250000 (.mulL 4194304 (.var 4)))) (.sub (.mulL 10000 (.var 0)) (.add (.sub (.mulL 2130 (.var 1)) (.mulL 5251 (.var 2))) (.mulL 3121 (.var 3)))) (.mulL 250000 (.mulL 4194304 (.var 4))) 1 1 rfl q2)).1
  have s6 := (mul_rng (z := 10000 * q - (2130 * va - 5251 * vb + 3121 * vc)) (b := 250000 * (4194304 * UU)) hSr (by exact lin1 (cx5 _ _ _ _ _) (.sub (.add (.sub (.mulL 2130 (.var 0)) (.mulL 5251 (.var 1))) (.mulL 3121 (.var 2))) (.mulL 250000 (.mulL 4194304 (.var 3)))) (.mulL 10000 (.var 4)) (.neg (.mulL 250000 (.mulL 4194304 (.var 3)))) (.sub (.mulL 10000 (.var 4)) (.add (.sub (.mulL 2130 (.var 0)) (.mulL 5251 (.var 1))) (.mulL 3121 (.var 2)))) 1 1 rfl q1) (by exact lin1 (cx5 _ _ _ _ _) (.mulL 10000 (.var 0)) (.add (.add (.sub (.mulL 2130 (.var 1)) (.mulL 5251 (.var 2))) (.mulL 3121 (.var 3))) (.mulL 250000 (.mulL 4194304 (.var 4)))) (.sub (.mulL 10000 (.var 0)) (.add (.sub (.mulL 2130 (.var 1)) (.mulL 5251 (.var 2))) (.mulL 3121 (.var 3)))) (.mulL 250000 (.mulL 4194304 (.var 4))) 1 1 rfl q2)).2
  have s7 := (mul_rng (z := 4194304 * UU) (b := 4194304 * UU) hSr (by exact lin1 (cx1 _) (.add (.num 0) (.num 1)) (.var 0) (.neg (.mulL 4194304 (.var 0))) (.mulL 4194304 (.var 0)) 8388608 1 rfl hU) (by exact lin0 (cx1 _) (.mulL 4194304 (.var 0)) (.mulL 4194304 (.var 0)) 1 rfl)).1
  have s8 := (mul_rng (z := 4194304 * UU) (b := 4194304 * UU) hSr (by exact lin1 (cx1 _) (.add (.num 0) (.num 1)) (.var 0) (.neg (.mulL 4194304 (.var 0))) (.mulL 4194304 (.var 0)) 8388608 1 rfl hU) (by exact lin0 (cx1 _) (.mulL 4194304 (.var 0)) (.mulL 4194304 (.var 0)) 1 rfl)).2
  have x1 : S * (100 * y - (30 * va + 59 * vb + 11 * vc)) = 100 * (S * y) - (30 * (S * va) + 59 * (S * vb) + 11 * (S * vc)) := by grind
  have x2 : S * (10000 * i - (5990 * va - 2773 * vb - 3217 * vc)) = 10000 * (S * i) - (5990 * (S * va) - 2773 * (S * vb) - 3217 * (S * vc)) := by grind
  have x3 : S * (10000 * q - (2130 * va - 5251 * vb + 3121 * vc)) = 10000 * (S * q) - (2130 * (S * va) - 5251 * (S * vb) + 3121 * (S * vc)) := by grind
  rw [x1] at s1 s2
  rw [x2] at s3 s4
  rw [x3] at s5 s6
  have by1 : -(2 * (18889465931478580854784 * UU)) ≤ y ∧ y ≤ 2 * (18889465931478580854784 * UU) := by exact ⟨lin5 (cx5 _ _ _ _ _) (.add (.num 0) (.num 1)) (.var 0) (.neg (.mulL 4194304 (.var 0))) (.var 1) (.neg (.mulL 4194304 (.var 0))) (.var 2) (.neg (.mulL 4194304 (.var 0))) (.var 3) (.sub (.add (.add (.mulL 30 (.var 1)) (.mulL 59 (.var 2))) (.mulL 11 (.var 3))) (.mulL 1400 (.mulL 4194304 (.var 0)))) (.mulL 100 (.var 4)) (.neg (.mulL 2 (.mulL 18889465931478580854784 (.var 0)))) (.var 4) 3777893186295709879500800 30 59 11 1 100 rfl hU la.1 lb.1 lc.1 y1, lin5 (cx5 _ _ _ _ _) (.add (.num 0) (.num 1)) (.var 0) (.mulL 10 (.var 1)) (.mulL 12 (.mulL 18889465931478580854784 (.var 0))) (.mulL 10 (.var 2)) (.mulL 12 (.mulL 18889465931478580854784 (.var 0))) (.mulL 10 (.var 3)) (.mulL 12 (.mulL 18889465931478580854784 (.var 0))) (.mulL 100 (.var 4)) (.add (.add (.add (.mulL 30 (.var 1)) (.mulL 59 (.var 2))) (.mulL 11 (.var 3))) (.mulL 1400 (.mulL 4194304 (.var 0)))) (.var 4) (.mulL 2 (.mulL 18889465931478580854784 (.var 0))) 15111572745182805963571200 30 59 11 10 1000 rfl hU la.2 lb.2 lc.2 y2⟩
  have bi : -(2 * (18889465931478580854784 * UU)) < i ∧ i < 2 * (18889465931478580854784 * UU) := by exact ⟨lin5 (cx5 _ _ _ _ _) (.add (.num 0) (.num 1)) (.var 0) (.neg (.mulL 4194304 (.var 0))) (.var 1) (.mulL 10 (.var 2)) (.mulL 12 (.mulL 18889465931478580854784 (.var 0))) (.mulL 10 (.var 3)) (.mulL 12 (.mulL 18889465931478580854784 (.var 0))) (.sub (.sub (.sub (.mulL 5990 (.var 1)) (.mulL 2773 (.var 2))) (.mulL 3217 (.var 3))) (.mulL 250000 (.mulL 4194304 (.var 0)))) (.mulL 10000 (.var 4)) (.add (.neg (.mulL 2 (.mulL 18889465931478580854784 (.var 0)))) (.num 1)) (.var 4) 2420118375141025042116116480 59900 2773 3217 10 100000 rfl hU la.1 lb.2 lc.2 i1, lin5 (cx5 _ _ _ _ _) (.add (.num 0) (.num 1)) (.var 0) (.mulL 10 (.var 1)) (.mulL 12 (.mulL 18889465931478580854784 (.var 0))) (.neg (.mulL 4194304 (.var 0))) (.var 2) (.neg (.mulL 4194304 (.var 0))) (.var 3) (.mulL 10000 (.var 4)) (.add (.sub (.sub (.mulL 5990 (.var 1)) (.mulL 2773 (.var 2))) (.mulL 3217 (.var 3))) (.mulL 250000 (.mulL 4194304 (.var 0)))) (.add (.var 4) (.num 1)) (.mulL 2 (.mulL 18889465931478580854784 (.var 0))) 242011837514102504211611648 599 2773 3217 1 10000 rfl hU la.2 lb.1 lc.1 i2⟩
  have bq : -(2 * (18889465931478580854784 * UU)) < q ∧ q < 2 * (18889465931478580854784 * UU) := by exact ⟨lin5 (cx5 _ _ _ _ _) (.add (.num 0) (.num 1)) (.var 0) (.neg (.mulL 4194304 (.var 0))) (.var 1) (.mulL 10 (.var 2)) (.mulL 12 (.mulL 18889465931478580854784 (.var 0))) (.neg (.mulL 4194304 (.var 0))) (.var 3) (.sub (.add (.sub (.mulL 2130 (.var 1)) (.mulL 5251 (.var 2))) (.mulL 3121 (.var 3))) (.mulL 250000 (.mulL 4194304 (.var 0)))) (.mulL 10000 (.var 4)) (.add (.neg (.mulL 2 (.mulL 18889465931478580854784 (.var 0)))) (.num 1)) (.var 4) 2587630159021377128132247552 21300 5251 31210 10 100000 rfl hU la.1 lb.2 lc.1 q1, lin5 (cx5 _ _ _ _ _) (.add (.num 0) (.num 1)) (.var 0) (.mulL 10 (.var 1)) (.mulL 12 (.mulL 18889465931478580854784 (.var 0))) (.neg (.mulL 4194304 (.var 0))) (.var 2) (.mulL 10 (.var 3)) (.mulL 12 (.mulL 18889465931478580854784 (.var 0))) (.mulL 10000 (.var 4)) (.add (.add (.sub (.mulL 2130 (.var 1)) (.mulL 5251 (.var 2))) (.mulL 3121 (.var 3))) (.mulL 250000 (.mulL 4194304 (.var 0)))) (.add (.var 4) (.num 1)) (.mulL 2 (.mulL 18889465931478580854784 (.var 0))) 2587630159021377128132247552 2130 52510 3121 10 100000 rfl hU la.2 lb.1 lc.2 q2⟩
  clear y1 y2 i1 i2 q1 q2 la1 la2 lb1 lb2 lc1 lc2 x1 x2 x3 a0 a1 b0 b1 c0 c1
  refine ⟨lu_any hS fy nY by1.1 by1.2 ?_ ?_, ch_any hS fi nI bi.1 bi.2 ?_ ?_, ch_any hS fq nQ bq.1 bq.2 ?_ ?_⟩ <;> first | rw [eY] | rw [eI, eS] | rw [eQ, eS]
  all_goals
    clear by1 bi bq nY nI nQ eY eI eQ eS
    generalize S * va = A at *
    generalize S * vb = B at *
    generalize S * vc = C at *
    generalize S * y = Yv at *
    generalize S * i = Iv at *
    generalize S * q = Qv at *
    generalize a * UU = au at *
    generalize b * UU = bu at *
    generalize c * UU = cu at *
    generalize S * (4194304 * UU) = Se at *
    generalize S * UU = su at *
  · exact lin6 (cx9 _ _ _ _ _ _ _ _ _) (.add (.num 0) (.num 1)) (.var 0) (.neg (.mulL 262144 (.mulL 1400 (.mulL 4194304 (.var 0))))) (.sub (.mulL 100 (.var 1)) (.add (.add (.mulL 30 (.var 2)) (.mulL 59 (.var 3))) (.mulL 11 (.var 4)))) (.var 5) (.mulL 262144 (.mulL 4194304 (.var 0))) (.sub (.mulL 18889465931478580854784 (.var 6)) (.var 5)) (.var 2) (.sub (.mulL 18889465931478580854784 (.var 7)) (.var 5)) (.var 3) (.sub (.mulL 18889465931478580854784 (.var 8)) (.var 5)) (.var 4) (.sub (.mulL 18889465931478580854784 (.add (.add (.mulL 30 (.var 6)) (.mulL 59 (.var 7))) (.mulL 11 (.var 8)))) (.mulL 1152921504606846976 (.var 0))) (.mulL 100 (.var 1)) 1151272237165182976 1 100 30 59 11 1 rfl hU s1 s8 a2 b2 c2
  · exact lin6 (cx9 _ _ _ _ _ _ _ _ _) (.add (.num 0) (.num 1)) (.var 0) (.sub (.mulL 100 (.var 1)) (.add (.add (.mulL 30 (.var 2)) (.mulL 59 (.var 3))) (.mulL 11 (.var 4)))) (.mulL 262144 (.mulL 1400 (.mulL 4194304 (.var 0)))) (.var 5) (.mulL 262144 (.mulL 4194304 (.var 0))) (.var 2) (.add (.mulL 18889465931478580854784 (.var 6)) (.var 5)) (.var 3) (.add (.mulL 18889465931478580854784 (.var 7)) (.var 5)) (.var 4) (.add (.mulL 18889465931478580854784 (.var 8)) (.var 5)) (.mulL 100 (.var 1)) (.add (.mulL 18889465931478580854784 (.add (.add (.mulL 30 (.var 6)) (.mulL 59 (.var 7))) (.mulL 11 (.var 8)))) (.mulL 1152921504606846976 (.var 0))) 1151272237165182976 1 100 30 59 11 1 rfl hU s2 s8 a3 b3 c3
  · exact lin6 (cx10 _ _ _ _ _ _ _ _ _ _) (.add (.num 0) (.num 1)) (.var 0) (.neg (.mulL 262144 (.mulL 250000 (.mulL 4194304 (.var 0))))) (.sub (.mulL 10000 (.var 1)) (.sub (.sub (.mulL 5990 (.var 2)) (.mulL 2773 (.var 3))) (.mulL 3217 (.var 4)))) (.var 5) (.mulL 262144 (.mulL 4194304 (.var 0))) (.sub (.mulL 18889465931478580854784 (.var 6)) (.var 5)) (.var 2) (.var 3) (.add (.mulL 18889465931478580854784 (.var 7)) (.var 5)) (.var 4) (.add (.mulL 18889465931478580854784 (.var 8)) (.var 5)) (.sub (.mulL 18889465931478580854784 (.add (.sub (.sub (.mulL 5990 (.var 6)) (.mulL 2773 (.var 7))) (.mulL 3217 (.var 8))) (.mulL 10000 (.var 9)))) (.mulL 18446744073709551616 (.var 0))) (.add (.mulL 10000 (.var 1)) (.mulL 10000 (.mulL 18889465931478580854784 (.var 9)))) 18158694017464795136 1 11980 5990 2773 3217 1 rfl hU s3 s8 a2 b3 c3
  · exact lin6 (cx10 _ _ _ _ _ _ _ _ _ _) (.add (.num 0) (.num 1)) (.var 0) (.sub (.mulL 10000 (.var 1)) (.sub (.sub (.mulL 5990 (.var 2)) (.mulL 2773 (.var 3))) (.mulL 3217 (.var 4)))) (.mulL 262144 (.mulL 250000 (.mulL 4194304 (.var 0)))) (.var 5) (.mulL 262144 (.mulL 4194304 (.var 0))) (.var 2) (.add (.mulL 18889465931478580854784 (.var 6)) (.var 5)) (.sub (.mulL 18889465931478580854784 (.var 7)) (.var 5)) (.var 3) (.sub (.mulL 18889465931478580854784 (.var 8)) (.var 5)) (.var 4) (.add (.mulL 10000 (.var 1)) (.mulL 10000 (.mulL 18889465931478580854784 (.var 9)))) (.add (.mulL 18889465931478580854784 (.add (.sub (.sub (.mulL 5990 (.var 6)) (.mulL 2773 (.var 7))) (.mulL 3217 (.var 8))) (.mulL 10000 (.var 9)))) (.mulL 18446744073709551616 (.var 0))) 18158694017464795136 1 11980 5990 2773 3217 1 rfl hU s4 s8 a3 b2 c2
  · exact lin6 (cx10 _ _ _ _ _ _ _ _ _ _) (.add (.num 0) (.num 1)) (.var 0) (.neg (.mulL 262144 (.mulL 250000 (.mulL 4194304 (.var 0))))) (.sub (.mulL 10000 (.var 1)) (.add (.sub (.mulL 2130 (.var 2)) (.mulL 5251 (.var 3))) (.mulL 3121 (.var 4)))) (.var 5) (.mulL 262144 (.mulL 4194304 (.var 0))) (.sub (.mulL 18889465931478580854784 (.var 6)) (.var 5)) (.var 2) (.var 3) (.add (.mulL 18889465931478580854784 (.var 7)) (.var 5)) (.sub (.mulL 18889465931478580854784 (.var 8)) (.var 5)) (.var 4) (.sub (.mulL 18889465931478580854784 (.add (.add (.sub (.mulL 2130 (.var 6)) (.mulL 5251 (.var 7))) (.mulL 3121 (.var 8))) (.mulL 10000 (.var 9)))) (.mulL 18446744073709551616 (.var 0))) (.add (.mulL 10000 (.var 1)) (.mulL 10000 (.mulL 18889465931478580854784 (.var 9)))) 18160319095650648064 1 10502 2130 5251 3121 1 rfl hU s5 s8 a2 b3 c2
  · exact lin6 (cx10 _ _ _ _ _ _ _ _ _ _) (.add (.num 0) (.num 1)) (.var 0) (.sub (.mulL 10000 (.var 1)) (.add (.sub (.mulL 2130 (.var 2)) (.mulL 5251 (.var 3))) (.mulL 3121 (.var 4)))) (.mulL 262144 (.mulL 250000 (.mulL 4194304 (.var 0)))) (.var 5) (.mulL 262144 (.mulL 4194304 (.var 0))) (.var 2) (.add (.mulL 18889465931478580854784 (.var 6)) (.var 5)) (.sub (.mulL 18889465931478580854784 (.var 7)) (.var 5)) (.var 3) (.var 4) (.add (.mulL 18889465931478580854784 (.var 8)) (.var 5)) (.add (.mulL 10000 (.var 1)) (.mulL 10000 (.mulL 18889465931478580854784 (.var 9)))) (.add (.mulL 18889465931478580854784 (.add (.add (.sub (.mulL 2130 (.var 6)) (.mulL 5251 (.var 7))) (.mulL 3121 (.var 8))) (.mulL 10000 (.var 9)))) (.mulL 18446744073709551616 (.var 0))) 18160319095650648064 1 10502 2130 5251 3121 1 rfl hU s6 s8 a3 b2 c3
end
section
open PySem.Calls
open PyProof.Rows.LCg
section
variable {prog : Program} {w : World} {A : Around} {E : Value → Shared → Prop} {s : Shared}
theorem BA.eqs {xs : List Value} {l : List (List Int)} (h : BA xs l) : ∀ {ys : List Value}, BA ys l → xs.length = ys.length ∧ ∀ (A : Around) (s : Shared) (j : Nat) (h1 : j < xs.length) (h2 : j < ys.length), SeqAt.EqAt A s xs[j] ys[j] true := by
  induction h with
  | nil => intro ys h; cases h; exact ⟨rfl, fun _ _ j h => absurd h (Nat.not_lt_zero _)⟩
  | @cons b x vs l t hb _ ih =>
    intro ys h
    cases h with
    | @cons b' _ _ _ t' hb' h =>
      have q := ih h
      refine ⟨congrArg Nat.succ q.1, fun A s j h1 h2 => ?_⟩
      cases j with
      | zero =>
        intro prog w E Q q
        refine eqBool_bytes ?_
        have : b.toList = b'.toList := (List.map_inj_right (f := fun u : UInt8 => (u.toNat : Int)) (fun x y e => UInt8.toNat_inj.mp (Int.ofNat.inj e))).mp (hb.trans hb'.symm)
        rw [decide_eq_true this]
        exact q
      | succ j => exact q.2 A s j (Nat.lt_of_succ_lt_succ h1) (Nat.lt_of_succ_lt_succ h2)
theorem ne_BA {a b : Addr} {xs ys : List Value} {l : List (List Int)} {Q : Value → Shared → Prop} (ha : s.heap.IsList a xs.toArray) (hb : s.heap.IsList b ys.toArray) (hx : BA xs l) (hy : BA ys l) (hu : A.units < cLine) (h : Q (.bool false) s) : wpAny (model prog w) A (compareOp .NotEq (.ref a) (.ref b)) Q E s := by
  obtain ⟨e, k⟩ := hx.eqs hy
  refine SeqAt.RcNeAt.lists (e := fun _ => true) ha hb (by simpa using e) hu (fun j h1 h2 => ?_) prog w E Q ?_
  · have := k A.in1 s j (by simpa using h1) (by simpa using h2)
    simpa using this
  · have : ((List.range xs.toArray.size).all fun _ => true) = true := by simp
    rw [this]
    exact h
end
end
section
open PySem.Calls
open PyProof.Rows.LCg
theorem apD_succ {n : Nat} (h : 0 < n) : apD n = apD (n / 16) ++ [65 + ((n % 16 : Nat) : Int)] := by
  obtain ⟨k, rfl⟩ : ∃ k, n = k + 1 := ⟨n - 1, by exact gneq (lin1 (cx2 _ _) (.var 0) (.add (.var 1) (.num 1)) (.var 0) (.add (.var 1) (.num 1)) 1 1 rfl (ns1 _ _)) (lin1 (cx2 _ _) (.add (.var 0) (.num 1)) (.var 1) (.add (.var 0) (.num 1)) (.var 1) 1 1 rfl (ns2 (lin1 (cx1 _) (.add (.num 0) (.num 1)) (.var 0) (.num 1) (.var 0) 1 1 rfl (nlt h))))⟩
  rw [apD_suc]
theorem apD_four {d x y z : Nat} (hd : 0 < d) (hd' : d < 16) (hx : x < 16) (hy : y < 16) (hz : z < 16) : apD (4096 * d + 256 * x + 16 * y + z) = [65 + (d : Int), 65 + (x : Int), 65 + (y : Int), 65 + (z : Int)] := by
  rw [apD_succ (by exact gnlt (lin4 (cx4 _ _ _ _) (.add (.num 0) (.num 1)) (.var 0) (.num 0) (.var 1) (.num 0) (.var 2) (.num 0) (.var 3) (.add (.num 0) (.num 1)) (.add (.add (.add (.mulL 4096 (.var 0)) (.mulL 256 (.var 1))) (.mulL 16 (.var 2))) (.var 3)) 4096 256 16 1 1 rfl (nlt hd) (nn _) (nn _) (nn _))), show (4096 * d + 256 * x + 16 * y + z) / 16 = 256 * d + 16 * x + y by omega, show (4096 * d + 256 * x + 16 * y + z) % 16 = z by omega]
  rw [apD_succ (by exact gnlt (lin3 (cx3 _ _ _) (.add (.num 0) (.num 1)) (.var 0) (.num 0) (.var 1) (.num 0) (.var 2) (.add (.num 0) (.num 1)) (.add (.add (.mulL 256 (.var 0)) (.mulL 16 (.var 1))) (.var 2)) 256 16 1 1 rfl (nlt hd) (nn _) (nn _))), show (256 * d + 16 * x + y) / 16 = 16 * d + x by omega, show (256 * d + 16 * x + y) % 16 = y by omega]
  rw [apD_succ (by exact gnlt (lin2 (cx2 _ _) (.add (.num 0) (.num 1)) (.var 0) (.num 0) (.var 1) (.add (.num 0) (.num 1)) (.add (.mulL 16 (.var 0)) (.var 1)) 16 1 1 rfl (nlt hd) (nn _))), show (16 * d + x) / 16 = d by exact gneq (lin3 (cx4 _ _ _ _) (.add (.var 0) (.num 1)) (.num 16) (.num 0) (.var 1) (.add (.var 1) (.mulL 16 (.var 2))) (.add (.mulL 16 (.var 3)) (.var 0)) (.var 2) (.var 3) 1 1 1 16 rfl (nlt hx) (nn _) (nmd3 _ _)) (lin3 (cx4 _ _ _ _) (.num 0) (.var 0) (.add (.var 1) (.num 1)) (.num 16) (.add (.mulL 16 (.var 2)) (.var 0)) (.add (.var 1) (.mulL 16 (.var 3))) (.var 2) (.var 3) 1 1 1 16 rfl (nn _) (nmd2 _ (by decide)) (nmd4 _ _)), show (16 * d + x) % 16 = x by omega]
  rw [apD_succ hd, show d / 16 = 0 by exact gneq (lin3 (cx3 _ _ _) (.add (.var 0) (.num 1)) (.num 16) (.num 0) (.var 1) (.add (.var 1) (.mulL 16 (.var 2))) (.var 0) (.var 2) (.num 0) 1 1 1 16 rfl (nlt hd') (nn _) (nmd3 _ _)) (lin1 (cx1 _) (.num 0) (.var 0) (.num 0) (.var 0) 1 1 rfl (nn _)), show d % 16 = d by omega, apD_zero]
  rfl
noncomputable abbrev wordN (P : Lmp) (c : Nat) : Int := 4096 * ((c : Int) + 1) + 256 * P.x c + 16 * P.y c + P.z c
noncomputable abbrev plainZ (P : Lmp) (c : Nat) : List Int := [66 + (c : Int), 65 + P.x c, 65 + P.y c, 65 + P.z c]
theorem wordN_ok {P : Lmp} (hO : P.Ok) {c : Nat} (hc : c < 5) : 0 ≤ wordN P c ∧ wordN P c < 65536 := by
  have h1 := hO.x c hc
  have h2 := hO.y c hc
  have h3 := hO.z c hc
  unfold wordN
  exact ⟨lin4 (cx4 _ _ _ _) (.num 0) (.var 0) (.num 0) (.var 1) (.num 0) (.var 2) (.num 0) (.var 3) (.num 0) (.add (.add (.add (.mulL 4096 (.add (.var 3) (.num 1))) (.mulL 256 (.var 0))) (.mulL 16 (.var 1))) (.var 2)) 256 16 1 4096 1 rfl h1.1 h2.1 h3.1 (nn _), lin4 (cx4 _ _ _ _) (.add (.var 0) (.num 1)) (.num 5) (.var 1) (.num 15) (.var 2) (.num 15) (.var 3) (.num 15) (.add (.add (.add (.add (.mulL 4096 (.add (.var 0) (.num 1))) (.mulL 256 (.var 1))) (.mulL 16 (.var 2))) (.var 3)) (.num 1)) (.num 65536) 4096 256 16 1 1 rfl (nlt hc) h1.2 h2.2 h3.2⟩
theorem word_plain {P : Lmp} (hO : P.Ok) {c : Nat} (hc : c < 5) : apD (wordN P c).toNat = plainZ P c := by
  have h1 := hO.x c hc
  have h2 := hO.y c hc
  have h3 := hO.z c hc
  have e : (wordN P c).toNat = 4096 * (c + 1) + 256 * (P.x c).toNat + 16 * (P.y c).toNat + (P.z c).toNat := by
    obtain ⟨x, hx⟩ := Int.eq_ofNat_of_zero_le h1.1
    obtain ⟨y, hy⟩ := Int.eq_ofNat_of_zero_le h2.1
    obtain ⟨z, hz⟩ := Int.eq_ofNat_of_zero_le h3.1
    unfold wordN
    rw [hx, hy, hz]
    rfl
  rw [e, apD_four (by exact gnlt (lin1 (cx1 _) (.num 0) (.var 0) (.add (.num 0) (.num 1)) (.add (.var 0) (.num 1)) 1 1 rfl (nn _))) (by exact gnlt (lin1 (cx1 _) (.add (.var 0) (.num 1)) (.num 5) (.add (.add (.var 0) (.num 1)) (.num 1)) (.num 16) 1 1 rfl (nlt hc))) (by exact gnlt (lin2 (cx2 _ _) (.var 0) (.num 15) (.var 1) (.var 0) (.add (.var 1) (.num 1)) (.num 16) 1 1 1 rfl h1.2 (tn2 (lin1 (cx1 _) (.num 0) (.var 0) (.num 0) (.var 0) 1 1 rfl h1.1)))) (by exact gnlt (lin2 (cx2 _ _) (.var 0) (.num 15) (.var 1) (.var 0) (.add (.var 1) (.num 1)) (.num 16) 1 1 1 rfl h2.2 (tn2 (lin1 (cx1 _) (.num 0) (.var 0) (.num 0) (.var 0) 1 1 rfl h2.1)))) (by exact gnlt (lin2 (cx2 _ _) (.var 0) (.num 15) (.var 1) (.var 0) (.add (.var 1) (.num 1)) (.num 16) 1 1 1 rfl h3.2 (tn2 (lin1 (cx1 _) (.num 0) (.var 0) (.num 0) (.var 0) 1 1 rfl h3.1))))]
  have e1 : ((c + 1 : Nat) : Int) + 65 = 66 + (c : Int) := by exact Int.le_antisymm (lin0 (cx1 _) (.add (.add (.var 0) (.num 1)) (.num 65)) (.add (.num 66) (.var 0)) 1 rfl) (lin0 (cx1 _) (.add (.num 66) (.var 0)) (.add (.add (.var 0) (.num 1)) (.num 65)) 1 rfl)
  simp only [plainZ, List.cons.injEq, and_true]
  refine ⟨?_, ?_, ?_, ?_⟩ <;> (first | exact Int.le_antisymm (lin0 (cx1 _) (.add (.num 65) (.add (.var 0) (.num 1))) (.add (.num 66) (.var 0)) 1 rfl) (lin0 (cx1 _) (.add (.num 66) (.var 0)) (.add (.num 65) (.add (.var 0) (.num 1))) 1 rfl) | exact Int.le_antisymm (lin1 (cx2 _ _) (.var 0) (.var 1) (.add (.num 65) (.var 0)) (.add (.num 65) (.var 1)) 1 1 rfl (tn2 (lin1 (cx1 _) (.num 0) (.var 0) (.num 0) (.var 0) 1 1 rfl h1.1))) (lin1 (cx2 _ _) (.var 0) (.var 1) (.add (.num 65) (.var 0)) (.add (.num 65) (.var 1)) 1 1 rfl (tn1 _)) | exact Int.le_antisymm (lin1 (cx2 _ _) (.var 0) (.var 1) (.add (.num 65) (.var 0)) (.add (.num 65) (.var 1)) 1 1 rfl (tn2 (lin1 (cx1 _) (.num 0) (.var 0) (.num 0) (.var 0) 1 1 rfl h2.1))) (lin1 (cx2 _ _) (.var 0) (.var 1) (.add (.num 65) (.var 0)) (.add (.num 65) (.var 1)) 1 1 rfl (tn1 _)) | exact Int.le_antisymm (lin1 (cx2 _ _) (.var 0) (.var 1) (.add (.num 65) (.var 0)) (.add (.num 65) (.var 1)) 1 1 rfl (tn2 (lin1 (cx1 _) (.num 0) (.var 0) (.num 0) (.var 0) 1 1 rfl h3.1))) (lin1 (cx2 _ _) (.var 0) (.var 1) (.add (.num 65) (.var 0)) (.add (.num 65) (.var 1)) 1 1 rfl (tn1 _)))
theorem plain_bytes {P : Lmp} (hO : P.Ok) {c : Nat} (hc : c < 5) : KBw.bInts (plainB c (P.x c) (P.y c) (P.z c)) = plainZ P c := by
  have h1 := hO.x c hc
  have h2 := hO.y c hc
  have h3 := hO.z c hc
  refine KBa.ints_make ?_
  intro z hz
  simp only [List.mem_cons, List.not_mem_nil, or_false] at hz
  rcases hz with rfl | rfl | rfl | rfl <;> (first | exact ⟨lin1 (cx1 _) (.num 0) (.var 0) (.num 0) (.add (.num 66) (.var 0)) 1 1 rfl (nn _), lin1 (cx1 _) (.add (.var 0) (.num 1)) (.num 5) (.add (.add (.num 66) (.var 0)) (.num 1)) (.num 256) 1 1 rfl (nlt hc)⟩ | exact ⟨lin1 (cx1 _) (.num 0) (.var 0) (.num 0) (.add (.num 65) (.var 0)) 1 1 rfl h1.1, lin1 (cx1 _) (.var 0) (.num 15) (.add (.add (.num 65) (.var 0)) (.num 1)) (.num 256) 1 1 rfl h1.2⟩ | exact ⟨lin1 (cx1 _) (.num 0) (.var 0) (.num 0) (.add (.num 65) (.var 0)) 1 1 rfl h2.1, lin1 (cx1 _) (.var 0) (.num 15) (.add (.add (.num 65) (.var 0)) (.num 1)) (.num 256) 1 1 rfl h2.2⟩ | exact ⟨lin1 (cx1 _) (.num 0) (.var 0) (.num 0) (.add (.num 65) (.var 0)) 1 1 rfl h3.1, lin1 (cx1 _) (.var 0) (.num 15) (.add (.add (.num 65) (.var 0)) (.num 1)) (.num 256) 1 1 rfl h3.2⟩)
theorem lampZ_ok (p n : Int) (k : Int) (hk : k = 0 ∨ k = 1 ∨ k = 2) : 0 ≤ lampZ p n k ∧ lampZ p n k ≤ 15 := by
  have f : ∀ a : Int, 0 ≤ a.fmod 8 ∧ a.fmod 8 ≤ 7 := fun a => by
    rw [Int.fmod_eq_emod_of_nonneg _ (by decide)]
    exact ⟨lin1 (cx1 _) (.num 0) (.var 0) (.num 0) (.var 0) 1 1 rfl (md1 _ (by decide)), lin1 (cx1 _) (.add (.var 0) (.num 1)) (.num 8) (.var 0) (.num 7) 1 1 rfl (md2 _ (by decide))⟩
  have f1 := f (n.fdiv 64)
  have f2 := f (n.fdiv 8)
  have f3 := f n
  unfold lampZ
  generalize (n.fdiv 64).fmod 8 = u1 at *
  generalize (n.fdiv 8).fmod 8 = u2 at *
  generalize n.fmod 8 = u3 at *
  rcases hk with rfl | rfl | rfl
  · by_cases h : (0 : Int) = p.fmod 3
    · rw [if_pos h]
      show 0 ≤ u1 + 8 ∧ u1 + 8 ≤ 15
      exact ⟨lin1 (cx1 _) (.num 0) (.var 0) (.num 0) (.add (.var 0) (.num 8)) 1 1 rfl f1.1, lin1 (cx1 _) (.var 0) (.num 7) (.add (.var 0) (.num 8)) (.num 15) 1 1 rfl f1.2⟩
    · rw [if_neg h]
      show 0 ≤ u1 + 0 ∧ u1 + 0 ≤ 15
      exact ⟨lin1 (cx1 _) (.num 0) (.var 0) (.num 0) (.add (.var 0) (.num 0)) 1 1 rfl f1.1, lin1 (cx1 _) (.var 0) (.num 7) (.add (.var 0) (.num 0)) (.num 15) 1 1 rfl f1.2⟩
  · by_cases h : (1 : Int) = p.fmod 3
    · rw [if_pos h]
      show 0 ≤ u2 + 8 ∧ u2 + 8 ≤ 15
      exact ⟨lin1 (cx1 _) (.num 0) (.var 0) (.num 0) (.add (.var 0) (.num 8)) 1 1 rfl f2.1, lin1 (cx1 _) (.var 0) (.num 7) (.add (.var 0) (.num 8)) (.num 15) 1 1 rfl f2.2⟩
    · rw [if_neg h]
      show 0 ≤ u2 + 0 ∧ u2 + 0 ≤ 15
      exact ⟨lin1 (cx1 _) (.num 0) (.var 0) (.num 0) (.add (.var 0) (.num 0)) 1 1 rfl f2.1, lin1 (cx1 _) (.var 0) (.num 7) (.add (.var 0) (.num 0)) (.num 15) 1 1 rfl f2.2⟩
  · by_cases h : (2 : Int) = p.fmod 3
    · rw [if_pos h]
      show 0 ≤ u3 + 8 ∧ u3 + 8 ≤ 15
      exact ⟨lin1 (cx1 _) (.num 0) (.var 0) (.num 0) (.add (.var 0) (.num 8)) 1 1 rfl f3.1, lin1 (cx1 _) (.var 0) (.num 7) (.add (.var 0) (.num 8)) (.num 15) 1 1 rfl f3.2⟩
    · rw [if_neg h]
      show 0 ≤ u3 + 0 ∧ u3 + 0 ≤ 15
      exact ⟨lin1 (cx1 _) (.num 0) (.var 0) (.num 0) (.add (.var 0) (.num 0)) 1 1 rfl f3.1, lin1 (cx1 _) (.var 0) (.num 7) (.add (.var 0) (.num 0)) (.num 15) 1 1 rfl f3.2⟩
noncomputable def Lmp.put (P : Lmp) (i : Nat) (q : Addr) (a b c : Int) (ta tb tc : Tok) (n : Nat) : Lmp := ⟨fun j => if j = i then q else P.l j, fun j => if j = i then a else P.x j, fun j => if j = i then b else P.y j, fun j => if j = i then c else P.z j, fun j => if j = i then ta else P.tx j, fun j => if j = i then tb else P.ty j, fun j => if j = i then tc else P.tz j, fun j => if j = i then n else P.n j⟩
noncomputable def LmpsAre (ms : List Int) (Ls : List (Addr × Obj)) (P : Lmp) (i : Nat) : Prop := ∀ j, j < i → (P.l j, P.obj j) ∈ Ls ∧ P.x j = lampZ j (ms.getD j 0) 0 ∧ P.y j = lampZ j (ms.getD j 0) 1 ∧ P.z j = lampZ j (ms.getD j 0) 2
theorem LmpsAre.put {ms : List Int} {Ls : List (Addr × Obj)} {P : Lmp} {i : Nat} (h : LmpsAre ms Ls P i) (q : Addr) (ta tb tc : Tok) (n : Nat) :
    LmpsAre ms ((q, W.listOf #[.int (lampZ i (ms.getD i 0) 0) ta, .int (lampZ i (ms.getD i 0) 1) tb, .int (lampZ i (ms.getD i 0) 2) tc] n) :: Ls) (P.put i q (lampZ i (ms.getD i 0) 0) (lampZ i (ms.getD i 0) 1) (lampZ i (ms.getD i 0) 2) ta tb tc n) (i + 1) := by
  intro j hj
  by_cases e : j = i
  · subst e
    refine ⟨?_, ?_, ?_, ?_⟩ <;> simp [Lmp.put]
  · have := h j (by omega)
    refine ⟨List.mem_cons_of_mem _ ?_, ?_, ?_, ?_⟩
    · simpa [Lmp.put, Lmp.obj, e] using this.1
    · simpa [Lmp.put, e] using this.2.1
    · simpa [Lmp.put, e] using this.2.2.1
    · simpa [Lmp.put, e] using this.2.2.2
theorem LmpsAre.ok {ms : List Int} {Ls : List (Addr × Obj)} {P : Lmp} (h : LmpsAre ms Ls P 5) : P.Ok :=
  ⟨fun i hi => by rw [(h i hi).2.1]; exact lampZ_ok _ _ _ (.inl rfl), fun i hi => by rw [(h i hi).2.2.1]; exact lampZ_ok _ _ _ (.inr (.inl rfl)), fun i hi => by rw [(h i hi).2.2.2]; exact lampZ_ok _ _ _ (.inr (.inr rfl))⟩
noncomputable abbrev refsOf (P : Lmp) (i : Nat) : List Value := (List.range i).map fun j => Value.ref (P.l j)
theorem refs_put {P : Lmp} {i : Nat} {q : Addr} {a b c : Int} {ta tb tc : Tok} {n : Nat} : refsOf P i ++ [.ref q] = refsOf (P.put i q a b c ta tb tc n) (i + 1) := by
  unfold refsOf
  rw [List.range_succ, List.map_append]
  congr 1
  · refine List.map_congr_left fun j hj => ?_
    have := List.mem_range.mp hj
    simp [Lmp.put, show j ≠ i by exact gnne1 (lin1 (cx2 _ _) (.add (.var 0) (.num 1)) (.var 1) (.add (.var 0) (.num 1)) (.var 1) 1 1 rfl (nlt this))]
  · simp [Lmp.put]
theorem all_eq (P : Lmp) : lst (refsOf P 5) = P.all 5 := rfl
theorem mid_sub {q : Addr × Obj} {a Ls all : List (Addr × Obj)} (h : ∀ p ∈ a ++ Ls, p ∈ all) (hq : q ∈ all) : ∀ p ∈ a ++ q :: Ls, p ∈ all := by
  intro p hp
  rcases List.mem_append.mp hp with hp | hp
  · exact h p (List.mem_append_left _ hp)
  · rcases List.mem_cons.mp hp with rfl | hp
    · exact hq
    · exact h p (List.mem_append_right _ hp)
theorem off3_mid {I C D : Addr} {q : Addr × Obj} {a Ls : List (Addr × Obj)} (h : Off3 I C D (a ++ Ls)) (h1 : @Ne Nat q.1 I) (h2 : @Ne Nat q.1 C) (h3 : @Ne Nat q.1 D) : Off3 I C D (a ++ q :: Ls) := Off3.of fun p hp => by
  rcases List.mem_append.mp hp with hp | hp
  · exact h.mem p (List.mem_append_left _ hp)
  · rcases List.mem_cons.mp hp with rfl | hp
    · exact ⟨h1, h2, h3⟩
    · exact h.mem p (List.mem_append_right _ hp)
theorem off1_left {q : Addr} : ∀ {a b : List (Addr × Obj)}, Off1 q (a ++ b) → Off1 q a
  | [], _, _ => trivial
  | _ :: _, _, h => ⟨h.1, off1_left h.2⟩
theorem off1_right {q : Addr} : ∀ {a b : List (Addr × Obj)}, Off1 q (a ++ b) → Off1 q b
  | [], _, h => h
  | _ :: _, _, h => off1_right (a := _) h.2
theorem six_of {c6 c5 c4 c3 c2 c1 : Addr × Obj} {R : List (Addr × Obj)} (hR : ∀ p ∈ R, Off1 p.1 [c6, c5, c4, c3, c2, c1]) :
    (∀ p ∈ R, p.1 ≠ c6.1) ∧ (∀ p ∈ R, p.1 ≠ c5.1) ∧ (∀ p ∈ R, p.1 ≠ c4.1) ∧ (∀ p ∈ R, p.1 ≠ c3.1) ∧ (∀ p ∈ R, p.1 ≠ c2.1) ∧ (∀ p ∈ R, p.1 ≠ c1.1) := by
  refine ⟨?_, ?_, ?_, ?_, ?_, ?_⟩ <;> intro p hp e <;> have h := hR p hp <;> simp only [Off1] at h
  · exact h.1 e.symm
  · exact h.2.1 e.symm
  · exact h.2.2.1 e.symm
  · exact h.2.2.2.1 e.symm
  · exact h.2.2.2.2.1 e.symm
  · exact h.2.2.2.2.2.1 e.symm
theorem regroup1 {h₀ h : Heap} {L : Addr} {d c6 c5 c4 c3 c2 c1 : Addr × Obj} {R : List (Addr × Obj)} (N : News h₀ L h (d :: c6 :: c5 :: c4 :: c3 :: c2 :: c1 :: R)) (hR : ∀ p ∈ R, Off1 p.1 [c6, c5, c4, c3, c2, c1]) (o : Off1 d.1 (c6 :: c5 :: c4 :: c3 :: c2 :: c1 :: R)) :
    ∃ R', (∀ p ∈ R', Off1 p.1 [c6, c5, c4, c3, c2, c1]) ∧ d ∈ R' ∧ (∀ p ∈ R, p ∈ R') ∧ News h₀ L h (c6 :: c5 :: c4 :: c3 :: c2 :: c1 :: R') := by
  refine ⟨d :: R, List.forall_mem_cons.mpr ⟨off1_left (a := [c6, c5, c4, c3, c2, c1]) o, hR⟩, List.mem_cons_self, fun p hp => List.mem_cons_of_mem _ hp, fun p hp => N p (sub_cons mm1 (sub_cons mm2 (sub_cons mm3 (sub_cons mm4 (sub_cons mm5 (sub_cons mm6 (sub_cons mm0 past7)))))) p hp)⟩
theorem regroup2 {h₀ h : Heap} {L : Addr} {d e c6 c5 c4 c3 c2 c1 : Addr × Obj} {R : List (Addr × Obj)} (N : News h₀ L h (d :: e :: c6 :: c5 :: c4 :: c3 :: c2 :: c1 :: R)) (hR : ∀ p ∈ R, Off1 p.1 [e, c6, c5, c4, c3, c2, c1]) (o : Off1 d.1 (e :: c6 :: c5 :: c4 :: c3 :: c2 :: c1 :: R)) (l : Off1 e.1 [c6, c5, c4, c3, c2, c1]) :
    ∃ R', (∀ p ∈ R', Off1 p.1 [c6, c5, c4, c3, c2, c1]) ∧ d ∈ R' ∧ e ∈ R' ∧ (∀ p ∈ R, p ∈ R') ∧ News h₀ L h (c6 :: c5 :: c4 :: c3 :: c2 :: c1 :: R') := by
  refine ⟨d :: e :: R, List.forall_mem_cons.mpr ⟨off1_left (a := [c6, c5, c4, c3, c2, c1]) o.2, List.forall_mem_cons.mpr ⟨l, fun p hp => (hR p hp).2⟩⟩, List.mem_cons_self, List.mem_cons_of_mem _ List.mem_cons_self, fun p hp => List.mem_cons_of_mem _ (List.mem_cons_of_mem _ hp), fun p hp => N p (sub_cons mm2 (sub_cons mm3 (sub_cons mm4 (sub_cons mm5 (sub_cons mm6 (sub_cons mm7 (sub_cons mm0 (sub_cons mm1 past8))))))) p hp)⟩
theorem ref_at {P : Lmp} {i : Nat} {v : Value} (hi : i < 5) (h : #[Value.ref (P.l 0), .ref (P.l 1), .ref (P.l 2), .ref (P.l 3), .ref (P.l 4)][i]? = some v) : v = .ref (P.l i) := by
  have : i = 0 ∨ i = 1 ∨ i = 2 ∨ i = 3 ∨ i = 4 := lin_or5 (by exact gnlt (lin1 (cx1 _) (.add (.var 0) (.num 1)) (.num 5) (.add (.var 0) (.num 1)) (.num 5) 1 1 rfl (nlt hi)))
  rcases this with rfl | rfl | rfl | rfl | rfl <;> exact (Option.some.inj h).symm
noncomputable abbrev lumaZ (P : Lmp) (i : Nat) : Int := wY (P.x i) (P.y i) (P.z i)
theorem flok_of {S a b c : Int} (hS : S = 16 ∨ S = 1024 ∨ S = 262144) (a0 : 0 ≤ a) (a1 : 10 * a ≤ 11 * S) (b0 : 0 ≤ b) (b1 : 10 * b ≤ 11 * S) (c0 : 0 ≤ c) (c1 : 10 * c ≤ 11 * S) : FlOk S a b c :=
  ⟨⟨a0, by omega, b0, by omega, c0, by omega⟩, flok hS a0 a1 b0 b1 c0 c1⟩
theorem flok16 {P : Lmp} (hO : P.Ok) {i : Nat} (hi : i < 5) : FlOk 16 (P.x i) (P.y i) (P.z i) := by
  have h1 := hO.x i hi
  have h2 := hO.y i hi
  have h3 := hO.z i hi
  exact flok_of (.inl rfl) h1.1 (by exact lin1 (cx1 _) (.var 0) (.num 15) (.mulL 10 (.var 0)) (.mulL 11 (.num 16)) 10 1 rfl h1.2) h2.1 (by exact lin1 (cx1 _) (.var 0) (.num 15) (.mulL 10 (.var 0)) (.mulL 11 (.num 16)) 10 1 rfl h2.2) h3.1 (by exact lin1 (cx1 _) (.var 0) (.num 15) (.mulL 10 (.var 0)) (.mulL 11 (.num 16)) 10 1 rfl h3.2)
theorem parse_ok2 (w : World) (b : Array UInt8) (tr : Tok) (news : List (Addr × Obj)) (hv : FlagText (b.map (·.toNat)) b.size) (hz : b.size ≤ 10000) (h9 : 9 ≤ b.size) :
   Ctr w 2 20 64 [.bytes b tr] news (fun _ v add => ∃ D ws, v = .ref D ∧ add = [(D, tupO ws.toArray 0)] ∧ BA ws (cutOf b) ∧ Off1 D news) := parse_ok w b tr hv hz h9 news
theorem BA.uncons {ys : List Value} {x : List Int} {l : List (List Int)} (h : BA ys (x :: l)) : ∃ b t r, ys = .bytes b t :: r ∧ KBw.bInts b = x ∧ BA r l := by
  cases h with | cons t e h => exact ⟨_, t, _, rfl, e, h⟩
theorem BA.unnil {ys : List Value} (h : BA ys []) : ys = [] := by cases h; rfl
theorem BA.five {ys : List Value} {f : Nat → List Int} (h : BA ys ((List.range 5).map f)) : ∃ W : Wds, lst ys = W.obj 5 ∧ ∀ c, c < 5 → KBw.bInts (W.b c) = f c := by
  refine ob3 (BA.uncons h) fun b0 t0 r0 h0 => ob3 (BA.uncons h0.2.2) fun b1 t1 r1 h1 => ob3 (BA.uncons h1.2.2) fun b2 t2 r2 h2 => ob3 (BA.uncons h2.2.2) fun b3 t3 r3 h3 => ob3 (BA.uncons h3.2.2) fun b4 t4 r4 h4 => ?_
  refine ⟨⟨fun c => match c with | 0 => b0 | 1 => b1 | 2 => b2 | 3 => b3 | _ => b4, fun c => match c with | 0 => t0 | 1 => t1 | 2 => t2 | 3 => t3 | _ => t4⟩, ?_, fun c hc => ?_⟩
  · rw [h0.1, h1.1, h2.1, h3.1, h4.1, BA.unnil h4.2.2]; rfl
  · rcases (lin_or5 hc) with e | e | e | e | e <;> rw [e]
    · exact h0.2.1
    · exact h1.2.1
    · exact h2.2.1
    · exact h3.2.1
    · exact h4.2.1
theorem plainZ_len {P : Lmp} {c : Nat} : (plainZ P c).length = 4 := rfl
theorem plainZ_rng {P : Lmp} (hO : P.Ok) {c : Nat} (hc : c < 5) : ∀ z ∈ plainZ P c, 65 ≤ z ∧ z ≤ 80 := by
  have h1 := hO.x c hc
  have h2 := hO.y c hc
  have h3 := hO.z c hc
  intro z hz
  simp only [List.mem_cons, List.not_mem_nil, or_false] at hz
  rcases hz with rfl | rfl | rfl | rfl <;> (first | exact ⟨lin1 (cx1 _) (.num 0) (.var 0) (.num 65) (.add (.num 66) (.var 0)) 1 1 rfl (nn _), lin1 (cx1 _) (.add (.var 0) (.num 1)) (.num 5) (.add (.num 66) (.var 0)) (.num 80) 1 1 rfl (nlt hc)⟩ | exact ⟨lin1 (cx1 _) (.num 0) (.var 0) (.num 65) (.add (.num 65) (.var 0)) 1 1 rfl h1.1, lin1 (cx1 _) (.var 0) (.num 15) (.add (.num 65) (.var 0)) (.num 80) 1 1 rfl h1.2⟩ | exact ⟨lin1 (cx1 _) (.num 0) (.var 0) (.num 65) (.add (.num 65) (.var 0)) 1 1 rfl h2.1, lin1 (cx1 _) (.var 0) (.num 15) (.add (.num 65) (.var 0)) (.num 80) 1 1 rfl h2.2⟩ | exact ⟨lin1 (cx1 _) (.num 0) (.var 0) (.num 65) (.add (.num 65) (.var 0)) 1 1 rfl h3.1, lin1 (cx1 _) (.var 0) (.num 15) (.add (.num 65) (.var 0)) (.num 80) 1 1 rfl h3.2⟩)
theorem words_size {P : Lmp} {W : Wds} (h : ∀ c, c < 5 → KBw.bInts (W.b c) = plainZ P c) : ∀ c, c < 5 → (W.b c).size ≤ 10 := fun c hc => by
  rw [← KBw.ints_length, h c hc]; exact (by decide : 4 ≤ 10)
theorem words_rng {P : Lmp} {W : Wds} (hO : P.Ok) (h : ∀ c, c < 5 → KBw.bInts (W.b c) = plainZ P c) : ∀ c, c < 5 → ∀ z ∈ KBw.bInts (W.b c), 65 ≤ z ∧ z ≤ 80 := fun c hc => by
  rw [h c hc]; exact plainZ_rng hO hc
theorem words_inj {P : Lmp} {W : Wds} (h : ∀ c, c < 5 → KBw.bInts (W.b c) = plainZ P c) : ∀ c d, c < 5 → d < 5 → KBw.bInts (W.b c) = KBw.bInts (W.b d) → c = d := fun c d hc hd e => by
  rw [h c hc, h d hd] at e
  simp only [plainZ, List.cons.injEq] at e
  exact gneq (lin1 (cx2 _ _) (.add (.num 66) (.var 0)) (.add (.num 66) (.var 1)) (.var 0) (.var 1) 1 1 rfl (ieq1 e.1)) (lin1 (cx2 _ _) (.add (.num 66) (.var 0)) (.add (.num 66) (.var 1)) (.var 0) (.var 1) 1 1 rfl (ieq2 e.1))
theorem luma_rng {P : Lmp} (hO : P.Ok) : ∀ x ∈ [lumaZ P 0, lumaZ P 1, lumaZ P 2, lumaZ P 3, lumaZ P 4], 0 ≤ x ∧ x ≤ 2000 := by
  have k : ∀ i, i < 5 → 0 ≤ lumaZ P i ∧ lumaZ P i ≤ 2000 := fun i hi => by
    have h1 := hO.x i hi
    have h2 := hO.y i hi
    have h3 := hO.z i hi
    unfold lumaZ wY
    exact ⟨lin3 (cx3 _ _ _) (.num 0) (.var 0) (.num 0) (.var 1) (.num 0) (.var 2) (.num 0) (.add (.add (.mulL 30 (.var 0)) (.mulL 59 (.var 1))) (.mulL 11 (.var 2))) 30 59 11 1 rfl h1.1 h2.1 h3.1, lin3 (cx3 _ _ _) (.var 0) (.num 15) (.var 1) (.num 15) (.var 2) (.num 15) (.add (.add (.mulL 30 (.var 0)) (.mulL 59 (.var 1))) (.mulL 11 (.var 2))) (.num 2000) 30 59 11 1 rfl h1.2 h2.2 h3.2⟩
  intro x hx
  simp only [List.mem_cons, List.not_mem_nil, or_false] at hx
  rcases hx with rfl | rfl | rfl | rfl | rfl
  · exact k 0 (by decide)
  · exact k 1 (by decide)
  · exact k 2 (by decide)
  · exact k 3 (by decide)
  · exact k 4 (by decide)
theorem mixAt_eq {P : Lmp} {a0 a1 a2 a3 a4 : Int} {k : Nat} : mixAt P [a0, a1, a2, a3, a4] k = a0 * P.at 0 k + (a1 * P.at 1 k + (a2 * P.at 2 k + (a3 * P.at 3 k + (a4 * P.at 4 k + 0)))) := rfl
theorem mul_bnd {a b A B : Int} (h0 : 0 ≤ a) (h1 : a ≤ A) (h2 : 0 ≤ b) (h3 : b ≤ B) : 0 ≤ a * b ∧ a * b ≤ A * B :=
  ⟨Int.mul_nonneg h0 h2, Int.mul_le_mul h1 h3 h2 (Int.le_trans h0 h1)⟩
theorem mixAt_rng {P : Lmp} (hO : P.Ok) {a0 a1 a2 a3 a4 A : Int} (h : ∀ x ∈ [a0, a1, a2, a3, a4], 0 ≤ x ∧ x ≤ A) (k : Nat) : 0 ≤ mixAt P [a0, a1, a2, a3, a4] k ∧ mixAt P [a0, a1, a2, a3, a4] k ≤ 75 * A := by
  rw [mixAt_eq]
  have e0 := hO.at (i := 0) (by decide) k
  have e1 := hO.at (i := 1) (by decide) k
  have e2 := hO.at (i := 2) (by decide) k
  have e3 := hO.at (i := 3) (by decide) k
  have e4 := hO.at (i := 4) (by decide) k
  have g0 := h a0 (by simp)
  have g1 := h a1 (by simp)
  have g2 := h a2 (by simp)
  have g3 := h a3 (by simp)
  have g4 := h a4 (by simp)
  have m0 := mul_bnd g0.1 g0.2 e0.1 e0.2
  have m1 := mul_bnd g1.1 g1.2 e1.1 e1.2
  have m2 := mul_bnd g2.1 g2.2 e2.1 e2.2
  have m3 := mul_bnd g3.1 g3.2 e3.1 e3.2
  have m4 := mul_bnd g4.1 g4.2 e4.1 e4.2
  exact ⟨lin5 (cx5 _ _ _ _ _) (.num 0) (.var 0) (.num 0) (.var 1) (.num 0) (.var 2) (.num 0) (.var 3) (.num 0) (.var 4) (.num 0) (.add (.var 0) (.add (.var 1) (.add (.var 2) (.add (.var 3) (.add (.var 4) (.num 0)))))) 1 1 1 1 1 1 rfl m0.1 m1.1 m2.1 m3.1 m4.1, lin5 (cx6 _ _ _ _ _ _) (.var 0) (.mulR (.var 1) 15) (.var 2) (.mulR (.var 1) 15) (.var 3) (.mulR (.var 1) 15) (.var 4) (.mulR (.var 1) 15) (.var 5) (.mulR (.var 1) 15) (.add (.var 0) (.add (.var 2) (.add (.var 3) (.add (.var 4) (.add (.var 5) (.num 0)))))) (.mulL 75 (.var 1)) 1 1 1 1 1 1 rfl m0.2 m1.2 m2.2 m3.2 m4.2⟩
theorem len_cons {ms : List Int} {n : Nat} (h : ms.length = n + 1) : ∃ a r, ms = a :: r ∧ r.length = n := by
  cases ms with
  | nil => cases h
  | cons a r => exact ⟨a, r, rfl, Nat.succ.inj h⟩
theorem fives {ms : List Int} (h : ms.length = 5) : ∃ a b c d e, ms = [a, b, c, d, e] :=
  ob2 (len_cons h) fun a _ h0 => ob2 (len_cons h0.2) fun b _ h1 => ob2 (len_cons h1.2) fun c _ h2 => ob2 (len_cons h2.2) fun d _ h3 => ob2 (len_cons h3.2) fun e _ h4 => ⟨a, b, c, d, e, by rw [h0.1, h1.1, h2.1, h3.1, h4.1, List.length_eq_zero_iff.mp h4.2]⟩
theorem parts_rng {a b c d e : Int} (h : ∀ k ∈ [a, b, c, d, e], 0 ≤ k ∧ k < 4608) : ∀ x ∈ [a.fdiv 512, b.fdiv 512, c.fdiv 512, d.fdiv 512, e.fdiv 512], 0 ≤ x ∧ x ≤ 8 := by
  have k : ∀ n : Int, 0 ≤ n ∧ n < 4608 → 0 ≤ n.fdiv 512 ∧ n.fdiv 512 ≤ 8 := fun n hn => by
    rw [Int.fdiv_eq_ediv_of_nonneg _ (by decide)]
    exact ⟨lin3 (cx3 _ _ _) (.num 0) (.var 0) (.add (.var 1) (.num 1)) (.num 512) (.var 0) (.add (.var 1) (.mulL 512 (.var 2))) (.num 0) (.var 2) 1 1 1 512 rfl hn.1 (md2 _ (by decide)) (md4 _ _), lin3 (cx3 _ _ _) (.add (.var 0) (.num 1)) (.num 4608) (.num 0) (.var 1) (.add (.var 1) (.mulL 512 (.var 2))) (.var 0) (.var 2) (.num 8) 1 1 1 512 rfl hn.2 (md1 _ (by decide)) (md3 _ _)⟩
  intro x hx
  simp only [List.mem_cons, List.not_mem_nil, or_false] at hx
  rcases hx with rfl | rfl | rfl | rfl | rfl
  · exact k a (h a (by simp))
  · exact k b (h b (by simp))
  · exact k c (h c (by simp))
  · exact k d (h d (by simp))
  · exact k e (h e (by simp))
theorem mix_rng {P : Lmp} (hO : P.Ok) {a b c d e : Int} (h : ∀ x ∈ [a, b, c, d, e], 0 ≤ x ∧ x ≤ 8) : ∀ x ∈ [mixAt P [a, b, c, d, e] 0, mixAt P [a, b, c, d, e] 1, mixAt P [a, b, c, d, e] 2], 0 ≤ x ∧ x ≤ 2000 := by
  intro x hx
  simp only [List.mem_cons, List.not_mem_nil, or_false] at hx
  rcases hx with rfl | rfl | rfl <;> (have := mixAt_rng hO h 0; have := mixAt_rng hO h 1; have := mixAt_rng hO h 2; (first | exact ⟨lin1 (cx1 _) (.num 0) (.var 0) (.num 0) (.var 0) 1 1 rfl this.1, lin1 (cx1 _) (.var 0) (.mulL 75 (.num 8)) (.var 0) (.num 2000) 1 1 rfl this.2⟩ | omega))
theorem drop2 {a b : Addr × Obj} {r : List (Addr × Obj)} : ∀ p ∈ a :: r, p ∈ a :: b :: r := fun p hp => by
  rcases List.mem_cons.mp hp with rfl | hp
  · exact List.mem_cons_self
  · exact List.mem_cons_of_mem _ (List.mem_cons_of_mem _ hp)
end
section
open PySem.Calls
open PyProof.Rows.LCg
open PySem.Builtin
theorem space_u {u : UInt8} (h : 65 ≤ u.toNat) : Bytes.isSpace u = false := by
  unfold Bytes.isSpace
  have h1 : (u == 32) = false := by
    refine beq_eq_false_iff_ne.mpr fun e => ?_
    subst e
    exact absurd h (by decide)
  have h2 : decide (u ≤ 13) = false := decide_eq_false fun e => by
    have : u.toNat ≤ 13 := e
    exact gfalse (lin2 (cx1 _) (.num 65) (.var 0) (.var 0) (.num 13) (.num 1) (.num 0) 1 1 1 rfl (nle h) (nle this))
  rw [h1, h2]; simp
theorem words_cons {w l : List UInt8} (h : ∀ x ∈ w, Bytes.isSpace x = false) (hne : w ≠ []) (n : Nat) : Bytes.words (n + 1) (n + 1) (w ++ 32 :: l) = w :: Bytes.words n n (32 :: l) := by
  have k : ∀ (w : List UInt8), (∀ x ∈ w, Bytes.isSpace x = false) → (w ++ 32 :: l).takeWhile (!Bytes.isSpace ·) = w ∧ (w ++ 32 :: l).dropWhile (!Bytes.isSpace ·) = 32 :: l := by
    intro w
    induction w with
    | nil => intro _; exact ⟨rfl, rfl⟩
    | cons a w ih =>
      intro h
      have ha := h a List.mem_cons_self
      have ih := ih (fun x hx => h x (List.mem_cons_of_mem _ hx))
      simp [ha, ih.1, ih.2]
  obtain ⟨h1, h2⟩ := k w h
  have h3 : (w ++ 32 :: l).dropWhile Bytes.isSpace = w ++ 32 :: l := by
    cases w with
    | nil => exact absurd rfl hne
    | cons a w => simp [h a List.mem_cons_self]
  unfold Bytes.words
  rw [h3]
  cases w with
  | nil => exact absurd rfl hne
  | cons a w =>
    rw [List.cons_append] at h1 h2 ⊢
    dsimp only
    rw [if_neg (by simp), h1, h2]
    cases n <;> rfl
theorem words_sp {l : List UInt8} (n k : Nat) : Bytes.words n k (32 :: l) = Bytes.words n k l := by
  cases n with
  | zero => rfl
  | succ n =>
    have : (32 :: l).dropWhile Bytes.isSpace = l.dropWhile Bytes.isSpace := rfl
    unfold Bytes.words
    rw [this]
theorem words_nil (n k : Nat) : Bytes.words n k [] = [] := by
  cases n <;> rfl
theorem uInts_sp {l : List UInt8} (h : uInts l = [32]) : l = [32] := by
  cases l with
  | nil => cases h
  | cons u l =>
    have hl : l = [] := List.map_eq_nil_iff.mp (List.cons.inj h).2
    subst hl
    have e : ((u.toNat : Nat) : Int) = 32 := (List.cons.inj h).1
    have e2 : u.toNat = 32 := by exact gneq (lin1 (cx1 _) (.var 0) (.num 32) (.var 0) (.num 32) 1 1 rfl (ieq1 e)) (lin1 (cx1 _) (.num 32) (.var 0) (.num 32) (.var 0) 1 1 rfl (ieq2 e))
    rw [UInt8.toNat_inj.mp (show u.toNat = (32 : UInt8).toNat from e2)]
theorem words_join : ∀ (ws : List (List Int)), (∀ x ∈ ws, 1 ≤ x.length ∧ ∀ z ∈ x, 65 ≤ z ∧ z ≤ 80) → ∀ (L : List UInt8), uInts L = joinI ws → ∀ n, ws.length ≤ n → (Bytes.words (n + 1) (n + 1) L).map uInts = ws
  | [], _, L, hL, n, _ => by
    have : L = [] := List.map_eq_nil_iff.mp hL
    rw [this, words_nil]; rfl
  | [x], h, L, hL, n, _ => by
    have hx := h x List.mem_cons_self
    have hs : ∀ u ∈ L, Bytes.isSpace u = false := fun u hu => space_u (by
      have := hx.2 (u.toNat : Int) (by rw [← show uInts L = x from hL]; exact List.mem_map.mpr ⟨u, hu, rfl⟩)
      exact gnle (lin1 (cx1 _) (.num 65) (.var 0) (.num 65) (.var 0) 1 1 rfl this.1))
    rw [words_one hs (fun e => by
      subst e
      have e0 : x = [] := (show uInts [] = x from hL).symm
      rw [e0] at hx
      exact absurd hx.1 (by decide))]
    exact congrArg (· :: []) hL
  | x :: y :: r, h, L, hL, n, hn => by
    have hx := h x List.mem_cons_self
    have hL' : L.map (fun c : UInt8 => (c.toNat : Int)) = x ++ [32] ++ joinI (y :: r) := hL
    obtain ⟨L0, L3, rfl, h0, h3⟩ := List.map_eq_append_iff.mp hL'
    obtain ⟨L1, L2, rfl, h1, h2⟩ := List.map_eq_append_iff.mp h0
    obtain rfl := uInts_sp h2
    have hs : ∀ u ∈ L1, Bytes.isSpace u = false := fun u hu => space_u (by
      have := hx.2 (u.toNat : Int) (by rw [← h1]; exact List.mem_map.mpr ⟨u, hu, rfl⟩)
      exact gnle (lin1 (cx1 _) (.num 65) (.var 0) (.num 65) (.var 0) 1 1 rfl this.1))
    have hne : L1 ≠ [] := fun e => by
      subst e
      rw [← h1] at hx
      exact absurd hx.1 (by decide)
    obtain ⟨n', rfl⟩ : ∃ n', n = n' + 1 := ⟨n - 1, by simp only [List.length_cons] at hn; omega⟩
    rw [List.append_assoc, show [32] ++ L3 = 32 :: L3 from rfl, words_cons hs hne, words_sp, List.map_cons]
    have ih := words_join (y :: r) (fun z hz => h z (List.mem_cons_of_mem _ hz)) L3 h3 n' (by simp only [List.length_cons] at hn ⊢; omega)
    rw [ih]
    exact congrArg (· :: y :: r) h1
theorem join_piece {a b : List Int} {R : List (List Int)} : joinI ((a ++ [32] ++ b) :: R) = a ++ [32] ++ joinI (b :: R) := by
  cases R with
  | nil => rfl
  | cons y r => show (a ++ [32] ++ b) ++ [32] ++ joinI (y :: r) = a ++ [32] ++ (b ++ [32] ++ joinI (y :: r)); simp
theorem join_flat {wd d : Nat → List Int} : ∀ (l : List Nat) (x : List Int), joinI (x :: l.map fun c => wd c ++ [32] ++ d c) = joinI (x :: l.flatMap fun c => [wd c, d c])
  | [], x => rfl
  | c :: r, x => by
    show x ++ [32] ++ joinI ((wd c ++ [32] ++ d c) :: r.map fun c => wd c ++ [32] ++ d c) = x ++ [32] ++ (wd c ++ [32] ++ joinI (d c :: r.flatMap fun c => [wd c, d c]))
    rw [join_piece, join_flat r (d c)]
noncomputable def psOf (am : List Int) : List (Nat × List Int) := ((List.range 5).filter fun c => decide (am.getD c 0 > 0)).map fun c => (c, apD (am.getD c 0).toNat)
theorem way_flat {wd : Nat → List Int} {T : Int} {am : List Int} : joinI (wayZ wd T am) = joinI (apD (if T < 0 then -T else T).toNat :: flatP wd (psOf am)) := by
  unfold wayZ psOf flatP
  rw [join_flat, List.flatMap_map]
theorem read_snoc {l : List Int} {z : Int} : readZ (l ++ [65 + z]) = 16 * readZ l + z := by
  unfold readZ
  rw [List.foldl_append]
  show 16 * _ + (65 + z) - 65 = _
  exact Int.le_antisymm (lin0 (cx2 _ _) (.sub (.add (.mulL 16 (.var 0)) (.add (.num 65) (.var 1))) (.num 65)) (.add (.mulL 16 (.var 0)) (.var 1)) 1 rfl) (lin0 (cx2 _ _) (.add (.mulL 16 (.var 0)) (.var 1)) (.sub (.add (.mulL 16 (.var 0)) (.add (.num 65) (.var 1))) (.num 65)) 1 rfl)
theorem read_ap (n : Nat) : readZ (apD n) = n := by
  induction n using Nat.strongRecOn with
  | ind n ih =>
    cases n with
    | zero => rfl
    | succ k =>
      rw [apD_succ (by exact gnlt (lin1 (cx1 _) (.num 0) (.var 0) (.add (.num 0) (.num 1)) (.add (.var 0) (.num 1)) 1 1 rfl (nn _))), read_snoc, ih _ (by exact gnlt (lin3 (cx3 _ _ _) (.num 0) (.var 0) (.num 0) (.var 1) (.add (.var 1) (.mulL 16 (.var 2))) (.add (.var 0) (.num 1)) (.add (.var 2) (.num 1)) (.add (.var 0) (.num 1)) 15 1 1 16 rfl (nn _) (nn _) (nmd3 _ _)))]
      omega
theorem told_one {z : Int} (hz : 0 ≤ z) {l l' : List Int} {c : Nat} (h1 : l.set c z = l') (h0 : z = 0 → l = l') : (if decide (z > 0) = true then l.set c (readZ (apD z.toNat)) else l) = l' := by
  by_cases h : z > 0
  · rw [if_pos (decide_eq_true h), read_ap, show ((z.toNat : Nat) : Int) = z by exact Int.le_antisymm (lin1 (cx2 _ _) (.var 0) (.var 1) (.var 0) (.var 1) 1 1 rfl (tn2 (lin1 (cx1 _) (.num 0) (.var 0) (.num 0) (.var 0) 1 1 rfl hz))) (lin1 (cx2 _ _) (.var 0) (.var 1) (.var 0) (.var 1) 1 1 rfl (tn1 _))]; exact h1
  · rw [if_neg (by rw [decide_eq_false h]; exact Bool.false_ne_true)]; exact h0 (by exact Int.le_antisymm (lin1 (cx1 _) (.var 0) (.num 0) (.var 0) (.num 0) 1 1 rfl (inlt h)) (lin1 (cx1 _) (.num 0) (.var 0) (.num 0) (.var 0) 1 1 rfl hz))
theorem told_psOf {am : List Int} (hl : am.length = 5) (h0 : ∀ z ∈ am, 0 ≤ z) : toldZ (psOf am) = am := by
  obtain ⟨a, b, c, d, e, rfl⟩ := fives hl
  have r5 : List.range 5 = [0, 1, 2, 3, 4] := rfl
  unfold psOf toldZ
  rw [List.foldl_map, List.foldl_filter, r5]
  simp only [List.foldl_cons, List.foldl_nil]
  have e0 := told_one (l := [0, 0, 0, 0, 0]) (c := 0) (h0 a mm0) (l' := [a, 0, 0, 0, 0]) rfl (fun h => by rw [h])
  have e1 := told_one (l := [a, 0, 0, 0, 0]) (c := 1) (h0 b mm1) (l' := [a, b, 0, 0, 0]) rfl (fun h => by rw [h])
  have e2 := told_one (l := [a, b, 0, 0, 0]) (c := 2) (h0 c mm2) (l' := [a, b, c, 0, 0]) rfl (fun h => by rw [h])
  have e3 := told_one (l := [a, b, c, 0, 0]) (c := 3) (h0 d mm3) (l' := [a, b, c, d, 0]) rfl (fun h => by rw [h])
  have e4 := told_one (l := [a, b, c, d, 0]) (c := 4) (h0 e mm4) (l' := [a, b, c, d, e]) rfl (fun h => by rw [h])
  refine Eq.trans ?_ e4
  rw [← e3, ← e2, ← e1, ← e0]
  rfl
theorem body_ints {b : Array UInt8} {p J : List Int} {z : Int} (h : KBw.bInts b = p ++ J ++ [z]) (hp : p.length = 7) : uInts (bodyOf b).toList = J := by
  have hs : b.size = 7 + J.length + 1 := by rw [← KBw.ints_length, h]; simp [hp]; omega
  have e1 : (bodyOf b).toList = ((b.toList.map (·.toNat)).drop 7 |>.take (b.size - 1 - 7)).map (·.toUInt8) := by
    unfold bodyOf
    rw [Array.toList_map, Array.toList_extract, Array.toList_map, List.extract_eq_take_drop]
  have e2 : uInts (bodyOf b).toList = (((KBw.bInts b).drop 7).take (b.size - 1 - 7)) := by
    rw [e1]
    unfold uInts KBw.bInts
    rw [List.map_map, ← List.map_drop, ← List.map_take, ← List.map_drop, ← List.map_take, List.map_map]
    refine List.map_congr_left fun u _ => ?_
    show ((((u.toNat).toUInt8).toNat : Nat) : Int) = ((u.toNat : Nat) : Int)
    have : (u.toNat).toUInt8 = u := UInt8.ofNat_toNat
    rw [this]
  rw [e2, h, List.append_assoc, List.drop_append_of_le_length (by exact gnle (lin1 (cx1 _) (.num 7) (.var 0) (.num 7) (.var 0) 1 1 rfl (neq2 hp))), List.drop_of_length_le (by exact gnle (lin1 (cx1 _) (.var 0) (.num 7) (.var 0) (.num 7) 1 1 rfl (neq1 hp))), List.nil_append, hs, show 7 + J.length + 1 - 1 - 7 = J.length by exact gneq (lin2 (cx3 _ _ _) (.add (.var 0) (.num 7)) (.var 1) (.add (.var 1) (.num 1)) (.add (.add (.num 7) (.var 2)) (.num 1)) (.var 0) (.var 2) 1 1 1 rfl (ns2 (lin2 (cx2 _ _) (.num 0) (.var 0) (.add (.add (.num 7) (.var 0)) (.num 1)) (.add (.var 1) (.num 1)) (.num 7) (.var 1) 1 1 1 rfl (nn _) (ns1 _ _))) (ns2 (lin1 (cx1 _) (.num 0) (.var 0) (.num 1) (.add (.add (.num 7) (.var 0)) (.num 1)) 1 1 rfl (nn _)))) (lin2 (cx3 _ _ _) (.var 0) (.add (.var 1) (.num 7)) (.add (.add (.num 7) (.var 2)) (.num 1)) (.add (.var 0) (.num 1)) (.var 2) (.var 1) 1 1 1 rfl (ns1 _ _) (ns1 _ _)), List.take_append_of_le_length (Nat.le_refl _), List.take_length]
theorem get_ints {b : Array UInt8} {l : List Int} (h : KBw.bInts b = l) (i : Nat) : (((b.map (·.toNat)).getD i 0 : Nat) : Int) = l.getD i 0 := by
  rw [← h]
  unfold KBw.bInts
  rw [List.getD_eq_getElem?_getD, List.getElem?_map, Array.getElem?_toList, Array.getD_eq_getD_getElem?, Array.getElem?_map]
  cases b[i]? <;> rfl
theorem flag_text {b : Array UInt8} {J : List Int} (h : KBw.bInts b = [70, 76, 65, 71, 83, 32, 40] ++ J ++ [41]) (hJ : ∀ z ∈ J, Lt z) : FlagText (b.map (·.toNat)) b.size := by
  have hs : b.size = 7 + J.length + 1 := by rw [← KBw.ints_length, h]; simp; omega
  refine ⟨Array.size_map, by omega, fun i hi => ?_, fun i h7 hi => ?_, ?_⟩
  · have g := get_ints h i
    rw [List.append_assoc, List.getD_eq_getElem?_getD, List.getElem?_append_left (by simpa using hi)] at g
    have : i = 0 ∨ i = 1 ∨ i = 2 ∨ i = 3 ∨ i = 4 ∨ i = 5 ∨ i = 6 := lin_or7 (by exact gnlt (lin1 (cx1 _) (.add (.var 0) (.num 1)) (.num 7) (.add (.var 0) (.num 1)) (.num 7) 1 1 rfl (nlt hi)))
    rcases this with rfl | rfl | rfl | rfl | rfl | rfl | rfl <;> exact Int.ofNat.inj g
  · have g := get_ints h i
    rw [List.append_assoc, List.getD_eq_getElem?_getD, List.getElem?_append_right (by simpa using h7), List.getElem?_append_left (by simp; omega)] at g
    have hlt : i - [70, 76, 65, 71, 83, 32, (40 : Int)].length < J.length := by simp; omega
    rw [List.getElem?_eq_getElem hlt, Option.getD_some] at g
    have := hJ _ (List.getElem_mem hlt)
    unfold Lt at this
    omega
  · have g := get_ints h (b.size - 1)
    rw [List.getD_eq_getElem?_getD, List.getElem?_append_right (by simp; omega)] at g
    have : b.size - 1 - ([70, 76, 65, 71, 83, 32, 40] ++ J).length = 0 := by simp; omega
    rw [this] at g
    exact Int.ofNat.inj g
theorem cps_bytes {s : Str} {l : List Int} (h : cpsI s = l) (hl : ∀ z ∈ l, 0 ≤ z ∧ z < 128) : (∀ i, i < s.cps.size → s.cps.getD i 0 < 128) ∧ KBw.bInts (s.cps.map (·.toUInt8)) = l := by
  have hc : ∀ c ∈ s.cps.toList, c < 128 := fun c hc => by
    have := hl (c : Int) (by rw [← h]; exact List.mem_map.mpr ⟨c, hc, rfl⟩)
    exact gnlt (lin1 (cx1 _) (.add (.var 0) (.num 1)) (.num 128) (.add (.var 0) (.num 1)) (.num 128) 1 1 rfl this.2)
  refine ⟨fun i hi => ?_, ?_⟩
  · rw [Array.getD_eq_getD_getElem?, Array.getElem?_eq_getElem hi, Option.getD_some]
    exact hc _ (Array.mem_toList_iff.mpr (Array.getElem_mem hi))
  · rw [← h]
    unfold KBw.bInts cpsI
    rw [Array.toList_map, List.map_map]
    refine List.map_congr_left fun c hcm => ?_
    show ((((c : Nat).toUInt8).toNat : Nat) : Int) = (c : Int)
    have := hc c hcm
    rw [show (c.toUInt8).toNat = c % 256 from rfl, Nat.mod_eq_of_lt (by exact gnlt (lin1 (cx1 _) (.add (.var 0) (.num 1)) (.num 128) (.add (.var 0) (.num 1)) (.num 256) 1 1 rfl (nlt this)))]
theorem good_facts {T : Int} {am : List Int} (hg : goodZ T am = true) : T ≠ 0 ∧ ∀ z ∈ am, 0 ≤ z ∧ z ≤ 8 * (if T < 0 then -T else T) := by
  unfold goodZ at hg
  rw [Bool.and_eq_true, decide_eq_true_eq, List.all_eq_true] at hg
  refine ⟨hg.1, fun z hz => ?_⟩
  have := hg.2 z hz
  rw [Bool.and_eq_true, decide_eq_true_eq, decide_eq_true_eq] at this
  exact this
theorem psOf_ok {am : List Int} (h : ∀ z ∈ am, 0 ≤ z ∧ z < 65536) : (∀ p ∈ psOf am, p.1 < 5 ∧ p.2.length ≤ 100) ∧ (psOf am).length ≤ 100 := by
  constructor
  · intro p hp
    unfold psOf at hp
    obtain ⟨c, hc, rfl⟩ := List.mem_map.mp hp
    refine ⟨List.mem_range.mp (List.mem_filter.mp hc).1, Nat.le_trans (apD_len (k := 4) ?_) (by decide)⟩
    have hz : (am.getD c 0) < 65536 ∧ 0 ≤ am.getD c 0 := by
      rw [List.getD_eq_getElem?_getD]
      cases e : am[c]? with
      | none => simp
      | some v => have := h v (List.mem_of_getElem? e); simp; exact ⟨lin1 (cx1 _) (.add (.var 0) (.num 1)) (.num 65536) (.add (.var 0) (.num 1)) (.num 65536) 1 1 rfl this.2, lin1 (cx1 _) (.num 0) (.var 0) (.num 0) (.var 0) 1 1 rfl this.1⟩
    show _ < 65536
    exact gnlt (lin2 (cx2 _ _) (.add (.var 0) (.num 1)) (.num 65536) (.var 1) (.var 0) (.add (.var 1) (.num 1)) (.num 65536) 1 1 1 rfl hz.1 (tn2 (lin1 (cx1 _) (.num 0) (.var 0) (.num 0) (.var 0) 1 1 rfl hz.2)))
  · unfold psOf
    rw [List.length_map]
    exact Nat.le_trans (List.length_filter_le _ _) (by simp)
theorem text_facts {wd : Nat → List Int} {T : Int} {am : List Int} {s : Str} (hs : cpsI s = textZ wd T am) (hw : ∀ c, c < 5 → (1 ≤ (wd c).length ∧ (wd c).length ≤ 10) ∧ ∀ z ∈ wd c, 65 ≤ z ∧ z ≤ 80) (hg : goodZ T am = true) (hl : am.length = 5) (hT : -1000 ≤ T ∧ T ≤ 1000) :
    (∀ i, i < s.cps.size → s.cps.getD i 0 < 128) ∧ 1 ≤ s.cps.size ∧ s.cps.size ≤ 1000000 ∧ FlagText ((s.cps.map (·.toUInt8)).map (·.toNat)) (s.cps.map (·.toUInt8)).size ∧ (s.cps.map (·.toUInt8)).size ≤ 10000 ∧ 9 ≤ (s.cps.map (·.toUInt8)).size ∧
    cutOf (s.cps.map (·.toUInt8)) = apD (if T < 0 then -T else T).toNat :: flatP wd (psOf am) ∧ (∀ p ∈ psOf am, p.1 < 5 ∧ p.2.length ≤ 100) ∧ (apD (if T < 0 then -T else T).toNat).length ≤ 100 ∧ (psOf am).length ≤ 100 ∧ toldZ (psOf am) = am ∧ readZ (apD (if T < 0 then -T else T).toNat) = (if T < 0 then -T else T) := by
  obtain ⟨hT0, ham⟩ := good_facts hg
  have hU : 0 < (if T < 0 then -T else T) ∧ (if T < 0 then -T else T) ≤ 1000 := by split <;> omega
  have ham2 : ∀ z ∈ am, 0 ≤ z ∧ z < 65536 := fun z hz => by have := ham z hz; exact ⟨lin1 (cx1 _) (.num 0) (.var 0) (.num 0) (.var 0) 1 1 rfl this.1, lin2 (cx2 _ _) (.var 0) (.num 1000) (.var 1) (.mulL 8 (.var 0)) (.add (.var 1) (.num 1)) (.num 65536) 8 1 1 rfl hU.2 this.2⟩
  obtain ⟨f1, f2⟩ := way_facts (wd := wd) (T := T) (am := am) (fun c hc => ⟨(hw c hc).1.2, (hw c hc).2⟩) ham2 hU.1 (by exact lin1 (cx1 _) (.var 0) (.num 1000) (.add (.var 0) (.num 1)) (.num 65536) 1 1 rfl hU.2)
  have hlt : ∀ z ∈ joinI (wayZ wd T am), Lt z := joinI_lt _ fun x hx => (f1 x hx).2
  have hlen := joinI_len (wayZ wd T am) 15 fun x hx => (f1 x hx).1
  have hUp : 0 < (if T < 0 then -T else T).toNat := by exact gnlt (lin2 (cx2 _ _) (.add (.num 0) (.num 1)) (.var 0) (.var 0) (.var 1) (.add (.num 0) (.num 1)) (.var 1) 1 1 1 rfl hU.1 (tn1 _))
  have hpos : 1 ≤ (joinI (wayZ wd T am)).length := by
    unfold wayZ
    exact joinI_pos (apD_ne hUp)
  obtain ⟨p1, p2⟩ := psOf_ok ham2
  have hrng : ∀ z ∈ textZ wd T am, 0 ≤ z ∧ z < 128 := by
    intro z hz
    unfold textZ at hz
    rcases List.mem_append.mp hz with hz | hz
    · rcases List.mem_append.mp hz with hz | hz
      · simp only [List.mem_cons, List.not_mem_nil, or_false] at hz
        omega
      · have := hlt z hz
        unfold Lt at this
        omega
    · rw [List.mem_singleton.mp hz]; decide
  obtain ⟨c1, c2⟩ := cps_bytes hs hrng
  have hsz : s.cps.size = 7 + (joinI (wayZ wd T am)).length + 1 := by
    have : (cpsI s).length = s.cps.size := by unfold cpsI; simp
    rw [← this, hs]
    unfold textZ
    simp
    omega
  have hl6 : (joinI (wayZ wd T am)).length ≤ 96 := Nat.le_trans hlen (by omega)
  have hul : (apD (if T < 0 then -T else T).toNat).length ≤ 4 := apD_len (k := 4) (by show _ < 65536; exact gnlt (lin2 (cx2 _ _) (.var 0) (.num 1000) (.var 1) (.var 0) (.add (.var 1) (.num 1)) (.num 65536) 1 1 1 rfl hU.2 (tn2 (lin1 (cx1 _) (.add (.num 0) (.num 1)) (.var 0) (.num 0) (.var 0) 1 1 rfl hU.1))))
  refine ⟨c1, by exact gnle (lin2 (cx2 _ _) (.num 1) (.var 0) (.add (.add (.num 7) (.var 0)) (.num 1)) (.var 1) (.num 1) (.var 1) 1 1 1 rfl (nle hpos) (neq2 hsz)), by omega, flag_text c2 hlt, by rw [Array.size_map]; omega, by rw [Array.size_map]; exact gnle (lin2 (cx2 _ _) (.num 1) (.var 0) (.add (.add (.num 7) (.var 0)) (.num 1)) (.var 1) (.num 9) (.var 1) 1 1 1 rfl (nle hpos) (neq2 hsz)), ?_, p1, by exact gnle (lin1 (cx1 _) (.var 0) (.num 4) (.var 0) (.num 100) 1 1 rfl (nle hul)), p2, told_psOf hl fun z hz => (ham z hz).1, by rw [read_ap]; exact Int.le_antisymm (lin1 (cx2 _ _) (.var 0) (.var 1) (.var 0) (.var 1) 1 1 rfl (tn2 (lin1 (cx1 _) (.add (.num 0) (.num 1)) (.var 0) (.num 0) (.var 0) 1 1 rfl hU.1))) (lin1 (cx2 _ _) (.var 0) (.var 1) (.var 0) (.var 1) 1 1 rfl (tn1 _))⟩
  refine words_join _ ?_ _ ?_ _ ?_
  · intro x hx
    rcases List.mem_cons.mp hx with rfl | hx
    · exact ⟨apD_ne hUp, apD_rng _⟩
    · obtain ⟨p, hp, hx⟩ := List.mem_flatMap.mp hx
      simp only [List.mem_cons, List.not_mem_nil, or_false] at hx
      rcases hx with rfl | rfl
      · exact ⟨(hw _ (p1 p hp).1).1.1, (hw _ (p1 p hp).1).2⟩
      · unfold psOf at hp
        obtain ⟨c, hc, rfl⟩ := List.mem_map.mp hp
        have := of_decide_eq_true (List.mem_filter.mp hc).2
        exact ⟨apD_ne (by exact gnlt (lin2 (cx2 _ _) (.add (.num 0) (.num 1)) (.var 0) (.var 0) (.var 1) (.add (.num 0) (.num 1)) (.var 1) 1 1 1 rfl this (tn1 _))), apD_rng _⟩
  · rw [← way_flat]
    exact body_ints c2 rfl
  · have hb : (bodyOf (s.cps.map (·.toUInt8))).size = (joinI (wayZ wd T am)).length := by
      have := congrArg List.length (body_ints c2 rfl)
      unfold uInts at this
      rw [List.length_map, Array.length_toList] at this
      exact this
    rw [hb]
    have : ∀ ws : List (List Int), (∀ x ∈ ws, 1 ≤ x.length) → ws.length ≤ (joinI ws).length := by
      intro ws
      induction ws with
      | nil => intro _; exact Nat.le_refl _
      | cons x r ih =>
        intro h
        have hx := h x List.mem_cons_self
        have ih := ih fun y hy => h y (List.mem_cons_of_mem _ hy)
        cases r with
        | nil => exact hx
        | cons y r =>
          show _ ≤ (x ++ [32] ++ joinI (y :: r)).length
          rw [List.length_append, List.length_append, List.length_singleton, List.length_cons]
          exact gnle (lin2 (cx3 _ _ _) (.num 1) (.var 0) (.var 1) (.var 2) (.add (.var 1) (.num 1)) (.add (.add (.var 0) (.num 1)) (.var 2)) 1 1 1 rfl (nle hx) (nle ih))
    rw [way_flat]
    refine this _ fun x hx => ?_
    rcases List.mem_cons.mp hx with rfl | hx
    · exact apD_ne hUp
    · obtain ⟨p, hp, hx⟩ := List.mem_flatMap.mp hx
      simp only [List.mem_cons, List.not_mem_nil, or_false] at hx
      rcases hx with rfl | rfl
      · exact (hw _ (p1 p hp).1).1.1
      · unfold psOf at hp
        obtain ⟨c, hc, rfl⟩ := List.mem_map.mp hp
        have := of_decide_eq_true (List.mem_filter.mp hc).2
        exact apD_ne (by exact gnlt (lin2 (cx2 _ _) (.add (.num 0) (.num 1)) (.var 0) (.var 0) (.var 1) (.add (.num 0) (.num 1)) (.var 1) 1 1 1 rfl this (tn1 _)))
inductive WI (news : List (Addr × Obj)) : List Value → List (Int × List Int) → Prop
  | nil : WI news [] []
  | cons {T q : Addr} {u : Int} {am : List Int} {xs r : List Value} {l : List (Int × List Int)} {tu : Tok} {kt kq : Nat} (hT : (T, tupO #[.int u tu, .ref q] kt) ∈ news) (hq : (q, W.listOf xs.toArray kq) ∈ news) (hI : IntsAre xs am) (t : WI news r l) : WI news (.ref T :: r) ((u, am) :: l)
theorem WI.mono {news news' : List (Addr × Obj)} (hs : ∀ p ∈ news, p ∈ news') : ∀ {a : List Value} {b : List (Int × List Int)}, WI news a b → WI news' a b := by
  intro a b h
  induction h with
  | nil => exact .nil
  | cons hT hq hI _ ih => exact .cons (hs _ hT) (hs _ hq) hI ih
theorem WI.snoc {news : List (Addr × Obj)} {T q : Addr} {u : Int} {am : List Int} {xs : List Value} {tu : Tok} {kt kq : Nat} (hT : (T, tupO #[.int u tu, .ref q] kt) ∈ news) (hq : (q, W.listOf xs.toArray kq) ∈ news) (hI : IntsAre xs am) : ∀ {a : List Value} {b : List (Int × List Int)}, WI news a b → WI news (a ++ [.ref T]) (b ++ [(u, am)]) := by
  intro a b h
  induction h with
  | nil => exact .cons hT hq hI .nil
  | cons hT' hq' hI' _ ih => exact .cons hT' hq' hI' ih
theorem WI.len {news : List (Addr × Obj)} : ∀ {a : List Value} {b : List (Int × List Int)}, WI news a b → a.length = b.length := by
  intro a b h
  induction h with
  | nil => rfl
  | cons _ _ _ _ ih => exact congrArg Nat.succ ih
theorem WI.get {news : List (Addr × Obj)} : ∀ {a : List Value} {b : List (Int × List Int)}, WI news a b → ∀ {i : Nat} {v : Value}, a[i]? = some v → ∃ T q u am xs tu kt kq, v = .ref T ∧ (T, tupO #[.int u tu, .ref q] kt) ∈ news ∧ (q, W.listOf (List.toArray xs) kq) ∈ news ∧ IntsAre xs am ∧ b[i]? = some (u, am) := by
  intro a b h
  induction h with
  | nil => intro i v e; exact nomatch (show (none : Option Value) = some v from e)
  | cons hT hq hI _ ih =>
    intro i v e
    cases i with
    | zero => exact ⟨_, _, _, _, _, _, _, _, (Option.some.inj e).symm, hT, hq, hI, rfl⟩
    | succ i => exact ih e
theorem strs_tx {f : Int × Int → List Int} : ∀ {ys : List Value} {txs : List Str} {l : List (Int × Int)}, StrsAre ys txs → TX f txs l → ∀ {i : Nat} {v : Value}, ys[i]? = some v → ∃ s t p, v = .str s t ∧ cpsI s = f p ∧ l[i]? = some p := by
  intro ys txs l h
  induction h generalizing l with
  | nil => intro _ i v e; exact nomatch (show (none : Option Value) = some v from e)
  | cons x t _ ih =>
    intro q
    cases q with
    | cons h q =>
      intro i v e
      cases i with
      | zero => exact ⟨_, _, _, (Option.some.inj e).symm, h, rfl⟩
      | succ i => exact ih q e
theorem strs_tx_len {f : Int × Int → List Int} : ∀ {ys : List Value} {txs : List Str} {l : List (Int × Int)}, StrsAre ys txs → TX f txs l → ys.length = l.length := by
  intro ys txs l h
  induction h generalizing l with
  | nil => intro q; cases q; rfl
  | cons x t _ ih => intro q; cases q with | cons h q => exact congrArg Nat.succ (ih q)
theorem prs_in : ∀ p ∈ prs 5, 0 ≤ p.1 ∧ p.1 < p.2 ∧ p.2 < 5 := by decide
theorem parse_ok3 (w : World) (b : Array UInt8) (tr : Tok) (l : List (List Int)) (news : List (Addr × Obj)) (hv : FlagText (b.map (·.toNat)) b.size) (hz : b.size ≤ 10000) (h9 : 9 ≤ b.size) (hc : cutOf b = l) :
   Ctr w 2 20 64 [.bytes b tr] news (fun _ v add => ∃ D ws, v = .ref D ∧ add = [(D, tupO ws.toArray 0)] ∧ BA ws l ∧ Off1 D news) := by
  subst hc; exact parse_ok w b tr hv hz h9 news
theorem flatP_congr {wd wd' : Nat → List Int} {ps : List (Nat × List Int)} (hp : ∀ p ∈ ps, p.1 < 5) (h : ∀ c, c < 5 → wd c = wd' c) : flatP wd ps = flatP wd' ps := by
  unfold flatP
  induction ps with
  | nil => rfl
  | cons p ps ih =>
    rw [List.flatMap_cons, List.flatMap_cons, ih fun q hq => hp q (List.mem_cons_of_mem _ hq), h p.1 (hp p List.mem_cons_self)]
section
variable {prog : Program} {w : World} {A : Around} {E : Value → Shared → Prop} {s : Shared} {h₀ : Heap} {L : Addr} {m : Str → Option Value} {env : Env}
theorem rest_indC {elt : Expr} {x : Str} {scope : Scope} {cl : List (Str × Addr)} {S : List (Addr × Obj) → Prop} {P : Nat → Value → Prop} {Fin : List Value → List (Addr × Obj) → Prop} {c6 c5 c4 c3 c2 c1 : Addr × Obj} {R₀ : List (Addr × Obj)} {n : Nat} (J : Nat → List Value → List (Addr × Obj) → Prop) (hR : ∀ p ∈ R₀, Off1 p.1 [c6, c5, c4, c3, c2, c1]) (h0 : J 0 [] R₀)
    (turn : ∀ i ys R, i < n → J i ys R → (∀ p ∈ R, Off1 p.1 [c6, c5, c4, c3, c2, c1]) → (∀ p ∈ R₀, p ∈ R) → ∀ v I oI C oC D m₂ h tk (E' : Value → Shared → Prop), P i v → NsObj oC m₂ → m₂ x = some v → Fr h₀ L h m → News h₀ L h ((I, oI) :: (C, oC) :: (D, lst ys) :: c6 :: c5 :: c4 :: c3 :: c2 :: c1 :: R) → Off3 I C D (c6 :: c5 :: c4 :: c3 :: c2 :: c1 :: R) → ((@Ne Nat I C) ∧ (@Ne Nat I D) ∧ (@Ne Nat C D)) →
      wpAny (model prog w) A (eval elt (compEnvC scope cl C env)) (CompEnd h₀ L m { s with heap := h, toks := tk } I oI C oC D (lst ys) S (fun y news' => ∃ R', news' = c6 :: c5 :: c4 :: c3 :: c2 :: c1 :: R' ∧ (∀ p ∈ R', Off1 p.1 [c6, c5, c4, c3, c2, c1]) ∧ (∀ p ∈ R₀, p ∈ R') ∧ J (i + 1) (ys ++ [y]) R')) E' { s with heap := h, toks := tk })
    (fin : ∀ ys R, J n ys R → (∀ p ∈ R, Off1 p.1 [c6, c5, c4, c3, c2, c1]) → (∀ p ∈ R₀, p ∈ R) → Fin ys (c6 :: c5 :: c4 :: c3 :: c2 :: c1 :: R)) : CompRest prog w A h₀ L m env elt x scope cl s S P Fin n 0 [] (c6 :: c5 :: c4 :: c3 :: c2 :: c1 :: R₀) := by
  refine rest_indG (fun i ys nw => ∃ R, nw = c6 :: c5 :: c4 :: c3 :: c2 :: c1 :: R ∧ (∀ p ∈ R, Off1 p.1 [c6, c5, c4, c3, c2, c1]) ∧ (∀ p ∈ R₀, p ∈ R) ∧ J i ys R) ⟨R₀, rfl, hR, fun _ h => h, h0⟩ ?_ ?_
  · rintro i ys _ hi ⟨R, rfl, h1, h2, hJ⟩
    exact turn i ys R hi hJ h1 h2
  · rintro ys _ ⟨R, rfl, h1, h2, hJ⟩
    exact fin ys R hJ h1 h2
theorem eq_none {a b : Addr} {xs : List Value} {Q : Value → Shared → Prop} (ha : s.heap.IsList a xs.toArray) (hb : s.heap.IsList b #[]) (hx : xs ≠ []) (hu : A.units < cLine) (h : Q (.bool false) s) : wpAny (model prog w) A (compareOp .Eq (.ref a) (.ref b)) Q E s := by
  refine SeqAt.eq_list_lengthsAt ha hb ?_ hu h
  rw [List.size_toArray]
  have : xs.length ≠ 0 := fun e => hx (List.length_eq_zero_iff.mp e)
  simpa using this
end
theorem drop_mid {d : Addr × Obj} {tab tup r : List (Addr × Obj)} : ∀ p ∈ d :: r, p ∈ [d] ++ (tab ++ (tup ++ r)) := fun p hp => by
  rcases List.mem_cons.mp hp with rfl | hp
  · exact List.mem_append_left _ List.mem_cons_self
  · exact List.mem_append_right _ (List.mem_append_right _ (List.mem_append_right _ hp))
noncomputable abbrev lus (P : Lmp) : List Int := [lumaZ P 0, lumaZ P 1, lumaZ P 2, lumaZ P 3, lumaZ P 4]
noncomputable abbrev mxs (P : Lmp) (a b c d e : Int) : List Int := [mixAt P [a, b, c, d, e] 0, mixAt P [a, b, c, d, e] 1, mixAt P [a, b, c, d, e] 2]
noncomputable def wayOf (P : Lmp) (lu ms : List Int) (p : Int × Int) : Int × List Int := (if P.G p.1.toNat p.2.toNat < 0 then -P.G p.1.toNat p.2.toNat else P.G p.1.toNat p.2.toNat, amtsZ P lu ms p.1 p.2)
theorem take_way {f : Int × Int → Int × List Int} {l : List (Int × Int)} {i : Nat} {p : Int × Int} (h : l[i]? = some p) : (l.map f).take (i + 1) = (l.map f).take i ++ [f p] := by
  rw [List.take_add_one, List.getElem?_map, h]; rfl
theorem encodeMeth {prog : Program} {w : World} {A : Around} {E : Value → Shared → Prop} {s : Shared} {x : Str} {t : Tok} {pl : Sem Bool} {Q : Value × List Value → Shared → Prop} (h : Q (.builtin "str.encode", [.str x t]) s) : wpAny (model prog w) A (getMethod (.str x t) (Str.ofString "encode") pl) Q E s :=
  GM.of (.str x t) (typeIs_str _ _ _) F.slot_str_encode F.type_str_encode GM.noRef h
theorem sub_way {a b c c6 c5 c4 c3 c2 c1 t q d : Addr × Obj} {R : List (Addr × Obj)} : ∀ p ∈ a :: b :: c :: c6 :: c5 :: c4 :: c3 :: c2 :: c1 :: t :: q :: R, p ∈ t :: q :: d :: a :: b :: c :: c6 :: c5 :: c4 :: c3 :: c2 :: c1 :: R := sub_cons (past3 _ mm0) (sub_cons (past3 _ mm1) (sub_cons (past3 _ mm2) (sub_cons (past6 _ mm0) (sub_cons (past6 _ mm1) (sub_cons (past6 _ mm2) (sub_cons (past6 _ mm3) (sub_cons (past6 _ mm4) (sub_cons (past6 _ mm5) (sub_cons mm0 (sub_cons mm1 (fun p h => past6 _ (past6 _ h))))))))))))
theorem off3_two {I C D : Addr} {c6 c5 c4 c3 c2 c1 t q : Addr × Obj} {R : List (Addr × Obj)} (h : Off3 I C D (c6 :: c5 :: c4 :: c3 :: c2 :: c1 :: R)) (t1 : @Ne Nat I t.1) (t2 : @Ne Nat C t.1) (t3 : @Ne Nat D t.1) (q1 : @Ne Nat I q.1) (q2 : @Ne Nat C q.1) (q3 : @Ne Nat D q.1) : Off3 I C D (c6 :: c5 :: c4 :: c3 :: c2 :: c1 :: t :: q :: R) :=
  have g : ∀ p ∈ c6 :: c5 :: c4 :: c3 :: c2 :: c1 :: R, p.1 ≠ I ∧ p.1 ≠ C ∧ p.1 ≠ D := fun p hp => h.mem p hp
  have a : ∀ {x : Addr × Obj} {l : List (Addr × Obj)}, (x.1 ≠ I ∧ x.1 ≠ C ∧ x.1 ≠ D) → (∀ p ∈ l, p.1 ≠ I ∧ p.1 ≠ C ∧ p.1 ≠ D) → ∀ p ∈ x :: l, p.1 ≠ I ∧ p.1 ≠ C ∧ p.1 ≠ D := fun h t => List.forall_mem_cons.mpr ⟨h, t⟩
  Off3.of (a (g _ mm0) (a (g _ mm1) (a (g _ mm2) (a (g _ mm3) (a (g _ mm4) (a (g _ mm5) (a ⟨Ne.symm t1, Ne.symm t2, Ne.symm t3⟩ (a ⟨Ne.symm q1, Ne.symm q2, Ne.symm q3⟩ (fun p hp => g p (past6 p hp))))))))))
theorem WI.head {news : List (Addr × Obj)} {a : List Value} {b : List (Int × List Int)} (h : WI news a b) (hne : a ≠ []) : ∃ T q u am xs tu kt kq r l, a = Value.ref T :: r ∧ b = (u, am) :: l ∧ (T, tupO #[.int u tu, .ref q] kt) ∈ news ∧ (q, W.listOf (List.toArray xs) kq) ∈ news ∧ IntsAre xs am := by
  cases h with
  | nil => exact absurd rfl hne
  | cons hT hq hI t => exact ⟨_, _, _, _, _, _, _, _, _, _, rfl, rfl, hT, hq, hI⟩
section
variable {prog : Program} {w : World} {A : Around} {E : Value → Shared → Prop} {s : Shared} {h₀ : Heap} {L : Addr} {m : Str → Option Value} {env : Env}
theorem news_tail3 {h₀ h : Heap} {L : Addr} {a b c : Addr × Obj} {r : List (Addr × Obj)} (N : News h₀ L h (a :: b :: c :: r)) : News h₀ L h r := fun p hp => N p (List.mem_cons_of_mem _ (List.mem_cons_of_mem _ (List.mem_cons_of_mem _ hp)))
end
structure WaysOk (P : Lmp) (m0 m1 m2 : Int) (wz : List (Int × List Int)) : Prop where
  some : wz ≠ []
  fit : ∀ w ∈ wz, w.2.length = 5 ∧ Sm w.1 ∧ FlOk 262144 (mixAt P w.2 0) (mixAt P w.2 1) (mixAt P w.2 2) ∧ wY (mixAt P w.2 0) (mixAt P w.2 1) (mixAt P w.2 2) ≤ w.1 * wY m0 m1 m2 ∧ wI (mixAt P w.2 0) (mixAt P w.2 1) (mixAt P w.2 2) = w.1 * wI m0 m1 m2 ∧ wQ (mixAt P w.2 0) (mixAt P w.2 1) (mixAt P w.2 2) = w.1 * wQ m0 m1 m2
  one : ∀ w ∈ wz, ∀ v ∈ wz, (v.2.map fun x => x * w.1) = w.2.map fun x => x * v.1
theorem flok1024 {m0 m1 m2 : Int} (h : ∀ x ∈ [m0, m1, m2], 0 ≤ x ∧ x ≤ 600) : FlOk 1024 m0 m1 m2 := by
  have h0 := h m0 (by simp)
  have h1 := h m1 (by simp)
  have h2 := h m2 (by simp)
  exact flok_of (.inr (.inl rfl)) h0.1 (by exact lin1 (cx1 _) (.var 0) (.num 600) (.mulL 10 (.var 0)) (.mulL 11 (.num 1024)) 10 1 rfl h0.2) h1.1 (by exact lin1 (cx1 _) (.var 0) (.num 600) (.mulL 10 (.var 0)) (.mulL 11 (.num 1024)) 10 1 rfl h1.2) h2.1 (by exact lin1 (cx1 _) (.var 0) (.num 600) (.mulL 10 (.var 0)) (.mulL 11 (.num 1024)) 10 1 rfl h2.2)
theorem mix_600 {P : Lmp} (hO : P.Ok) {a b c d e : Int} (h : ∀ x ∈ [a, b, c, d, e], 0 ≤ x ∧ x ≤ 8) : ∀ x ∈ [mixAt P [a, b, c, d, e] 0, mixAt P [a, b, c, d, e] 1, mixAt P [a, b, c, d, e] 2], 0 ≤ x ∧ x ≤ 600 := by
  intro x hx
  simp only [List.mem_cons, List.not_mem_nil, or_false] at hx
  rcases hx with rfl | rfl | rfl <;> (have := mixAt_rng hO h 0; have := mixAt_rng hO h 1; have := mixAt_rng hO h 2; (first | exact ⟨lin1 (cx1 _) (.num 0) (.var 0) (.num 0) (.var 0) 1 1 rfl this.1, lin1 (cx1 _) (.var 0) (.mulL 75 (.num 8)) (.var 0) (.num 600) 1 1 rfl this.2⟩ | omega))
end
section
noncomputable def S5 (f : Nat → Int) : Int := f 0 + f 1 + f 2 + f 3 + f 4
noncomputable def crI (X Y : Nat → Int) (a b : Nat) : Int := X a * Y b - Y a * X b
noncomputable def SSI (X Y C : Nat → Int) (a b c : Nat) : Int := C a * crI X Y b c + C b * crI X Y c a + C c * crI X Y a b
theorem S5_congr {f g : Nat → Int} (h : ∀ i, i < 5 → f i = g i) : S5 f = S5 g := by
  unfold S5; rw [h 0 (by decide), h 1 (by decide), h 2 (by decide), h 3 (by decide), h 4 (by decide)]
theorem S5_nonpos {f : Nat → Int} (h : ∀ i, i < 5 → f i ≤ 0) : S5 f ≤ 0 ∧ (S5 f = 0 → ∀ i, i < 5 → f i = 0) := by
  have h0 := h 0 (by decide); have h1 := h 1 (by decide); have h2 := h 2 (by decide); have h3 := h 3 (by decide); have h4 := h 4 (by decide)
  unfold S5
  refine ⟨by exact lin5 (cx5 _ _ _ _ _) (.var 0) (.num 0) (.var 1) (.num 0) (.var 2) (.num 0) (.var 3) (.num 0) (.var 4) (.num 0) (.add (.add (.add (.add (.var 0) (.var 1)) (.var 2)) (.var 3)) (.var 4)) (.num 0) 1 1 1 1 1 1 rfl h0 h1 h2 h3 h4, fun e i hi => ?_⟩
  have : i = 0 ∨ i = 1 ∨ i = 2 ∨ i = 3 ∨ i = 4 := lin_or5 (by exact gnlt (lin1 (cx1 _) (.add (.var 0) (.num 1)) (.num 5) (.add (.var 0) (.num 1)) (.num 5) 1 1 rfl (nlt hi)))
  rcases this with rfl | rfl | rfl | rfl | rfl <;> (first | exact Int.le_antisymm (lin1 (cx1 _) (.var 0) (.num 0) (.var 0) (.num 0) 1 1 rfl h0) (lin5 (cx5 _ _ _ _ _) (.var 0) (.num 0) (.var 1) (.num 0) (.var 2) (.num 0) (.var 3) (.num 0) (.num 0) (.add (.add (.add (.add (.var 4) (.var 0)) (.var 1)) (.var 2)) (.var 3)) (.num 0) (.var 4) 1 1 1 1 1 1 rfl h1 h2 h3 h4 (ieq2 e)) | exact Int.le_antisymm (lin1 (cx1 _) (.var 0) (.num 0) (.var 0) (.num 0) 1 1 rfl h1) (lin5 (cx5 _ _ _ _ _) (.var 0) (.num 0) (.var 1) (.num 0) (.var 2) (.num 0) (.var 3) (.num 0) (.num 0) (.add (.add (.add (.add (.var 0) (.var 4)) (.var 1)) (.var 2)) (.var 3)) (.num 0) (.var 4) 1 1 1 1 1 1 rfl h0 h2 h3 h4 (ieq2 e)) | exact Int.le_antisymm (lin1 (cx1 _) (.var 0) (.num 0) (.var 0) (.num 0) 1 1 rfl h2) (lin5 (cx5 _ _ _ _ _) (.var 0) (.num 0) (.var 1) (.num 0) (.var 2) (.num 0) (.var 3) (.num 0) (.num 0) (.add (.add (.add (.add (.var 0) (.var 1)) (.var 4)) (.var 2)) (.var 3)) (.num 0) (.var 4) 1 1 1 1 1 1 rfl h0 h1 h3 h4 (ieq2 e)) | exact Int.le_antisymm (lin1 (cx1 _) (.var 0) (.num 0) (.var 0) (.num 0) 1 1 rfl h3) (lin5 (cx5 _ _ _ _ _) (.var 0) (.num 0) (.var 1) (.num 0) (.var 2) (.num 0) (.var 3) (.num 0) (.num 0) (.add (.add (.add (.add (.var 0) (.var 1)) (.var 2)) (.var 4)) (.var 3)) (.num 0) (.var 4) 1 1 1 1 1 1 rfl h0 h1 h2 h4 (ieq2 e)) | exact Int.le_antisymm (lin1 (cx1 _) (.var 0) (.num 0) (.var 0) (.num 0) 1 1 rfl h4) (lin5 (cx5 _ _ _ _ _) (.var 0) (.num 0) (.var 1) (.num 0) (.var 2) (.num 0) (.var 3) (.num 0) (.num 0) (.add (.add (.add (.add (.var 0) (.var 1)) (.var 2)) (.var 3)) (.var 4)) (.num 0) (.var 4) 1 1 1 1 1 1 rfl h0 h1 h2 h3 (ieq2 e)))
theorem S5_one {f : Nat → Int} {a : Nat} (ha : a < 5) (h : ∀ i, i < 5 → i ≠ a → f i = 0) : S5 f = f a := by
  unfold S5
  have : a = 0 ∨ a = 1 ∨ a = 2 ∨ a = 3 ∨ a = 4 := lin_or5 (by exact gnlt (lin1 (cx1 _) (.add (.var 0) (.num 1)) (.num 5) (.add (.var 0) (.num 1)) (.num 5) 1 1 rfl (nlt ha)))
  rcases this with rfl | rfl | rfl | rfl | rfl
  · have q1 := h 1 (by decide) (by decide); have q2 := h 2 (by decide) (by decide); have q3 := h 3 (by decide) (by decide); have q4 := h 4 (by decide) (by decide); exact Int.le_antisymm (lin4 (cx5 _ _ _ _ _) (.var 0) (.num 0) (.var 1) (.num 0) (.var 2) (.num 0) (.var 3) (.num 0) (.add (.add (.add (.add (.var 4) (.var 0)) (.var 1)) (.var 2)) (.var 3)) (.var 4) 1 1 1 1 1 rfl (ieq1 q1) (ieq1 q2) (ieq1 q3) (ieq1 q4)) (lin4 (cx5 _ _ _ _ _) (.num 0) (.var 0) (.num 0) (.var 1) (.num 0) (.var 2) (.num 0) (.var 3) (.var 4) (.add (.add (.add (.add (.var 4) (.var 0)) (.var 1)) (.var 2)) (.var 3)) 1 1 1 1 1 rfl (ieq2 q1) (ieq2 q2) (ieq2 q3) (ieq2 q4))
  · have q1 := h 0 (by decide) (by decide); have q2 := h 2 (by decide) (by decide); have q3 := h 3 (by decide) (by decide); have q4 := h 4 (by decide) (by decide); exact Int.le_antisymm (lin4 (cx5 _ _ _ _ _) (.var 0) (.num 0) (.var 1) (.num 0) (.var 2) (.num 0) (.var 3) (.num 0) (.add (.add (.add (.add (.var 0) (.var 4)) (.var 1)) (.var 2)) (.var 3)) (.var 4) 1 1 1 1 1 rfl (ieq1 q1) (ieq1 q2) (ieq1 q3) (ieq1 q4)) (lin4 (cx5 _ _ _ _ _) (.num 0) (.var 0) (.num 0) (.var 1) (.num 0) (.var 2) (.num 0) (.var 3) (.var 4) (.add (.add (.add (.add (.var 0) (.var 4)) (.var 1)) (.var 2)) (.var 3)) 1 1 1 1 1 rfl (ieq2 q1) (ieq2 q2) (ieq2 q3) (ieq2 q4))
  · have q1 := h 0 (by decide) (by decide); have q2 := h 1 (by decide) (by decide); have q3 := h 3 (by decide) (by decide); have q4 := h 4 (by decide) (by decide); exact Int.le_antisymm (lin4 (cx5 _ _ _ _ _) (.var 0) (.num 0) (.var 1) (.num 0) (.var 2) (.num 0) (.var 3) (.num 0) (.add (.add (.add (.add (.var 0) (.var 1)) (.var 4)) (.var 2)) (.var 3)) (.var 4) 1 1 1 1 1 rfl (ieq1 q1) (ieq1 q2) (ieq1 q3) (ieq1 q4)) (lin4 (cx5 _ _ _ _ _) (.num 0) (.var 0) (.num 0) (.var 1) (.num 0) (.var 2) (.num 0) (.var 3) (.var 4) (.add (.add (.add (.add (.var 0) (.var 1)) (.var 4)) (.var 2)) (.var 3)) 1 1 1 1 1 rfl (ieq2 q1) (ieq2 q2) (ieq2 q3) (ieq2 q4))
  · have q1 := h 0 (by decide) (by decide); have q2 := h 1 (by decide) (by decide); have q3 := h 2 (by decide) (by decide); have q4 := h 4 (by decide) (by decide); exact Int.le_antisymm (lin4 (cx5 _ _ _ _ _) (.var 0) (.num 0) (.var 1) (.num 0) (.var 2) (.num 0) (.var 3) (.num 0) (.add (.add (.add (.add (.var 0) (.var 1)) (.var 2)) (.var 4)) (.var 3)) (.var 4) 1 1 1 1 1 rfl (ieq1 q1) (ieq1 q2) (ieq1 q3) (ieq1 q4)) (lin4 (cx5 _ _ _ _ _) (.num 0) (.var 0) (.num 0) (.var 1) (.num 0) (.var 2) (.num 0) (.var 3) (.var 4) (.add (.add (.add (.add (.var 0) (.var 1)) (.var 2)) (.var 4)) (.var 3)) 1 1 1 1 1 rfl (ieq2 q1) (ieq2 q2) (ieq2 q3) (ieq2 q4))
  · have q1 := h 0 (by decide) (by decide); have q2 := h 1 (by decide) (by decide); have q3 := h 2 (by decide) (by decide); have q4 := h 3 (by decide) (by decide); exact Int.le_antisymm (lin4 (cx5 _ _ _ _ _) (.var 0) (.num 0) (.var 1) (.num 0) (.var 2) (.num 0) (.var 3) (.num 0) (.add (.add (.add (.add (.var 0) (.var 1)) (.var 2)) (.var 3)) (.var 4)) (.var 4) 1 1 1 1 1 rfl (ieq1 q1) (ieq1 q2) (ieq1 q3) (ieq1 q4)) (lin4 (cx5 _ _ _ _ _) (.num 0) (.var 0) (.num 0) (.var 1) (.num 0) (.var 2) (.num 0) (.var 3) (.var 4) (.add (.add (.add (.add (.var 0) (.var 1)) (.var 2)) (.var 3)) (.var 4)) 1 1 1 1 1 rfl (ieq2 q1) (ieq2 q2) (ieq2 q3) (ieq2 q4))
theorem S5_plus (f g : Nat → Int) : S5 (fun i => f i + g i) = S5 f + S5 g := by
  show f 0 + g 0 + (f 1 + g 1) + (f 2 + g 2) + (f 3 + g 3) + (f 4 + g 4) = f 0 + f 1 + f 2 + f 3 + f 4 + (g 0 + g 1 + g 2 + g 3 + g 4)
  exact Int.le_antisymm (lin0 (cx10 _ _ _ _ _ _ _ _ _ _) (.add (.add (.add (.add (.add (.var 0) (.var 1)) (.add (.var 2) (.var 3))) (.add (.var 4) (.var 5))) (.add (.var 6) (.var 7))) (.add (.var 8) (.var 9))) (.add (.add (.add (.add (.add (.var 0) (.var 2)) (.var 4)) (.var 6)) (.var 8)) (.add (.add (.add (.add (.var 1) (.var 3)) (.var 5)) (.var 7)) (.var 9))) 1 rfl) (lin0 (cx10 _ _ _ _ _ _ _ _ _ _) (.add (.add (.add (.add (.add (.var 0) (.var 1)) (.var 2)) (.var 3)) (.var 4)) (.add (.add (.add (.add (.var 5) (.var 6)) (.var 7)) (.var 8)) (.var 9))) (.add (.add (.add (.add (.add (.var 0) (.var 5)) (.add (.var 1) (.var 6))) (.add (.var 2) (.var 7))) (.add (.var 3) (.var 8))) (.add (.var 4) (.var 9))) 1 rfl)
theorem S5_two {f g : Nat → Int} {a b : Nat} (ha : a < 5) (hb : b < 5) (hab : a ≠ b) (h : ∀ i, i < 5 → i ≠ a → i ≠ b → f i = g i) (ga : g a = 0) (gb : g b = 0) : S5 f = f a + f b + S5 g := by
  have k : S5 f = S5 (fun i => if i = a then f a else 0) + S5 (fun i => if i = b then f b else 0) + S5 g := by
    have : ∀ i, i < 5 → f i = (if i = a then f a else 0) + (if i = b then f b else 0) + g i := fun i hi => by
      by_cases ia : i = a
      · subst ia; rw [if_pos rfl, if_neg hab, ga]; exact Int.le_antisymm (lin0 (cx1 _) (.var 0) (.add (.add (.var 0) (.num 0)) (.num 0)) 1 rfl) (lin0 (cx1 _) (.add (.add (.var 0) (.num 0)) (.num 0)) (.var 0) 1 rfl)
      · by_cases ib : i = b
        · subst ib; rw [if_neg ia, if_pos rfl, gb]; exact Int.le_antisymm (lin0 (cx1 _) (.var 0) (.add (.add (.num 0) (.var 0)) (.num 0)) 1 rfl) (lin0 (cx1 _) (.add (.add (.num 0) (.var 0)) (.num 0)) (.var 0) 1 rfl)
        · rw [if_neg ia, if_neg ib, h i hi ia ib]; exact Int.le_antisymm (lin0 (cx1 _) (.var 0) (.add (.add (.num 0) (.num 0)) (.var 0)) 1 rfl) (lin0 (cx1 _) (.add (.add (.num 0) (.num 0)) (.var 0)) (.var 0) 1 rfl)
    rw [S5_congr this, S5_plus (fun i => (if i = a then f a else 0) + (if i = b then f b else 0)) g, S5_plus]
  rw [k, S5_one (f := fun i => if i = a then f a else 0) ha (fun i _ h => if_neg h), S5_one (f := fun i => if i = b then f b else 0) hb (fun i _ h => if_neg h), if_pos rfl, if_pos rfl]
theorem ss_eq {X Y C : Nat → Int} {a b c : Nat} : crI X Y a b * C c = (C a * Y b - C b * Y a) * X c + (C b * X a - C a * X b) * Y c + SSI X Y C a b c := by
  unfold SSI crI; grind
theorem swing {X Y C D : Nat → Int} {a b : Nat} (hx : S5 (fun i => D i * X i) = 0) (hy : S5 (fun i => D i * Y i) = 0) : crI X Y a b * S5 (fun i => D i * C i) = S5 fun i => D i * SSI X Y C a b i := by
  have e0 := ss_eq (X := X) (Y := Y) (C := C) (a := a) (b := b) (c := 0)
  have e1 := ss_eq (X := X) (Y := Y) (C := C) (a := a) (b := b) (c := 1)
  have e2 := ss_eq (X := X) (Y := Y) (C := C) (a := a) (b := b) (c := 2)
  have e3 := ss_eq (X := X) (Y := Y) (C := C) (a := a) (b := b) (c := 3)
  have e4 := ss_eq (X := X) (Y := Y) (C := C) (a := a) (b := b) (c := 4)
  have f : ∀ c, SSI X Y C a b c = crI X Y a b * C c - (C a * Y b - C b * Y a) * X c - (C b * X a - C a * X b) * Y c := fun c => by
    have := ss_eq (X := X) (Y := Y) (C := C) (a := a) (b := b) (c := c)
    exact Int.le_antisymm (lin1 (cx4 _ _ _ _) (.add (.add (.var 0) (.var 1)) (.var 2)) (.var 3) (.var 2) (.sub (.sub (.var 3) (.var 0)) (.var 1)) 1 1 rfl (ieq2 this)) (lin1 (cx4 _ _ _ _) (.var 0) (.add (.add (.var 1) (.var 2)) (.var 3)) (.sub (.sub (.var 0) (.var 1)) (.var 2)) (.var 3) 1 1 rfl (ieq1 this))
  have g : S5 (fun i => D i * SSI X Y C a b i) = crI X Y a b * S5 (fun i => D i * C i) - (C a * Y b - C b * Y a) * S5 (fun i => D i * X i) - (C b * X a - C a * X b) * S5 (fun i => D i * Y i) := by
    simp only [S5, f]
    generalize crI X Y a b = T
    generalize C a * Y b - C b * Y a = p
    generalize C b * X a - C a * X b = q
    clear e0 e1 e2 e3 e4 f hx hy
    grind
  rw [g, hx, hy]
  simp
structure Way (X Y C m : Nat → Int) (a b : Nat) (s U : Int) (A : Nat → Int) : Prop where
  ha : a < 5
  hb : b < 5
  hab : a ≠ b
  hs : U = s * crI X Y a b
  hU : 0 < U
  gen : ∀ c, c < 5 → c ≠ a → c ≠ b → SSI X Y C a b c ≠ 0
  lit : ∀ c, c < 5 → c ≠ a → c ≠ b → s * SSI X Y C a b c < 0 → A c = 8 * U
  off : ∀ c, c < 5 → c ≠ a → c ≠ b → 0 < s * SSI X Y C a b c → A c = 0
  rng : ∀ c, c < 5 → 0 ≤ A c ∧ A c ≤ 8 * U
  cx : S5 (fun i => A i * X i) = U * S5 (fun i => m i * X i)
  cy : S5 (fun i => A i * Y i) = U * S5 (fun i => m i * Y i)
theorem SSI_a {X Y C : Nat → Int} {a b : Nat} : SSI X Y C a b a = 0 := by unfold SSI crI; grind
theorem SSI_b {X Y C : Nat → Int} {a b : Nat} : SSI X Y C a b b = 0 := by unfold SSI crI; grind
theorem Way.s0 {X Y C m A : Nat → Int} {a b : Nat} {s U : Int} (w : Way X Y C m a b s U A) : s ≠ 0 ∧ crI X Y a b ≠ 0 := by
  have h1 := w.hs
  have h2 := w.hU
  constructor
  · intro e; rw [e] at h1; exact gfalse (lin2 (cx2 _ _) (.var 0) (.mulL 0 (.var 1)) (.add (.num 0) (.num 1)) (.var 0) (.num 1) (.num 0) 1 1 1 rfl (ieq1 h1) h2)
  · intro e; rw [e] at h1; exact gfalse (lin2 (cx2 _ _) (.var 0) (.mulR (.var 1) 0) (.add (.num 0) (.num 1)) (.var 0) (.num 1) (.num 0) 1 1 1 rfl (ieq1 h1) h2)
theorem Way.best {X Y C m A : Nat → Int} {a b : Nat} {s U : Int} (w : Way X Y C m a b s U A) {k : Int} {n : Nat → Int} (hn : ∀ i, i < 5 → 0 ≤ n i ∧ n i ≤ 8 * k)
    (hx : U * S5 (fun i => n i * X i) = k * S5 (fun i => A i * X i)) (hy : U * S5 (fun i => n i * Y i) = k * S5 (fun i => A i * Y i)) :
    S5 (fun i => (k * A i - U * n i) * C i) ≤ 0 ∧ (S5 (fun i => (k * A i - U * n i) * C i) = 0 → ∀ i, i < 5 → k * A i = U * n i) := by
  have dx : S5 (fun i => (k * A i - U * n i) * X i) = 0 := by simp only [S5] at hx ⊢; grind
  have dy : S5 (fun i => (k * A i - U * n i) * Y i) = 0 := by simp only [S5] at hy ⊢; grind
  have sw := swing (C := C) (a := a) (b := b) dx dy
  have hU := w.hU
  have key : U * S5 (fun i => (k * A i - U * n i) * C i) = S5 fun i => (k * A i - U * n i) * (s * SSI X Y C a b i) := by
    rw [w.hs, Int.mul_assoc, ← w.hs, sw]
    simp only [S5]; grind
  have term : ∀ i, i < 5 → (k * A i - U * n i) * (s * SSI X Y C a b i) ≤ 0 := by
    intro i hi
    obtain ⟨n0, n8⟩ := hn i hi
    by_cases ia : i = a
    · subst ia; rw [SSI_a]; simp
    · by_cases ib : i = b
      · subst ib; rw [SSI_b]; simp
      · rcases Int.lt_trichotomy (s * SSI X Y C a b i) 0 with h | h | h
        · rw [w.lit i hi ia ib h]
          have : 0 ≤ U * (8 * k - n i) := Int.mul_nonneg (by exact lin1 (cx1 _) (.add (.num 0) (.num 1)) (.var 0) (.num 0) (.var 0) 1 1 rfl hU) (by exact lin1 (cx2 _ _) (.var 0) (.mulL 8 (.var 1)) (.num 0) (.sub (.mulL 8 (.var 1)) (.var 0)) 1 1 rfl n8)
          have e : k * (8 * U) - U * n i = U * (8 * k - n i) := by grind
          rw [e]
          exact Int.mul_nonpos_of_nonneg_of_nonpos this (by exact lin1 (cx1 _) (.add (.var 0) (.num 1)) (.num 0) (.var 0) (.num 0) 1 1 rfl h)
        · rw [h]; simp
        · rw [w.off i hi ia ib h]
          have : 0 ≤ U * n i := Int.mul_nonneg (by exact lin1 (cx1 _) (.add (.num 0) (.num 1)) (.var 0) (.num 0) (.var 0) 1 1 rfl hU) (by exact lin1 (cx1 _) (.num 0) (.var 0) (.num 0) (.var 0) 1 1 rfl n0)
          exact Int.mul_nonpos_of_nonpos_of_nonneg (by exact lin1 (cx2 _ _) (.num 0) (.var 0) (.sub (.mulR (.var 1) 0) (.var 0)) (.num 0) 1 1 rfl this) (by exact lin1 (cx1 _) (.add (.num 0) (.num 1)) (.var 0) (.num 0) (.var 0) 1 1 rfl h)
  obtain ⟨t1, t2⟩ := S5_nonpos term
  constructor
  · rw [← key] at t1
    by_cases h : 0 < S5 (fun i => (k * A i - U * n i) * C i)
    · have := Int.mul_pos hU h; omega
    · exact lin1 (cx1 _) (.var 0) (.num 0) (.var 0) (.num 0) 1 1 rfl (inlt h)
  · intro e
    rw [e, Int.mul_zero] at key
    have t3 := t2 key.symm
    have hs0 := w.s0
    have z : ∀ i, i < 5 → i ≠ a → i ≠ b → k * A i - U * n i = 0 := by
      intro i hi ia ib
      rcases Int.mul_eq_zero.mp (t3 i hi) with h | h
      · exact h
      · rcases Int.mul_eq_zero.mp h with h | h
        · exact absurd h hs0.1
        · exact absurd h (w.gen i hi ia ib)
    have za : k * A a - U * n a = 0 := by
      have e1 : S5 (fun i => (k * A i - U * n i) * crI X Y i b) = 0 := by
        have : S5 (fun i => (k * A i - U * n i) * crI X Y i b) = S5 (fun i => (k * A i - U * n i) * X i) * Y b - S5 (fun i => (k * A i - U * n i) * Y i) * X b := by
          simp only [S5, crI]; grind
        rw [this, dx, dy]; simp
      rw [S5_one w.ha (fun i hi ia => by
        by_cases ib : i = b
        · subst ib; unfold crI; grind
        · show (k * A i - U * n i) * _ = 0
          rw [z i hi ia ib]; simp)] at e1
      rcases Int.mul_eq_zero.mp e1 with h | h
      · exact h
      · exact absurd h hs0.2
    have zb : k * A b - U * n b = 0 := by
      have e1 : S5 (fun i => (k * A i - U * n i) * crI X Y a i) = 0 := by
        have : S5 (fun i => (k * A i - U * n i) * crI X Y a i) = S5 (fun i => (k * A i - U * n i) * Y i) * X a - S5 (fun i => (k * A i - U * n i) * X i) * Y a := by
          simp only [S5, crI]; grind
        rw [this, dx, dy]; simp
      rw [S5_one w.hb (fun i hi ib => by
        by_cases ia : i = a
        · subst ia; unfold crI; grind
        · show (k * A i - U * n i) * _ = 0
          rw [z i hi ia ib]; simp)] at e1
      rcases Int.mul_eq_zero.mp e1 with h | h
      · exact h
      · exact absurd h hs0.2
    intro i hi
    by_cases ia : i = a
    · subst ia; exact Int.le_antisymm (lin1 (cx2 _ _) (.sub (.var 0) (.var 1)) (.num 0) (.var 0) (.var 1) 1 1 rfl (ieq1 za)) (lin1 (cx2 _ _) (.num 0) (.sub (.var 0) (.var 1)) (.var 1) (.var 0) 1 1 rfl (ieq2 za))
    · by_cases ib : i = b
      · subst ib; exact Int.le_antisymm (lin1 (cx2 _ _) (.sub (.var 0) (.var 1)) (.num 0) (.var 0) (.var 1) 1 1 rfl (ieq1 zb)) (lin1 (cx2 _ _) (.num 0) (.sub (.var 0) (.var 1)) (.var 1) (.var 0) 1 1 rfl (ieq2 zb))
      · have := z i hi ia ib; exact Int.le_antisymm (lin1 (cx2 _ _) (.sub (.var 0) (.var 1)) (.num 0) (.var 0) (.var 1) 1 1 rfl (ieq1 this)) (lin1 (cx2 _ _) (.num 0) (.sub (.var 0) (.var 1)) (.var 1) (.var 0) 1 1 rfl (ieq2 this))
theorem Way.cost {X Y C m A : Nat → Int} {a b : Nat} {s U : Int} (w : Way X Y C m a b s U A) (hm : ∀ i, i < 5 → 0 ≤ m i ∧ m i ≤ 8) : S5 (fun i => A i * C i) ≤ U * S5 (fun i => m i * C i) := by
  have h := (w.best (k := 1) (n := m) (fun i hi => by have := hm i hi; exact ⟨lin1 (cx1 _) (.num 0) (.var 0) (.num 0) (.var 0) 1 1 rfl this.1, lin1 (cx1 _) (.var 0) (.num 8) (.var 0) (.mulL 8 (.num 1)) 1 1 rfl this.2⟩) (by rw [w.cx]; exact Int.le_antisymm (lin0 (cx1 _) (.var 0) (.mulL 1 (.var 0)) 1 rfl) (lin0 (cx1 _) (.mulL 1 (.var 0)) (.var 0) 1 rfl)) (by rw [w.cy]; exact Int.le_antisymm (lin0 (cx1 _) (.var 0) (.mulL 1 (.var 0)) 1 rfl) (lin0 (cx1 _) (.mulL 1 (.var 0)) (.var 0) 1 rfl))).1
  have e : S5 (fun i => (1 * A i - U * m i) * C i) = S5 (fun i => A i * C i) - U * S5 (fun i => m i * C i) := by simp only [S5]; grind
  exact lin2 (cx3 _ _ _) (.var 0) (.num 0) (.sub (.var 1) (.var 2)) (.var 0) (.var 1) (.var 2) 1 1 1 rfl h (ieq2 e)
theorem Way.one {X Y C m A A' : Nat → Int} {a b a' b' : Nat} {s s' U U' : Int} (w : Way X Y C m a b s U A) (w' : Way X Y C m a' b' s' U' A') : ∀ i, i < 5 → U' * A i = U * A' i := by
  have hx : U * S5 (fun i => A' i * X i) = U' * S5 (fun i => A i * X i) := by rw [w.cx, w'.cx]; grind
  have hy : U * S5 (fun i => A' i * Y i) = U' * S5 (fun i => A i * Y i) := by rw [w.cy, w'.cy]; grind
  have h1 := w.best (k := U') (n := A') w'.rng hx hy
  have h2 := w'.best (k := U) (n := A) w.rng hx.symm hy.symm
  have e : S5 (fun i => (U * A' i - U' * A i) * C i) = -S5 (fun i => (U' * A i - U * A' i) * C i) := by simp only [S5]; grind
  exact h1.2 (by exact Int.le_antisymm (lin1 (cx1 _) (.var 0) (.num 0) (.var 0) (.num 0) 1 1 rfl h1.1) (lin2 (cx2 _ _) (.var 0) (.num 0) (.neg (.var 1)) (.var 0) (.num 0) (.var 1) 1 1 1 rfl h2.1 (ieq2 e)))
end
section
noncomputable def pos (z : Rat) : Rat := if 0 < z then z else 0
theorem pos_of_pos {z : Rat} (h : 0 < z) : pos z = z := if_pos h
theorem pos_of_npos {z : Rat} (h : ¬ 0 < z) : pos z = 0 := if_neg h
theorem pos_nonneg (z : Rat) : 0 ≤ pos z := by unfold pos; split <;> grind
theorem le_pos (z : Rat) : z ≤ pos z := by unfold pos; split <;> grind

noncomputable def psum : List (Rat × Rat) → Rat → Rat
  | [], _ => 0
  | e :: l, t => pos (e.1 * t - e.2) + psum l t
noncomputable def sl (e : Rat × Rat) (t : Rat) : Rat := if 0 < e.1 * t - e.2 then e.1 else if e.1 * t - e.2 = 0 then pos e.1 else 0
noncomputable def ssum : List (Rat × Rat) → Rat → Rat
  | [], _ => 0
  | e :: l, t => sl e t + ssum l t

theorem mul_pos_iff_right {a b : Rat} (ha : 0 < a) : 0 < a * b ↔ 0 < b := by
  constructor
  · intro h
    apply Classical.byContradiction
    intro hb
    have : a * b ≤ a * 0 := Rat.mul_le_mul_of_nonneg_left (by grind) (by grind)
    grind
  · intro h; exact Rat.mul_pos ha h

theorem one_line {p q t u : Rat} (htu : t < u) (hb : p ≠ 0 → t < q / p → u ≤ q / p) : pos (p * u - q) = pos (p * t - q) + sl (p, q) t * (u - t) := by
  have hqp : p ≠ 0 → p * (q / p) = q := fun h => by grind
  unfold sl
  by_cases h1 : 0 < p * t - q
  · rw [if_pos h1, pos_of_pos h1]
    by_cases hp : p = 0
    · subst hp; rw [pos_of_pos (by grind)]; grind
    · have e := hqp hp
      by_cases hs : 0 < p
      · have : 0 ≤ p * (u - t) := Rat.mul_nonneg (by grind) (by grind)
        rw [pos_of_pos (by grind)]; grind
      · -- p < 0, the break lies to the right of t
        have hlt : t < q / p := by
          apply Classical.byContradiction; intro hn
          have : 0 ≤ (-p) * (t - q / p) := Rat.mul_nonneg (by grind) (by grind)
          grind
        have hu := hb hp hlt
        have : 0 ≤ (-p) * (q / p - u) := Rat.mul_nonneg (by grind) (by grind)
        by_cases h2 : 0 < p * u - q
        · rw [pos_of_pos h2]; grind
        · rw [pos_of_npos h2]; grind
  · rw [if_neg h1, pos_of_npos h1]
    by_cases h0 : p * t - q = 0
    · rw [if_pos h0]
      by_cases hs : 0 < p
      · have : 0 < p * (u - t) := Rat.mul_pos hs (by grind)
        rw [pos_of_pos hs, pos_of_pos (by grind)]; grind
      · have : 0 ≤ (-p) * (u - t) := Rat.mul_nonneg (by grind) (by grind)
        rw [pos_of_npos hs, pos_of_npos (by grind)]; grind
    · rw [if_neg h0]
      by_cases hp : p = 0
      · subst hp; rw [pos_of_npos (by grind)]; grind
      · have e := hqp hp
        by_cases hs : 0 < p
        · have hlt : t < q / p := by
            apply Classical.byContradiction; intro hn
            have : 0 ≤ p * (t - q / p) := Rat.mul_nonneg (by grind) (by grind)
            grind
          have hu := hb hp hlt
          have : 0 ≤ p * (q / p - u) := Rat.mul_nonneg (by grind) (by grind)
          rw [pos_of_npos (by grind)]; grind
        · have : 0 ≤ (-p) * (u - t) := Rat.mul_nonneg (by grind) (by grind)
          rw [pos_of_npos (by grind)]; grind

theorem all_line : ∀ (l : List (Rat × Rat)) {t u : Rat}, t < u → (∀ e ∈ l, e.1 ≠ 0 → t < e.2 / e.1 → u ≤ e.2 / e.1) → psum l u = psum l t + ssum l t * (u - t)
  | [], _, _, _, _ => by simp only [psum, ssum]; grind
  | e :: l, t, u, h, hb => by
    have h1 := one_line (p := e.1) (q := e.2) h (hb e (.head _))
    have h2 := all_line l h fun x hx => hb x (.tail _ hx)
    simp only [psum, ssum]
    rw [h1, h2]; grind

theorem least {α : Type} (f : α → Rat) (P : α → Prop) : ∀ l : List α, (∀ x ∈ l, ¬ P x) ∨ ∃ x ∈ l, P x ∧ ∀ y ∈ l, P y → f x ≤ f y
  | [] => .inl fun _ h => nomatch h
  | a :: l => by
    by_cases ha : P a
    · rcases least f P l with h | ⟨x, hx, px, hm⟩
      · refine .inr ⟨a, .head _, ha, fun y hy py => ?_⟩
        cases hy with
        | head => exact Rat.le_refl
        | tail _ hy => exact absurd py (h y hy)
      · by_cases hc : f a ≤ f x
        · refine .inr ⟨a, .head _, ha, fun y hy py => ?_⟩
          cases hy with
          | head => exact Rat.le_refl
          | tail _ hy => have := hm y hy py; grind
        · refine .inr ⟨x, .tail _ hx, px, fun y hy py => ?_⟩
          cases hy with
          | head => grind
          | tail _ hy => exact hm y hy py
    · rcases least f P l with h | ⟨x, hx, px, hm⟩
      · refine .inl fun y hy => ?_
        cases hy with
        | head => exact ha
        | tail _ hy => exact h y hy
      · refine .inr ⟨x, .tail _ hx, px, fun y hy py => ?_⟩
        cases hy with
        | head => exact absurd py ha
        | tail _ hy => exact hm y hy py

theorem slope_right {l : List (Rat × Rat)} {al be K t : Rat} (hK : ∀ u, al * u + be - 8 * psum l u ≤ K)
    (hmax : ∀ e ∈ l, e.1 ≠ 0 → al * (e.2 / e.1) + be - 8 * psum l (e.2 / e.1) ≤ al * t + be - 8 * psum l t) : al - 8 * ssum l t ≤ 0 := by
  apply Classical.byContradiction
  intro hn
  have hs : 0 < al - 8 * ssum l t := by grind
  rcases least (fun e : Rat × Rat => e.2 / e.1) (fun e => e.1 ≠ 0 ∧ t < e.2 / e.1) l with h | ⟨e, he, ⟨pe, te⟩, hm⟩
  · -- no break to the right: it grows without bound
    have hline : ∀ u, t < u → psum l u = psum l t + ssum l t * (u - t) := fun u hu => all_line l hu fun x hx h1 h2 => absurd ⟨h1, h2⟩ (h x hx)
    have hd : 0 ≤ K - (al * t + be - 8 * psum l t) := by have := hK t; grind
    have hq : (al - 8 * ssum l t) * ((K - (al * t + be - 8 * psum l t)) / (al - 8 * ssum l t)) = K - (al * t + be - 8 * psum l t) := by grind
    have hq0 : 0 ≤ (K - (al * t + be - 8 * psum l t)) / (al - 8 * ssum l t) := by
      apply Classical.byContradiction; intro hc
      have : 0 < (al - 8 * ssum l t) * (-((K - (al * t + be - 8 * psum l t)) / (al - 8 * ssum l t))) := Rat.mul_pos hs (by grind)
      grind
    generalize (K - (al * t + be - 8 * psum l t)) / (al - 8 * ssum l t) = d at hq hq0
    have h1 := hline (t + d + 1) (by grind)
    have h2 := hK (t + d + 1)
    rw [h1] at h2
    grind
  · have h1 := all_line l te fun x hx a b => hm x hx ⟨a, b⟩
    have h2 := hmax e he pe
    rw [h1] at h2
    have : 0 < (al - 8 * ssum l t) * (e.2 / e.1 - t) := Rat.mul_pos hs (by grind)
    grind
end
section
noncomputable def s5 (f : Nat → Rat) : Rat := f 0 + f 1 + f 2 + f 3 + f 4
section
variable (x y C : Nat → Rat)
noncomputable def cr (a b : Nat) : Rat := x a * y b - y a * x b
noncomputable def SS (a b c : Nat) : Rat := C a * cr x y b c + C b * cr x y c a + C c * cr x y a b
noncomputable def gg (Mx My U V : Rat) : Rat := U * Mx + V * My - 8 * s5 fun i => pos (U * x i + V * y i - C i)
noncomputable def pu (a b : Nat) : Rat := (C a * y b - C b * y a) / cr x y a b
noncomputable def pv (a b : Nat) : Rat := (C b * x a - C a * x b) / cr x y a b
noncomputable def GG (Mx My : Rat) (a b : Nat) : Rat := gg x y C Mx My (pu x y C a b) (pv x y C a b)
noncomputable def items5 (p q : Nat → Rat) : List (Rat × Rat) := [(p 0, q 0), (p 1, q 1), (p 2, q 2), (p 3, q 3), (p 4, q 4)]
end
theorem psum_items5 (p q : Nat → Rat) (t : Rat) : psum (items5 p q) t = s5 fun i => pos (p i * t - q i) := by
  simp only [items5, psum, s5]; grind
theorem ssum_items5 (p q : Nat → Rat) (t : Rat) : ssum (items5 p q) t = s5 fun i => sl (p i, q i) t := by
  simp only [items5, ssum, s5]; grind
theorem mem_items5 {p q : Nat → Rat} {e : Rat × Rat} (h : e ∈ items5 p q) : ∃ c, c < 5 ∧ e = (p c, q c) := by
  simp only [items5, List.mem_cons, List.not_mem_nil, or_false] at h
  rcases h with h | h | h | h | h
  · exact ⟨0, by decide, h⟩
  · exact ⟨1, by decide, h⟩
  · exact ⟨2, by decide, h⟩
  · exact ⟨3, by decide, h⟩
  · exact ⟨4, by decide, h⟩
theorem s5_congr {f g : Nat → Rat} (h : ∀ i, i < 5 → f i = g i) : s5 f = s5 g := by
  unfold s5; rw [h 0 (by decide), h 1 (by decide), h 2 (by decide), h 3 (by decide), h 4 (by decide)]

theorem weak {x y C m : Nat → Rat} (hm : ∀ i, i < 5 → 0 ≤ m i ∧ m i ≤ 8) (U V : Rat) :
    gg x y C (s5 fun i => m i * x i) (s5 fun i => m i * y i) U V ≤ s5 fun i => m i * C i := by
  have one : ∀ i, i < 5 → m i * (U * x i + V * y i - C i) ≤ 8 * pos (U * x i + V * y i - C i) := by
    intro i hi
    obtain ⟨h0, h8⟩ := hm i hi
    generalize U * x i + V * y i - C i = z
    have h1 : 0 ≤ m i * (pos z - z) := Rat.mul_nonneg h0 (by have := le_pos z; grind)
    have h2 : 0 ≤ (8 - m i) * pos z := Rat.mul_nonneg (by grind) (pos_nonneg z)
    grind
  have a0 := one 0 (by decide)
  have a1 := one 1 (by decide)
  have a2 := one 2 (by decide)
  have a3 := one 3 (by decide)
  have a4 := one 4 (by decide)
  simp only [gg, s5]
  grind

theorem side_of {x y C m : Nat → Rat} {a b : Nat} (d : Rat) (hd : d = 1 ∨ d = -1) (ha : a < 5) (hb : b < 5)
    (hm : ∀ i, i < 5 → 0 ≤ m i ∧ m i ≤ 8) (ht : cr x y a b ≠ 0)
    (hgen : ∀ c, c < 5 → c ≠ a → c ≠ b → SS x y C a b c ≠ 0)
    (hmax : ∀ c, c < 5 → cr x y c b ≠ 0 → GG x y C (s5 fun i => m i * x i) (s5 fun i => m i * y i) c b ≤ GG x y C (s5 fun i => m i * x i) (s5 fun i => m i * y i) a b) :
    d * (((s5 fun i => m i * x i) * y b - (s5 fun i => m i * y i) * x b) / cr x y a b) - 8 * (s5 fun i => if SS x y C a b i / cr x y a b < 0 then d * (cr x y i b / cr x y a b) else 0) - 8 * pos d ≤ 0 := by
  generalize hMx : (s5 fun i => m i * x i) = Mx at *
  generalize hMy : (s5 fun i => m i * y i) = My at *
  have hw := fun U V => weak (C := C) hm (x := x) (y := y) U V
  rw [hMx, hMy] at hw
  let p : Nat → Rat := fun i => d * (cr x y i b / cr x y a b)
  let q : Nat → Rat := fun i => SS x y C a b i / cr x y a b
  let al : Rat := d * ((Mx * y b - My * x b) / cr x y a b)
  let be : Rat := pu x y C a b * Mx + pv x y C a b * My
  have hdd : d * d = 1 := by rcases hd with h | h <;> subst h <;> grind
  have hpt : ∀ u, al * u + be - 8 * psum (items5 p q) u = gg x y C Mx My (pu x y C a b + u * (d * (y b / cr x y a b))) (pv x y C a b + u * (d * (-(x b) / cr x y a b))) := by
    intro u
    rw [psum_items5]
    unfold gg
    have e : (s5 fun i => pos (p i * u - q i)) = s5 fun i => pos ((pu x y C a b + u * (d * (y b / cr x y a b))) * x i + (pv x y C a b + u * (d * (-(x b) / cr x y a b))) * y i - C i) := by
      apply s5_congr
      intro i _
      congr 1
      show d * (cr x y i b / cr x y a b) * u - SS x y C a b i / cr x y a b = _
      unfold pu pv
      have h1 : cr x y i b = x i * y b - y i * x b := rfl
      have h2 : SS x y C a b i = (C a * (x b * y i - y b * x i) + C b * (x i * y a - y i * x a)) + C i * cr x y a b := by unfold SS cr; rfl
      rw [h1, h2]
      generalize cr x y a b = t at ht
      grind
    rw [e]
    show d * ((Mx * y b - My * x b) / cr x y a b) * u + (pu x y C a b * Mx + pv x y C a b * My) - _ = _
    generalize cr x y a b = t at ht
    grind
  have hbreak : ∀ c, c < 5 → p c ≠ 0 → al * (q c / p c) + be - 8 * psum (items5 p q) (q c / p c) = GG x y C Mx My c b := by
    intro c _ hc
    rw [hpt]
    unfold GG
    have hcb : cr x y c b ≠ 0 := by
      intro h0
      apply hc
      show d * (cr x y c b / cr x y a b) = 0
      rw [h0]; grind
    have hd0 : d ≠ 0 := by rcases hd with h | h <;> subst h <;> grind
    have e0 : q c / p c * d = SS x y C a b c / cr x y c b := by
      show SS x y C a b c / cr x y a b / (d * (cr x y c b / cr x y a b)) * d = _
      generalize cr x y a b = t at ht
      generalize cr x y c b = r at hcb
      grind
    have eU : pu x y C a b + q c / p c * (d * (y b / cr x y a b)) = pu x y C c b := by
      have : q c / p c * (d * (y b / cr x y a b)) = (SS x y C a b c / cr x y c b) * (y b / cr x y a b) := by rw [← e0]; grind
      rw [this]
      unfold pu
      have k : (C a * y b - C b * y a) * cr x y c b + SS x y C a b c * y b = (C c * y b - C b * y c) * cr x y a b := by unfold SS cr; grind
      generalize cr x y a b = t at ht k
      generalize cr x y c b = r at hcb k
      generalize SS x y C a b c = s at k
      grind
    have eV : pv x y C a b + q c / p c * (d * (-(x b) / cr x y a b)) = pv x y C c b := by
      have : q c / p c * (d * (-(x b) / cr x y a b)) = (SS x y C a b c / cr x y c b) * (-(x b) / cr x y a b) := by rw [← e0]; grind
      rw [this]
      unfold pv
      have k : (C b * x a - C a * x b) * cr x y c b - SS x y C a b c * x b = (C b * x c - C c * x b) * cr x y a b := by unfold SS cr; grind
      generalize cr x y a b = t at ht k
      generalize cr x y c b = r at hcb k
      generalize SS x y C a b c = s at k
      grind
    rw [eU, eV]
  have hzero : al * 0 + be - 8 * psum (items5 p q) 0 = GG x y C Mx My a b := by
    rw [hpt]
    unfold GG
    have e1 : pu x y C a b + 0 * (d * (y b / cr x y a b)) = pu x y C a b := by grind
    have e2 : pv x y C a b + 0 * (d * (-(x b) / cr x y a b)) = pv x y C a b := by grind
    rw [e1, e2]
  have main := slope_right (l := items5 p q) (al := al) (be := be) (K := s5 fun i => m i * C i) (t := 0) (fun u => by rw [hpt]; exact hw _ _) (by
    intro e he hp
    obtain ⟨c, hc, rfl⟩ := mem_items5 he
    show al * (q c / p c) + be - 8 * psum (items5 p q) (q c / p c) ≤ _
    rw [hbreak c hc hp, hzero]
    refine hmax c hc ?_
    intro h0
    apply hp
    show d * (cr x y c b / cr x y a b) = 0
    rw [h0]; grind)
  rw [ssum_items5] at main
  have hs : ∀ i, i < 5 → sl (p i, q i) 0 = (if SS x y C a b i / cr x y a b < 0 then d * (cr x y i b / cr x y a b) else 0) + (if i = a then pos d else 0) := by
    intro i hi
    unfold sl
    show (if 0 < p i * 0 - SS x y C a b i / cr x y a b then p i else if p i * 0 - SS x y C a b i / cr x y a b = 0 then pos (p i) else 0) = _
    by_cases ia : i = a
    · subst ia
      have e : SS x y C i b i = 0 := by unfold SS cr; grind
      have e' : p i = d := by show d * (cr x y i b / cr x y i b) = d; generalize cr x y i b = t at ht; grind
      rw [e, e', if_pos rfl, if_neg (by grind), if_pos (by grind), if_neg (by grind)]; grind
    · rw [if_neg ia]
      by_cases ib : i = b
      · subst ib
        have e : SS x y C a i i = 0 := by unfold SS cr; grind
        have e' : p i = 0 := by show d * (cr x y i i / cr x y a i) = 0; have : cr x y i i = 0 := by (unfold cr; grind)
                                rw [this]; grind
        rw [e, e', if_neg (by grind), if_pos (by grind), if_neg (by grind), pos_of_npos (by grind)]; grind
      · have hne : SS x y C a b i / cr x y a b ≠ 0 := by
          intro h0
          apply hgen i hi ia ib
          generalize cr x y a b = t at ht h0
          grind
        by_cases hl : SS x y C a b i / cr x y a b < 0
        · rw [if_pos (by grind), if_pos hl]
          show d * (cr x y i b / cr x y a b) = _
          grind
        · rw [if_neg (by grind), if_neg (by grind), if_neg hl]; grind
  have hsum : (s5 fun i => sl (p i, q i) 0) = (s5 fun i => if SS x y C a b i / cr x y a b < 0 then d * (cr x y i b / cr x y a b) else 0) + pos d := by
    rw [s5_congr hs]
    have : (s5 fun i => (if SS x y C a b i / cr x y a b < 0 then d * (cr x y i b / cr x y a b) else 0) + (if i = a then pos d else 0)) = (s5 fun i => if SS x y C a b i / cr x y a b < 0 then d * (cr x y i b / cr x y a b) else 0) + s5 fun i => if i = a then pos d else 0 := by
      simp only [s5]; grind
    rw [this]
    congr 1
    have : a = 0 ∨ a = 1 ∨ a = 2 ∨ a = 3 ∨ a = 4 := by omega
    rcases this with h | h | h | h | h <;> subst h <;> simp [s5] <;> grind
  rw [hsum] at main
  show al - _ - _ ≤ 0
  grind

theorem GG_symm (x y C : Nat → Rat) (Mx My : Rat) (a b : Nat) : GG x y C Mx My a b = GG x y C Mx My b a := by
  unfold GG
  have e : cr x y b a = - cr x y a b := by unfold cr; grind
  have e1 : pu x y C b a = pu x y C a b := by unfold pu; rw [e]; grind
  have e2 : pv x y C b a = pv x y C a b := by unfold pv; rw [e]; grind
  rw [e1, e2]
end
section
section
variable (X Y C m : Nat → Int)
noncomputable abbrev rt (f : Nat → Int) (i : Nat) : Rat := ((f i : Int) : Rat)
noncomputable def restN (s : Int) (a b : Nat) : Int := S5 (fun i => m i * X i) * Y b - S5 (fun i => m i * Y i) * X b - 8 * S5 (fun i => if s * SSI X Y C a b i < 0 then crI X Y i b else 0)
end
theorem cr_cast {X Y : Nat → Int} {a b : Nat} : cr (rt X) (rt Y) a b = ((crI X Y a b : Int) : Rat) := by
  unfold cr crI rt; push_cast; rfl
theorem SS_cast {X Y C : Nat → Int} {a b c : Nat} : SS (rt X) (rt Y) (rt C) a b c = ((SSI X Y C a b c : Int) : Rat) := by
  unfold SS SSI; rw [cr_cast, cr_cast, cr_cast]; push_cast; rfl
theorem s5_cast {f : Nat → Int} : s5 (fun i => ((f i : Int) : Rat)) = ((S5 f : Int) : Rat) := by
  unfold s5 S5; push_cast; rfl
theorem mul_cast {f g : Nat → Int} : s5 (fun i => rt f i * rt g i) = ((S5 (fun i => f i * g i) : Int) : Rat) := by
  rw [← s5_cast]
  refine s5_congr fun i _ => ?_
  unfold rt; push_cast; rfl
theorem div_neg_pos {z t : Rat} (ht : 0 < t) : z / t < 0 ↔ z < 0 := by
  have h := mul_pos_iff_right (a := t) (b := -(z / t)) ht
  have e : t * (-(z / t)) = -z := by grind
  rw [e] at h
  grind
theorem div_neg_any {z t s : Rat} (hs : s = 1 ∨ s = -1) (ht : 0 < s * t) : z / t < 0 ↔ s * z < 0 := by
  have e : z / t = (s * z) / (s * t) := by rcases hs with rfl | rfl <;> grind
  rw [e, div_neg_pos ht]
theorem range_of {X Y C m : Nat → Int} {a b : Nat} {s U : Int} (hs : s = 1 ∨ s = -1) (hU : U = s * crI X Y a b) (hU0 : 0 < U) (ha : a < 5) (hb : b < 5) (hm : ∀ i, i < 5 → 0 ≤ m i ∧ m i ≤ 8)
    (gen : ∀ c, c < 5 → c ≠ a → c ≠ b → SSI X Y C a b c ≠ 0)
    (hmax : ∀ c, c < 5 → cr (rt X) (rt Y) c b ≠ 0 → GG (rt X) (rt Y) (rt C) (s5 fun i => rt m i * rt X i) (s5 fun i => rt m i * rt Y i) c b ≤ GG (rt X) (rt Y) (rt C) (s5 fun i => rt m i * rt X i) (s5 fun i => rt m i * rt Y i) a b) :
    0 ≤ s * restN X Y C m s a b ∧ s * restN X Y C m s a b ≤ 8 * U := by
  have hT0 : crI X Y a b ≠ 0 := fun e => by rw [e] at hU; exact gfalse (lin2 (cx2 _ _) (.var 0) (.mulR (.var 1) 0) (.add (.num 0) (.num 1)) (.var 0) (.num 1) (.num 0) 1 1 1 rfl (ieq1 hU) hU0)
  have hTr : cr (rt X) (rt Y) a b ≠ 0 := by rw [cr_cast]; exact fun e => hT0 (by exact_mod_cast e)
  have hm' : ∀ i, i < 5 → 0 ≤ rt m i ∧ rt m i ≤ 8 := fun i hi => by
    have := hm i hi
    unfold rt
    exact ⟨by exact_mod_cast this.1, by exact_mod_cast this.2⟩
  have gen' : ∀ c, c < 5 → c ≠ a → c ≠ b → SS (rt X) (rt Y) (rt C) a b c ≠ 0 := fun c hc ca cb => by
    rw [SS_cast]; exact fun e => gen c hc ca cb (by exact_mod_cast e)
  have hsr : (s : Rat) = 1 ∨ (s : Rat) = -1 := by rcases hs with rfl | rfl <;> simp
  have hUr : (0 : Rat) < (s : Rat) * ((crI X Y a b : Int) : Rat) := by
    have : (0 : Int) < s * crI X Y a b := hU ▸ hU0
    exact_mod_cast this
  have fin : ∀ d : Rat, (d = 1 ∨ d = -1) → d * ((restN X Y C m s a b : Int) : Rat) / ((crI X Y a b : Int) : Rat) ≤ 8 * pos d := by
    intro d hd
    have h := side_of (x := rt X) (y := rt Y) (C := rt C) (m := rt m) d hd ha hb hm' hTr gen' hmax
    have e : (s5 fun i => if SS (rt X) (rt Y) (rt C) a b i / cr (rt X) (rt Y) a b < 0 then d * (cr (rt X) (rt Y) i b / cr (rt X) (rt Y) a b) else 0) = d / ((crI X Y a b : Int) : Rat) * ((S5 (fun i => if s * SSI X Y C a b i < 0 then crI X Y i b else 0) : Int) : Rat) := by
      rw [← s5_cast]
      have : ∀ i, i < 5 → (if SS (rt X) (rt Y) (rt C) a b i / cr (rt X) (rt Y) a b < 0 then d * (cr (rt X) (rt Y) i b / cr (rt X) (rt Y) a b) else 0) = d / ((crI X Y a b : Int) : Rat) * (((if s * SSI X Y C a b i < 0 then crI X Y i b else 0 : Int)) : Rat) := by
        intro i _
        rw [SS_cast, cr_cast, cr_cast]
        have hiff : ((SSI X Y C a b i : Int) : Rat) / ((crI X Y a b : Int) : Rat) < 0 ↔ s * SSI X Y C a b i < 0 := by
          rw [div_neg_any hsr hUr]
          constructor
          · intro h; exact_mod_cast h
          · intro h; exact_mod_cast h
        by_cases hl : s * SSI X Y C a b i < 0
        · rw [if_pos (hiff.mpr hl), if_pos hl]
          have : ((crI X Y a b : Int) : Rat) ≠ 0 := by rw [← cr_cast]; exact hTr
          generalize ((crI X Y a b : Int) : Rat) = t at this
          grind
        · rw [if_neg (fun h => hl (hiff.mp h)), if_neg hl]
          simp
      rw [s5_congr this]
      simp only [s5]
      grind
    rw [e, mul_cast, mul_cast, cr_cast] at h
    have e2 : ((restN X Y C m s a b : Int) : Rat) = ((S5 (fun i => m i * X i) : Int) : Rat) * rt Y b - ((S5 (fun i => m i * Y i) : Int) : Rat) * rt X b - 8 * ((S5 (fun i => if s * SSI X Y C a b i < 0 then crI X Y i b else 0) : Int) : Rat) := by
      unfold restN rt; push_cast; rfl
    rw [e2]
    have : ((crI X Y a b : Int) : Rat) ≠ 0 := by rw [← cr_cast]; exact hTr
    generalize ((crI X Y a b : Int) : Rat) = t at this h
    grind
  have h1 := fin 1 (.inl rfl)
  have h2 := fin (-1) (.inr rfl)
  have p1 : pos 1 = 1 := pos_of_pos (by decide)
  have p2 : pos (-1) = 0 := pos_of_npos (by decide)
  rw [p1] at h1
  rw [p2] at h2
  have k : ((s * restN X Y C m s a b : Int) : Rat) = ((restN X Y C m s a b : Int) : Rat) / ((crI X Y a b : Int) : Rat) * ((U : Int) : Rat) := by
    rw [hU]
    push_cast
    have : ((crI X Y a b : Int) : Rat) ≠ 0 := by rw [← cr_cast]; exact hTr
    generalize ((crI X Y a b : Int) : Rat) = t at this
    grind
  have hUp : (0 : Rat) ≤ ((U : Int) : Rat) := by
    have : (0 : Int) ≤ U := by exact lin1 (cx1 _) (.add (.num 0) (.num 1)) (.var 0) (.num 0) (.var 0) 1 1 rfl hU0
    exact_mod_cast this
  have q1 : 0 ≤ (((restN X Y C m s a b : Int) : Rat) / ((crI X Y a b : Int) : Rat)) * ((U : Int) : Rat) := Rat.mul_nonneg (by grind) hUp
  have q2 : 0 ≤ (8 - ((restN X Y C m s a b : Int) : Rat) / ((crI X Y a b : Int) : Rat)) * ((U : Int) : Rat) := Rat.mul_nonneg (by grind) hUp
  constructor
  · rw [← k] at q1
    exact_mod_cast q1
  · have q3 : ((s * restN X Y C m s a b : Int) : Rat) ≤ ((8 * U : Int) : Rat) := by
      rw [k]; push_cast; grind
    exact_mod_cast q3
noncomputable def prN : List (Nat × Nat) := [(0, 1), (0, 2), (0, 3), (0, 4), (1, 2), (1, 3), (1, 4), (2, 3), (2, 4), (3, 4)]
theorem prN_mem {a b : Nat} (h : a < b) (hb : b < 5) : (a, b) ∈ prN := (by decide : ∀ b, b < 5 → ∀ a, a < b → (a, b) ∈ prN) b hb a h
theorem prN_in : ∀ p ∈ prN, p.1 < p.2 ∧ p.2 < 5 := by decide
theorem cr_symm {X Y : Nat → Int} {a b : Nat} : crI X Y b a = -crI X Y a b := by unfold crI; grind
theorem SSI_symm {X Y C : Nat → Int} {a b c : Nat} : SSI X Y C b a c = -SSI X Y C a b c := by unfold SSI crI; grind
theorem some_pair {X Y C m : Nat → Int} (hm : ∀ i, i < 5 → 0 ≤ m i ∧ m i ≤ 8) (hT : ∃ a b, a < b ∧ b < 5 ∧ crI X Y a b ≠ 0)
    (gen : ∀ a b c, a < 5 → b < 5 → c < 5 → c ≠ a → c ≠ b → crI X Y a b ≠ 0 → SSI X Y C a b c ≠ 0) :
    ∃ a b, a < b ∧ b < 5 ∧ crI X Y a b ≠ 0 ∧ ∀ s U, (s = 1 ∨ s = -1) → U = s * crI X Y a b → 0 < U → (0 ≤ s * restN X Y C m s a b ∧ s * restN X Y C m s a b ≤ 8 * U) ∧ (0 ≤ -s * restN X Y C m (-s) b a ∧ -s * restN X Y C m (-s) b a ≤ 8 * U) := by
  rcases least (fun p : Nat × Nat => -GG (rt X) (rt Y) (rt C) (s5 fun i => rt m i * rt X i) (s5 fun i => rt m i * rt Y i) p.1 p.2) (fun p => cr (rt X) (rt Y) p.1 p.2 ≠ 0) prN with h | ⟨⟨a, b⟩, hp, hne, hmx⟩
  · obtain ⟨a, b, hab, hb, hc⟩ := hT
    exact absurd (fun e => hc (by rw [cr_cast] at e; exact_mod_cast e)) (h (a, b) (prN_mem hab hb))
  · obtain ⟨hab, hb⟩ := prN_in _ hp
    dsimp only at hab hb hne hmx
    have hT0 : crI X Y a b ≠ 0 := fun e => hne (by rw [cr_cast, e]; rfl)
    have any : ∀ c d, c < 5 → d < 5 → cr (rt X) (rt Y) c d ≠ 0 → GG (rt X) (rt Y) (rt C) (s5 fun i => rt m i * rt X i) (s5 fun i => rt m i * rt Y i) c d ≤ GG (rt X) (rt Y) (rt C) (s5 fun i => rt m i * rt X i) (s5 fun i => rt m i * rt Y i) a b := by
      intro c d hc hd h
      rcases Nat.lt_trichotomy c d with hlt | rfl | hlt
      · have := hmx (c, d) (prN_mem hlt hd) h
        dsimp only at this
        grind
      · exact absurd (by unfold cr; grind) h
      · have := hmx (d, c) (prN_mem hlt hc) (by rw [cr_cast] at h ⊢; rw [cr_symm]; intro e; apply h; push_cast at e; grind)
        dsimp only at this
        rw [GG_symm]
        grind
    refine ⟨a, b, hab, hb, hT0, fun s U hs hU hU0 => ⟨?_, ?_⟩⟩
    · exact range_of hs hU hU0 (by exact gnlt (lin2 (cx2 _ _) (.add (.var 0) (.num 1)) (.var 1) (.add (.var 1) (.num 1)) (.num 5) (.add (.var 0) (.num 1)) (.num 5) 1 1 1 rfl (nlt hab) (nlt hb))) hb hm (fun c hc ca cb => gen a b c (by exact gnlt (lin2 (cx2 _ _) (.add (.var 0) (.num 1)) (.var 1) (.add (.var 1) (.num 1)) (.num 5) (.add (.var 0) (.num 1)) (.num 5) 1 1 1 rfl (nlt hab) (nlt hb))) hb hc ca cb hT0) (fun c hc h => any c b hc hb h)
    · refine range_of (a := b) (b := a) (s := -s) (by omega) (by rw [cr_symm, hU]; grind) hU0 hb (by exact gnlt (lin2 (cx2 _ _) (.add (.var 0) (.num 1)) (.var 1) (.add (.var 1) (.num 1)) (.num 5) (.add (.var 0) (.num 1)) (.num 5) 1 1 1 rfl (nlt hab) (nlt hb))) hm (fun c hc cb ca => gen b a c hb (by exact gnlt (lin2 (cx2 _ _) (.add (.var 0) (.num 1)) (.var 1) (.add (.var 1) (.num 1)) (.num 5) (.add (.var 0) (.num 1)) (.num 5) 1 1 1 rfl (nlt hab) (nlt hb))) hc cb ca (by rw [cr_symm]; omega)) (fun c hc h => ?_)
      have := any c a hc (by exact gnlt (lin2 (cx2 _ _) (.add (.var 0) (.num 1)) (.var 1) (.add (.var 1) (.num 1)) (.num 5) (.add (.var 0) (.num 1)) (.num 5) 1 1 1 rfl (nlt hab) (nlt hb))) h
      rw [GG_symm (a := b) (b := a)]
      exact this
end
section
open PySem.Calls
open PyProof.Rows.LCg
set_option exponentiation.threshold 3000
noncomputable abbrev pX (P : Lmp) (i : Nat) : Int := P.x i - P.z i
noncomputable abbrev pY (P : Lmp) (i : Nat) : Int := P.y i - P.z i
noncomputable def tri (i : Nat) : Int := 10 ^ (5 * (4 - i))
noncomputable def pC (P : Lmp) (i : Nat) : Int := 10 ^ 25 * lumaZ P i + tri i
theorem cr_G (P : Lmp) (a b : Nat) : crI (pX P) (pY P) a b = P.G a b := rfl
theorem G450 {P : Lmp} (h : P.Ok) {i j : Nat} (hi : i < 5) (hj : j < 5) : -450 ≤ P.G i j ∧ P.G i j ≤ 450 := by
  have h1 := h.x i hi; have h2 := h.y i hi; have h3 := h.z i hi
  have h4 := h.x j hj; have h5 := h.y j hj; have h6 := h.z j hj
  unfold Lmp.G
  have key : ∀ u v : Int, -15 ≤ u → u ≤ 15 → -15 ≤ v → v ≤ 15 → -225 ≤ u * v ∧ u * v ≤ 225 := by
    intro u v a b c d
    have e1 : 0 ≤ (15 - u) * (15 + v) := Int.mul_nonneg (by exact lin1 (cx1 _) (.var 0) (.num 15) (.num 0) (.sub (.num 15) (.var 0)) 1 1 rfl b) (by exact lin1 (cx1 _) (.neg (.num 15)) (.var 0) (.num 0) (.add (.num 15) (.var 0)) 1 1 rfl c)
    have e2 : 0 ≤ (15 + u) * (15 - v) := Int.mul_nonneg (by exact lin1 (cx1 _) (.neg (.num 15)) (.var 0) (.num 0) (.add (.num 15) (.var 0)) 1 1 rfl a) (by exact lin1 (cx1 _) (.var 0) (.num 15) (.num 0) (.sub (.num 15) (.var 0)) 1 1 rfl d)
    have e3 : 0 ≤ (15 - u) * (15 - v) := Int.mul_nonneg (by exact lin1 (cx1 _) (.var 0) (.num 15) (.num 0) (.sub (.num 15) (.var 0)) 1 1 rfl b) (by exact lin1 (cx1 _) (.var 0) (.num 15) (.num 0) (.sub (.num 15) (.var 0)) 1 1 rfl d)
    have e4 : 0 ≤ (15 + u) * (15 + v) := Int.mul_nonneg (by exact lin1 (cx1 _) (.neg (.num 15)) (.var 0) (.num 0) (.add (.num 15) (.var 0)) 1 1 rfl a) (by exact lin1 (cx1 _) (.neg (.num 15)) (.var 0) (.num 0) (.add (.num 15) (.var 0)) 1 1 rfl c)
    simp only [Int.mul_add, Int.add_mul, Int.mul_sub, Int.sub_mul] at e1 e2 e3 e4
    exact ⟨lin2 (cx3 _ _ _) (.num 0) (.sub (.sub (.mulL 15 (.num 15)) (.mulR (.var 0) 15)) (.sub (.mulL 15 (.var 1)) (.var 2))) (.num 0) (.add (.add (.mulL 15 (.num 15)) (.mulR (.var 0) 15)) (.add (.mulL 15 (.var 1)) (.var 2))) (.neg (.num 225)) (.var 2) 1 1 2 rfl e3 e4, lin2 (cx3 _ _ _) (.num 0) (.add (.sub (.mulL 15 (.num 15)) (.mulR (.var 0) 15)) (.sub (.mulL 15 (.var 1)) (.var 2))) (.num 0) (.sub (.add (.mulL 15 (.num 15)) (.mulR (.var 0) 15)) (.add (.mulL 15 (.var 1)) (.var 2))) (.var 2) (.num 225) 1 1 2 rfl e1 e2⟩
  have k1 := key (P.x i - P.z i) (P.y j - P.z j) (by exact lin2 (cx2 _ _) (.num 0) (.var 0) (.var 1) (.num 15) (.neg (.num 15)) (.sub (.var 0) (.var 1)) 1 1 1 rfl h1.1 h3.2) (by exact lin2 (cx2 _ _) (.var 0) (.num 15) (.num 0) (.var 1) (.sub (.var 0) (.var 1)) (.num 15) 1 1 1 rfl h1.2 h3.1) (by exact lin2 (cx2 _ _) (.num 0) (.var 0) (.var 1) (.num 15) (.neg (.num 15)) (.sub (.var 0) (.var 1)) 1 1 1 rfl h5.1 h6.2) (by exact lin2 (cx2 _ _) (.var 0) (.num 15) (.num 0) (.var 1) (.sub (.var 0) (.var 1)) (.num 15) 1 1 1 rfl h5.2 h6.1)
  have k2 := key (P.y i - P.z i) (P.x j - P.z j) (by exact lin2 (cx2 _ _) (.num 0) (.var 0) (.var 1) (.num 15) (.neg (.num 15)) (.sub (.var 0) (.var 1)) 1 1 1 rfl h2.1 h3.2) (by exact lin2 (cx2 _ _) (.var 0) (.num 15) (.num 0) (.var 1) (.sub (.var 0) (.var 1)) (.num 15) 1 1 1 rfl h2.2 h3.1) (by exact lin2 (cx2 _ _) (.num 0) (.var 0) (.var 1) (.num 15) (.neg (.num 15)) (.sub (.var 0) (.var 1)) 1 1 1 rfl h4.1 h6.2) (by exact lin2 (cx2 _ _) (.var 0) (.num 15) (.num 0) (.var 1) (.sub (.var 0) (.var 1)) (.num 15) 1 1 1 rfl h4.2 h6.1)
  exact ⟨lin2 (cx2 _ _) (.neg (.num 225)) (.var 0) (.var 1) (.num 225) (.neg (.num 450)) (.sub (.var 0) (.var 1)) 1 1 1 rfl k1.1 k2.2, lin2 (cx2 _ _) (.var 0) (.num 225) (.neg (.num 225)) (.var 1) (.sub (.var 0) (.var 1)) (.num 450) 1 1 1 rfl k1.2 k2.1⟩
theorem tri_pos {n : Nat} : 0 < tri n := Int.pow_pos (by decide)
theorem tri_step : ∀ {n m : Nat}, n < m → m < 5 → 100000 * tri m ≤ tri n := by
  have h : ∀ m, m < 5 → ∀ n, n < m → 100000 * tri m ≤ tri n := by decide +kernel
  exact fun {_ _} h1 h2 => h _ h2 _ h1
theorem lex {r p z : Int} (hz : -r < z ∧ z < r) : (p < 0 → r * p + z < 0) ∧ (0 < p → 0 < r * p + z) := by
  have hr : 0 < r := by exact lin2 (cx2 _ _) (.add (.neg (.var 0)) (.num 1)) (.var 1) (.add (.var 1) (.num 1)) (.var 0) (.add (.num 0) (.num 1)) (.var 0) 1 1 2 rfl hz.1 hz.2
  constructor
  · intro h
    have : r * p ≤ r * -1 := Int.mul_le_mul_of_nonneg_left (by exact lin1 (cx1 _) (.add (.var 0) (.num 1)) (.num 0) (.var 0) (.neg (.num 1)) 1 1 rfl h) (Int.le_of_lt hr)
    exact lin2 (cx3 _ _ _) (.add (.var 0) (.num 1)) (.var 1) (.var 2) (.mulR (.var 1) (-1)) (.add (.add (.var 2) (.var 0)) (.num 1)) (.num 0) 1 1 1 rfl hz.2 this
  · intro h
    have : r * 1 ≤ r * p := Int.mul_le_mul_of_nonneg_left (by exact lin1 (cx1 _) (.add (.num 0) (.num 1)) (.var 0) (.num 1) (.var 0) 1 1 rfl h) (Int.le_of_lt hr)
    exact lin2 (cx3 _ _ _) (.add (.neg (.var 0)) (.num 1)) (.var 1) (.mulR (.var 0) 1) (.var 2) (.add (.num 0) (.num 1)) (.add (.var 2) (.var 1)) 1 1 1 rfl hz.1 this
theorem mul_1000 {r p : Int} (hr : 0 < r) (b : -1000 ≤ p ∧ p ≤ 1000) : -(1000 * r) ≤ r * p ∧ r * p ≤ 1000 * r := by
  have h1 : r * -1000 ≤ r * p := Int.mul_le_mul_of_nonneg_left b.1 (Int.le_of_lt hr)
  have h2 : r * p ≤ r * 1000 := Int.mul_le_mul_of_nonneg_left b.2 (Int.le_of_lt hr)
  exact ⟨lin1 (cx2 _ _) (.mulR (.var 0) (-1000)) (.var 1) (.neg (.mulL 1000 (.var 0))) (.var 1) 1 1 rfl h1, lin1 (cx2 _ _) (.var 0) (.mulR (.var 1) 1000) (.var 0) (.mulL 1000 (.var 1)) 1 1 rfl h2⟩
theorem sign3 {n0 n1 n2 : Nat} (h01 : n0 < n1) (h12 : n1 < n2) (h2 : n2 < 5) {S p0 p1 p2 : Int} (b0 : -1000 ≤ p0 ∧ p0 ≤ 1000) (b1 : -1000 ≤ p1 ∧ p1 ≤ 1000) (b2 : -1000 ≤ p2 ∧ p2 ≤ 1000) :
    ((if S ≠ 0 then S else if p0 ≠ 0 then p0 else if p1 ≠ 0 then p1 else p2) < 0 ↔ 10 ^ 25 * S + (tri n0 * p0 + tri n1 * p1 + tri n2 * p2) < 0) ∧
    (0 < (if S ≠ 0 then S else if p0 ≠ 0 then p0 else if p1 ≠ 0 then p1 else p2) ↔ 0 < 10 ^ 25 * S + (tri n0 * p0 + tri n1 * p1 + tri n2 * p2)) := by
  have q2 := tri_pos (n := n2)
  have s1 := tri_step h12 h2
  have s0 := tri_step h01 (Nat.lt_trans h12 h2)
  have sF : 100000 * tri n0 ≤ 10 ^ 25 := by
    have : ∀ n, n < 5 → 100000 * tri n ≤ 10 ^ 25 := by decide +kernel
    exact this n0 (by exact gnlt (lin3 (cx3 _ _ _) (.add (.var 0) (.num 1)) (.var 1) (.add (.var 1) (.num 1)) (.var 2) (.add (.var 2) (.num 1)) (.num 5) (.add (.var 0) (.num 1)) (.num 5) 1 1 1 1 rfl (nlt h01) (nlt h12) (nlt h2)))
  generalize (10 : Int) ^ 25 = F at *
  generalize tri n0 = r0 at *
  generalize tri n1 = r1 at *
  generalize tri n2 = r2 at *
  have k2 := mul_1000 q2 b2
  have k1 := mul_1000 (r := r1) (by exact lin2 (cx2 _ _) (.add (.num 0) (.num 1)) (.var 0) (.mulL 100000 (.var 0)) (.var 1) (.add (.num 0) (.num 1)) (.var 1) 100000 1 1 rfl q2 s1) b1
  have k0 := mul_1000 (r := r0) (by exact lin3 (cx3 _ _ _) (.mulL 100000 (.var 0)) (.var 1) (.add (.num 0) (.num 1)) (.var 2) (.mulL 100000 (.var 2)) (.var 0) (.add (.num 0) (.num 1)) (.var 1) 1 10000000000 100000 1 rfl s0 q2 s1) b0
  have l0 := lex (r := F) (p := S) (z := r0 * p0 + r1 * p1 + r2 * p2) (by exact ⟨lin7 (cx7 _ _ _ _ _ _ _) (.mulL 100000 (.var 0)) (.var 1) (.mulL 100000 (.var 2)) (.var 0) (.add (.num 0) (.num 1)) (.var 3) (.mulL 100000 (.var 3)) (.var 2) (.neg (.mulL 1000 (.var 3))) (.var 4) (.neg (.mulL 1000 (.var 2))) (.var 5) (.neg (.mulL 1000 (.var 0))) (.var 6) (.add (.neg (.var 1)) (.num 1)) (.add (.add (.var 6) (.var 5)) (.var 4)) 1 99000 989999899999000 9899999000 1 1 1 1 rfl sF s0 q2 s1 k2.1 k1.1 k0.1, lin7 (cx7 _ _ _ _ _ _ _) (.mulL 100000 (.var 0)) (.var 1) (.mulL 100000 (.var 2)) (.var 0) (.add (.num 0) (.num 1)) (.var 3) (.mulL 100000 (.var 3)) (.var 2) (.var 4) (.mulL 1000 (.var 3)) (.var 5) (.mulL 1000 (.var 2)) (.var 6) (.mulL 1000 (.var 0)) (.add (.add (.add (.var 6) (.var 5)) (.var 4)) (.num 1)) (.var 1) 1 99000 989999899999000 9899999000 1 1 1 1 rfl sF s0 q2 s1 k2.2 k1.2 k0.2⟩)
  have l1 := lex (r := r0) (p := p0) (z := r1 * p1 + r2 * p2) (by exact ⟨lin5 (cx5 _ _ _ _ _) (.mulL 100000 (.var 0)) (.var 1) (.add (.num 0) (.num 1)) (.var 2) (.mulL 100000 (.var 2)) (.var 0) (.neg (.mulL 1000 (.var 2))) (.var 3) (.neg (.mulL 1000 (.var 0))) (.var 4) (.add (.neg (.var 1)) (.num 1)) (.add (.var 4) (.var 3)) 1 9899999000 99000 1 1 1 rfl s0 q2 s1 k2.1 k1.1, lin5 (cx5 _ _ _ _ _) (.mulL 100000 (.var 0)) (.var 1) (.add (.num 0) (.num 1)) (.var 2) (.mulL 100000 (.var 2)) (.var 0) (.var 3) (.mulL 1000 (.var 2)) (.var 4) (.mulL 1000 (.var 0)) (.add (.add (.var 4) (.var 3)) (.num 1)) (.var 1) 1 9899999000 99000 1 1 1 rfl s0 q2 s1 k2.2 k1.2⟩)
  have l2 := lex (r := r1) (p := p1) (z := r2 * p2) (by exact ⟨lin3 (cx3 _ _ _) (.add (.num 0) (.num 1)) (.var 0) (.mulL 100000 (.var 0)) (.var 1) (.neg (.mulL 1000 (.var 0))) (.var 2) (.add (.neg (.var 1)) (.num 1)) (.var 2) 99000 1 1 1 rfl q2 s1 k2.1, lin3 (cx3 _ _ _) (.add (.num 0) (.num 1)) (.var 0) (.mulL 100000 (.var 0)) (.var 1) (.var 2) (.mulL 1000 (.var 0)) (.add (.var 2) (.num 1)) (.var 1) 99000 1 1 1 rfl q2 s1 k2.2⟩)
  have l3 := lex (r := r2) (p := p2) (z := 0) (by exact ⟨lin1 (cx1 _) (.add (.num 0) (.num 1)) (.var 0) (.add (.neg (.var 0)) (.num 1)) (.num 0) 1 1 rfl q2, lin1 (cx1 _) (.add (.num 0) (.num 1)) (.var 0) (.add (.num 0) (.num 1)) (.var 0) 1 1 rfl q2⟩)
  clear k0 k1 k2 s0 s1 sF b0 b1 b2
  by_cases hS : S = 0
  · rw [if_neg (by omega), hS, Int.mul_zero, Int.zero_add]
    by_cases e0 : p0 = 0
    · rw [if_neg (by omega), e0, Int.mul_zero, Int.zero_add]
      by_cases e1 : p1 = 0
      · rw [if_neg (by omega), e1, Int.mul_zero, Int.zero_add]
        by_cases e2 : p2 = 0
        · rw [e2, Int.mul_zero]; omega
        · clear l0 l1 l2; omega
      · rw [if_pos e1]; clear l0 l1 l3; omega
    · rw [if_pos e0, Int.add_assoc]; clear l0 l2 l3; omega
  · rw [if_pos hS]; clear l1 l2 l3; omega
theorem nz_cons {p : Int} {r : List Int} : ((p :: r).filter (· ≠ 0)).getD 0 0 = if p ≠ 0 then p else (r.filter (· ≠ 0)).getD 0 0 := by
  by_cases h : p = 0
  · rw [List.filter_cons_of_neg (by simp [h]), if_neg (fun q => q h)]
  · rw [List.filter_cons_of_pos (by simp [h]), if_pos h]; rfl
theorem nz_last {p : Int} : (if p ≠ 0 then p else (([] : List Int).filter (· ≠ 0)).getD 0 0) = p := by
  by_cases h : p = 0
  · rw [if_neg (fun q => q h)]; exact h.symm
  · rw [if_pos h]
theorem firstNZ {p0 p1 p2 : Int} : (([p0, p1, p2] : List Int).filter (· ≠ 0)).getD 0 0 = if p0 ≠ 0 then p0 else if p1 ≠ 0 then p1 else p2 := by
  rw [nz_cons, nz_cons, nz_cons, nz_last]
theorem lus_at {P : Lmp} {i : Nat} (hi : i < 5) : (lus P).getD ((i : Int)).toNat 0 = lumaZ P i := by
  have : i = 0 ∨ i = 1 ∨ i = 2 ∨ i = 3 ∨ i = 4 := lin_or5 (by exact gnlt (lin1 (cx1 _) (.add (.var 0) (.num 1)) (.num 5) (.add (.var 0) (.num 1)) (.num 5) 1 1 rfl (nlt hi)))
  rcases this with rfl | rfl | rfl | rfl | rfl <;> rfl
theorem worthT3 {P : Lmp} {n0 n1 n2 : Nat} (h0 : n0 < 5) (h1 : n1 < 5) (h2 : n2 < 5) {p0 p1 p2 : Int} :
    worthT (lus P) [((n0 : Int), p0), ((n1 : Int), p1), ((n2 : Int), p2)] = if lumaZ P n0 * p0 + (lumaZ P n1 * p1 + (lumaZ P n2 * p2 + 0)) ≠ 0 then lumaZ P n0 * p0 + (lumaZ P n1 * p1 + (lumaZ P n2 * p2 + 0)) else if p0 ≠ 0 then p0 else if p1 ≠ 0 then p1 else p2 := by
  unfold worthT
  simp only [List.map_cons, List.map_nil, List.sum_cons, List.sum_nil]
  rw [firstNZ, lus_at h0, lus_at h1, lus_at h2]
theorem worth_sign {P : Lmp} (hO : P.Ok) {a b c : Nat} (hab : a < b) (hb : b < 5) (hc : c < 5) (ca : c ≠ a) (cb : c ≠ b) :
    (worthZ P (lus P) a b c < 0 ↔ SSI (pX P) (pY P) (pC P) a b c < 0) ∧ (0 < worthZ P (lus P) a b c ↔ 0 < SSI (pX P) (pY P) (pC P) a b c) := by
  have g1 := hO.G (i := b) (j := c) hb hc
  have g2 := hO.G (i := c) (j := a) hc (by exact gnlt (lin2 (cx2 _ _) (.add (.var 0) (.num 1)) (.var 1) (.add (.var 1) (.num 1)) (.num 5) (.add (.var 0) (.num 1)) (.num 5) 1 1 1 rfl (nlt hab) (nlt hb)))
  have g3 := hO.G (i := a) (j := b) (by exact gnlt (lin2 (cx2 _ _) (.add (.var 0) (.num 1)) (.var 1) (.add (.var 1) (.num 1)) (.num 5) (.add (.var 0) (.num 1)) (.num 5) 1 1 1 rfl (nlt hab) (nlt hb))) hb
  have e : SSI (pX P) (pY P) (pC P) a b c = 10 ^ 25 * (lumaZ P a * P.G b c + lumaZ P b * P.G c a + lumaZ P c * P.G a b) + (tri a * P.G b c + tri b * P.G c a + tri c * P.G a b) := by
    unfold SSI pC
    rw [cr_G, cr_G, cr_G]
    generalize (10 : Int) ^ 25 = F
    generalize P.G b c = u
    generalize P.G c a = v
    generalize P.G a b = w
    generalize lumaZ P a = l1
    generalize lumaZ P b = l2
    generalize lumaZ P c = l3
    generalize tri a = r1
    generalize tri b = r2
    generalize tri c = r3
    grind
  rw [e]
  unfold worthZ trip
  simp only [Int.toNat_natCast]
  by_cases h1 : c < a
  · rw [if_pos (by exact lin1 (cx2 _ _) (.add (.var 0) (.num 1)) (.var 1) (.add (.var 0) (.num 1)) (.var 1) 1 1 rfl (nlt h1)), worthT3 hc (by exact gnlt (lin2 (cx2 _ _) (.add (.var 0) (.num 1)) (.var 1) (.add (.var 1) (.num 1)) (.num 5) (.add (.var 0) (.num 1)) (.num 5) 1 1 1 rfl (nlt hab) (nlt hb))) hb]
    have := sign3 h1 hab hb (S := lumaZ P c * P.G a b + (lumaZ P a * P.G b c + (lumaZ P b * P.G c a + 0))) g3 g1 g2
    rw [show lumaZ P a * P.G b c + lumaZ P b * P.G c a + lumaZ P c * P.G a b = lumaZ P c * P.G a b + (lumaZ P a * P.G b c + (lumaZ P b * P.G c a + 0)) by exact Int.le_antisymm (lin0 (cx3 _ _ _) (.add (.add (.var 0) (.var 1)) (.var 2)) (.add (.var 2) (.add (.var 0) (.add (.var 1) (.num 0)))) 1 rfl) (lin0 (cx3 _ _ _) (.add (.var 0) (.add (.var 1) (.add (.var 2) (.num 0)))) (.add (.add (.var 1) (.var 2)) (.var 0)) 1 rfl), show tri a * P.G b c + tri b * P.G c a + tri c * P.G a b = tri c * P.G a b + tri a * P.G b c + tri b * P.G c a by exact Int.le_antisymm (lin0 (cx3 _ _ _) (.add (.add (.var 0) (.var 1)) (.var 2)) (.add (.add (.var 2) (.var 0)) (.var 1)) 1 rfl) (lin0 (cx3 _ _ _) (.add (.add (.var 0) (.var 1)) (.var 2)) (.add (.add (.var 1) (.var 2)) (.var 0)) 1 rfl)]
    exact this
  · by_cases h2 : c < b
    · rw [if_neg (by exact ginlt (lin1 (cx2 _ _) (.var 0) (.var 1) (.var 0) (.var 1) 1 1 rfl (nnlt h1))), if_pos (by exact lin1 (cx2 _ _) (.add (.var 0) (.num 1)) (.var 1) (.add (.var 0) (.num 1)) (.var 1) 1 1 rfl (nlt h2)), worthT3 (by exact gnlt (lin2 (cx2 _ _) (.add (.var 0) (.num 1)) (.var 1) (.add (.var 1) (.num 1)) (.num 5) (.add (.var 0) (.num 1)) (.num 5) 1 1 1 rfl (nlt hab) (nlt hb))) hc hb]
      have := sign3 (n0 := a) (n1 := c) (by omega) h2 hb (S := lumaZ P a * P.G b c + (lumaZ P c * P.G a b + (lumaZ P b * P.G c a + 0))) g1 g3 g2
      rw [show lumaZ P a * P.G b c + lumaZ P b * P.G c a + lumaZ P c * P.G a b = lumaZ P a * P.G b c + (lumaZ P c * P.G a b + (lumaZ P b * P.G c a + 0)) by exact Int.le_antisymm (lin0 (cx3 _ _ _) (.add (.add (.var 0) (.var 1)) (.var 2)) (.add (.var 0) (.add (.var 2) (.add (.var 1) (.num 0)))) 1 rfl) (lin0 (cx3 _ _ _) (.add (.var 0) (.add (.var 1) (.add (.var 2) (.num 0)))) (.add (.add (.var 0) (.var 2)) (.var 1)) 1 rfl), show tri a * P.G b c + tri b * P.G c a + tri c * P.G a b = tri a * P.G b c + tri c * P.G a b + tri b * P.G c a by exact Int.le_antisymm (lin0 (cx3 _ _ _) (.add (.add (.var 0) (.var 1)) (.var 2)) (.add (.add (.var 0) (.var 2)) (.var 1)) 1 rfl) (lin0 (cx3 _ _ _) (.add (.add (.var 0) (.var 1)) (.var 2)) (.add (.add (.var 0) (.var 2)) (.var 1)) 1 rfl)]
      exact this
    · rw [if_neg (by exact ginlt (lin1 (cx2 _ _) (.var 0) (.var 1) (.var 0) (.var 1) 1 1 rfl (nnlt h1))), if_neg (by exact ginlt (lin1 (cx2 _ _) (.var 0) (.var 1) (.var 0) (.var 1) 1 1 rfl (nnlt h2))), worthT3 (by exact gnlt (lin2 (cx2 _ _) (.add (.var 0) (.num 1)) (.var 1) (.add (.var 1) (.num 1)) (.num 5) (.add (.var 0) (.num 1)) (.num 5) 1 1 1 rfl (nlt hab) (nlt hb))) hb hc]
      have := sign3 (n0 := a) (n1 := b) (n2 := c) hab (by omega) hc (S := lumaZ P a * P.G b c + (lumaZ P b * P.G c a + (lumaZ P c * P.G a b + 0))) g1 g2 g3
      rw [show lumaZ P a * P.G b c + lumaZ P b * P.G c a + lumaZ P c * P.G a b = lumaZ P a * P.G b c + (lumaZ P b * P.G c a + (lumaZ P c * P.G a b + 0)) by exact Int.le_antisymm (lin0 (cx3 _ _ _) (.add (.add (.var 0) (.var 1)) (.var 2)) (.add (.var 0) (.add (.var 1) (.add (.var 2) (.num 0)))) 1 rfl) (lin0 (cx3 _ _ _) (.add (.var 0) (.add (.var 1) (.add (.var 2) (.num 0)))) (.add (.add (.var 0) (.var 1)) (.var 2)) 1 rfl)]
      exact this
end
section
open PySem.Calls
open PyProof.Rows.LCg
theorem ssi_ne {P : Lmp} (hO : P.Ok) {a b c : Nat} (hab : a < b) (hb : b < 5) (hc : c < 5) (ca : c ≠ a) (cb : c ≠ b) (hT : P.G a b ≠ 0) : SSI (pX P) (pY P) (pC P) a b c ≠ 0 := by
  have w := worth_sign hO hab hb hc ca cb
  have wne : worthZ P (lus P) a b c ≠ 0 := by
    unfold worthZ
    simp only [Int.toNat_natCast]
    unfold trip
    by_cases h1 : c < a
    · rw [if_pos (by exact lin1 (cx2 _ _) (.add (.var 0) (.num 1)) (.var 1) (.add (.var 0) (.num 1)) (.var 1) 1 1 rfl (nlt h1)), worthT3 hc (by exact gnlt (lin2 (cx2 _ _) (.add (.var 0) (.num 1)) (.var 1) (.add (.var 1) (.num 1)) (.num 5) (.add (.var 0) (.num 1)) (.num 5) 1 1 1 rfl (nlt hab) (nlt hb))) hb]
      split
      · assumption
      · exact hT
    · by_cases h2 : c < b
      · rw [if_neg (by exact ginlt (lin1 (cx2 _ _) (.var 0) (.var 1) (.var 0) (.var 1) 1 1 rfl (nnlt h1))), if_pos (by exact lin1 (cx2 _ _) (.add (.var 0) (.num 1)) (.var 1) (.add (.var 0) (.num 1)) (.var 1) 1 1 rfl (nlt h2)), worthT3 (by exact gnlt (lin2 (cx2 _ _) (.add (.var 0) (.num 1)) (.var 1) (.add (.var 1) (.num 1)) (.num 5) (.add (.var 0) (.num 1)) (.num 5) 1 1 1 rfl (nlt hab) (nlt hb))) hc hb]
        split
        · assumption
        · split
          · assumption
          · exact hT
      · rw [if_neg (by exact ginlt (lin1 (cx2 _ _) (.var 0) (.var 1) (.var 0) (.var 1) 1 1 rfl (nnlt h1))), if_neg (by exact ginlt (lin1 (cx2 _ _) (.var 0) (.var 1) (.var 0) (.var 1) 1 1 rfl (nnlt h2))), worthT3 (by exact gnlt (lin2 (cx2 _ _) (.add (.var 0) (.num 1)) (.var 1) (.add (.var 1) (.num 1)) (.num 5) (.add (.var 0) (.num 1)) (.num 5) 1 1 1 rfl (nlt hab) (nlt hb))) hb hc]
        split
        · assumption
        · split
          · assumption
          · split
            · assumption
            · exact hT
  intro e
  rw [e] at w
  omega
theorem gen_all {P : Lmp} (hO : P.Ok) : ∀ a b c, a < 5 → b < 5 → c < 5 → c ≠ a → c ≠ b → crI (pX P) (pY P) a b ≠ 0 → SSI (pX P) (pY P) (pC P) a b c ≠ 0 := by
  intro a b c ha hb hc ca cb hT
  rcases Nat.lt_trichotomy a b with h | rfl | h
  · exact ssi_ne hO h hb hc ca cb hT
  · exact absurd (by unfold crI; grind) hT
  · rw [SSI_symm]
    have := ssi_ne hO h ha hc cb ca (by rw [← cr_G, cr_symm]; omega)
    omega
theorem lit_iff {P : Lmp} (hO : P.Ok) {a b i : Nat} (hab : a < b) (hb : b < 5) (hi : i < 5) {s : Int} (hs : s = 1 ∨ s = -1) (hU : 0 < s * P.G a b) : isLit P (lus P) a b i = true ↔ s * SSI (pX P) (pY P) (pC P) a b i < 0 := by
  by_cases ia : i = a
  · subst ia; rw [SSI_a, lit_off (.inl rfl)]; simp
  · by_cases ib : i = b
    · subst ib; rw [SSI_b, lit_off (.inr rfl)]; simp
    · rw [lit_dec (W := worthZ P (lus P) a b i) (by omega) (by omega) rfl, decide_eq_true_eq]
      simp only [Int.toNat_natCast]
      have w := worth_sign hO hab hb hi ia ib
      generalize worthZ P (lus P) a b i = W at w
      generalize SSI (pX P) (pY P) (pC P) a b i = Z at w
      generalize P.G a b = T at hU
      have mulneg : ∀ u v : Int, 0 < v → (u * v < 0 ↔ u < 0) := fun u v hv => by
        constructor
        · intro h
          by_cases h1 : u < 0
          · exact h1
          · have := Int.mul_nonneg (Int.not_lt.mp h1) (Int.le_of_lt hv); omega
        · intro h; exact Int.mul_neg_of_neg_of_pos h hv
      rcases hs with rfl | rfl
      · rw [Int.one_mul] at hU ⊢
        rw [mulneg W T hU]
        exact w.1
      · have e : W * T = -W * (-1 * T) := by grind
        rw [e, mulneg (-W) (-1 * T) hU]
        omega
theorem lit_sum {P : Lmp} {lu : List Int} {a b : Int} (f : Int → Int) : ((litZ P lu a b 5).map f).sum = S5 fun i => if isLit P lu a b i = true then f i else 0 := by
  have h : ∀ l : List Int, ((l.filter (isLit P lu a b)).map f).sum = (l.map fun x => if isLit P lu a b x = true then f x else 0).sum := by
    intro l
    induction l with
    | nil => rfl
    | cons x l ih =>
      by_cases hx : isLit P lu a b x = true
      · rw [List.filter_cons_of_pos hx, List.map_cons, List.sum_cons, ih, List.map_cons, List.sum_cons, if_pos hx]
      · rw [List.filter_cons_of_neg hx, ih, List.map_cons, List.sum_cons, if_neg hx, Int.zero_add]
  unfold litZ
  rw [h]
  have r : (List.range 5).map (fun (i : Nat) => (0 : Int) + (i : Int)) = [0, 1, 2, 3, 4] := rfl
  rw [r]
  simp only [List.map_cons, List.map_nil, List.sum_cons, List.sum_nil, S5]
  show _ = (if isLit P lu a b 0 = true then f 0 else 0) + (if isLit P lu a b 1 = true then f 1 else 0) + (if isLit P lu a b 2 = true then f 2 else 0) + (if isLit P lu a b 3 = true then f 3 else 0) + (if isLit P lu a b 4 = true then f 4 else 0)
  generalize (if isLit P lu a b 0 = true then f 0 else 0) = z0
  generalize (if isLit P lu a b 1 = true then f 1 else 0) = z1
  generalize (if isLit P lu a b 2 = true then f 2 else 0) = z2
  generalize (if isLit P lu a b 3 = true then f 3 else 0) = z3
  generalize (if isLit P lu a b 4 = true then f 4 else 0) = z4
  exact Int.le_antisymm (lin0 (cx5 _ _ _ _ _) (.add (.var 0) (.add (.var 1) (.add (.var 2) (.add (.var 3) (.add (.var 4) (.num 0)))))) (.add (.add (.add (.add (.var 0) (.var 1)) (.var 2)) (.var 3)) (.var 4)) 1 rfl) (lin0 (cx5 _ _ _ _ _) (.add (.add (.add (.add (.var 0) (.var 1)) (.var 2)) (.var 3)) (.var 4)) (.add (.var 0) (.add (.var 1) (.add (.var 2) (.add (.var 3) (.add (.var 4) (.num 0)))))) 1 rfl)
theorem S5_ext {f g : Nat → Int} (h : ∀ i, i < 5 → f i = g i) : S5 f = S5 g := S5_congr h
noncomputable abbrev parts (a b c d e : Int) (i : Nat) : Int := [a, b, c, d, e].getD i 0
theorem mix_S5 {P : Lmp} {a b c d e : Int} {k : Nat} : mixAt P [a, b, c, d, e] k = S5 fun i => parts a b c d e i * P.at i k := by
  rw [mixAt_eq]
  show _ = a * P.at 0 k + b * P.at 1 k + c * P.at 2 k + d * P.at 3 k + e * P.at 4 k
  exact Int.le_antisymm (lin0 (cx5 _ _ _ _ _) (.add (.var 0) (.add (.var 1) (.add (.var 2) (.add (.var 3) (.add (.var 4) (.num 0)))))) (.add (.add (.add (.add (.var 0) (.var 1)) (.var 2)) (.var 3)) (.var 4)) 1 rfl) (lin0 (cx5 _ _ _ _ _) (.add (.add (.add (.add (.var 0) (.var 1)) (.var 2)) (.var 3)) (.var 4)) (.add (.var 0) (.add (.var 1) (.add (.var 2) (.add (.var 3) (.add (.var 4) (.num 0)))))) 1 rfl)
theorem at0 {P : Lmp} {i : Nat} : P.at i 0 = P.x i := rfl
theorem at1 {P : Lmp} {i : Nat} : P.at i 1 = P.y i := rfl
theorem at2 {P : Lmp} {i : Nat} : P.at i 2 = P.z i := rfl
theorem mix_X {P : Lmp} {a b c d e : Int} : mixAt P [a, b, c, d, e] 0 - mixAt P [a, b, c, d, e] 2 = S5 fun i => parts a b c d e i * pX P i := by
  rw [mix_S5, mix_S5]
  simp only [S5, at0, at2, pX, Int.mul_sub]
  exact Int.le_antisymm (lin0 (cx10 _ _ _ _ _ _ _ _ _ _) (.sub (.add (.add (.add (.add (.var 0) (.var 1)) (.var 2)) (.var 3)) (.var 4)) (.add (.add (.add (.add (.var 5) (.var 6)) (.var 7)) (.var 8)) (.var 9))) (.add (.add (.add (.add (.sub (.var 0) (.var 5)) (.sub (.var 1) (.var 6))) (.sub (.var 2) (.var 7))) (.sub (.var 3) (.var 8))) (.sub (.var 4) (.var 9))) 1 rfl) (lin0 (cx10 _ _ _ _ _ _ _ _ _ _) (.add (.add (.add (.add (.sub (.var 0) (.var 1)) (.sub (.var 2) (.var 3))) (.sub (.var 4) (.var 5))) (.sub (.var 6) (.var 7))) (.sub (.var 8) (.var 9))) (.sub (.add (.add (.add (.add (.var 0) (.var 2)) (.var 4)) (.var 6)) (.var 8)) (.add (.add (.add (.add (.var 1) (.var 3)) (.var 5)) (.var 7)) (.var 9))) 1 rfl)
theorem mix_Y {P : Lmp} {a b c d e : Int} : mixAt P [a, b, c, d, e] 1 - mixAt P [a, b, c, d, e] 2 = S5 fun i => parts a b c d e i * pY P i := by
  rw [mix_S5, mix_S5]
  simp only [S5, at1, at2, pY, Int.mul_sub]
  exact Int.le_antisymm (lin0 (cx10 _ _ _ _ _ _ _ _ _ _) (.sub (.add (.add (.add (.add (.var 0) (.var 1)) (.var 2)) (.var 3)) (.var 4)) (.add (.add (.add (.add (.var 5) (.var 6)) (.var 7)) (.var 8)) (.var 9))) (.add (.add (.add (.add (.sub (.var 0) (.var 5)) (.sub (.var 1) (.var 6))) (.sub (.var 2) (.var 7))) (.sub (.var 3) (.var 8))) (.sub (.var 4) (.var 9))) 1 rfl) (lin0 (cx10 _ _ _ _ _ _ _ _ _ _) (.add (.add (.add (.add (.sub (.var 0) (.var 1)) (.sub (.var 2) (.var 3))) (.sub (.var 4) (.var 5))) (.sub (.var 6) (.var 7))) (.sub (.var 8) (.var 9))) (.sub (.add (.add (.add (.add (.var 0) (.var 2)) (.var 4)) (.var 6)) (.var 8)) (.add (.add (.add (.add (.var 1) (.var 3)) (.var 5)) (.var 7)) (.var 9))) 1 rfl)
theorem mix_L {P : Lmp} {a b c d e : Int} : wY (mixAt P [a, b, c, d, e] 0) (mixAt P [a, b, c, d, e] 1) (mixAt P [a, b, c, d, e] 2) = S5 fun i => parts a b c d e i * lumaZ P i := by
  rw [mix_S5, mix_S5, mix_S5]
  simp only [S5, at0, at1, at2, lumaZ, wY]
  grind
end
section
open PySem.Calls
open PyProof.Rows.LCg
set_option exponentiation.threshold 3000
theorem S5_sub {f g : Nat → Int} : S5 f - S5 g = S5 fun i => f i - g i := by simp only [S5]; exact Int.le_antisymm (lin0 (cx10 _ _ _ _ _ _ _ _ _ _) (.sub (.add (.add (.add (.add (.var 0) (.var 1)) (.var 2)) (.var 3)) (.var 4)) (.add (.add (.add (.add (.var 5) (.var 6)) (.var 7)) (.var 8)) (.var 9))) (.add (.add (.add (.add (.sub (.var 0) (.var 5)) (.sub (.var 1) (.var 6))) (.sub (.var 2) (.var 7))) (.sub (.var 3) (.var 8))) (.sub (.var 4) (.var 9))) 1 rfl) (lin0 (cx10 _ _ _ _ _ _ _ _ _ _) (.add (.add (.add (.add (.sub (.var 0) (.var 1)) (.sub (.var 2) (.var 3))) (.sub (.var 4) (.var 5))) (.sub (.var 6) (.var 7))) (.sub (.var 8) (.var 9))) (.sub (.add (.add (.add (.add (.var 0) (.var 2)) (.var 4)) (.var 6)) (.var 8)) (.add (.add (.add (.add (.var 1) (.var 3)) (.var 5)) (.var 7)) (.var 9))) 1 rfl)
theorem S5_mulr {f : Nat → Int} {k : Int} : S5 f * k = S5 fun i => f i * k := by simp only [S5]; grind
theorem S5_mull {f : Nat → Int} {k : Int} : k * S5 f = S5 fun i => k * f i := by simp only [S5]; grind
theorem S5_add {f g : Nat → Int} : S5 f + S5 g = S5 fun i => f i + g i := by simp only [S5]; exact Int.le_antisymm (lin0 (cx10 _ _ _ _ _ _ _ _ _ _) (.add (.add (.add (.add (.add (.var 0) (.var 1)) (.var 2)) (.var 3)) (.var 4)) (.add (.add (.add (.add (.var 5) (.var 6)) (.var 7)) (.var 8)) (.var 9))) (.add (.add (.add (.add (.add (.var 0) (.var 5)) (.add (.var 1) (.var 6))) (.add (.var 2) (.var 7))) (.add (.var 3) (.var 8))) (.add (.var 4) (.var 9))) 1 rfl) (lin0 (cx10 _ _ _ _ _ _ _ _ _ _) (.add (.add (.add (.add (.add (.var 0) (.var 1)) (.add (.var 2) (.var 3))) (.add (.var 4) (.var 5))) (.add (.var 6) (.var 7))) (.add (.var 8) (.var 9))) (.add (.add (.add (.add (.add (.var 0) (.var 2)) (.var 4)) (.var 6)) (.var 8)) (.add (.add (.add (.add (.var 1) (.var 3)) (.var 5)) (.var 7)) (.var 9))) 1 rfl)
noncomputable abbrev litX (P : Lmp) (a b : Nat) : Int := S5 fun i => if isLit P (lus P) a b i = true then pX P i else 0
noncomputable abbrev litY (P : Lmp) (a b : Nat) : Int := S5 fun i => if isLit P (lus P) a b i = true then pY P i else 0
theorem rest_at {P : Lmp} {ms : List Int} {a b : Nat} {k : Nat} : restZ P ms (litZ P (lus P) a b 5) k = ms.getD k 0 - 8 * S5 fun i => if isLit P (lus P) a b i = true then P.at i k else 0 := by
  unfold restZ
  rw [lit_sum]
  rfl
theorem rest_X {P : Lmp} {n0 n1 n2 n3 n4 : Int} {a b : Nat} : restZ P (mxs P n0 n1 n2 n3 n4) (litZ P (lus P) a b 5) 0 - restZ P (mxs P n0 n1 n2 n3 n4) (litZ P (lus P) a b 5) 2 = S5 (fun i => parts n0 n1 n2 n3 n4 i * pX P i) - 8 * litX P a b := by
  rw [rest_at, rest_at, ← mix_X]
  have e : (S5 fun i => if isLit P (lus P) a b i = true then P.at i 0 else 0) - (S5 fun i => if isLit P (lus P) a b i = true then P.at i 2 else 0) = litX P a b := by
    rw [S5_sub]
    refine S5_ext fun i _ => ?_
    by_cases h : isLit P (lus P) a b i = true
    · rw [if_pos h, if_pos h, if_pos h]; rfl
    · rw [if_neg h, if_neg h, if_neg h]; rfl
  show mixAt P [n0, n1, n2, n3, n4] 0 - 8 * _ - (mixAt P [n0, n1, n2, n3, n4] 2 - 8 * _) = _
  exact Int.le_antisymm (lin1 (cx5 _ _ _ _ _) (.var 0) (.sub (.var 1) (.var 2)) (.sub (.sub (.var 3) (.mulL 8 (.var 1))) (.sub (.var 4) (.mulL 8 (.var 2)))) (.sub (.sub (.var 3) (.var 4)) (.mulL 8 (.var 0))) 8 1 rfl (ieq2 e)) (lin1 (cx5 _ _ _ _ _) (.sub (.var 0) (.var 1)) (.var 2) (.sub (.sub (.var 3) (.var 4)) (.mulL 8 (.var 2))) (.sub (.sub (.var 3) (.mulL 8 (.var 0))) (.sub (.var 4) (.mulL 8 (.var 1)))) 8 1 rfl (ieq1 e))
theorem rest_Y {P : Lmp} {n0 n1 n2 n3 n4 : Int} {a b : Nat} : restZ P (mxs P n0 n1 n2 n3 n4) (litZ P (lus P) a b 5) 1 - restZ P (mxs P n0 n1 n2 n3 n4) (litZ P (lus P) a b 5) 2 = S5 (fun i => parts n0 n1 n2 n3 n4 i * pY P i) - 8 * litY P a b := by
  rw [rest_at, rest_at, ← mix_Y]
  have e : (S5 fun i => if isLit P (lus P) a b i = true then P.at i 1 else 0) - (S5 fun i => if isLit P (lus P) a b i = true then P.at i 2 else 0) = litY P a b := by
    rw [S5_sub]
    refine S5_ext fun i _ => ?_
    by_cases h : isLit P (lus P) a b i = true
    · rw [if_pos h, if_pos h, if_pos h]; rfl
    · rw [if_neg h, if_neg h, if_neg h]; rfl
  show mixAt P [n0, n1, n2, n3, n4] 1 - 8 * _ - (mixAt P [n0, n1, n2, n3, n4] 2 - 8 * _) = _
  exact Int.le_antisymm (lin1 (cx5 _ _ _ _ _) (.var 0) (.sub (.var 1) (.var 2)) (.sub (.sub (.var 3) (.mulL 8 (.var 1))) (.sub (.var 4) (.mulL 8 (.var 2)))) (.sub (.sub (.var 3) (.var 4)) (.mulL 8 (.var 0))) 8 1 rfl (ieq2 e)) (lin1 (cx5 _ _ _ _ _) (.sub (.var 0) (.var 1)) (.var 2) (.sub (.sub (.var 3) (.var 4)) (.mulL 8 (.var 2))) (.sub (.sub (.var 3) (.mulL 8 (.var 0))) (.sub (.var 4) (.mulL 8 (.var 1)))) 8 1 rfl (ieq1 e))
noncomputable abbrev sd (T : Int) : Int := if T > 0 then 1 else -1
noncomputable abbrev un (T : Int) : Int := if T < 0 then -T else T
theorem sd_un {T : Int} (h : T ≠ 0) : (sd T = 1 ∨ sd T = -1) ∧ un T = sd T * T ∧ 0 < un T := by
  unfold sd un
  by_cases h1 : T > 0
  · rw [if_pos h1, if_neg (by exact ginlt (lin1 (cx1 _) (.add (.num 0) (.num 1)) (.var 0) (.num 0) (.var 0) 1 1 rfl h1))]; omega
  · rw [if_neg h1, if_pos (by omega)]; omega
section
variable {P : Lmp} {n0 n1 n2 n3 n4 : Int} {a b : Nat}
noncomputable abbrev rX (P : Lmp) (n0 n1 n2 n3 n4 : Int) (a b : Nat) : Int := S5 (fun i => parts n0 n1 n2 n3 n4 i * pX P i) - 8 * litX P a b
noncomputable abbrev rY (P : Lmp) (n0 n1 n2 n3 n4 : Int) (a b : Nat) : Int := S5 (fun i => parts n0 n1 n2 n3 n4 i * pY P i) - 8 * litY P a b
theorem amts_at (hab : a < b) (hb : b < 5) {i : Nat} (hi : i < 5) : (amtsZ P (lus P) (mxs P n0 n1 n2 n3 n4) a b).getD i 0 =
    if i = b then sd (P.G a b) * (pX P a * rY P n0 n1 n2 n3 n4 a b - pY P a * rX P n0 n1 n2 n3 n4 a b) else if i = a then sd (P.G a b) * (rX P n0 n1 n2 n3 n4 a b * pY P b - rY P n0 n1 n2 n3 n4 a b * pX P b) else if isLit P (lus P) a b i = true then 8 * un (P.G a b) else 0 := by
  unfold amtsZ
  simp only [Int.toNat_natCast]
  rw [rest_X, rest_Y, List.getD_eq_getElem?_getD, List.getElem?_set, List.getElem?_set, List.getElem?_map, List.getElem?_range hi]
  by_cases ib : i = b
  · subst ib
    rw [if_pos rfl, if_pos rfl, if_pos (by simp; exact gnlt (lin1 (cx1 _) (.add (.var 0) (.num 1)) (.num 5) (.add (.var 0) (.num 1)) (.num 5) 1 1 rfl (nlt hi)))]
    rfl
  · rw [if_neg (Ne.symm ib), if_neg ib]
    by_cases ia : i = a
    · subst ia
      rw [if_pos rfl, if_pos rfl, if_pos (by simp; exact gnlt (lin1 (cx1 _) (.add (.var 0) (.num 1)) (.num 5) (.add (.var 0) (.num 1)) (.num 5) 1 1 rfl (nlt hi)))]
      rfl
    · rw [if_neg (Ne.symm ia), if_neg ia]
      show baseZ _ _ i = _
      unfold baseZ litZ
      have : ((0 : Int) + (i : Int) ∈ ((List.range 5).map fun (i : Nat) => (0 : Int) + (i : Int)).filter (isLit P (lus P) a b)) ↔ isLit P (lus P) a b i = true := by
        rw [List.mem_filter, Int.zero_add]
        constructor
        · exact fun h => h.2
        · exact fun h => ⟨List.mem_map.mpr ⟨i, List.mem_range.mpr hi, Int.zero_add _⟩, h⟩
      by_cases hl : isLit P (lus P) a b i = true
      · rw [if_pos (this.mpr hl), if_pos hl]
      · rw [if_neg (fun h => hl (this.mp h)), if_neg hl]
theorem lit_cross {j : Nat} (hO : P.Ok) (hab : a < b) (hb : b < 5) {s : Int} (hs : s = 1 ∨ s = -1) (hU : 0 < s * P.G a b) : S5 (fun i => if s * SSI (pX P) (pY P) (pC P) a b i < 0 then crI (pX P) (pY P) i j else 0) = litX P a b * pY P j - litY P a b * pX P j := by
  rw [S5_mulr, S5_mulr, S5_sub]
  refine S5_ext fun i hi => ?_
  have h := lit_iff hO hab hb hi hs hU
  by_cases hl : isLit P (lus P) a b i = true
  · rw [if_pos (h.mp hl), if_pos hl, if_pos hl]; rfl
  · rw [if_neg (fun e => hl (h.mpr e)), if_neg hl, if_neg hl]; simp
theorem va_eq (hO : P.Ok) (hab : a < b) (hb : b < 5) {s : Int} (hs : s = 1 ∨ s = -1) (hU : 0 < s * P.G a b) : rX P n0 n1 n2 n3 n4 a b * pY P b - rY P n0 n1 n2 n3 n4 a b * pX P b = restN (pX P) (pY P) (pC P) (parts n0 n1 n2 n3 n4) s a b := by
  unfold restN rX rY
  rw [lit_cross hO hab hb hs hU]
  generalize S5 (fun i => parts n0 n1 n2 n3 n4 i * pX P i) = u
  generalize S5 (fun i => parts n0 n1 n2 n3 n4 i * pY P i) = v
  generalize litX P a b = lx
  generalize litY P a b = ly
  generalize pX P b = xb
  generalize pY P b = yb
  grind
theorem vb_eq (hO : P.Ok) (hab : a < b) (hb : b < 5) {s : Int} (hs : s = 1 ∨ s = -1) (hU : 0 < s * P.G a b) : pX P a * rY P n0 n1 n2 n3 n4 a b - pY P a * rX P n0 n1 n2 n3 n4 a b = -restN (pX P) (pY P) (pC P) (parts n0 n1 n2 n3 n4) (-s) b a := by
  unfold restN
  have e : (S5 fun i => if -s * SSI (pX P) (pY P) (pC P) b a i < 0 then crI (pX P) (pY P) i a else 0) = S5 fun i => if s * SSI (pX P) (pY P) (pC P) a b i < 0 then crI (pX P) (pY P) i a else 0 := by
    refine S5_ext fun i _ => ?_
    rw [SSI_symm, show -s * -SSI (pX P) (pY P) (pC P) a b i = s * SSI (pX P) (pY P) (pC P) a b i by grind]
  rw [e, lit_cross hO hab hb hs hU]
  unfold rX rY
  generalize S5 (fun i => parts n0 n1 n2 n3 n4 i * pX P i) = u
  generalize S5 (fun i => parts n0 n1 n2 n3 n4 i * pY P i) = v
  generalize litX P a b = lx
  generalize litY P a b = ly
  generalize pX P a = xa
  generalize pY P a = ya
  grind
theorem lit_ab : isLit P (lus P) a b a = false ∧ isLit P (lus P) a b b = false := ⟨lit_off (.inl rfl), lit_off (.inr rfl)⟩
theorem way_of (hO : P.Ok) (hab : a < b) (hb : b < 5) (hg : goodZ (P.G a b) (amtsZ P (lus P) (mxs P n0 n1 n2 n3 n4) a b) = true) :
    Way (pX P) (pY P) (pC P) (parts n0 n1 n2 n3 n4) a b (sd (P.G a b)) (un (P.G a b)) (fun i => (amtsZ P (lus P) (mxs P n0 n1 n2 n3 n4) a b).getD i 0) := by
  obtain ⟨hT, hr⟩ := good_facts hg
  obtain ⟨hs, hu, hu0⟩ := sd_un hT
  have hU : 0 < sd (P.G a b) * P.G a b := by exact lin2 (cx2 _ _) (.var 0) (.var 1) (.add (.num 0) (.num 1)) (.var 0) (.add (.num 0) (.num 1)) (.var 1) 1 1 1 rfl (ieq1 hu) hu0
  have len : (amtsZ P (lus P) (mxs P n0 n1 n2 n3 n4) a b).length = 5 := amtsZ_len
  have A := fun {i : Nat} (hi : i < 5) => amts_at (P := P) (n0 := n0) (n1 := n1) (n2 := n2) (n3 := n3) (n4 := n4) hab hb hi
  have lf := lit_ab (P := P) (a := a) (b := b)
  refine ⟨by exact gnlt (lin2 (cx2 _ _) (.add (.var 0) (.num 1)) (.var 1) (.add (.var 1) (.num 1)) (.num 5) (.add (.var 0) (.num 1)) (.num 5) 1 1 1 rfl (nlt hab) (nlt hb)), hb, by exact gnne1 (lin1 (cx2 _ _) (.add (.var 0) (.num 1)) (.var 1) (.add (.var 0) (.num 1)) (.var 1) 1 1 rfl (nlt hab)), hu, hu0, fun c hc ca cb => ssi_ne hO hab hb hc ca cb hT, fun c hc ca cb h => ?_, fun c hc ca cb h => ?_, fun c hc => ?_, ?_, ?_⟩
  · (try dsimp only)
    rw [A hc, if_neg cb, if_neg ca, if_pos ((lit_iff hO hab hb hc hs hU).mpr h)]
  · (try dsimp only)
    rw [A hc, if_neg cb, if_neg ca, if_neg (fun e => by have := (lit_iff hO hab hb hc hs hU).mp e; exact gfalse (lin2 (cx1 _) (.add (.num 0) (.num 1)) (.var 0) (.add (.var 0) (.num 1)) (.num 0) (.num 1) (.num 0) 1 1 1 rfl h this))]
  · have hl : c < (amtsZ P (lus P) (mxs P n0 n1 n2 n3 n4) a b).length := by exact gnlt (lin2 (cx2 _ _) (.num 5) (.var 0) (.add (.var 1) (.num 1)) (.num 5) (.add (.var 1) (.num 1)) (.var 0) 1 1 1 rfl (neq2 len) (nlt hc))
    (try dsimp only)
    rw [List.getD_eq_getElem?_getD, List.getElem?_eq_getElem hl, Option.getD_some]
    exact hr _ (List.getElem_mem hl)
  · have e := S5_two (f := fun i => (amtsZ P (lus P) (mxs P n0 n1 n2 n3 n4) a b).getD i 0 * pX P i) (g := fun i => 8 * un (P.G a b) * if isLit P (lus P) a b i = true then pX P i else 0) (a := a) (b := b) (by exact gnlt (lin2 (cx2 _ _) (.add (.var 0) (.num 1)) (.var 1) (.add (.var 1) (.num 1)) (.num 5) (.add (.var 0) (.num 1)) (.num 5) 1 1 1 rfl (nlt hab) (nlt hb))) hb (by exact gnne1 (lin1 (cx2 _ _) (.add (.var 0) (.num 1)) (.var 1) (.add (.var 0) (.num 1)) (.var 1) 1 1 rfl (nlt hab))) (fun i hi ia ib => by
      (try dsimp only)
      rw [A hi, if_neg ib, if_neg ia]
      by_cases hl : isLit P (lus P) a b i = true
      · rw [if_pos hl, if_pos hl]
      · rw [if_neg hl, if_neg hl]; simp) (by (try dsimp only); rw [lf.1]; simp) (by (try dsimp only); rw [lf.2]; simp)
    rw [e]
    (try dsimp only)
    rw [A (by exact gnlt (lin2 (cx2 _ _) (.add (.var 0) (.num 1)) (.var 1) (.add (.var 1) (.num 1)) (.num 5) (.add (.var 0) (.num 1)) (.num 5) 1 1 1 rfl (nlt hab) (nlt hb)) : a < 5), A hb, if_neg (by exact gnne1 (lin1 (cx2 _ _) (.add (.var 0) (.num 1)) (.var 1) (.add (.var 0) (.num 1)) (.var 1) 1 1 rfl (nlt hab)) : ¬ a = b), if_pos rfl, if_pos rfl, ← S5_mull, hu]
    have hx : crI (pX P) (pY P) a b = P.G a b := rfl
    unfold crI at hx
    rw [← hx]
    show _ + _ + 8 * (sd _ * _) * litX P a b = _
    unfold rX rY
    generalize sd (P.G a b) = s
    generalize S5 (fun i => parts n0 n1 n2 n3 n4 i * pX P i) = u
    generalize S5 (fun i => parts n0 n1 n2 n3 n4 i * pY P i) = v
    generalize litX P a b = lx
    generalize litY P a b = ly
    generalize pX P a = xa
    generalize pY P a = ya
    generalize pX P b = xb
    generalize pY P b = yb
    grind
  · have e := S5_two (f := fun i => (amtsZ P (lus P) (mxs P n0 n1 n2 n3 n4) a b).getD i 0 * pY P i) (g := fun i => 8 * un (P.G a b) * if isLit P (lus P) a b i = true then pY P i else 0) (a := a) (b := b) (by exact gnlt (lin2 (cx2 _ _) (.add (.var 0) (.num 1)) (.var 1) (.add (.var 1) (.num 1)) (.num 5) (.add (.var 0) (.num 1)) (.num 5) 1 1 1 rfl (nlt hab) (nlt hb))) hb (by exact gnne1 (lin1 (cx2 _ _) (.add (.var 0) (.num 1)) (.var 1) (.add (.var 0) (.num 1)) (.var 1) 1 1 rfl (nlt hab))) (fun i hi ia ib => by
      (try dsimp only)
      rw [A hi, if_neg ib, if_neg ia]
      by_cases hl : isLit P (lus P) a b i = true
      · rw [if_pos hl, if_pos hl]
      · rw [if_neg hl, if_neg hl]; simp) (by (try dsimp only); rw [lf.1]; simp) (by (try dsimp only); rw [lf.2]; simp)
    rw [e]
    (try dsimp only)
    rw [A (by exact gnlt (lin2 (cx2 _ _) (.add (.var 0) (.num 1)) (.var 1) (.add (.var 1) (.num 1)) (.num 5) (.add (.var 0) (.num 1)) (.num 5) 1 1 1 rfl (nlt hab) (nlt hb)) : a < 5), A hb, if_neg (by exact gnne1 (lin1 (cx2 _ _) (.add (.var 0) (.num 1)) (.var 1) (.add (.var 0) (.num 1)) (.var 1) 1 1 rfl (nlt hab)) : ¬ a = b), if_pos rfl, if_pos rfl, ← S5_mull, hu]
    have hx : crI (pX P) (pY P) a b = P.G a b := rfl
    unfold crI at hx
    rw [← hx]
    show _ + _ + 8 * (sd _ * _) * litY P a b = _
    unfold rX rY
    generalize sd (P.G a b) = s
    generalize S5 (fun i => parts n0 n1 n2 n3 n4 i * pX P i) = u
    generalize S5 (fun i => parts n0 n1 n2 n3 n4 i * pY P i) = v
    generalize litX P a b = lx
    generalize litY P a b = ly
    generalize pX P a = xa
    generalize pY P a = ya
    generalize pX P b = xb
    generalize pY P b = yb
    grind
theorem good_of (hO : P.Ok) (hab : a < b) (hb : b < 5) (hT : P.G a b ≠ 0) (h1 : 0 ≤ sd (P.G a b) * restN (pX P) (pY P) (pC P) (parts n0 n1 n2 n3 n4) (sd (P.G a b)) a b ∧ sd (P.G a b) * restN (pX P) (pY P) (pC P) (parts n0 n1 n2 n3 n4) (sd (P.G a b)) a b ≤ 8 * un (P.G a b))
    (h2 : 0 ≤ -sd (P.G a b) * restN (pX P) (pY P) (pC P) (parts n0 n1 n2 n3 n4) (-sd (P.G a b)) b a ∧ -sd (P.G a b) * restN (pX P) (pY P) (pC P) (parts n0 n1 n2 n3 n4) (-sd (P.G a b)) b a ≤ 8 * un (P.G a b)) :
    goodZ (P.G a b) (amtsZ P (lus P) (mxs P n0 n1 n2 n3 n4) a b) = true := by
  obtain ⟨hs, hu, hu0⟩ := sd_un hT
  have hU : 0 < sd (P.G a b) * P.G a b := by exact lin2 (cx2 _ _) (.var 0) (.var 1) (.add (.num 0) (.num 1)) (.var 0) (.add (.num 0) (.num 1)) (.var 1) 1 1 1 rfl (ieq1 hu) hu0
  refine good_yes hT fun z hz => ?_
  obtain ⟨i, hi, rfl⟩ := List.getElem_of_mem hz
  have hi5 : i < 5 := by rw [amtsZ_len] at hi; exact hi
  have e := amts_at (P := P) (n0 := n0) (n1 := n1) (n2 := n2) (n3 := n3) (n4 := n4) hab hb hi5
  rw [List.getD_eq_getElem?_getD, List.getElem?_eq_getElem hi, Option.getD_some] at e
  rw [e]
  show 0 ≤ _ ∧ _ ≤ 8 * un (P.G a b)
  by_cases ib : i = b
  · rw [if_pos ib, vb_eq hO hab hb hs hU, show sd (P.G a b) * -restN (pX P) (pY P) (pC P) (parts n0 n1 n2 n3 n4) (-sd (P.G a b)) b a = -sd (P.G a b) * restN (pX P) (pY P) (pC P) (parts n0 n1 n2 n3 n4) (-sd (P.G a b)) b a by grind]
    exact h2
  · rw [if_neg ib]
    by_cases ia : i = a
    · rw [if_pos ia, va_eq hO hab hb hs hU]
      exact h1
    · rw [if_neg ia]
      split <;> (first | exact ⟨lin1 (cx1 _) (.add (.num 0) (.num 1)) (.var 0) (.num 0) (.mulL 8 (.var 0)) 8 1 rfl hu0, lin0 (cx1 _) (.mulL 8 (.var 0)) (.mulL 8 (.var 0)) 1 rfl⟩ | exact ⟨lin0 (cx1 0) (.num 0) (.num 0) 1 rfl, lin1 (cx1 _) (.add (.num 0) (.num 1)) (.var 0) (.num 0) (.mulL 8 (.var 0)) 8 1 rfl hu0⟩)
end
end
section
open PySem.Calls
open PyProof.Rows.LCg
set_option exponentiation.threshold 3000
theorem lamp_lead (p : Nat) (n k : Int) (hp : p < 3) (hk : k = 0 ∨ k = 1 ∨ k = 2) : if k = (p : Int) then 8 ≤ lampZ p n k else lampZ p n k ≤ 7 := by
  have f : ∀ a : Int, 0 ≤ a.fmod 8 ∧ a.fmod 8 ≤ 7 := fun a => by
    rw [Int.fmod_eq_emod_of_nonneg _ (by decide)]
    exact ⟨lin1 (cx1 _) (.num 0) (.var 0) (.num 0) (.var 0) 1 1 rfl (md1 _ (by decide)), lin1 (cx1 _) (.add (.var 0) (.num 1)) (.num 8) (.var 0) (.num 7) 1 1 rfl (md2 _ (by decide))⟩
  have f1 := f (n.fdiv 64)
  have f2 := f (n.fdiv 8)
  have f3 := f n
  have e : ((p : Int)).fmod 3 = p := by rw [Int.fmod_eq_emod_of_nonneg _ (by decide)]; omega
  unfold lampZ
  rw [e]
  generalize (n.fdiv 64).fmod 8 = u1 at *
  generalize (n.fdiv 8).fmod 8 = u2 at *
  generalize n.fmod 8 = u3 at *
  by_cases h : k = (p : Int)
  · rw [if_pos h, if_pos h]
    rcases hk with rfl | rfl | rfl
    · show 8 ≤ u1 + 8; exact lin1 (cx1 _) (.num 0) (.var 0) (.num 8) (.add (.var 0) (.num 8)) 1 1 rfl f1.1
    · show 8 ≤ u2 + 8; exact lin1 (cx1 _) (.num 0) (.var 0) (.num 8) (.add (.var 0) (.num 8)) 1 1 rfl f2.1
    · show 8 ≤ u3 + 8; exact lin1 (cx1 _) (.num 0) (.var 0) (.num 8) (.add (.var 0) (.num 8)) 1 1 rfl f3.1
  · rw [if_neg h, if_neg h]
    rcases hk with rfl | rfl | rfl
    · show u1 + 0 ≤ 7; exact lin1 (cx1 _) (.var 0) (.num 7) (.add (.var 0) (.num 0)) (.num 7) 1 1 rfl f1.2
    · show u2 + 0 ≤ 7; exact lin1 (cx1 _) (.var 0) (.num 7) (.add (.var 0) (.num 0)) (.num 7) 1 1 rfl f2.2
    · show u3 + 0 ≤ 7; exact lin1 (cx1 _) (.var 0) (.num 7) (.add (.var 0) (.num 0)) (.num 7) 1 1 rfl f3.2
theorem rank_of {P : Lmp} {ms : List Int} {Ls : List (Addr × Obj)} (h : LmpsAre ms Ls P 5) : ∃ a b, a < b ∧ b < 5 ∧ crI (pX P) (pY P) a b ≠ 0 := by
  have hO := h.ok
  have l0 := h 0 (by decide)
  have l1 := h 1 (by decide)
  have l2 := h 2 (by decide)
  have x0 := lamp_lead 0 (ms.getD 0 0) 0 (by decide) (.inl rfl)
  have y0 := lamp_lead 0 (ms.getD 0 0) 1 (by decide) (.inr (.inl rfl))
  have z0 := lamp_lead 0 (ms.getD 0 0) 2 (by decide) (.inr (.inr rfl))
  have x1 := lamp_lead 1 (ms.getD 1 0) 0 (by decide) (.inl rfl)
  have y1 := lamp_lead 1 (ms.getD 1 0) 1 (by decide) (.inr (.inl rfl))
  have z1 := lamp_lead 1 (ms.getD 1 0) 2 (by decide) (.inr (.inr rfl))
  have x2 := lamp_lead 2 (ms.getD 2 0) 0 (by decide) (.inl rfl)
  have y2 := lamp_lead 2 (ms.getD 2 0) 1 (by decide) (.inr (.inl rfl))
  have z2 := lamp_lead 2 (ms.getD 2 0) 2 (by decide) (.inr (.inr rfl))
  rw [if_pos (by decide), ← l0.2.1] at x0
  rw [if_neg (by decide), ← l0.2.2.1] at y0
  rw [if_neg (by decide), ← l0.2.2.2] at z0
  rw [if_neg (by decide), ← l1.2.1] at x1
  rw [if_pos (by decide), ← l1.2.2.1] at y1
  rw [if_neg (by decide), ← l1.2.2.2] at z1
  rw [if_neg (by decide), ← l2.2.1] at x2
  rw [if_neg (by decide), ← l2.2.2.1] at y2
  rw [if_pos (by decide), ← l2.2.2.2] at z2
  by_cases h02 : crI (pX P) (pY P) 0 2 = 0
  · by_cases h12 : crI (pX P) (pY P) 1 2 = 0
    · refine ⟨0, 1, by decide, by decide, ?_⟩
      unfold crI pX pY at *
      have a0 : 0 < P.x 0 - P.z 0 := by exact lin2 (cx2 _ _) (.num 8) (.var 0) (.var 1) (.num 7) (.add (.num 0) (.num 1)) (.sub (.var 0) (.var 1)) 1 1 1 rfl x0 z0
      have a1 : P.y 0 - P.z 0 < P.x 0 - P.z 0 := by exact lin2 (cx3 _ _ _) (.num 8) (.var 0) (.var 1) (.num 7) (.add (.sub (.var 1) (.var 2)) (.num 1)) (.sub (.var 0) (.var 2)) 1 1 1 rfl x0 y0
      have b0 : 0 < P.y 1 - P.z 1 := by exact lin2 (cx2 _ _) (.num 8) (.var 0) (.var 1) (.num 7) (.add (.num 0) (.num 1)) (.sub (.var 0) (.var 1)) 1 1 1 rfl y1 z1
      have b1 : P.x 1 - P.z 1 < P.y 1 - P.z 1 := by exact lin2 (cx3 _ _ _) (.var 0) (.num 7) (.num 8) (.var 1) (.add (.sub (.var 0) (.var 2)) (.num 1)) (.sub (.var 1) (.var 2)) 1 1 1 rfl x1 y1
      have c0 : P.x 2 - P.z 2 < 0 := by exact lin2 (cx2 _ _) (.var 0) (.num 7) (.num 8) (.var 1) (.add (.sub (.var 0) (.var 1)) (.num 1)) (.num 0) 1 1 1 rfl x2 z2
      have c1 : P.y 2 - P.z 2 < 0 := by exact lin2 (cx2 _ _) (.var 0) (.num 7) (.num 8) (.var 1) (.add (.sub (.var 0) (.var 1)) (.num 1)) (.num 0) 1 1 1 rfl y2 z2
      generalize P.x 0 - P.z 0 = X0 at *
      generalize P.y 0 - P.z 0 = Y0 at *
      generalize P.x 1 - P.z 1 = X1 at *
      generalize P.y 1 - P.z 1 = Y1 at *
      generalize P.x 2 - P.z 2 = X2 at *
      generalize P.y 2 - P.z 2 = Y2 at *
      have p1 : X0 * Y2 < 0 := Int.mul_neg_of_pos_of_neg a0 c1
      have p2 : 0 < Y0 := by
        by_cases hy : 0 < Y0
        · exact hy
        · have := Int.mul_nonneg_of_nonpos_of_nonpos (Int.not_lt.mp hy) (Int.le_of_lt c0); omega
      have p3 : Y1 * X2 < 0 := Int.mul_neg_of_pos_of_neg b0 c0
      have p4 : 0 < X1 := by
        by_cases hy : 0 < X1
        · exact hy
        · have := Int.mul_nonneg_of_nonpos_of_nonpos (Int.not_lt.mp hy) (Int.le_of_lt c1); omega
      have p5 : 0 < (X0 - Y0) * Y1 := Int.mul_pos (by exact lin1 (cx2 _ _) (.add (.var 0) (.num 1)) (.var 1) (.add (.num 0) (.num 1)) (.sub (.var 1) (.var 0)) 1 1 rfl a1) b0
      have p6 : 0 < Y0 * (Y1 - X1) := Int.mul_pos p2 (by exact lin1 (cx2 _ _) (.add (.var 0) (.num 1)) (.var 1) (.add (.num 0) (.num 1)) (.sub (.var 1) (.var 0)) 1 1 rfl b1)
      have p7 : X0 * Y1 - Y0 * X1 = (X0 - Y0) * Y1 + Y0 * (Y1 - X1) := by grind
      exact gine2 (lin3 (cx4 _ _ _ _) (.add (.num 0) (.num 1)) (.var 0) (.add (.num 0) (.num 1)) (.var 1) (.add (.var 0) (.var 1)) (.sub (.var 2) (.var 3)) (.add (.num 0) (.num 1)) (.sub (.var 2) (.var 3)) 1 1 1 1 rfl p5 p6 (ieq2 p7))
    · exact ⟨1, 2, by decide, by decide, h12⟩
  · exact ⟨0, 2, by decide, by decide, h02⟩
theorem parts_ok {a b c d e : Int} (hp : ∀ x ∈ [a, b, c, d, e], 0 ≤ x ∧ x ≤ 8) : ∀ i, i < 5 → 0 ≤ parts a b c d e i ∧ parts a b c d e i ≤ 8 := by
  intro i hi
  have : i = 0 ∨ i = 1 ∨ i = 2 ∨ i = 3 ∨ i = 4 := lin_or5 (by exact gnlt (lin1 (cx1 _) (.add (.var 0) (.num 1)) (.num 5) (.add (.var 0) (.num 1)) (.num 5) 1 1 rfl (nlt hi)))
  rcases this with rfl | rfl | rfl | rfl | rfl
  · exact hp a (by simp)
  · exact hp b (by simp)
  · exact hp c (by simp)
  · exact hp d (by simp)
  · exact hp e (by simp)
theorem prs_nat {a b : Nat} (h : a < b) (hb : b < 5) : ((a : Int), (b : Int)) ∈ prs 5 := (by decide : ∀ b : Nat, b < 5 → ∀ a : Nat, a < b → ((a : Int), (b : Int)) ∈ prs 5) b hb a h
theorem un_le {T : Int} (h : -450 ≤ T ∧ T ≤ 450) : un T ≤ 450 := by unfold un; split <;> (first | exact lin1 (cx1 _) (.neg (.num 450)) (.var 0) (.neg (.var 0)) (.num 450) 1 1 rfl h.1 | exact lin1 (cx1 _) (.var 0) (.num 450) (.var 0) (.num 450) 1 1 rfl h.2)
theorem luma_le {P : Lmp} (hO : P.Ok) {a b : Nat} {s U : Int} {A m : Nat → Int} (w : Way (pX P) (pY P) (pC P) m a b s U A) (hU : U ≤ 450) (hm : ∀ i, i < 5 → 0 ≤ m i ∧ m i ≤ 8) : S5 (fun i => A i * lumaZ P i) ≤ U * S5 (fun i => m i * lumaZ P i) := by
  have h := w.cost hm
  have t0 : tri 0 = 100000000000000000000 := by decide +kernel
  have t1 : tri 1 = 1000000000000000 := by decide +kernel
  have t2 : tri 2 = 10000000000 := by decide +kernel
  have t3 : tri 3 = 100000 := by decide +kernel
  have t4 : tri 4 = 1 := by decide +kernel
  have t5 : (10 : Int) ^ 25 = 10000000000000000000000000 := by decide +kernel
  have e : ∀ D : Nat → Int, S5 (fun i => D i * pC P i) = 10 ^ 25 * S5 (fun i => D i * lumaZ P i) + S5 (fun i => D i * tri i) := fun D => by
    unfold pC
    generalize (10 : Int) ^ 25 = F
    simp only [S5]
    generalize lumaZ P 0 = l0
    generalize lumaZ P 1 = l1
    generalize lumaZ P 2 = l2
    generalize lumaZ P 3 = l3
    generalize lumaZ P 4 = l4
    grind
  rw [e, e, t5, Int.mul_add, show U * (10000000000000000000000000 * S5 fun i => m i * lumaZ P i) = 10000000000000000000000000 * (U * S5 fun i => m i * lumaZ P i) by grind] at h
  have a0 := w.rng 0 (by decide); have a1 := w.rng 1 (by decide); have a2 := w.rng 2 (by decide); have a3 := w.rng 3 (by decide); have a4 := w.rng 4 (by decide)
  have m0 := hm 0 (by decide); have m1 := hm 1 (by decide); have m2 := hm 2 (by decide); have m3 := hm 3 (by decide); have m4 := hm 4 (by decide)
  have hA : 0 ≤ S5 (fun i => A i * tri i) := by
    simp only [S5, t0, t1, t2, t3, t4]
    exact lin5 (cx5 _ _ _ _ _) (.num 0) (.var 0) (.num 0) (.var 1) (.num 0) (.var 2) (.num 0) (.var 3) (.num 0) (.var 4) (.num 0) (.add (.add (.add (.add (.mulR (.var 0) 100000000000000000000) (.mulR (.var 1) 1000000000000000)) (.mulR (.var 2) 10000000000)) (.mulR (.var 3) 100000)) (.mulR (.var 4) 1)) 100000000000000000000 1000000000000000 10000000000 100000 1 1 rfl a0.1 a1.1 a2.1 a3.1 a4.1
  have hM : 0 ≤ S5 (fun i => m i * tri i) ∧ S5 (fun i => m i * tri i) ≤ 900000000000000000000 := by
    simp only [S5, t0, t1, t2, t3, t4]
    exact ⟨lin5 (cx5 _ _ _ _ _) (.num 0) (.var 0) (.num 0) (.var 1) (.num 0) (.var 2) (.num 0) (.var 3) (.num 0) (.var 4) (.num 0) (.add (.add (.add (.add (.mulR (.var 0) 100000000000000000000) (.mulR (.var 1) 1000000000000000)) (.mulR (.var 2) 10000000000)) (.mulR (.var 3) 100000)) (.mulR (.var 4) 1)) 100000000000000000000 1000000000000000 10000000000 100000 1 1 rfl m0.1 m1.1 m2.1 m3.1 m4.1, lin5 (cx5 _ _ _ _ _) (.var 0) (.num 8) (.var 1) (.num 8) (.var 2) (.num 8) (.var 3) (.num 8) (.var 4) (.num 8) (.add (.add (.add (.add (.mulR (.var 0) 100000000000000000000) (.mulR (.var 1) 1000000000000000)) (.mulR (.var 2) 10000000000)) (.mulR (.var 3) 100000)) (.mulR (.var 4) 1)) (.num 900000000000000000000) 100000000000000000000 1000000000000000 10000000000 100000 1 1 rfl m0.2 m1.2 m2.2 m3.2 m4.2⟩
  have hUM := mul_bnd (Int.le_of_lt w.hU) hU hM.1 hM.2
  generalize S5 (fun i => A i * lumaZ P i) = L at *
  generalize U * S5 (fun i => m i * lumaZ P i) = L' at *
  generalize S5 (fun i => A i * tri i) = z1 at *
  generalize U * S5 (fun i => m i * tri i) = z2 at *
  exact lin3 (cx4 _ _ _ _) (.num 0) (.var 0) (.var 1) (.mulL 450 (.num 900000000000000000000)) (.add (.mulL 10000000000000000000000000 (.var 2)) (.var 0)) (.add (.mulL 10000000000000000000000000 (.var 3)) (.var 1)) (.var 2) (.var 3) 1 1 1 10000000000000000000000000 rfl hA hUM.2 h
theorem wI_eq {x y z : Int} : wI x y z = 5990 * (x - z) - 2773 * (y - z) := by unfold wI; exact Int.le_antisymm (lin0 (cx3 _ _ _) (.sub (.sub (.mulL 5990 (.var 0)) (.mulL 2773 (.var 1))) (.mulL 3217 (.var 2))) (.sub (.mulL 5990 (.sub (.var 0) (.var 2))) (.mulL 2773 (.sub (.var 1) (.var 2)))) 1 rfl) (lin0 (cx3 _ _ _) (.sub (.mulL 5990 (.sub (.var 0) (.var 1))) (.mulL 2773 (.sub (.var 2) (.var 1)))) (.sub (.sub (.mulL 5990 (.var 0)) (.mulL 2773 (.var 2))) (.mulL 3217 (.var 1))) 1 rfl)
theorem wQ_eq {x y z : Int} : wQ x y z = 2130 * (x - z) - 5251 * (y - z) := by unfold wQ; exact Int.le_antisymm (lin0 (cx3 _ _ _) (.add (.sub (.mulL 2130 (.var 0)) (.mulL 5251 (.var 1))) (.mulL 3121 (.var 2))) (.sub (.mulL 2130 (.sub (.var 0) (.var 2))) (.mulL 5251 (.sub (.var 1) (.var 2)))) 1 rfl) (lin0 (cx3 _ _ _) (.sub (.mulL 2130 (.sub (.var 0) (.var 1))) (.mulL 5251 (.sub (.var 2) (.var 1)))) (.add (.sub (.mulL 2130 (.var 0)) (.mulL 5251 (.var 2))) (.mulL 3121 (.var 1))) 1 rfl)
theorem ways_ok {P : Lmp} {ms : List Int} {Ls : List (Addr × Obj)} (hP : LmpsAre ms Ls P 5) {a b c d e : Int} (hp : ∀ x ∈ [a, b, c, d, e], 0 ≤ x ∧ x ≤ 8) {gT : Int × Int → Bool} (hg : ∀ p, gT p = goodZ (P.G p.1.toNat p.2.toNat) (amtsZ P (lus P) (mxs P a b c d e) p.1 p.2)) :
    WaysOk P (mixAt P [a, b, c, d, e] 0) (mixAt P [a, b, c, d, e] 1) (mixAt P [a, b, c, d, e] 2) (((prs 5).filter gT).map (wayOf P (lus P) (mxs P a b c d e))) := by
  have hO := hP.ok
  have hm := parts_ok hp
  have way : ∀ w ∈ ((prs 5).filter gT).map (wayOf P (lus P) (mxs P a b c d e)), ∃ i j, i < j ∧ j < 5 ∧ w = (un (P.G i j), amtsZ P (lus P) (mxs P a b c d e) i j) ∧ Way (pX P) (pY P) (pC P) (parts a b c d e) i j (sd (P.G i j)) (un (P.G i j)) (fun k => (amtsZ P (lus P) (mxs P a b c d e) i j).getD k 0) := by
    intro w hw
    obtain ⟨p, hpm, rfl⟩ := List.mem_map.mp hw
    have h1 := (List.mem_filter.mp hpm).1
    have h2 := (List.mem_filter.mp hpm).2
    have q1 := (prs_in p h1).1
    have q2 := (prs_in p h1).2.1
    have q3 := (prs_in p h1).2.2
    rw [hg] at h2
    have e1 : ((p.1.toNat : Nat) : Int) = p.1 := by exact Int.le_antisymm (lin1 (cx2 _ _) (.var 0) (.var 1) (.var 0) (.var 1) 1 1 rfl (tn2 (lin1 (cx1 _) (.num 0) (.var 0) (.num 0) (.var 0) 1 1 rfl q1))) (lin1 (cx2 _ _) (.var 0) (.var 1) (.var 0) (.var 1) 1 1 rfl (tn1 _))
    have e2 : ((p.2.toNat : Nat) : Int) = p.2 := by exact Int.le_antisymm (lin1 (cx2 _ _) (.var 0) (.var 1) (.var 0) (.var 1) 1 1 rfl (tn2 (lin2 (cx2 _ _) (.num 0) (.var 0) (.add (.var 0) (.num 1)) (.var 1) (.num 0) (.var 1) 1 1 1 rfl q1 q2))) (lin1 (cx2 _ _) (.var 0) (.var 1) (.var 0) (.var 1) 1 1 rfl (tn1 _))
    refine ⟨p.1.toNat, p.2.toNat, by exact gnlt (lin3 (cx4 _ _ _ _) (.add (.var 0) (.num 1)) (.var 1) (.var 2) (.var 0) (.var 1) (.var 3) (.add (.var 2) (.num 1)) (.var 3) 1 1 1 1 rfl q2 (ieq1 e1) (ieq2 e2)), by exact gnlt (lin2 (cx2 _ _) (.add (.var 0) (.num 1)) (.num 5) (.var 1) (.var 0) (.add (.var 1) (.num 1)) (.num 5) 1 1 1 rfl q3 (ieq1 e2)), ?_, way_of hO (by exact gnlt (lin3 (cx4 _ _ _ _) (.add (.var 0) (.num 1)) (.var 1) (.var 2) (.var 0) (.var 1) (.var 3) (.add (.var 2) (.num 1)) (.var 3) 1 1 1 1 rfl q2 (ieq1 e1) (ieq2 e2))) (by exact gnlt (lin2 (cx2 _ _) (.add (.var 0) (.num 1)) (.num 5) (.var 1) (.var 0) (.add (.var 1) (.num 1)) (.num 5) 1 1 1 rfl q3 (ieq1 e2))) (by rw [e1, e2]; exact h2)⟩
    rw [e1, e2]
    rfl
  refine ⟨?_, ?_, ?_⟩
  · refine ob2 (some_pair hm (rank_of hP) (gen_all hO)) fun i j hz2 => ?_
    have hij := hz2.1
    have hj := hz2.2.1
    have hT := hz2.2.2.1
    have h := hz2.2.2.2
    clear hz2
    have s1 := (sd_un (T := P.G i j) hT).1
    have s2 := (sd_un (T := P.G i j) hT).2.1
    have s3 := (sd_un (T := P.G i j) hT).2.2
    have k1 := (h (sd (P.G i j)) (un (P.G i j)) s1 s2 s3).1
    have k2 := (h (sd (P.G i j)) (un (P.G i j)) s1 s2 s3).2
    have hgood := good_of hO hij hj hT k1 k2
    have : ((i : Int), (j : Int)) ∈ (prs 5).filter gT := List.mem_filter.mpr ⟨prs_nat hij hj, by rw [hg]; exact hgood⟩
    intro e0
    have h1 := List.map_eq_nil_iff.mp e0
    rw [h1] at this
    cases this
  · intro w hw
    refine ob2 (way w hw) fun i j hz5 => ?_
    have hij := hz5.1
    have hj := hz5.2.1
    rw [hz5.2.2.1]
    have W := hz5.2.2.2
    clear hz5
    have len : (amtsZ P (lus P) (mxs P a b c d e) i j).length = 5 := amtsZ_len
    refine ob5 (fives len) fun x0 x1 x2 x3 x4 ex => ?_
    dsimp only
    rw [ex] at W ⊢
    have hU := un_le (G450 hO (i := i) (j := j) (by exact gnlt (lin2 (cx2 _ _) (.add (.var 0) (.num 1)) (.var 1) (.add (.var 1) (.num 1)) (.num 5) (.add (.var 0) (.num 1)) (.num 5) 1 1 1 rfl (nlt hij) (nlt hj))) hj)
    have hrg : ∀ x ∈ [x0, x1, x2, x3, x4], 0 ≤ x ∧ x ≤ 3600 := by
      have r0 := W.rng 0 (by decide); have r1 := W.rng 1 (by decide); have r2 := W.rng 2 (by decide); have r3 := W.rng 3 (by decide); have r4 := W.rng 4 (by decide)
      have r0' : 0 ≤ x0 ∧ x0 ≤ 8 * un (P.G i j) := r0
      have r1' : 0 ≤ x1 ∧ x1 ≤ 8 * un (P.G i j) := r1
      have r2' : 0 ≤ x2 ∧ x2 ≤ 8 * un (P.G i j) := r2
      have r3' : 0 ≤ x3 ∧ x3 ≤ 8 * un (P.G i j) := r3
      have r4' : 0 ≤ x4 ∧ x4 ≤ 8 * un (P.G i j) := r4
      intro x hx
      simp only [List.mem_cons, List.not_mem_nil, or_false] at hx
      rcases hx with rfl | rfl | rfl | rfl | rfl <;> (first | exact ⟨lin1 (cx1 _) (.num 0) (.var 0) (.num 0) (.var 0) 1 1 rfl r0'.1, lin2 (cx2 _ _) (.var 0) (.num 450) (.var 1) (.mulL 8 (.var 0)) (.var 1) (.num 3600) 8 1 1 rfl hU r0'.2⟩ | exact ⟨lin1 (cx1 _) (.num 0) (.var 0) (.num 0) (.var 0) 1 1 rfl r1'.1, lin2 (cx2 _ _) (.var 0) (.num 450) (.var 1) (.mulL 8 (.var 0)) (.var 1) (.num 3600) 8 1 1 rfl hU r1'.2⟩ | exact ⟨lin1 (cx1 _) (.num 0) (.var 0) (.num 0) (.var 0) 1 1 rfl r2'.1, lin2 (cx2 _ _) (.var 0) (.num 450) (.var 1) (.mulL 8 (.var 0)) (.var 1) (.num 3600) 8 1 1 rfl hU r2'.2⟩ | exact ⟨lin1 (cx1 _) (.num 0) (.var 0) (.num 0) (.var 0) 1 1 rfl r3'.1, lin2 (cx2 _ _) (.var 0) (.num 450) (.var 1) (.mulL 8 (.var 0)) (.var 1) (.num 3600) 8 1 1 rfl hU r3'.2⟩ | exact ⟨lin1 (cx1 _) (.num 0) (.var 0) (.num 0) (.var 0) 1 1 rfl r4'.1, lin2 (cx2 _ _) (.var 0) (.num 450) (.var 1) (.mulL 8 (.var 0)) (.var 1) (.num 3600) 8 1 1 rfl hU r4'.2⟩)
    have b0 := mixAt_rng hO hrg 0
    have b1 := mixAt_rng hO hrg 1
    have b2 := mixAt_rng hO hrg 2
    have cx : S5 (fun k => parts x0 x1 x2 x3 x4 k * pX P k) = un (P.G i j) * S5 (fun k => parts a b c d e k * pX P k) := W.cx
    have cy : S5 (fun k => parts x0 x1 x2 x3 x4 k * pY P k) = un (P.G i j) * S5 (fun k => parts a b c d e k * pY P k) := W.cy
    have hU0 := W.hU
    rw [← mix_X, ← mix_X] at cx
    rw [← mix_Y, ← mix_Y] at cy
    refine ⟨rfl, ⟨by exact lin1 (cx1 _) (.add (.num 0) (.num 1)) (.var 0) (.add (.neg (.num 18446744073709551616)) (.num 1)) (.var 0) 1 1 rfl hU0, by exact lin1 (cx1 _) (.var 0) (.num 450) (.add (.var 0) (.num 1)) (.num 18446744073709551616) 1 1 rfl hU⟩, flok_of (.inr (.inr rfl)) b0.1 (by exact lin1 (cx1 _) (.var 0) (.mulL 75 (.num 3600)) (.mulL 10 (.var 0)) (.mulL 11 (.num 262144)) 10 1 rfl b0.2) b1.1 (by exact lin1 (cx1 _) (.var 0) (.mulL 75 (.num 3600)) (.mulL 10 (.var 0)) (.mulL 11 (.num 262144)) 10 1 rfl b1.2) b2.1 (by exact lin1 (cx1 _) (.var 0) (.mulL 75 (.num 3600)) (.mulL 10 (.var 0)) (.mulL 11 (.num 262144)) 10 1 rfl b2.2), ?_, ?_, ?_⟩
    · rw [mix_L, mix_L]
      exact luma_le hO W hU hm
    · rw [wI_eq, wI_eq, cx, cy]
      grind
    · rw [wQ_eq, wQ_eq, cx, cy]
      grind
  · intro w hw v hv
    refine ob2 (way w hw) fun i j hz0 => ?_
    have hij := hz0.1
    have hj := hz0.2.1
    rw [hz0.2.2.1]
    have W := hz0.2.2.2
    clear hz0
    refine ob2 (way v hv) fun i' j' hz1 => ?_
    have hij' := hz1.1
    have hj' := hz1.2.1
    rw [hz1.2.2.1]
    have W' := hz1.2.2.2
    clear hz1
    have len : (amtsZ P (lus P) (mxs P a b c d e) i j).length = 5 := amtsZ_len
    have len' : (amtsZ P (lus P) (mxs P a b c d e) i' j').length = 5 := amtsZ_len
    have h := W.one W'
    dsimp only
    refine ob5 (fives len) fun x0 x1 x2 x3 x4 ex => ?_
    refine ob5 (fives len') fun y0 y1 y2 y3 y4 ey => ?_
    rw [ex, ey] at h
    rw [ex, ey]
    have h0 : un (P.G i' j') * x0 = un (P.G i j) * y0 := h 0 (by decide)
    have h1 : un (P.G i' j') * x1 = un (P.G i j) * y1 := h 1 (by decide)
    have h2 : un (P.G i' j') * x2 = un (P.G i j) * y2 := h 2 (by decide)
    have h3 : un (P.G i' j') * x3 = un (P.G i j) * y3 := h 3 (by decide)
    have h4 : un (P.G i' j') * x4 = un (P.G i j) * y4 := h 4 (by decide)
    simp only [List.map_cons, List.map_nil]
    rw [Int.mul_comm y0, Int.mul_comm y1, Int.mul_comm y2, Int.mul_comm y3, Int.mul_comm y4, Int.mul_comm x0, Int.mul_comm x1, Int.mul_comm x2, Int.mul_comm x3, Int.mul_comm x4, h0, h1, h2, h3, h4]
end
section
open PySem.Calls
open PyProof.Rows.LCg
theorem parse_c {w : World} {b : Array UInt8} {tr : Tok} {l : List (List Int)} {news : List (Addr × Obj)} (hv : FlagText (b.map (·.toNat)) b.size) (hz : b.size ≤ 10000) (h9 : 9 ≤ b.size) (hc : cutOf b = l) :
   CtrC w 2 20 64 [.bytes b tr] news (fun K => ∀ D ws, BA ws l → Off1 D news → K (.ref D) [(D, tupO ws.toArray 0)]) :=
  Ctr.toC (fun K => ∀ D ws, BA ws l → Off1 D news → K (.ref D) [(D, tupO ws.toArray 0)]) (parse_ok3 w b tr l news hv hz h9 hc) (by intro K h _ _ _ R9; obtain ⟨D, ws, e1, e2, B, l⟩ := R9; subst e1 e2; exact h D ws B l)
theorem told_c {w : World} {fa pl : Addr} {ws : List Value} {u : List Int} {ps : List (Nat × List Int)} {Wd : Wds} {k np : Nat} {news : List (Addr × Obj)} {U : Int} {am : List Int}
   (hfa : (fa, tupO ws.toArray k) ∈ news) (hB : BA ws (u :: flatP (fun c => KBw.bInts (Wd.b c)) ps)) (hpl : (pl, Wd.obj np) ∈ news) (hinj : ∀ c d, c < 5 → d < 5 → KBw.bInts (Wd.b c) = KBw.bInts (Wd.b d) → c = d)
   (hps : ∀ p ∈ ps, p.1 < 5 ∧ p.2.length ≤ 100) (hu : u.length ≤ 100) (hn : ps.length ≤ 100) (hU : readZ u = U) (ham : toldZ ps = am) :
   CtrC w 2 40 282 [.ref fa, .ref pl] news (fun K => ∀ T q ys tu kt kq, IntsAre ys am → Off1 T news → Off1 q news → K (.ref T) [(T, tupO #[.int U tu, .ref q] kt), (q, W.listOf (List.toArray ys) kq)]) :=
  Ctr.toC (fun K => ∀ T q ys tu kt kq, IntsAre ys am → Off1 T news → Off1 q news → K (.ref T) [(T, tupO #[.int U tu, .ref q] kt), (q, W.listOf (List.toArray ys) kq)]) (told_ok w fa pl ws u ps Wd k np news hfa hB hpl hinj hps hu hn) (by intro K h _ _ _ R9; obtain ⟨T, q, ys, tu, kt, kq, e1, e2, I, l1, l2⟩ := R9; subst e1 e2; rw [hU]; exact h T q ys tu kt kq (ham ▸ I) l1 l2)
section
variable {prog : Program} {w : World} {A : Around} {E : Value → Shared → Prop} {s : Shared} {h₀ : Heap} {L : Addr} {m : Str → Option Value} {env : Env}
theorem rest_lampsF {elt : Expr} {x : Str} {scope : Scope} {cl : List (Str × Addr)} {S : List (Addr × Obj) → Prop} {Fin : List Value → List (Addr × Obj) → Prop} {news : List (Addr × Obj)} {P : Lmp} (J : Nat → List Value → Prop) (hS : S news) (h0 : J 0 [])
    (turn : ∀ (i : Nat) ys I oI C oC D m₂ h tk (E' : Value → Shared → Prop), i < 5 → J i ys → NsObj oC m₂ → m₂ x = some (.ref (P.l i)) → Fr h₀ L h m → News h₀ L h ((I, oI) :: (C, oC) :: (D, lst ys) :: news) →
      wpAny (model prog w) A (eval elt (compEnvC scope cl C env)) (EndF h₀ L m { s with heap := h, toks := tk } ((I, oI) :: (C, oC) :: (D, lst ys) :: news) (fun y => J (i + 1) (ys ++ [y]))) E' { s with heap := h, toks := tk })
    (fin : ∀ ys, J 5 ys → Fin ys news) : CompRest prog w A h₀ L m env elt x scope cl s S (fun i v => #[Value.ref (P.l 0), .ref (P.l 1), .ref (P.l 2), .ref (P.l 3), .ref (P.l 4)][i]? = some v) Fin 5 0 [] news := by
  refine rest_F J hS h0 (fun i ys v I oI C oC D m₂ h tk E' hi hv hJ hC hX F N => ?_) fin
  obtain rfl := ref_at hi hv
  exact turn i ys I oI C oC D m₂ h tk E' hi hJ hC hX F N
end
theorem six_on {G : Prop} {c6 c5 c4 c3 c2 c1 : Addr × Obj} {R : List (Addr × Obj)} (hR : ∀ p ∈ R, Off1 p.1 [c6, c5, c4, c3, c2, c1])
    (k : (∀ p ∈ R, p.1 ≠ c6.1) → (∀ p ∈ R, p.1 ≠ c5.1) → (∀ p ∈ R, p.1 ≠ c4.1) → (∀ p ∈ R, p.1 ≠ c3.1) → (∀ p ∈ R, p.1 ≠ c2.1) → (∀ p ∈ R, p.1 ≠ c1.1) → G) : G := by
  obtain ⟨r6, r5, r4, r3, r2, r1⟩ := six_of hR
  exact k r6 r5 r4 r3 r2 r1
theorem regroup_on {G : Prop} {h₀ h : Heap} {L : Addr} {d c6 c5 c4 c3 c2 c1 : Addr × Obj} {R : List (Addr × Obj)} (N : News h₀ L h (d :: c6 :: c5 :: c4 :: c3 :: c2 :: c1 :: R)) (hR : ∀ p ∈ R, Off1 p.1 [c6, c5, c4, c3, c2, c1]) (o : Off1 d.1 (c6 :: c5 :: c4 :: c3 :: c2 :: c1 :: R))
    (k : ∀ R', (∀ p ∈ R', Off1 p.1 [c6, c5, c4, c3, c2, c1]) → d ∈ R' → (∀ p ∈ R, p ∈ R') → News h₀ L h (c6 :: c5 :: c4 :: c3 :: c2 :: c1 :: R') → (∀ p ∈ R', p.1 ≠ c6.1) → (∀ p ∈ R', p.1 ≠ c5.1) → (∀ p ∈ R', p.1 ≠ c4.1) → (∀ p ∈ R', p.1 ≠ c3.1) → (∀ p ∈ R', p.1 ≠ c2.1) → (∀ p ∈ R', p.1 ≠ c1.1) → G) : G := by
  obtain ⟨R', h1, h2, h3, h4⟩ := regroup1 N hR o
  exact six_on h1 (k R' h1 h2 h3 h4)
theorem word_rng {P : Lmp} (hO : P.Ok) {i : Nat} {kk : Int} (hi : i < 5) (hk : kk = (i : Int)) : 0 ≤ 4096 * (kk + 1) + 256 * P.at kk.toNat (0 : Int).toNat + 16 * P.at kk.toNat (1 : Int).toNat + P.at kk.toNat (2 : Int).toNat ∧ 4096 * (kk + 1) + 256 * P.at kk.toNat (0 : Int).toNat + 16 * P.at kk.toNat (1 : Int).toNat + P.at kk.toNat (2 : Int).toNat < 65536 := by
  subst hk; exact wordN_ok hO hi
theorem word_snoc {P : Lmp} (hO : P.Ok) {i : Nat} {kk : Int} (hi : i < 5) (hk : kk = (i : Int)) {b : Array UInt8} {ys : List Value} (hb : KBw.bInts b = apD (4096 * (kk + 1) + 256 * P.at kk.toNat (0 : Int).toNat + 16 * P.at kk.toNat (1 : Int).toNat + P.at kk.toNat (2 : Int).toNat).toNat) (t : Tok) (hJ : BA ys ((List.range i).map (plainZ P))) : BA (ys ++ [.bytes b t]) ((List.range (i + 1)).map (plainZ P)) := by
  subst hk
  rw [List.range_succ, List.map_append]
  exact BA.snoc t (hb.trans (word_plain hO hi)) hJ
theorem lt16 {z : Int} (h : 0 ≤ z ∧ z ≤ 15) : 0 ≤ z ∧ z < 16 := by exact ⟨lin1 (cx1 _) (.num 0) (.var 0) (.num 0) (.var 0) 1 1 rfl h.1, lin1 (cx1 _) (.var 0) (.num 15) (.add (.var 0) (.num 1)) (.num 16) 1 1 rfl h.2⟩
theorem plain_snoc {P : Lmp} (hO : P.Ok) {i : Nat} {kk : Int} (hi : i < 5) (hk : kk = (i : Int)) {ys : List Value} (t : Tok) (hJ : BA ys ((List.range i).map (plainZ P))) : BA (ys ++ [.bytes (plainB kk (P.x kk.toNat) (P.y kk.toNat) (P.z kk.toNat)) t]) ((List.range (i + 1)).map (plainZ P)) := by
  subst hk
  rw [List.range_succ, List.map_append, Int.toNat_natCast]
  exact BA.snoc t (plain_bytes hO hi) hJ
theorem wds_BA {P : Lmp} {W : Wds} (h : ∀ c, c < 5 → KBw.bInts (W.b c) = plainZ P c) : BA [.bytes (W.b 0) (W.t 0), .bytes (W.b 1) (W.t 1), .bytes (W.b 2) (W.t 2), .bytes (W.b 3) (W.t 3), .bytes (W.b 4) (W.t 4)] ((List.range 5).map (plainZ P)) :=
  .cons _ (h 0 (by decide)) (.cons _ (h 1 (by decide)) (.cons _ (h 2 (by decide)) (.cons _ (h 3 (by decide)) (.cons _ (h 4 (by decide)) .nil))))
theorem table_c {w : World} {f : Int × Int → List Int} {gz : Int × Int → Bool} {P : Lmp} {Wd : Wds} {lam lua mx wa : Addr} {nl nu nm nw : Nat} {u0 u1 u2 u3 u4 : Int} {tu0 tu1 tu2 tu3 tu4 : Tok} {m0 m1 m2 : Int} {tm0 tm1 tm2 : Tok} {news : List (Addr × Obj)}
   (hl : (lam, P.all nl) ∈ news) (hP : LampsIn P news) (hO : P.Ok) (hw : (wa, Wd.obj nw) ∈ news) (hlu : (lua, W.listOf #[.int u0 tu0, .int u1 tu1, .int u2 tu2, .int u3 tu3, .int u4 tu4] nu) ∈ news) (hm : (mx, W.listOf #[.int m0 tm0, .int m1 tm1, .int m2 tm2] nm) ∈ news)
   (hWs : ∀ c, c < 5 → (Wd.b c).size ≤ 10) (hWl : ∀ c, c < 5 → ∀ z ∈ KBw.bInts (Wd.b c), 65 ≤ z ∧ z ≤ 80) (hus : ∀ x ∈ [u0, u1, u2, u3, u4], 0 ≤ x ∧ x ≤ 2000) (hms : ∀ x ∈ [m0, m1, m2], 0 ≤ x ∧ x ≤ 2000)
   (hfz : ∀ p, f p = textZ (fun c => KBw.bInts (Wd.b c)) (P.G p.1.toNat p.2.toNat) (amtsZ P [u0, u1, u2, u3, u4] [m0, m1, m2] p.1 p.2)) (hgz : ∀ p, gz p = goodZ (P.G p.1.toNat p.2.toNat) (amtsZ P [u0, u1, u2, u3, u4] [m0, m1, m2] p.1 p.2)) :
   CtrC w 6 100 275 [.ref lam, .ref wa, .ref lua, .ref mx] news (fun K => ∀ x dx q its n tk tup txs, its.size ≤ 5 * 5 → TI tup its.toList txs → TX f txs ((prs 5).filter gz) → K (.ref x) (tabL w x dx q its n tk ++ tup)) :=
  Ctr.toC (fun K => ∀ x dx q its n tk tup txs, its.size ≤ 5 * 5 → TI tup its.toList txs → TX f txs ((prs 5).filter gz) → K (.ref x) (tabL w x dx q its n tk ++ tup)) (table_ok w f gz P Wd lam lua mx wa nl nu nm nw u0 u1 u2 u3 u4 tu0 tu1 tu2 tu3 tu4 m0 m1 m2 tm0 tm1 tm2 news hl hP hO hw hlu hm hWs hWl hus hms hfz hgz) (by intro K h _ _ _ R9; obtain ⟨x, dx, q, its, n, tk, tup, txs, e1, e2, h1, h2, h3⟩ := R9; subst e1 e2; exact h x dx q its n tk tup txs h1 h2 h3)
theorem all_c {w : World} {x dx q : Addr} {tk t0 : Tok} {its : Array Value} {txs : List Str} {n : Nat} {rest : List (Addr × Obj)} (hit : its.size ≤ 100) (hI : TI rest its.toList txs) :
   CtrC w 3 20 147 [.ref x, .str (Str.ofString "way") t0] (tabL w x dx q its n tk ++ rest) (fun K => ∀ D ys, StrsAre ys txs → Off1 D (tabL w x dx q its n tk ++ rest) → K (.ref D) [(D, lst ys)]) :=
  Ctr.toC (fun K => ∀ D ys, StrsAre ys txs → Off1 D (tabL w x dx q its n tk ++ rest) → K (.ref D) [(D, lst ys)]) (all_ok w x dx q tk t0 its txs n hit rest hI) (by intro K h _ _ _ R9; obtain ⟨D, ys, e1, e2, h1, h2⟩ := R9; subst e1 e2; exact h D ys h1 h2)
theorem fits_c {w : World} {P : Lmp} {T q lam mx : Addr} {unit x0 x1 x2 x3 x4 : Int} {tu tx0 tx1 tx2 tx3 tx4 : Tok} {kt kq nl nm : Nat} {m0 m1 m2 : Int} {tm0 tm1 tm2 : Tok} {news : List (Addr × Obj)}
   (hT : (T, tupO #[.int unit tu, .ref q] kt) ∈ news) (hq : (q, W.listOf #[.int x0 tx0, .int x1 tx1, .int x2 tx2, .int x3 tx3, .int x4 tx4] kq) ∈ news) (hl : (lam, P.all nl) ∈ news) (hP : LampsIn P news) (hO : P.Ok) (hm : (mx, W.listOf #[.int m0 tm0, .int m1 tm1, .int m2 tm2] nm) ∈ news)
   (hf1 : FlOk 262144 (mixAt P [x0, x1, x2, x3, x4] 0) (mixAt P [x0, x1, x2, x3, x4] 1) (mixAt P [x0, x1, x2, x3, x4] 2)) (hf2 : FlOk 1024 m0 m1 m2) (hun : Sm unit)
   (hY : wY (mixAt P [x0, x1, x2, x3, x4] 0) (mixAt P [x0, x1, x2, x3, x4] 1) (mixAt P [x0, x1, x2, x3, x4] 2) ≤ unit * wY m0 m1 m2) (hI : wI (mixAt P [x0, x1, x2, x3, x4] 0) (mixAt P [x0, x1, x2, x3, x4] 1) (mixAt P [x0, x1, x2, x3, x4] 2) = unit * wI m0 m1 m2) (hQ : wQ (mixAt P [x0, x1, x2, x3, x4] 0) (mixAt P [x0, x1, x2, x3, x4] 1) (mixAt P [x0, x1, x2, x3, x4] 2) = unit * wQ m0 m1 m2) :
   CtrC w 4 100 289 [.ref T, .ref lam, .ref mx] news (fun K => K (.bool true) []) :=
  Ctr.toC (fun K => K (.bool true) []) (fits_ok w P T q lam mx unit x0 x1 x2 x3 x4 tu tx0 tx1 tx2 tx3 tx4 kt kq nl nm m0 m1 m2 tm0 tm1 tm2 news hT hq hl hP hO hm hf1 hf2 hun hY hI hQ) (by intro K h _ _ _ R9; obtain ⟨e1, e2⟩ := R9; subst e1 e2; exact h)
theorem luma_snoc {P : Lmp} {i : Nat} {ys : List Value} (t : Tok) (hJ : IntsAre ys ((List.range i).map (lumaZ P))) : IntsAre (ys ++ [.int (wY (P.x i) (P.y i) (P.z i)) t]) ((List.range (i + 1)).map (lumaZ P)) := by
  rw [List.range_succ, List.map_append]
  exact IntsAre.append hJ (ints_one rfl)
theorem ints5_on {G : Prop} {ys : List Value} {a b c d e : Int} (h : IntsAre ys [a, b, c, d, e]) (k : ∀ t0 t1 t2 t3 t4, ys = [.int a t0, .int b t1, .int c t2, .int d t3, .int e t4] → G) : G := by
  obtain ⟨t0, t1, t2, t3, t4, e⟩ := ints5 h
  exact k t0 t1 t2 t3 t4 e
theorem five_on {G : Prop} {ys : List Value} {f : Nat → List Int} (h : BA ys ((List.range 5).map f)) (k : ∀ W : Wds, lst ys = W.obj 5 → (∀ c, c < 5 → KBw.bInts (W.b c) = f c) → G) : G := by
  obtain ⟨W, h1, h2⟩ := h.five
  exact k W h1 h2
theorem fives_on {G : Prop} {ms : List Int} (h : ms.length = 5) (k : ∀ a b c d e, ms = [a, b, c, d, e] → G) : G := by
  obtain ⟨a, b, c, d, e, h⟩ := fives h
  exact k a b c d e h
theorem WI.head_on {G : Prop} {news : List (Addr × Obj)} {a : List Value} {b : List (Int × List Int)} (h : WI news a b) (hne : a ≠ []) (k : ∀ T q u am xs tu kt kq r l, a = Value.ref T :: r → b = (u, am) :: l → (T, tupO #[.int u tu, .ref q] kt) ∈ news → (q, W.listOf (List.toArray xs) kq) ∈ news → IntsAre xs am → G) : G := by
  obtain ⟨T, q, u, am, xs, tu, kt, kq, r, l, h1, h2, h3, h4, h5⟩ := h.head hne
  exact k T q u am xs tu kt kq r l h1 h2 h3 h4 h5
theorem WI.get_on {G : Prop} {news : List (Addr × Obj)} {a : List Value} {b : List (Int × List Int)} (h : WI news a b) {i : Nat} {v : Value} (e : a[i]? = some v) (k : ∀ T q u am xs tu kt kq, v = .ref T → (T, tupO #[.int u tu, .ref q] kt) ∈ news → (q, W.listOf (List.toArray xs) kq) ∈ news → IntsAre xs am → b[i]? = some (u, am) → G) : G := by
  obtain ⟨T, q, u, am, xs, tu, kt, kq, h1, h2, h3, h4, h5⟩ := h.get e
  exact k T q u am xs tu kt kq h1 h2 h3 h4 h5
end
section
open PySem.Calls
open PyProof.Rows.LCg
local macro_rules | `(tactic| walk_at "eval ListComp") => `(tactic| (k_here; with_reducible refine halt_in ?_))
local macro_rules | `(tactic| walk_at "exec Assign cons ListComp") => `(tactic| (k_here; with_reducible refine halt_in ?_))
local macro_rules | `(tactic| walk_at "CompSrc") => `(tactic| (k_here; with_reducible refine halt_in ?_))
local macro_rules | `(tactic| walk_at "CompSrcT") => `(tactic| (k_here; with_reducible refine halt_in ?_))
local macro_rules | `(tactic| walk_at "compareOp NotEq ref ref") => `(tactic| (k_here; with_reducible refine halt_in ?_))
local macro_rules | `(tactic| walk_at "compareOp Eq ref ref") => `(tactic| (k_here; with_reducible refine halt_in ?_))
local macro_rules | `(tactic| walk_at "getMethod str") => `(tactic| (k_here; with_reducible refine halt_in ?_))
local macro_rules | `(tactic| walk_at "call builtin:str.encode") => `(tactic| (k_here; with_reducible refine halt_in ?_))
local macro_rules | `(tactic| k_mem) => `(tactic| ((repeat' (first | (with_reducible assumption) | exact List.mem_cons_self | refine List.mem_cons_of_mem _ ?_)); done))
theorem law_holds : PySem.Challenge.rw_tp0021_01.Holds := hd (by
  k_go0
  rename (¬ (((63 : Nat) : Int) < ((List.length _ : Nat) : Int))) => hcond
  rename List Int => script
  have hlen : script.length ≤ 63 := by exact gnle (lin1 (cx1 _) (.var 0) (.num 63) (.var 0) (.num 63) 1 1 rfl (inlt hcond))
  k_steps
  refine Halt.out ?_
  refine' numbersB_ok _ _ _ _ _ ?hI ?hlen _ _ _ _ _ _ _ _ _ _ _ _ _ _ _ _ _ _ _ _ ?k1 ?k2 ?k3 ?k4 ?k5 ?k6 ?k7 ?k8 ?kP ?_
  case k4 => k_asm
  case hI => with_reducible assumption
  case hlen => with_reducible assumption
  case kP => assumption
  case k1 => k_asm
  case k2 => k_asm
  case k3 => k_asm
  case k5 => k_asm
  case k6 => first | exact rfl | assumption
  case k7 => ktr_room
  case k8 => ktr_units
  intro v9 add9 h9 tk9 R9 F9 N9
  refine ob3 R9 fun D9 y9 ms9 hz => ?_
  rw [hz.1]
  rw [hz.2.1] at N9
  have I9 := hz.2.2.1
  have hm9 := hz.2.2.2.1
  have hb9 := hz.2.2.2.2.1
  have l9 := hz.2.2.2.2.2
  clear hz R9
  (try dsimp only [List.nil_append, List.cons_append] at N9)
  have l9c := l9
  simp only [LCg.Off1, and_true] at l9
  k_steps
  refine Halt.out ?_
  refine wpAny_Assign_Name ?_ (by with_unfolding_all rfl)
  k_steps
  refine Halt.out ?_
  refine LCg.ListComp_U (by k_asm) rfl (by decide) rfl (by decide) rfl ?_
  k_steps
  refine Halt.out ?_
  refine LCg.CompSrc.range (n := 5) rfl (by k_asm) (by k_asm) (by k_asm) rfl rfl (by decide) ?_
  intro g
  have h5m : (5 : Int) ≤ ms9.length := by exact lin1 (cx1 _) (.num 5) (.var 0) (.num 5) (.var 0) 1 1 rfl (neq2 hm9)
  refine rest_indV (fun i ys Ls => ∃ P : Lmp, ys = refsOf P i ∧ LmpsAre ms9 Ls P i) ⟨⟨fun _ => 0, fun _ => 0, fun _ => 0, fun _ => 0, fun _ => default, fun _ => default, fun _ => default, fun _ => 0⟩, rfl, fun j hj => absurd hj (Nat.not_lt_zero _)⟩ ?_ ?_
  · intro i ys Ls hi hJ hO v I oI C oC D m₂ h tk E' hv hC hX F N off ne
    refine ob1 hJ fun P hP0 => ?_
    have hP := hP0.2
    have ey := hP0.1
    refine ob1 hv fun t ev => ?_
    rw [ev] at hX
    clear hJ hv ev hP0
    refine wpLA ?_
    intro AQt Qt Et
    (try simp only [List.cons_append, List.nil_append] at N)
    generalize hc : (0 : Int) + (i : Int) = kk
    rw [hc] at hX
    have k0 : 0 ≤ kk := by exact lin2 (cx2 _ _) (.add (.num 0) (.var 0)) (.var 1) (.num 0) (.var 0) (.num 0) (.var 1) 1 1 1 rfl (ieq1 hc) (nn _)
    have k5 : kk < 5 := by exact lin2 (cx2 _ _) (.add (.var 0) (.num 1)) (.num 5) (.var 1) (.add (.num 0) (.var 0)) (.add (.var 1) (.num 1)) (.num 5) 1 1 1 rfl (nlt hi) (ieq2 hc)
    have kp : 0 ≤ kk ∧ kk < 5 := ⟨k0, k5⟩
    have kn : 0 ≤ ms9.getD kk.toNat 0 ∧ ms9.getD kk.toNat 0 < 4608 := by
      have hl : kk.toNat < ms9.length := by exact gnlt (lin3 (cx3 _ _ _) (.num 5) (.var 0) (.add (.var 1) (.num 1)) (.num 5) (.var 2) (.var 1) (.add (.var 2) (.num 1)) (.var 0) 1 1 1 1 rfl (neq2 hm9) k5 (tn2 (lin1 (cx1 _) (.num 0) (.var 0) (.num 0) (.var 0) 1 1 rfl k0)))
      rw [List.getD_eq_getElem?_getD, List.getElem?_eq_getElem hl]
      exact hb9 _ (List.getElem_mem hl)
    repeat' (first
      | ((with_reducible show wpAny _ _ (subscriptTail _ _ (Value.ref _) (Value.int _ _)) _ _ _); k_dflt ((with_unfolding_all (refine' ints_sub ?kn_1 ?km_1 ?k2_1 ?k3_1 ?k4_1 ?k5_1 ?_ ?k8_1 ?k9_1)); (case kn_1 => k_asm); (case km_1 => k_mem); (case k2_1 => with_reducible assumption); (case k8_1 => with_unfolding_all rfl); (case k9_1 => intro _; with_unfolding_all rfl); (case k3_1 => with_reducible assumption); (case k4_1 => exact Int.lt_of_lt_of_le (b := 5) (by with_reducible assumption) (by with_reducible assumption)); (case k5_1 => exact Int.lt_of_lt_of_le (b := 5) (by with_reducible assumption) (by decide)); k_whole; intro _))
      | (k_unfold; (try dsimp only)) | (k_end; wrow_close) | walk1 | (dsimp only; walk1) | (leave1; try dsimp only))
    refine Halt.out ?_
    refine' lamp_c ?hp ?hn ?k1 ?k2 ?k3 ?k4 ?k5 ?k6 ?k7 ?k8 ?_
    case k4 => k_asm
    case hp => with_reducible assumption
    case hn => with_reducible assumption
    case k1 => k_asm
    case k2 => k_asm
    case k3 => k_asm
    case k5 => k_asm
    case k6 => first | exact rfl | assumption
    case k7 => ktr_room
    case k8 => ktr_units
    intro q t0 t1 t2 n l9 h9 tk9 F9 N9
    (try dsimp only [List.nil_append, List.cons_append] at N9)
    (try dsimp only)
    (try k_fold)
    k_steps
    have hki : kk = (i : Int) := by exact Int.le_antisymm (lin1 (cx2 _ _) (.var 0) (.add (.num 0) (.var 1)) (.var 0) (.var 1) 1 1 rfl (ieq2 hc)) (lin1 (cx2 _ _) (.add (.num 0) (.var 0)) (.var 1) (.var 0) (.var 1) 1 1 rfl (ieq1 hc))
    rw [hki, Int.toNat_natCast] at N9
    refine CompEnd.intro (by k_asm) N9 _ (mid_sub (a := (I, oI) :: (C, oC) :: (D, lst ys) :: _) (fun p hp => List.mem_cons_of_mem _ hp) List.mem_cons_self) (off3_mid off (Ne.symm l9.1) (Ne.symm l9.2.1) (Ne.symm l9.2.2.1)) trivial ⟨_, rfl, List.forall_mem_cons.mpr ⟨off1_left l9.2.2.2, hO⟩, _, by rw [ey]; exact refs_put, hP.put _ _ _ _ _⟩
  · intro ys Ls hJ hO
    refine ob1 hJ fun P hP0 => ?_
    have hP := hP0.2
    intro D h9 tk9 F9 N9 o9
    rw [hP0.1] at N9
    clear hJ hP0
    (try simp only [List.cons_append, List.nil_append] at N9)
    have hO9 := hP.ok
    rw [all_eq] at N9
    refine ob1 (regroup2 N9 hO o9 (by simp only [Off1, and_true]; assumption)) fun R hz => ?_
    have hR := hz.1
    have hlam := hz.2.1
    have hnum := hz.2.2.1
    have hLs := hz.2.2.2.1
    have N := hz.2.2.2.2
    clear hz
    clear N9
    have hLi : LampsIn P R := fun i hi => hLs _ (hP i hi).1
    refine six_on hR ?_
    intro r6 r5 r4 r3 r2 r1
    dsimp only at r6 r5 r4 r3 r2 r1
    k_steps
    refine Halt.out ?_
    refine LCg.Assign_ListComp_U (by k_asm) rfl rfl rfl (by decide) rfl (by decide) rfl rfl rfl ?_
    k_steps
    refine Halt.out ?_
    refine LCg.CompSrc.range (n := 5) rfl (by k_asm) (by k_asm) (by k_asm) rfl rfl (by decide) ?_
    intro g2
    refine rest_rangeF (fun i ys => BA ys ((List.range i).map (plainZ P))) trivial .nil ?_ ?_
    · intro i ys kk t I oI C oC D2 m₂ h tk E' hi hki hJ hC hX F N
      refine wpLA ?_
      intro AQt1 Qt1 Et1
      have k0 : 0 ≤ kk := by exact lin2 (cx2 _ _) (.var 0) (.var 1) (.num 0) (.var 0) (.num 0) (.var 1) 1 1 1 rfl (ieq2 hki) (nn _)
      have k5 : kk < 5 := by exact lin2 (cx2 _ _) (.add (.var 0) (.num 1)) (.num 5) (.var 1) (.var 0) (.add (.var 1) (.num 1)) (.num 5) 1 1 1 rfl (nlt hi) (ieq1 hki)
      have hwn : 0 ≤ 4096 * (kk + 1) + 256 * P.at kk.toNat (0 : Int).toNat + 16 * P.at kk.toNat (1 : Int).toNat + P.at kk.toNat (2 : Int).toNat ∧ 4096 * (kk + 1) + 256 * P.at kk.toNat (0 : Int).toNat + 16 * P.at kk.toNat (1 : Int).toNat + P.at kk.toNat (2 : Int).toNat < 65536 := word_rng hO9 hi hki
      repeat' (first
        | ((with_reducible show wpAny _ _ (subscriptTail _ _ (Value.ref _) (Value.int _ _)) _ _ _); k_dflt ((with_unfolding_all (refine' lamps_sub ?k1_2 ?k2_2 ?k3_2 ?k4_2 ?_ ?k5_2)); (case k1_2 => k_asm); (case k2_2 => k_mem); (case k3_2 => first | decide | (with_reducible assumption)); (case k4_2 => first | decide | (exact Int.lt_of_lt_of_le (by with_reducible assumption) (by decide))); (case k5_2 => with_unfolding_all rfl); k_whole))
        | ((with_reducible show wpAny _ _ (subscriptTail _ _ (Value.ref (Lmp.l _ _)) (Value.int _ _)) _ _ _); k_dflt ((with_unfolding_all (refine' lamp_sub ?k1_3 ?k2_3 ?k3_3 ?k4_3 ?k5_3 ?_ ?k7_3)); (case k1_3 => k_asm); (case k2_3 => repeat' (first | (with_reducible assumption) | refine LampsIn.cons ?_)); (case k3_3 => first | decide | exact lt5 (by with_reducible assumption) (Int.lt_of_lt_of_le (by with_reducible assumption) (by decide))); (case k4_3 => first | decide | (with_reducible assumption)); (case k5_3 => first | decide | (exact Int.lt_of_lt_of_le (by with_reducible assumption) (by decide))); (case k7_3 => with_unfolding_all rfl); k_whole; intro _))
        | (k_dflt ((with_reducible refine mul_int ?_ ?hmul_4); (case hmul_4 => first | (refine mulR ?_; first | (with_reducible assumption) | assumption | (refine Lmp.Ok.sm (by with_reducible assumption) ?_ _; first | decide | exact lt5 (by with_reducible assumption) (Int.lt_of_lt_of_le (by with_reducible assumption) (by decide)))) | (refine mulL ?_; first | (with_reducible assumption) | assumption | (refine Sm.of ?_ ?_ <;> decide)))))
        | (k_unfold; (try dsimp only)) | (k_end; wrow_close) | walk1 | (dsimp only; walk1) | (leave1; try dsimp only))
      refine Halt.out ?_
      refine' ap_c ?hn ?k1 ?k2 ?k3 ?k4 ?k5 ?k6 ?k7 ?k8 ?_
      case k4 => k_asm
      case hn => with_reducible assumption
      case k1 => k_asm
      case k2 => k_asm
      case k3 => k_asm
      case k5 => k_asm
      case k6 => first | exact rfl | assumption
      case k7 => ktr_room
      case k8 => ktr_units
      intro b9 t9 hb9 h9 tk9 F9 N9
      (try dsimp only [List.nil_append, List.cons_append] at N9)
      (try dsimp only)
      (try k_fold)
      k_steps
      exact (EndF.intro (by k_asm) N9 (fun p hp => hp) (word_snoc hO9 hi hki hb9 t9 hJ))
    · intro ysw hBw D2 h9 tk9 F9 N9 o9
      refine five_on hBw ?_
      intro Wd eWd hWd
      rw [eWd] at N9
      refine regroup_on N9 hR o9 ?_
      clear r1 r2 r3 r4 r5 r6 N9
      intro R2 hR2 hwds hRR N r6 r5 r4 r3 r2 r1
      replace hlam := hRR _ hlam
      replace hnum := hRR _ hnum
      replace hLi := hLi.mono hRR
      clear hRR
      k_steps
      refine Halt.out ?_
      refine wpAny_Assign_Name ?_ (by with_unfolding_all rfl)
      k_steps
      refine Halt.out ?_
      refine LCg.ListComp_U (by k_asm) rfl (by decide) rfl (by decide) rfl ?_
      k_steps
      refine Halt.out ?_
      refine LCg.CompSrc.range (n := 5) rfl (by k_asm) (by k_asm) (by k_asm) rfl rfl (by decide) ?_
      intro g3
      refine rest_rangeF (fun i ys => BA ys ((List.range i).map (plainZ P))) trivial .nil ?_ ?_
      · intro i ys kk t I oI C oC D m₂ h tk E' hi hki hJ hC hX F N
        refine wpLA ?_
        intro AQt2 Qt2 Et2
        have k0 : 0 ≤ kk := by exact lin2 (cx2 _ _) (.var 0) (.var 1) (.num 0) (.var 0) (.num 0) (.var 1) 1 1 1 rfl (ieq2 hki) (nn _)
        have k5 : kk < 5 := by exact lin2 (cx2 _ _) (.add (.var 0) (.num 1)) (.num 5) (.var 1) (.var 0) (.add (.var 1) (.num 1)) (.num 5) 1 1 1 rfl (nlt hi) (ieq1 hki)
        have kp : 0 ≤ kk ∧ kk < 5 := ⟨k0, k5⟩
        have hk5 : kk.toNat < 5 := by exact gnlt (lin2 (cx2 _ _) (.add (.var 0) (.num 1)) (.num 5) (.var 1) (.var 0) (.add (.var 1) (.num 1)) (.num 5) 1 1 1 rfl k5 (tn2 (lin1 (cx1 _) (.num 0) (.var 0) (.num 0) (.var 0) 1 1 rfl k0)))
        have hPk : (P.l kk.toNat, W.listOf #[.int (P.x kk.toNat) (P.tx kk.toNat), .int (P.y kk.toNat) (P.ty kk.toNat), .int (P.z kk.toNat) (P.tz kk.toNat)] (P.n kk.toNat)) ∈ R2 := hLi _ hk5
        have a0 : 0 ≤ P.x kk.toNat ∧ P.x kk.toNat < 16 := lt16 (hO9.x kk.toNat hk5)
        have a1 : 0 ≤ P.y kk.toNat ∧ P.y kk.toNat < 16 := lt16 (hO9.y kk.toNat hk5)
        have a2 : 0 ≤ P.z kk.toNat ∧ P.z kk.toNat < 16 := lt16 (hO9.z kk.toNat hk5)
        repeat' (first
          | ((with_reducible show wpAny _ _ (subscriptTail _ _ (Value.ref _) (Value.int _ _)) _ _ _); k_dflt ((with_unfolding_all (refine' lamps_sub ?k1_5 ?k2_5 ?k3_5 ?k4_5 ?_ ?k5_5)); (case k1_5 => k_asm); (case k2_5 => k_mem); (case k3_5 => first | decide | (with_reducible assumption)); (case k4_5 => first | decide | (exact Int.lt_of_lt_of_le (by with_reducible assumption) (by decide))); (case k5_5 => with_unfolding_all rfl); k_whole))
          | (k_unfold; (try dsimp only)) | (k_end; wrow_close) | walk1 | (dsimp only; walk1) | (leave1; try dsimp only))
        refine Halt.out ?_
        refine' plain_c ?ha ?hp ?ha0 ?ha1 ?ha2 ?k1 ?k2 ?k3 ?k4 ?k5 ?k6 ?k7 ?k8 ?_
        case k4 => k_asm
        case ha => k_mem
        case hp => with_reducible assumption
        case ha0 => with_reducible assumption
        case ha1 => with_reducible assumption
        case ha2 => with_reducible assumption
        case k1 => k_asm
        case k2 => k_asm
        case k3 => k_asm
        case k5 => k_asm
        case k6 => first | exact rfl | assumption
        case k7 => ktr_room
        case k8 => ktr_units
        intro t9 h9 tk9 F9 N9
        (try dsimp only [List.nil_append, List.cons_append] at N9)
        (try dsimp only)
        (try k_fold)
        k_steps
        exact (EndF.intro (by k_asm) N9 (fun p hp => hp) (plain_snoc hO9 hi hki t9 hJ))
      · intro ysp hBp D3 h9 tk9 F9 N9 o9
        refine five_on hBp ?_
        intro Wp eWp hWp
        rw [eWp] at N9
        refine regroup_on N9 hR2 o9 ?_
        clear r1 r2 r3 r4 r5 r6 N9
        intro R3 hR3 hpla hRR N r6 r5 r4 r3 r2 r1
        replace hlam := hRR _ hlam
        replace hnum := hRR _ hnum
        replace hwds := hRR _ hwds
        replace hLi := hLi.mono hRR
        clear hRR
        k_steps
        refine Halt.out ?_
        refine ne_BA (News.isList (by k_asm) (show (D2, Wd.obj 5) ∈ _ by k_mem)) (News.isList (by k_asm) (show (D3, Wp.obj 5) ∈ _ by k_mem)) (wds_BA hWd) (wds_BA hWp) (by ke_room) ?_
        k_steps
        refine Halt.out ?_
        refine LCg.Assign_ListComp_U (by k_asm) rfl rfl rfl (by decide) rfl (by decide) rfl rfl rfl ?_
        k_steps
        refine Halt.out ?_
        refine LCg.CompSrc.ledger rfl (by k_asm) (by k_asm) (show (D, P.all 5) ∈ _ by k_mem) (show (5 : Nat) ≤ sizeLine by decide) ?_
        intro g4
        refine rest_lampsF (fun i ys => IntsAre ys ((List.range i).map (lumaZ P))) (.inr ⟨_, (show (D, P.all 5) ∈ _ by k_mem), rfl, _, rfl⟩) .nil ?_ ?_
        · intro i ys I oI C oC D4 m₂ h tk E' hi hJ hC hX F N
          refine wpLA ?_
          intro AQt3 Qt3 Et3
          have hPk : (P.l i, W.listOf #[.int (P.x i) (P.tx i), .int (P.y i) (P.ty i), .int (P.z i) (P.tz i)] (P.n i)) ∈ R3 := hLi _ hi
          have hfl := flok16 hO9 hi
          k_steps
          refine Halt.out ?_
          refine' seen_c ?ha ?hS ?hf ?k1 ?k2 ?k3 ?k4 ?k5 ?k6 ?k7 ?k8 ?_
          case k4 => k_asm
          case ha => k_mem
          case hS => first | exact .inl rfl | exact .inr (.inl rfl) | exact .inr (.inr rfl)
          case hf => with_reducible assumption
          case k1 => k_asm
          case k2 => k_asm
          case k3 => k_asm
          case k5 => k_asm
          case k6 => first | exact rfl | assumption
          case k7 => ktr_room
          case k8 => ktr_units
          intro q t0 t1 t2 n l9 h9 tk9 F9 N9
          (try dsimp only [List.nil_append, List.cons_append] at N9)
          (try dsimp only)
          (try k_fold)
          repeat' (first
            | ((with_reducible show wpAny _ _ (subscriptTail _ _ (Value.ref _) (Value.int _ _)) _ _ _); k_dflt ((with_unfolding_all (refine' lit_sub ?kn_6 ?km_6 ?k3_6 ?k4_6 ?k5_6 ?_ ?k8_6)); (case k3_6 => decide); (case k4_6 => decide); (case kn_6 => k_asm); (case km_6 => k_mem); (case k5_6 => rfl); (case k8_6 => with_unfolding_all rfl); k_whole))
            | (k_unfold; (try dsimp only)) | (k_end; wrow_close) | walk1 | (dsimp only; walk1) | (leave1; try dsimp only))
          exact (EndF.intro (by k_asm) N9 (fun p hp => List.mem_cons_of_mem _ hp) (luma_snoc _ hJ))
        · intro ysl hJl D4 h9 tk9 F9 N9 o9
          refine ints5_on (show IntsAre ysl (lus P) from hJl) ?_
          intro tl0 tl1 tl2 tl3 tl4 el
          rw [el] at N9
          refine regroup_on N9 hR3 o9 ?_
          clear r1 r2 r3 r4 r5 r6 N9
          intro R4 hR4 hlua0 hRR N r6 r5 r4 r3 r2 r1
          have hlua : (D4, W.listOf #[.int (lumaZ P 0) tl0, .int (lumaZ P 1) tl1, .int (lumaZ P 2) tl2, .int (lumaZ P 3) tl3, .int (lumaZ P 4) tl4] 5) ∈ R4 := hlua0
          clear hlua0
          replace hlam := hRR _ hlam
          replace hnum := hRR _ hnum
          replace hwds := hRR _ hwds
          replace hpla := hRR _ hpla
          replace hLi := hLi.mono hRR
          clear hRR
          k_steps
          refine Halt.out ?_
          refine LCg.ListComp_U (by k_asm) rfl (by decide) rfl (by decide) rfl ?_
          k_steps
          refine Halt.out ?_
          refine LCg.CompSrc.ledger rfl (by k_asm) (by k_asm) (show (D9, lst y9) ∈ _ by k_mem) (by rw [List.size_toArray, I9.length, hm9]; decide) ?_
          intro g5
          refine rest_intsF I9 (fun n => n.fdiv 512) (.inr ⟨_, (show (D9, lst y9) ∈ _ by k_mem), rfl, _, rfl⟩) ?_ ?_
          · intro ys n t I oI C oC D5 m₂ h tk E' hC hX F N
            refine wpLA ?_
            intro AQt4 Qt4 Et4
            k_steps
            exact (EndF.intro (by k_asm) (by k_asm) (fun p hp => hp) ⟨_, rfl⟩)
          · intro ysm hJm D5 h9 tk9 F9 N9 o9
            refine fives_on hm9 ?_
            intro n0 n1 n2 n3 n4 hms
            rw [hms] at hJm hb9
            refine ints5_on (show IntsAre ysm [n0.fdiv 512, n1.fdiv 512, n2.fdiv 512, n3.fdiv 512, n4.fdiv 512] from hJm) ?_
            intro tm0 tm1 tm2 tm3 tm4 em
            rw [em] at N9
            have hpr := parts_rng hb9
            have hmr := mix_rng hO9 hpr
            k_steps
            refine Halt.out ?_
            refine' mix_c ?ha ?hl ?hP ?hO ?k1 ?k2 ?k3 ?k4 ?k5 ?k6 ?k7 ?k8 ?_
            case k4 => k_asm
            case ha => k_mem
            case hl => k_mem
            case hP => repeat' (first | (with_reducible assumption) | refine LampsIn.cons ?_)
            case hO => with_reducible assumption
            case k1 => k_asm
            case k2 => k_asm
            case k3 => k_asm
            case k5 => k_asm
            case k6 => first | exact rfl | assumption
            case k7 => ktr_room
            case k8 => ktr_units
            intro q9 tq0 tq1 tq2 nq9 l9 h9 tk9 F9 N9
            (try dsimp only [List.nil_append, List.cons_append] at N9)
            (try dsimp only)
            (try k_fold)
            refine regroup_on (fun p hp => N9 p (drop2 p hp)) hR4 l9.2 ?_
            clear r1 r2 r3 r4 r5 r6 N9
            intro R5 hR5 hmix hRR N r6 r5 r4 r3 r2 r1
            replace hlam := hRR _ hlam
            replace hwds := hRR _ hwds
            replace hpla := hRR _ hpla
            replace hlua := hRR _ hlua
            replace hLi := hLi.mono hRR
            clear hRR hnum
            have hws := words_size hWd
            have hwr := words_rng hO9 hWd
            have hur := luma_rng hO9
            obtain ⟨fT, hfT⟩ : ∃ fT : Int × Int → List Int, ∀ p, fT p = textZ (fun c => KBw.bInts (Wd.b c)) (P.G p.1.toNat p.2.toNat) (amtsZ P [lumaZ P 0, lumaZ P 1, lumaZ P 2, lumaZ P 3, lumaZ P 4] [mixAt P [n0.fdiv 512, n1.fdiv 512, n2.fdiv 512, n3.fdiv 512, n4.fdiv 512] 0, mixAt P [n0.fdiv 512, n1.fdiv 512, n2.fdiv 512, n3.fdiv 512, n4.fdiv 512] 1, mixAt P [n0.fdiv 512, n1.fdiv 512, n2.fdiv 512, n3.fdiv 512, n4.fdiv 512] 2] p.1 p.2) := ⟨_, fun _ => rfl⟩
            obtain ⟨gT, hgT⟩ : ∃ gT : Int × Int → Bool, ∀ p, gT p = goodZ (P.G p.1.toNat p.2.toNat) (amtsZ P [lumaZ P 0, lumaZ P 1, lumaZ P 2, lumaZ P 3, lumaZ P 4] [mixAt P [n0.fdiv 512, n1.fdiv 512, n2.fdiv 512, n3.fdiv 512, n4.fdiv 512] 0, mixAt P [n0.fdiv 512, n1.fdiv 512, n2.fdiv 512, n3.fdiv 512, n4.fdiv 512] 1, mixAt P [n0.fdiv 512, n1.fdiv 512, n2.fdiv 512, n3.fdiv 512, n4.fdiv 512] 2] p.1 p.2) := ⟨_, fun _ => rfl⟩
            k_steps
            refine Halt.out ?_
            refine' table_c ?hl ?hP ?hO ?hw ?hlu ?hm ?hWs ?hWl ?hus ?hms ?hfz ?hgz ?k1 ?k2 ?k3 ?k4 ?k5 ?k6 ?k7 ?k8 ?_
            case k4 => k_asm
            case hl => k_mem
            case hP => repeat' (first | (with_reducible assumption) | refine LampsIn.cons ?_)
            case hO => with_reducible assumption
            case hw => k_mem
            case hlu => k_mem
            case hm => k_mem
            case hWs => with_reducible assumption
            case hWl => with_reducible assumption
            case hus => with_reducible assumption
            case hms => with_reducible assumption
            case hfz => with_reducible assumption
            case hgz => with_reducible assumption
            case k1 => k_asm
            case k2 => k_asm
            case k3 => k_asm
            case k5 => k_asm
            case k6 => first | exact rfl | assumption
            case k7 => ktr_room
            case k8 => ktr_units
            intro x9 dx9 tq9 its9 tn9 tt9 tup9 txs9 hsz9 hTI9 hTX9 h9 tk9 F9 N9
            (try dsimp only [List.nil_append, List.cons_append] at N9)
            (try dsimp only)
            (try k_fold)
            simp only [tabL, List.cons_append, List.nil_append, List.append_assoc] at N9
            k_steps
            refine Halt.out ?_
            refine LCg.Assign_ListComp_U (by k_asm) rfl rfl rfl (by decide) rfl (by decide) rfl rfl rfl ?_
            k_steps
            refine Halt.out ?_
            rename_i N9
            refine' all_c (rest := tup9 ++ _) (Nat.le_trans hsz9 (by decide)) (hTI9.mono fun p hp => List.mem_append_left _ hp) ?k1 ?k2 ?k3 ?k4 ?k5 ?k6 ?k7 ?k8 ?_
            case k4 => exact N9
            case k1 => k_asm
            case k2 => k_asm
            case k3 => k_asm
            case k5 => k_asm
            case k6 => first | exact rfl | assumption
            case k7 => ktr_room
            case k8 => ktr_units
            intro D6 ysT hST o6 h9 tk9 F9 N9
            refine regroup_on (fun p hp => N9 p (drop_mid p hp)) hR5 (off1_right (off1_right o6)) ?_
            clear r1 r2 r3 r4 r5 r6 N9
            intro R6 hR6 hsrc hRR N r6 r5 r4 r3 r2 r1
            replace hlam := hRR _ hlam
            replace hpla := hRR _ hpla
            replace hmix := hRR _ hmix
            replace hLi := hLi.mono hRR
            clear hRR r6 r5 r4 r3 r2 r1
            have hTl := strs_tx_len hST hTX9
            have hfl : ((prs 5).filter gT).length ≤ 10 := Nat.le_trans (List.length_filter_le _ _) (by decide)
            refine LCg.CompSrc.ledger rfl (by k_asm) (by k_asm) (show (D6, lst ysT) ∈ _ by k_mem) (by rw [List.size_toArray, hTl]; exact Nat.le_trans hfl (by decide)) ?_
            intro g6
            refine rest_indC (fun i ys R => WI R ys ((((prs 5).filter gT).map (wayOf P (lus P) (mxs P (n0.fdiv 512) (n1.fdiv 512) (n2.fdiv 512) (n3.fdiv 512) (n4.fdiv 512)))).take i)) hR6 .nil ?_ ?_
            · intro i ys R hi hJ hRo hsub v I oI C oC D7 m₂ h tk E' hv hC hX F N off ne
              refine wpLA ?_
              intro AQw Qw Ew
              refine ob3 (strs_tx hST hTX9 (i := i) (v := v) (by simpa using hv)) fun s t p hz => ?_
              rw [hz.1] at hX
              have hcp := hz.2.1
              have hp := hz.2.2
              clear hz hv
              have hpm : p ∈ (prs 5).filter gT := List.mem_of_getElem? hp
              have hpg : gT p = true := (List.mem_filter.mp hpm).2
              have hpr := prs_in p (List.mem_filter.mp hpm).1
              rw [hfT] at hcp
              rw [hgT] at hpg
              have tf := text_facts hcp (fun c hc => ⟨by rw [hWd c hc]; exact (by decide : 1 ≤ 4 ∧ 4 ≤ 10), hwr c hc⟩) hpg amtsZ_len (hO9.G (by exact gnlt (lin3 (cx3 _ _ _) (.add (.var 0) (.num 1)) (.var 1) (.add (.var 1) (.num 1)) (.num 5) (.var 2) (.var 0) (.add (.var 2) (.num 1)) (.num 5) 1 1 1 1 rfl hpr.2.1 hpr.2.2 (tn2 (lin1 (cx1 _) (.num 0) (.var 0) (.num 0) (.var 0) 1 1 rfl hpr.1)))) (by exact gnlt (lin2 (cx2 _ _) (.add (.var 0) (.num 1)) (.num 5) (.var 1) (.var 0) (.add (.var 1) (.num 1)) (.num 5) 1 1 1 rfl hpr.2.2 (tn2 (lin2 (cx2 _ _) (.num 0) (.var 0) (.add (.var 0) (.num 1)) (.var 1) (.num 0) (.var 1) 1 1 1 rfl hpr.1 hpr.2.1)))))
              have f8 := tf.2.2.2.2.2.2.2.1
              have f7 := tf.2.2.2.2.2.2.1
              rw [flatP_congr (wd' := fun c => KBw.bInts (Wp.b c)) (fun q hq => (f8 q hq).1) (fun c hc => (hWd c hc).trans (hWp c hc).symm)] at f7
              have hpla' := hsub _ hpla
              k_steps
              refine Halt.out ?_
              refine encodeMeth ?_
              k_steps
              refine Halt.out ?_
              refine call_encode tf.1 tf.2.1 tf.2.2.1 ?_
              intro _ _
              k_steps
              refine Halt.out ?_
              refine' parse_c tf.2.2.2.1 tf.2.2.2.2.1 tf.2.2.2.2.2.1 f7 ?k1 ?k2 ?k3 ?k4 ?k5 ?k6 ?k7 ?k8 ?_
              case k4 => k_asm
              case k1 => k_asm
              case k2 => k_asm
              case k3 => k_asm
              case k5 => k_asm
              case k6 => first | exact rfl | assumption
              case k7 => ktr_room
              case k8 => ktr_units
              intro Dp ws hBws _ h9 tk9 F9 N9
              (try dsimp only [List.nil_append, List.cons_append] at N9)
              k_steps
              refine Halt.out ?_
              refine' told_c ?hfa hBws ?hpl (words_inj hWp) f8 tf.2.2.2.2.2.2.2.2.1 tf.2.2.2.2.2.2.2.2.2.1 tf.2.2.2.2.2.2.2.2.2.2.2 tf.2.2.2.2.2.2.2.2.2.2.1 ?k1 ?k2 ?k3 ?k4 ?k5 ?k6 ?k7 ?k8 ?_
              case k4 => k_asm
              case hfa => k_mem
              case hpl => k_mem
              case k1 => k_asm
              case k2 => k_asm
              case k3 => k_asm
              case k5 => k_asm
              case k6 => first | exact rfl | assumption
              case k7 => ktr_room
              case k8 => ktr_units
              intro T9 q9 ys9 tu9 kt9 kq9 I9' l9 l9' h9 tk9 F9 N9
              (try dsimp only [List.nil_append, List.cons_append] at N9)
              k_steps
              have hs2 := hsub _ hsrc
              refine CompEnd.intro (by k_asm) N9 _ sub_way (off3_two off l9.2.1 l9.2.2.1 l9.2.2.2.1 l9'.2.1 l9'.2.2.1 l9'.2.2.2.1) (.inr ⟨_, (show (D6, lst ysT) ∈ _ by k_mem), rfl, _, rfl⟩) ⟨_, rfl, List.forall_mem_cons.mpr ⟨off1_left l9.2.2.2.2, List.forall_mem_cons.mpr ⟨off1_left l9'.2.2.2.2, hRo⟩⟩, fun p hp => List.mem_cons_of_mem _ (List.mem_cons_of_mem _ (hsub p hp)), ?_⟩
              rw [take_way hp]
              exact WI.snoc List.mem_cons_self (List.mem_cons_of_mem _ List.mem_cons_self) I9' (hJ.mono fun p hp => List.mem_cons_of_mem _ (List.mem_cons_of_mem _ hp))
            · intro ysW R7 hW hR7 hsub D8 h9 tk9 F9 N9 o9
              rw [List.take_of_length_le (by rw [List.length_map, List.size_toArray, hTl]; exact Nat.le_refl _)] at hW
              have hlaw := ways_ok hP hpr hgT
              have hne : ysW ≠ [] := fun e => hlaw.some (List.length_eq_zero_iff.mp (by rw [← hW.len, e]; rfl))
              have hf2 := flok1024 (mix_600 hO9 hpr)
              refine regroup_on N9 hR7 o9 ?_
              clear N9
              intro R8 hR8 hways0 hRR N r6 r5 r4 r3 r2 r1
              replace hlam := hRR _ (hsub _ hlam)
              replace hmix := hRR _ (hsub _ hmix)
              replace hLi := (hLi.mono hsub).mono hRR
              replace hW := hW.mono hRR
              clear hRR hsub hpla hsrc
              have hsW : ysW.toArray.size ≤ sizeLine := by rw [List.size_toArray, hW.len, List.length_map]; exact Nat.le_trans hfl (by decide)
              refine hW.head_on hne ?_
              intro T0 q0 u0 am0 xs0 tu0 kt0 kq0 r0 l0 eys ewz hT0 hq0 hI0
              rw [eys] at hways0 hsW
              have hways : (D8, W.listOf (Value.ref T0 :: r0).toArray (r0.length + 1)) ∈ R8 := hways0
              clear hways0 hne
              have hne : Value.ref T0 :: r0 ≠ [] := fun e => nomatch e
              k_steps
              refine Halt.out ?_
              refine eq_none (News.isList (by k_asm) (show (D8, W.listOf (Value.ref T0 :: r0).toArray (r0.length + 1)) ∈ _ by k_mem)) (by is_list) hne (by ke_room) ?_
              k_steps
              refine Halt.out ?_
              refine LCt.ListComp_T (by k_asm) rfl (by decide) rfl (by decide) rfl ?_
              k_steps
              refine Halt.out ?_
              refine LCt.CompSrcT.ledger rfl (by k_asm) (by k_asm) (show (D8, W.listOf (Value.ref T0 :: r0).toArray (r0.length + 1)) ∈ _ by k_mem) hsW ?_
              intro g8
              refine restT_none (.inr ⟨_, (show (D8, W.listOf (Value.ref T0 :: r0).toArray (r0.length + 1)) ∈ _ by k_mem), rfl, _, rfl⟩) ?_ ?_
              · intro i v I oI C oC D9 m₂ h tk E' hi hv hC hX F N
                refine wpLA ?_
                intro AQt5 Qt5 Et5
                refine hW.get_on (i := i) (v := v) (by rw [eys]; simpa using hv) ?_
                intro T q u am xs tu kt kq ev hT hq hI hw
                have hfit := hlaw.fit _ (List.mem_of_getElem? hw)
                refine fives_on hfit.1 ?_
                intro x0 x1 x2 x3 x4 eam
                dsimp only at eam
                have g2 : Sm u := hfit.2.1
                have g3 := hfit.2.2.1
                have g4 := hfit.2.2.2.1
                have g5 := hfit.2.2.2.2.1
                have g6' := hfit.2.2.2.2.2
                dsimp only at g3 g4 g5 g6'
                rw [eam] at g3 g4 g5 g6' hI
                rw [ev] at hX
                refine ints5_on hI ?_
                intro tx0 tx1 tx2 tx3 tx4 exs
                rw [exs] at hq
                have hq' : (q, W.listOf #[.int x0 tx0, .int x1 tx1, .int x2 tx2, .int x3 tx3, .int x4 tx4] kq) ∈ R8 := hq
                clear hfit hI hq hv hw
                k_steps
                refine Halt.out ?_
                refine' fits_c ?hT ?hq ?hl ?hP ?hO ?hm ?hf1 ?hf2 ?hun ?hY ?hI ?hQ ?k1 ?k2 ?k3 ?k4 ?k5 ?k6 ?k7 ?k8 ?_
                case k4 => k_asm
                case hT => k_mem
                case hq => k_mem
                case hl => k_mem
                case hP => repeat' (first | (with_reducible assumption) | refine LampsIn.cons ?_)
                case hO => with_reducible assumption
                case hm => k_mem
                case hf1 => with_reducible assumption
                case hf2 => with_reducible assumption
                case hun => with_reducible assumption
                case hY => with_reducible assumption
                case hI => with_reducible assumption
                case hQ => with_reducible assumption
                case k1 => k_asm
                case k2 => k_asm
                case k3 => k_asm
                case k5 => k_asm
                case k6 => first | exact rfl | assumption
                case k7 => ktr_room
                case k8 => ktr_units
                intro h9 tk9 F9 N9
                (try dsimp only [List.nil_append, List.cons_append] at N9)
                (try dsimp only)
                (try k_fold)
                k_steps
                exact EndF.intro (by k_asm) (by k_asm) (fun p hp => hp) trivial
              · intro D9 h9 tk9 F9 N9 o9
                k_steps
                refine Halt.out ?_
                refine ke_ne_ints (News.isList (by k_asm) (show (D9, lst []) ∈ _ by k_mem)) (by is_list) .nil .nil (by ke_room) ?_
                repeat' (first
                  | ((with_reducible show wpAny _ _ (subscriptTail _ _ (Value.ref _) (Value.int _ _)) _ _ _); k_dflt ((with_unfolding_all (refine' lit_sub ?kn_7 ?km_7 ?k3_7 ?k4_7 ?k5_7 ?_ ?k8_7)); (case k3_7 => decide); (case k4_7 => decide); (case kn_7 => k_asm); (case km_7 => k_mem); (case k5_7 => rfl); (case k8_7 => with_unfolding_all rfl); k_whole))
                  | (k_unfold; (try dsimp only)) | (k_end; wrow_close) | walk1 | (dsimp only; walk1) | (leave1; try dsimp only))
                rename_i N9
                have N := news_tail3 N9
                clear N9
                k_steps
                refine Halt.out ?_
                refine ListComp_CL (its := (Value.ref T0 :: r0).toArray) (by k_asm) rfl (fun _ => rfl) (fun _ => rfl) rfl (by decide) rfl rfl hsW ?_
                k_steps
                refine ⟨_, _, rfl, by k_asm, by k_asm, .inr ⟨_, (show (D8, W.listOf (Value.ref T0 :: r0).toArray (r0.length + 1)) ∈ _ by k_mem), rfl, _, rfl⟩, fun g9 => ?_⟩
                have hm0 : (u0, am0) ∈ ((prs 5).filter gT).map (wayOf P (lus P) (mxs P (n0.fdiv 512) (n1.fdiv 512) (n2.fdiv 512) (n3.fdiv 512) (n4.fdiv 512))) := by rw [ewz]; exact List.mem_cons_self
                have hun0 : Sm u0 := (hlaw.fit _ hm0).2.1
                refine RestC.noneF (.inr ⟨_, (show (D8, W.listOf (Value.ref T0 :: r0).toArray (r0.length + 1)) ∈ _ by k_mem), rfl, _, rfl⟩) ?_ ?_
                · intro i v I oI C oC X oX D10 h tk E' hi hv hX F N
                  refine wpLA ?_
                  intro AQt6 Qt6 Et6
                  refine hW.get_on (i := i) (v := v) (by rw [eys]; simpa using hv) ?_
                  intro T q u am xs tu kt kq ev hT hq hI hw
                  rw [ev] at hX
                  have hwm := List.mem_of_getElem? hw
                  have hun : Sm u := (hlaw.fit _ hwm).2.1
                  have hl5 : am.length = 5 := (hlaw.fit _ hwm).1
                  have hl50 : am0.length = 5 := (hlaw.fit _ hm0).1
                  have hone : (am.map fun x => x * u0) = am0.map fun x => x * u := hlaw.one _ hm0 _ hwm
                  clear hw hwm hv
                  k_steps
                  refine Halt.out ?_
                  refine LCg.ListComp_U (by k_asm) rfl (by decide) rfl (by decide) rfl ?_
                  k_steps
                  refine Halt.out ?_
                  refine LCg.CompSrc.ledger rfl (by k_asm) (by k_asm) (show (q, W.listOf xs.toArray kq) ∈ _ by k_mem) (by rw [List.size_toArray, hI.length, hl5]; decide) ?_
                  intro g10
                  refine rest_intsF hI (fun x => x * u0) (.inr ⟨_, (show (q, W.listOf xs.toArray kq) ∈ _ by k_mem), rfl, _, rfl⟩) ?_ ?_
                  · intro ys n t I2 oI2 C2 oC2 D12 m2 h2 tk2 E2 hC2 hX2 F2 N2
                    refine wpLA ?_
                    intro AQt7 Qt7 Et7
                    repeat' (first
                      | (k_dflt ((with_reducible refine mul_int ?_ ?hmul_8); (case hmul_8 => first | (refine mulR ?_; first | (with_reducible assumption) | assumption | (refine Lmp.Ok.sm (by with_reducible assumption) ?_ _; first | decide | exact lt5 (by with_reducible assumption) (Int.lt_of_lt_of_le (by with_reducible assumption) (by decide)))) | (refine mulL ?_; first | (with_reducible assumption) | assumption | (refine Sm.of ?_ ?_ <;> decide)))))
                      | (k_unfold; (try dsimp only)) | (k_end; wrow_close) | walk1 | (dsimp only; walk1) | (leave1; try dsimp only))
                    exact (EndF.intro (by k_asm) (by k_asm) (fun p hp => hp) ⟨_, rfl⟩)
                  · intro zs1 hJ1 D12 h2 tk2 F2 N2 off2
                    k_steps
                    refine Halt.out ?_
                    refine LCg.ListComp_U (by k_asm) rfl (by decide) rfl (by decide) rfl ?_
                    k_steps
                    refine Halt.out ?_
                    refine LCg.CompSrc.ledger rfl (by k_asm) (by k_asm) (show (q0, W.listOf xs0.toArray kq0) ∈ _ by k_mem) (by rw [List.size_toArray, hI0.length, hl50]; decide) ?_
                    intro g11
                    refine rest_intsF hI0 (fun x => x * u) (.inr ⟨_, (show (q0, W.listOf xs0.toArray kq0) ∈ _ by k_mem), rfl, _, rfl⟩) ?_ ?_
                    · intro ys n t I2 oI2 C2 oC2 D13 m2 h3 tk3 E2 hC2 hX2 F3 N3
                      refine wpLA ?_
                      intro AQt8 Qt8 Et8
                      repeat' (first
                        | (k_dflt ((with_reducible refine mul_int ?_ ?hmul_9); (case hmul_9 => first | (refine mulR ?_; first | (with_reducible assumption) | assumption | (refine Lmp.Ok.sm (by with_reducible assumption) ?_ _; first | decide | exact lt5 (by with_reducible assumption) (Int.lt_of_lt_of_le (by with_reducible assumption) (by decide)))) | (refine mulL ?_; first | (with_reducible assumption) | assumption | (refine Sm.of ?_ ?_ <;> decide)))))
                        | (k_unfold; (try dsimp only)) | (k_end; wrow_close) | walk1 | (dsimp only; walk1) | (leave1; try dsimp only))
                      exact (EndF.intro (by k_asm) (by k_asm) (fun p hp => hp) ⟨_, rfl⟩)
                    · intro zs2 hJ2 D13 h3 tk3 F3 N3 off3
                      k_steps
                      refine Halt.out ?_
                      refine ke_ne_ints (News.isList (by k_asm) (show (D12, lst zs1) ∈ _ by k_mem)) (News.isList (by k_asm) (show (D13, lst zs2) ∈ _ by k_mem)) hJ1 hJ2 (by ke_room) ?_
                      rw [decide_eq_true hone]
                      k_steps
                      exact EndF.intro (by k_asm) (by k_asm) (fun p hp => List.mem_cons_of_mem _ (List.mem_cons_of_mem _ hp)) trivial
                · intro D11 h9 tk9 F9 N9 o9
                  k_steps
                  refine Halt.out ?_
                  refine ke_eq_ints (News.isList (by k_asm) (show (D11, lst []) ∈ _ by k_mem)) (by is_list) .nil .nil (by ke_room) ?_
                  k_steps)
end
end Mine
end
set_option maxHeartbeats 8000000 in
theorem PySem.Challenge.cw_tp0021_01_holds : PySem.Challenge.rw_tp0021_01.Holds :=
  Mine.law_holds
