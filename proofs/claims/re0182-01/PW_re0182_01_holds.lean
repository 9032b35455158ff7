import PyProof.Rows.All
import Wide.All
import OpenK.AllK
import Wide.FinOn
import Lean
import PySem.Challenge.RW_re0182_01
set_option Elab.async false
set_option tactic.hygienic false
set_option compiler.extract_closed false
set_option maxRecDepth 100000
set_option maxHeartbeats 0
set_option linter.unusedVariables false
section XREG
open PySem PySem.W PyProof.Rows
theorem wt0:True:=by
 k_with "A1" => ((k_here;k_dflt (refine' slice3_ints ?z1F ?z1N ?z1l ?z1p ?z1q ?z1k ?z1o ?z1i ?_ ?z1s ?z1t ?z1z;(case z1F | z1N=>k_asm);(case z1l=>kmk_list);(case z1p | z1q | z1k=>exact IsPart.int _ _);(case z1o=>decide);(case z1i=>assumption);(case z1s=>with_unfolding_all rfl);(case z1t=>kmk_pure);(case z1z=>rw [sizeLine_eq];lia));intro D' ws' ks' h' i' kl' F' N' l1;(try k_lt l1);dsimp only))
 k_with "A2" => ((k_here;k_dflt (refine LCg.ListComp_U (F₀:=by k_asm) (by with_unfolding_all rfl) (by decide) (by rfl) (by decide) (by rfl) ?_);dsimp only))
 k_with "A3" => ((k_here;k_dflt (refine LCg.CompSrc.ledger (by assumption) (by k_asm) (by k_asm) (by k_mem) (by rw [List.size_toArray,IntsAre.length (by assumption),sizeLine_eq];lia) ?_;intro g';refine' kb_ints 999999 (by assumption) (fun k' t' I' oI' C' oC' D' m' ys' h' tk' E' _ hC' hx' F' N' off' ne'=>?_) (fun ys' rs' yi' yl' yb'=>?_));dsimp only))
 k_with "A4" => ((k_here;k_dflt (refine' LSm.sum_ints ?z4F ?z4N ?z4h ?z4l ?z4i ?_;(case z4F | z4N=>k_asm);(case z4h=>assumption);(case z4l=>exact News.isList (by k_asm) (by k_mem));(case z4i=>assumption));intro h' tk' t' F' N';(try dsimp only)))
 k_with "A5" => (((case kA | kF=>exact rfl);(case kK=>assumption);(case k1 | k2=>k_asm);(case k3 | k4 | k5=>k_asm);(case k6 | k7=>k_is);(case k8=>ktr_room);(case k9=>first | exact BindsTo.of_eq rfl | exact binds_K (by k_in) rfl (by k_is) rfl rfl rfl | (refine' kp_binds ?z5kx ?z5ke;(case z5kx=>k_in);(case z5ke=>exact fun _=>rfl)));(case c5=>decide);(case kB=>exact locs rfl);(case c2 | c3 | c4=>exact rfl);k_whole;intro FG' F' N' B' X' T' S9';(try dsimp only);(try k_lift B');(try k_fold)))
 k_with "A6" => (repeat' (first | (k_unfold;(try dsimp only)) | walk1 | (dsimp only;walk1) | (with_reducible refine seq_ret ?_) | (with_reducible refine seq_next ?_) | (with_reducible refine seq_cont ?_) | (with_reducible refine seq_brk ?_) | fail "no step"))
 k_with "A7" => ((k_here;first | k_gentoks | (with_reducible refine' as_cons ?_ ?z7hs;(case z7hs=>k_dflt (exact rfl))) | (with_reducible refine' ex_cons ?_ ?z7hi ?z7hs;(case z7hi=>k_dflt (exact rfl));(case z7hs=>k_dflt (exact rfl))) | with_reducible refine if_cons0 ?_ | with_reducible refine if_cons ?_))
 k_with "A8" => ((k_here;with_reducible refine nil_seq ?_))
 k_with "A9" => ((k_here;k_dflt (refine' nameX_L ?z9F ?z9v ?_ ?z9a ?z9b;(case z9F=>k_asm);(case z9a | z9b | z9v=>rfl);k_whole)))
 k_with "A10" => ((k_here;(rename Same _ _=>s9);k_dflt (refine' storeU ?z10F ?z10N s9 ?_ ?z10a ?z10b;(case z10F | z10N=>k_asm);(case z10a | z10b=>rfl);k_whole);intro s' F' N' S';clear s9;(try k_sweep)))
 k_with "A11" => ((k_here;(with_reducible show wpAny _ _ (execs (Stmt.If _ _ _ _::_) _) _ _ _);(rename Fr _ _ _ _=>F');(rename News _ _ _ _=>N');(rename Same _ _=>s9);k_dflt (refine' rep_cons F' N' s9 ?z11hx ?z11hb ?z11hl ?z11hy ?z11hyz ?z11hz ?z11hok ?z11hp ?z11hk ?z11hlo ?_;(case z11hx=>rfl);(case z11hb=>assumption);(case z11hl=>omega);(case z11hy=>first | exact (rfl:_=(⟨#[38]⟩:PySem.Str)) | exact (rfl:_=(⟨#[60]⟩:PySem.Str)) | exact (rfl:_=(⟨#[62]⟩:PySem.Str)) | exact (rfl:_=(⟨#[34]⟩:PySem.Str)) | exact (rfl:_=(⟨#[9]⟩:PySem.Str)) | exact (rfl:_=(⟨#[10]⟩:PySem.Str)) | exact (rfl:_=(⟨#[13]⟩:PySem.Str)));(case z11hyz | z11hz | z11hok=>decide);(case z11hp | z11hk | z11hlo=>exact rfl);k_whole);intro r' t' s' hr' hl' F'' N'' S'';clear s9 F' N';(try k_sweep)))
 k_with "A12" => ((first | (refine' code_def ?z12k1 ?z12k2 ?z12k3 ?z12k4 ?z12k5 ?z12kA ?z12kF ?z12kK ?z12k6 ?z12k7 ?z12k8 ?z12k9 ?z12kB ?_ ?z12c2 ?z12c3 ?z12c4 ?z12c5;(case z12kA | z12kF=>exact rfl);(case z12kK=>assumption);(case z12k1 | z12k2=>k_asm);(case z12k3 | z12k4 | z12k5=>k_asm);(case z12k6 | z12k7=>k_is);(case z12k8=>ktr_room);(case z12k9=>first | exact BindsTo.of_eq rfl | exact binds_K (by k_in) rfl (by k_is) rfl rfl rfl);(case z12c5=>decide);(case z12kB=>exact locs rfl);(case z12c2 | z12c3 | z12c4=>exact rfl);k_whole;intro g' L' h' FG' F' N' B' X' T';(try dsimp only);(try k_lift B');(try k_fold))))
 k_with "A13" => (repeat' (first | (k_unfold;(try dsimp only)) | walk1 | (dsimp only;walk1) | fail "no step"))
 k_with "A14" => ((k_here;k_dflt (refine' method_inst ?z14k1 ?z14k2 ?z14k3 ?z14k4 ?z14k5 ?z14k6 ?z14k7 ?_;(case z14k1 | z14k2=>k_asm);(case z14k3=>k_inst);(case z14k4 | z14k5 | z14k6=>k_is);(case z14k7=>k_get);k_whole)))
 k_with "A15" => ((k_here;k_dflt (first | (refine' callWith_K ?z15k1 ?z15k2 ?_;(case z15k1=>k_asm);(case z15k2=>k_is);k_whole) | (refine' callWith_K0 ?z15k1 ?z15k2 ?_;(case z15k1=>k_in);(case z15k2=>k_is);k_whole))))
 k_with "A16" => ((k_here;(with_reducible show wpAny _ _ (getAttr (Value.ref _) (Str.ofString "append") true) _ _ _);k_dflt (refine' kapp_get ?z16k1 ?z16k2 ?z16k3 ?_;(case z16k1 | z16k2=>k_asm);(case z16k3=>k_mem);k_whole);intro q' h' F' N' l1;(try k_lt l1);(try k_sweep)))
 k_with "A17" => ((k_here;(with_reducible show wpAny _ _ (callWith _ (Value.ref _) _ (backTo _ (starEach (_::_) _)) []) _ _ _);k_dflt (refine' kapp_callWith ?z17k1 ?z17k2 ?_ (by rfl) (by rfl);(case z17k1=>k_asm);(case z17k2=>k_mem);k_whole)))
 k_with "A18" => (((with_reducible show AppAt _ _ _/\_);k_dflt (refine ⟨app_of (by k_asm) (by k_mem),?_⟩);(try dsimp only [List.nil_append,List.cons_append])))
 k_with "A19" => ((k_here;(with_reducible show wpAny _ _ (call (Value.ref _) [_]) _ _ _);k_dflt (refine' kapp_call ?z19k1 ?z19k2 ?z19k4 ?z19k3 ?_ ?z19z;(case z19k1 | z19k2=>k_asm);(case z19k4=>k_mem);(case z19k3=>k_upd);(case z19z=>size_fits);k_whole);intro h' F' N';(try k_sweep)))
 k_with "A20" => ((k_here;k_dflt (show wpAny _ _ (call (Value.builtin "list.append") [Value.ref _,_]) _ _ _);k_dflt (refine' append_K ?z20k1 ?z20k2 ?z20k3 ?_ ?z20z;(case z20k1 | z20k2=>k_asm);(case z20k3=>k_upd);(case z20z=>size_fits);k_whole);intro h' F' N';(try k_sweep)))
 k_with "A21" => ((k_here;(with_reducible show wpAny _ _ (getMethod (Value.ref 95) (Str.ofString "items") _) _ _ _);k_dflt (refine ns_method (by k_asm) (by k_asm) ?_)))
 k_with "A22" => ((k_here;(with_reducible show wpAny _ _ (call (Value.builtin "dict.items") [Value.ref 95]) _ _ _);k_dflt (refine ns_view (by k_asm) (by k_asm) (by k_asm) ?_);intro D' h' F' N' l1;(try k_lt l1)))
 k_with "A23" => ((k_here;(with_reducible show wpAny _ _ (call (Value.type "list") [Value.ref _]) _ _ _);k_dflt (refine ns_list rfl (by k_asm) (by k_asm) (by k_asm) (by k_mem) ?_);intro B' h' tk' vs' c' F' N' l1;(try k_lt l1);(try k_sweep);(try dsimp only);(try simp only [List.nil_append,List.cons_append])))
 k_with "A24" => ((k_here;k_dflt (refine eq_no (by assumption) ?_)))
 k_with "A25" => ((k_here;k_dflt (refine wpAny_For ?_ (fun _=>rfl))))
 k_with "A26" => ((k_here;(with_reducible show wpAny _ _ (call (Value.ref 126) _) _ _ _);k_dflt (refine' gen_call ?z26kF ?z26kX ?z26kN ?z26kT ?z26ko ?z26kc ?z26kr ?z26kb ?z26kl ?_ ?z26c2 ?z26c3 ?z26c4 ?z26c5;(case z26kF | z26kX=>k_asm);(case z26kN | z26kT=>k_asm);(case z26ko | z26kc=>k_is);(case z26kr=>ktr_room);(case z26kb=>exact binds_K (by k_in) rfl (by k_is) rfl rfl rfl);(case z26kl=>exact locs rfl);(case z26c2 | z26c3 | z26c4=>exact rfl);(case z26c5=>decide);k_whole);intro Lg' G' oL' tg1' tg2' s8' lLL' lLG' lt8' os8' gn8' FL8' F8' N8';(try dsimp only at os8' gn8' N8');(try simp only [AllLt,and_true] at lt8')))
 k_with "A27" => ((k_here;(with_reducible rename PySem.Shared.gens _=Array.push _ _=>gn8');k_dflt (refine' gen_loop ?z27le ?z27hh ?z27lim ?z27room ?z27G0 ?z27gens ?z27F ?z27FL ?z27N ?z27lLG ?z27lt ?z27hL ?z27iC ?z27i1 ?z27i2 ?z27iT ?z27lo ?z27hk ?z27hi ?z27k1 ?z27k2 ?z27k3 ?z27m1 ?z27m2 ?z27hk2 ?z27ku ?z27kq ?_;(case z27N=>k_asm);(case z27le=>exact rfl);(case z27gens=>exact gn8');(case z27F | z27FL=>k_asm);(case z27lLG | z27hL=>assumption);(case z27hh=>exact rfl);(case z27lim=>exact Top.nolimit (by assumption));(case z27room=>ktr_room);(case z27G0=>assumption);(case z27lt=>((try simp only [AllLt,and_true]);(repeat' (first | assumption | refine And.intro ?_ ?_ | omega))));(case z27iC | z27i1=>k_mem);(case z27i2 | z27iT=>k_mem);(case z27lo | z27hk=>exact rfl);(case z27hi | z27k1=>exact rfl);(case z27k2 | z27k3=>exact rfl);(case z27m1 | z27m2=>exact rfl);(case z27hk2 | z27ku | z27kq=>exact rfl);k_whole);(with_reducible rename Fr _ _ _ (fun _=>List.lookup _ (List.reverse _))=>FL8');clear FL8';intro J' oJ' Rv' oR' oL2' s9' os9' lt9' lLG' lGR' lRJ' F9' N9';(try simp only [AllLt,and_true] at lt9');(try k_sweep)))
 k_with "A28" => ((k_here;k_dflt (show wpAny _ _ (call (Value.builtin "set.add") [Value.ref _,Value.str _ _]) _ _ _);k_dflt (refine' kse_add (knd:=PySem.strKind _ _) ?z28F ?z28N ?z28U ?z28d ?z28z (strKind_is _ _ _ _) rfl ?_;(case z28F | z28N=>k_asm);(case z28U=>k_updF);(case z28d=>k_asm);(case z28z=>kse_small));intro h' o' F' N' hs';(try dsimp only at N')))
 k_with "A29" => ((k_dflt (refine' GenTurn.intro ?z29F ?z29N ?z29l ?z29i0 ?z29i1 ?z29i2 ?_;(case z29F | z29N=>k_asm);(case z29l=>((try simp only [AllLt,and_true]);(repeat' (first | assumption | refine And.intro ?_ ?_ | omega))));(case z29i0 | z29i1 | z29i2=>k_mem));intro s10' os10' gb10' F10' N10';(try replace os10':=os10'.trans (by assumption));(try k_sweep)))
 k_with "A30" => ((k_here;with_reducible refine ci_t ?_))
 k_with "A31" => ((k_here;with_reducible refine cs_t ?_))
 k_with "A32" => ((k_here;with_reducible refine ai_t ?_))
 k_with "A33" => ((k_here;with_reducible refine si_t ?_))
 k_with "A34" => ((k_here;with_reducible refine ni_t ?_))
 k_with "A35" => ((k_here;k_dflt (first | (refine' method_inst ?z35k1 ?z35k2 ?z35k3 ?z35k4 ?z35k5 ?z35k6 ?z35k7 ?_;(case z35k1 | z35k2=>k_asm);(case z35k3=>k_inst);(case z35k4 | z35k5 | z35k6=>k_is);(case z35k7=>k_get);k_whole) | (refine' kmu_own ?z35k1 ?z35k2 ?z35k3 ?z35k4 ?z35k5 ?_;(case z35k1 | z35k2=>k_asm);(case z35k3=>k_inst);(case z35k4 | z35k5=>k_is);k_whole))))
 k_with "A36" => ((k_here;(rename SB _ _=>s9);k_dflt (refine' storeB ?z36F ?z36N s9 ?_ ?z36a ?z36b;(case z36F | z36N=>k_asm);(case z36a | z36b=>rfl);k_whole);intro s' F' N' S';clear s9;(try k_sweep)))
 k_with "A37" => (exact upd_ap (by assumption) (by exact rfl) (by repeat (first | exact UpdS.head | apply UpdS.tail)) (by exact rfl))
 k_with "A38" => (exact updF_ap (by assumption) (by exact rfl) (by repeat (first | exact UpdFS.head | apply UpdFS.tail)) (by exact rfl))
 k_with "A39" => ((rename Ap _ _=>ap9);(rename ∀ p∈(_:List (Addr×Obj)),p.1 < _=>l9);k_dflt (replace l9:=ap_cons ap9 l9 rfl);clear ap9)
 k_with "A40" => ((k_here;(rename SB _ _=>s9);k_dflt (refine' set_B ?z40F ?z40k2 ?z40N s9 ?z40k4 ?z40k5 ?z40k6 ?z40k7 ?z40k8 ?z40k9 ?z40k10 ?z40k11 ?z40H ?z40e ?z40U ?z40hn ?z40k13 ?_;(case z40F | z40N=>k_asm);(case z40H=>assumption);(case z40k2=>k_asm);(case z40k4=>k_inst);(case z40k5=>exact rfl);(case z40k6 | z40k7=>k_is);(case z40k8 | z40k9=>k_is);(case z40k10=>k_get);(case z40k11=>exact idc_seen);(case z40e=>exact rfl);(case z40U=>repeat (first | exact UpdS.head | apply UpdS.tail));(case z40hn=>exact rfl);(case z40k13=>exact Nat.le_of_ble_eq_true rfl);k_whole);intro s' F' N' S';clear s9;(try k_sweep)))
 k_with "A41" => ((k_here;(with_reducible show wpAny _ _ (call (Value.ref _) [_]) _ _ _);(rename SB _ _=>s9);k_dflt (refine' kapp_B ?z41F ?z41N s9 ?z41hx ?z41H ?z41e ?z41U ?z41hn ?z41z ?_;(case z41F | z41N=>k_asm);(case z41H=>assumption);(case z41e=>exact rfl);(case z41hx=>k_mem);(case z41U=>repeat (first | exact UpdS.head | apply UpdS.tail));(case z41hn=>exact rfl);(case z41z=>first | exact szL rfl | exact sz_line (by assumption) (by decide) | (rw [sizeLine_eq];(try rw [Array.size_push]);omega));k_whole);intro s' F' N' S';clear s9;(try k_sweep)))
 k_with "A42" => ((k_here;k_dflt (show wpAny _ _ (call (Value.builtin "list.append") [Value.ref _,_]) _ _ _);(rename SB _ _=>s9);k_dflt (refine' append_B ?z42F ?z42N s9 ?z42H ?z42e ?z42U ?z42hn ?z42z ?_;(case z42F | z42N=>k_asm);(case z42H=>assumption);(case z42e=>exact rfl);(case z42U=>repeat (first | exact UpdS.head | apply UpdS.tail));(case z42hn=>exact rfl);(case z42z=>first | exact szL rfl | size_fits);k_whole);intro s' F' N' S';clear s9;(try k_sweep)))
 k_with "A43" => ((k_here;(with_reducible show wpAny _ _ (call (Value.ref 177) _) _ _ _);(rename SB _ _=>s9);(rename Ap _ _=>ap9);k_dflt (refine wpAny_call ?_);k_dflt (refine' enterC s9 ap9 ?z43e ?z43k1 ?z43k2 ?z43k3 ?z43k4 ?z43k5 ?z43kA ?z43kF ?z43kK ?z43k6 ?z43k7 ?z43k8 ?z43k9 ?z43kB ?z43d1 ?z43d2 ?z43d4 ?z43d3 ?_ ?z43c2 ?z43c3 ?z43c4;(case z43kA | z43kF=>exact rfl);(case z43kK=>first | assumption | exact rfl);(case z43k1 | z43k2=>k_asm);(case z43k3 | z43k4 | z43k5=>k_asm);(case z43e=>exact rfl);(case z43k6 | z43k7=>k_is);(case z43k8=>ktr_room);(case z43k9=>k_dflt (exact binds_K (by k_in) rfl (by k_is) rfl rfl rfl));(case z43kB=>exact rfl);(case z43d1 | z43d2 | z43d4=>exact fun _=>rfl);(case z43d3=>k_dflt (exact fun _=>rfl));(case z43c2 | z43c3 | z43c4=>exact rfl);k_whole);intro g' L' s' oy' ox' hoy' hox' FG' F' N' B' X' T' S' ap9';clear s9 ap9;(try dsimp only);(try k_lift B');(try k_fold)))
 k_with "A44" => ((k_here;(with_reducible show wpAny _ _ (truthy (Value.ref _)) _ _ _);k_dflt (first | (refine' truthyL (b:=true) ?z44N ?z44hm ?z44hz ?z44hb ?_;(case z44N=>k_asm);(case z44hm=>k_mem);(case z44hz | z44hb=>exact rfl)) | (refine' truthyL (b:=false) ?z44N ?z44hm ?z44hz ?z44hb ?_;(case z44N=>k_asm);(case z44hm=>k_mem);(case z44hz | z44hb=>exact rfl)))))
 k_with "A45" => ((k_here;k_dflt (refine wpAny_If ?_)))
 k_with "A46" => ((k_here;k_dflt (refine' set_disp (news:=_) ?z46le ?z46hh ?z46hk ?z46k1 ?z46k2 ?z46n1 ?z46n2 ?z46F ?z46N ?z46X ?z46c ?z46m1 ?z46m2 ?z46hm ?z46ds ?z46hd ?z46hn ?z46hx ?_;(case z46N=>k_asm);(case z46le=>exact rfl);(case z46F | z46X=>k_asm);(case z46hh | z46hk=>exact rfl);(case z46k1 | z46k2=>exact rfl);(case z46n1 | z46n2=>decide);(case z46c=>first | k_is | kernel_rfl!);(case z46m1 | z46m2=>exact rfl);(case z46hm=>k_mem);(case z46ds | z46hd=>assumption);(case z46hn=>exact Nat.le_of_ble_eq_true rfl);(case z46hx=>first | exact List.forall_mem_cons.mpr ⟨by (dsimp only;decide),List.forall_mem_nil _⟩ | exact List.forall_mem_cons.mpr ⟨by (dsimp only;decide),List.forall_mem_cons.mpr ⟨by (dsimp only;decide),List.forall_mem_nil _⟩⟩);k_whole);intro D' so' kl' h' tk' F' N' l1' ek' hS';(rename Ap _ _=>ap9);k_dflt (replace l1':=ap_consA ap9 l1' rfl);clear ap9;(try k_sweep)))
 k_with "A47" => ((k_here;k_dflt (refine' loop_go ?z47F ?z47N ?z47iB ?_;(case z47F | z47N=>k_asm);(case z47iB=>k_mem);k_whole);intro I' oI' h' hi' F' N' l1;(try k_lt l1)))
 k_with "A48" => (first
  | (k_dflt (refine' loop_item2 ?z48le ?z48hh ?z48F ?z48N ?z48U ?z48hi ?z48iB ?z48hx ?z48iT ?z48hk ?z48ku ?z48kq ?_;(case z48hi=>assumption);(case z48hh=>exact rfl);(case z48F | z48N=>k_asm);(case z48le=>exact rfl);(case z48U=>k_updF);(case z48iB=>k_mem);(case z48hx=>exact rfl);(case z48iT=>intro _;k_mem);(case z48hk | z48ku | z48kq=>exact rfl));intro h' tk' oI' hi' F' N';(try dsimp only at N'))
  | ((rename Ap _ _=>ap9);k_dflt (refine' loop_endA ap9 ?z48e ?z48U ?z48hn ?z48hh ?z48F ?z48N ?z48hi ?z48iB ?z48hx ?_;(case z48hi=>assumption);(case z48hh=>exact rfl);(case z48F | z48N=>k_asm);(case z48e=>exact rfl);(case z48U=>repeat (first | exact DelFS.head | apply DelFS.tail));(case z48hn=>exact rfl);(case z48iB=>k_mem);(case z48hx=>exact rfl));intro h' F' N' ap9';clear ap9;(try dsimp only)))
 k_with "A49" => (((with_reducible show (Flow.next=Flow.next/\LoopAt _ _ _ _ _ _ _ _ _));refine ⟨rfl,?_⟩))
 k_with "A50" => ((k_here;(with_reducible show wpAny _ _ (call (Value.builtin "sorted") [Value.ref _]) _ _ _);k_dflt (refine' items_sorted1 ?z50hh ?z50F ?z50N ?z50hv ?z50hm ?z50hod ?_;(case z50hh=>exact rfl);(case z50F | z50N=>k_asm);(case z50hv | z50hm=>k_mem);(case z50hod=>assumption));intro T' t' B' c' h' tk' l1 l2 F' N';(rename Ap _ _=>ap9);k_dflt (replace l1:=ap_two ap9 l1 rfl l2);clear ap9;(try dsimp only)))
 k_with "A51" => ((k_here;k_dflt (refine' attr_list1 (f:=219) ?z51le ?z51hg ?z51hh ?z51F ?z51N ?z51X ?z51T ?z51eK ?z51kp ?z51hka ?z51ka ?z51na ?z51ma ?z51iB ?z51iT1 ?z51hcl ?z51hkd ?z51hnm ?z51hcell ?z51ckn ?z51cvn ?z51cfn ?z51hck ?z51hkv ?z51nk ?z51nv ?z51nf ?z51hz1 ?z51hy1 ?z51hesc1 ?_;(case z51le | z51hg | z51hh=>exact rfl);(case z51F | z51N=>k_asm);(case z51X | z51T=>k_asm);(case z51eK | z51kp=>k_is);(case z51hka | z51ka=>exact rfl);(case z51na=>decide);(case z51ma=>exact rfl);(case z51iB=>k_mem);(case z51hcl | z51hkd=>exact rfl);(case z51hnm | z51hcell=>decide);(case z51ckn=>intro _;rfl);(case z51cvn=>intro _;rfl);(case z51cfn=>intro _;rfl);(case z51hck=>intro _;rfl);(case z51hkv | z51nk=>decide);(case z51nv | z51nf=>decide);(case z51iT1=>k_mem);(case z51hesc1=>refine' esc_call ?z51B ?z51X ?z51T ?z51hk ?z51hd ?z51hu ?z51hv;(case z51B | z51X | z51T=>k_asm);(case z51hk=>exact rfl);(case z51hd=>ktr_room);(case z51hu=>ktr_units);(case z51hv=>omega));(case z51hy1=>exact escA_len (by assumption) (by decide));(case z51hz1=>decide);skip);intro X' u1' c' h' tk' F' N' l1;(rename Ap _ _=>ap9);k_dflt (replace l1:=ap_consA ap9 l1 rfl);clear ap9;(try dsimp only);(try k_sweep)))
 k_with "A52" => ((k_here;k_dflt (refine' join1 ?z52N ?z52hm ?z52hw ?_;(case z52N=>k_asm);(case z52hm=>k_mem);(case z52hw=>exact attrS_le (by decide) (escA_len (by assumption) (by decide))));intro t7' k7'))
 k_with "A53" => ((k_here;(with_reducible show wpAny _ _ (truthy (Value.ref _)) _ _ _);k_dflt (refine' truthy_d ?z53N ?z53hp ?z53hd ?z53lo ?z53hl ?_;(case z53N=>k_asm);(case z53hp=>k_mem);(case z53hd | z53lo=>assumption);(case z53hl=>exact Nat.le_of_ble_eq_true rfl));(try simp only [List.isEmpty_cons,List.isEmpty_nil,Bool.not_false,Bool.not_true])))
 k_with "A54" => ((k_here;(with_reducible show wpAny _ _ (exec (Stmt.Assign [_] (Expr.DictComp _ _ _ _ _) _) _) _ _ _);refine hold_of ?_))
 k_with "A55" => ((k_here;(with_reducible show wpAny _ _ (subscriptTail _ _ (Value.ref _) (Value.int (-1) _)) _ _ _);(with_unfolding_all refine' kde_neg ?z55k1 ?z55k2 ?z55k3 ?z55k4 ?z55k5 ?_ ?z55k6;(case z55k2 | z55k3=>decide);(case z55k1=>exact News.isList (by k_asm) (by k_mem));(case z55k4 | z55k5=>exact rfl);(case z55k6=>with_unfolding_all rfl);k_whole)))
 k_with "A56" => ((k_here;k_dflt (refine eq_no3 (by assumption) ?_)))
 k_with "A57" => ((k_here;(with_reducible show wpAny _ _ (call (Value.builtin "sorted") [Value.ref _]) _ _ _);k_dflt (refine' items_sorted2 ?z57hh ?z57ne ?z57lt ?z57F ?z57N ?z57hv ?z57hm ?z57hod ?_;(case z57hh=>exact rfl);(case z57F | z57N=>k_asm);(case z57hv | z57hm=>k_mem);(case z57hod=>assumption);(case z57ne=>decide);(case z57lt=>decide +kernel));intro T1' T2' t1' t2' B' c' h' tk' l1 l2 l3 F' N';(rename Ap _ _=>ap9);k_dflt (replace l1:=ap_three ap9 l1 rfl l2 l3);clear ap9;(try dsimp only)))
 k_with "A58" => ((k_here;k_dflt (refine' attr_list2 (f:=219) ?z58le ?z58hg ?z58hh ?z58F ?z58N ?z58X ?z58T ?z58eK ?z58kp ?z58hka ?z58ka ?z58na ?z58ma ?z58iB ?z58iT1 ?z58iT2 ?z58hcl ?z58hkd ?z58hnm ?z58hcell ?z58ckn ?z58cvn ?z58cfn ?z58hck ?z58hkv ?z58nk ?z58nv ?z58nf ?z58hz1 ?z58hy1 ?z58hesc1 ?z58hz2 ?z58hy2 ?z58hesc2 ?_;(case z58le | z58hg | z58hh=>exact rfl);(case z58F | z58N=>k_asm);(case z58X | z58T=>k_asm);(case z58eK | z58kp=>k_is);(case z58hka | z58ka=>exact rfl);(case z58na=>decide);(case z58ma=>exact rfl);(case z58iB=>k_mem);(case z58hcl | z58hkd=>exact rfl);(case z58hnm | z58hcell=>decide);(case z58ckn=>intro _;rfl);(case z58cvn=>intro _;rfl);(case z58cfn=>intro _;rfl);(case z58hck=>intro _;rfl);(case z58hkv | z58nk=>decide);(case z58nv | z58nf=>decide);(case z58iT1 | z58iT2=>k_mem);(case z58hesc1=>refine' esc_call ?z58B ?z58X ?z58T ?z58hk ?z58hd ?z58hu ?z58hv;(case z58B | z58X | z58T=>k_asm);(case z58hk=>exact rfl);(case z58hd=>ktr_room);(case z58hu=>ktr_units);(case z58hv=>omega));(case z58hy1=>exact escA_len (by assumption) (by decide));(case z58hz1=>decide);(case z58hesc2=>refine' esc_call ?z58B ?z58X ?z58T ?z58hk ?z58hd ?z58hu ?z58hv;(case z58B | z58X | z58T=>k_asm);(case z58hk=>exact rfl);(case z58hd=>ktr_room);(case z58hu=>ktr_units);(case z58hv=>omega));(case z58hy2=>exact escA_len (by assumption) (by decide));(case z58hz2=>decide);skip);intro X' u1' u2' c' h' tk' F' N' l1;(rename Ap _ _=>ap9);k_dflt (replace l1:=ap_consA ap9 l1 rfl);clear ap9;(try dsimp only);(try k_sweep)))
 k_with "A59" => ((k_here;k_dflt (refine' join2 ?z59N ?z59hm ?z59hw ?z59hw2 ?_;(case z59N=>k_asm);(case z59hm=>k_mem);(case z59hw=>exact attrS_le (by decide) (escA_len (by assumption) (by decide)));(case z59hw2=>exact attrS_le (by decide) (escA_len (by assumption) (by decide))));intro t7' k7'))
 k_with "A60" => ((k_here;(with_reducible show wpAny _ _ (truthy (Value.ref _)) _ _ _);k_dflt (refine' truthy_d3 ?z60N ?z60hp ?z60hd ?z60lo ?z60hl ?_;(case z60N=>k_asm);(case z60hp=>k_mem);(case z60hd | z60lo=>assumption);(case z60hl=>exact Nat.le_of_ble_eq_true rfl));(try simp only [List.isEmpty_cons,List.isEmpty_nil,Bool.not_false,Bool.not_true])))
 k_with "A61" => ((k_here;(with_reducible show wpAny _ _ (exec (Stmt.Assign [_] (Expr.DictComp _ _ _ _ _) _) _) _ _ _);refine hold_of3 ?_))
 k_with "A62" => (((case kA | kF=>exact rfl);(case kK=>assumption);(case k1 | k2=>k_asm);(case k3 | k4 | k5=>k_asm);(case k6 | k7=>k_is);(case k8=>ktr_room);(case k9=>first | exact BindsTo.of_eq rfl | exact binds_K (by k_in) rfl (by k_is) rfl rfl rfl | (refine' kp_binds ?z62kx ?z62ke;(case z62kx=>k_in);(case z62ke=>exact fun _=>rfl)));(case c5=>decide);(case kB=>exact locs rfl);(case c2 | c3 | c4=>exact rfl);k_whole;intro g' L' s' FG' F' N' B' X' T' S9';(try dsimp only);(try k_lift B');(try k_fold)))
 k_with "A63" => ((k_here;k_dflt (refine eq_no4 (by assumption) ?_)))
 k_with "A64" => ((k_here;(rename Same _ _=>s9);k_dflt (refine' set_S ?z64k1 ?z64k2 ?z64k3 s9 ?z64k4 ?z64k5 ?z64k6 ?z64k7 ?z64k8 ?z64k9 ?z64k10 ?z64k11 ?z64k12 ?z64k13 ?_;(case z64k1 | z64k2 | z64k3=>k_asm);(case z64k4=>k_inst);(case z64k5=>exact rfl);(case z64k6 | z64k7=>k_is);(case z64k8 | z64k9=>k_is);(case z64k10=>k_get);(case z64k11=>(intro t9;k_put));(case z64k12=>(intro t9;k_upd));(case z64k13=>exact fun _=>Nat.le_of_ble_eq_true rfl);k_whole);intro t' s' F' N' S';clear s9;(try k_sweep)))
 k_with "A65" => (first | (with_reducible first | assumption | exact bw1 (by assumption) (by assumption) (by assumption) (by assumption) (by assumption) | exact ar2 (by assumption) rfl | exact ar1 (by assumption) rfl | exact ar3 (by assumption) | exact ib1 (by assumption) (by assumption) (by assumption) rfl | exact ib2 (by assumption) (by assumption) rfl | exact ib3 (by assumption) rfl | exact ib4 (by assumption) (by assumption) rfl | exact il0 (by assumption) | exact in1 (by assumption) | exact in2 (by assumption) | exact in3 (by assumption) | exact is1 (by assumption) | exact is2 (by assumption) | exact is3 (by assumption) | exact is4 (by assumption) | exact fm2 (by assumption) (by assumption) | exact fm1 (by assumption) (by assumption) | exact fm3 (by assumption) (by assumption) | exact fm4 (by assumption) (by assumption) | exact fm5 (by assumption) (by assumption) | exact bd1 (by assumption) (by assumption) (by assumption) (by assumption) (by assumption) (by assumption) | exact bd2 (by assumption) (by assumption) (by assumption) (by assumption) (by assumption) (by assumption) | exact bd3 (by assumption) (by assumption) (by assumption) (by assumption) (by assumption) (by assumption) (by assumption) (by assumption) | exact bd4 (by assumption) (by assumption) (by assumption) (by assumption) (by assumption) (by assumption) (by assumption) (by assumption)) | lia)
 k_with "A66" => ((k_here;(with_reducible show wpAny _ _ (getMethod (Value.ref _) (PySem.Str.ofString "pop") _) _ _ _);k_dflt (refine' kl_method ?z66N ?z66m PySem.F.slot_list_pop PySem.F.type_list_pop ?_;(case z66N=>k_asm);(case z66m=>k_mem))))
 k_with "A67" => ((k_here;(rename SB _ _=>s9);k_dflt (refine' set_B ?z67F ?z67k2 ?z67N s9 ?z67k4 ?z67k5 ?z67k6 ?z67k7 ?z67k8 ?z67k9 ?z67k10 ?z67k11 ?z67H ?z67e ?z67U ?z67hn ?z67k13 ?_;(case z67F | z67N=>k_asm);(case z67H=>assumption);(case z67k2=>k_asm);(case z67k4=>k_inst);(case z67k5=>exact rfl);(case z67k6 | z67k7=>k_is);(case z67k8 | z67k9=>k_is);(case z67k10=>k_get);(case z67k11=>exact idc_done);(case z67e=>exact rfl);(case z67U=>repeat (first | exact UpdS.head | apply UpdS.tail));(case z67hn=>exact rfl);(case z67k13=>exact Nat.le_of_ble_eq_true rfl);k_whole);intro s' F' N' S';clear s9;(try k_sweep)))
 k_with "A68" => ((k_here;(with_reducible show wpAny _ _ (call (Value.builtin _) [Value.ref _]) _ _ _);(rename SB _ _=>s9);k_dflt (refine' pop_B ?z68F ?z68N s9 ?z68hl ?z68H ?z68e ?z68U ?z68hn ?z68z ?_;(case z68F | z68N=>k_asm);(case z68H=>assumption);(case z68e=>exact rfl);(case z68U=>repeat (first | exact UpdS.head | apply UpdS.tail));(case z68hn=>exact rfl);(case z68hl=>rfl);(case z68z=>kl_room));intro s' F' N' S';clear s9;(try k_sweep)))
 k_with "A69" => ((k_here;(with_reducible show wpAny _ _ (call (Value.ref 141) _) _ _ _);(rename SB _ _=>s8);k_dflt (refine' nm_use (names:=[Str.ofString "n"]) (name_call (B:=?z69B) (X:=?z69X) (T:=?z69T) (hk:=?z69hk) (hd:=?z69dp) (hu:=?z69un) (i4:=?z69i4) (i5:=?z69i5) (i1:=?z69i1) (i2:=?z69i2) (i3:=?z69i3) (i0:=?z69i0) (hq:=?z69hq)) ?z69hn s8.2 ?z69F ?z69N ?_;(case z69N | z69F=>k_asm);(case z69B | z69X | z69T=>k_asm);(case z69hk=>exact rfl);(case z69dp=>ktr_room);(case z69un=>ktr_units);(case z69i4 | z69i5=>k_mem);(case z69i1 | z69i2=>k_mem);(case z69i3 | z69i0=>k_mem);(case z69hq=>decide);(case z69hn=>exact List.Mem.head _));intro R' t6' s9' os9' gb9' F' N' l1;(have S9':=SB.next s8 os9' gb9');clear s8 os9' gb9';(rename Ap _ _=>ap9);k_dflt (replace l1:=ap_consA ap9 l1 rfl);clear ap9;(try k_sweep)))
 k_with "A70" => ((k_here;(with_reducible show wpAny _ _ (call (Value.ref 212) _) _ _ _);k_dflt (refine' escc_ct _ _ _ _ _ _ _ _ _ _ _ _ _ _ _ _ _ _ _ _ ?z70B ?z70F ?z70X ?z70N ?z70T ?z70hk ?z70hd ?z70hu ?z70hv ?_;(case z70N | z70B=>k_asm);(case z70F | z70X | z70T=>k_asm);(case z70hk=>first | assumption | exact rfl);(case z70hd=>ktr_room);(case z70hu=>ktr_units);(case z70hv=>first | assumption | omega));intro t' h' tk' F' N'))
 k_with "A71" => ((k_here;(with_reducible show wpAny _ _ (truthy (Value.ref _)) _ _ _);k_dflt (refine' truthyI ?z71N ?z71hD ?z71hm ?_;(case z71hD=>assumption);(case z71N=>k_asm);(case z71hm=>k_mem))))
 k_with "A72" => ((k_here;(with_reducible show wpAny _ _ (call (Value.ref 149) _) _ _ _);k_dflt (refine' joinI ?z72X ?z72F ?z72N ?z72hD ?z72hm ?z72hv ?_;(case z72hD=>assumption);(case z72X | z72F | z72N=>k_asm);(case z72hm=>k_mem);(case z72hv=>assumption));intro _ _))
 k_with "A73" => ((k_here;(rename SB _ _=>s9);k_dflt (refine' kdelI ?z73F ?z73N s9 ?z73hD ?z73H ?z73e ?z73U ?z73hn ?_;(case z73hD=>assumption);(case z73F | z73N=>k_asm);(case z73H=>assumption);(case z73e=>exact rfl);(case z73U=>repeat (first | exact UpdFS.head | apply UpdFS.tail));(case z73hn=>exact rfl));intro s' F' N' S';clear s9;(try dsimp only at N');(try k_sweep)))
 k_with "A74" => ((k_here;k_dflt (first | refine eqi_t (by omega) ?_ | refine eqi_f (by omega) ?_ | refine eqi_s (fun hp'=>?_) (fun hp'=>?_))))
 k_with "A75" => ((k_here;k_dflt (refine eq_no6 (by assumption) ?_)))
 k_with "A76" => ((k_here;(with_reducible show wpAny _ _ (callWith _ (Value.ref 149) _ (backTo _ (starEach [_] _)) []) _ _ _);k_dflt (refine jn149_callWith ?_ rfl)))
 k_with "A77" => (((with_reducible show JnAt _/\_);k_dflt (refine' And.intro (jn_at ?z77X ?z77F) ?_;(case z77X | z77F=>k_asm))))
 k_with "A78" => ((refine' code_defC ?z78k1 ?z78k2 ?z78k3 ?z78k4 ?z78k5 ?z78kA ?z78kF ?z78kK ?z78k6 ?z78k7 ?z78k8 ?z78k9 ?z78kB ?z78kD ?_ ?z78c2 ?z78c3 ?z78c4;(case z78kA | z78kF=>exact rfl);(case z78kK=>assumption);(case z78k1 | z78k2=>k_asm);(case z78k3 | z78k4 | z78k5=>k_asm);(case z78k6 | z78k7=>k_is);(case z78k8=>ktr_room);(case z78k9=>first | exact BindsTo.of_eq rfl | exact binds_K (by k_in) rfl (by k_is) rfl rfl rfl);(case z78kB=>exact rfl);(case z78kD=>decide +kernel);(case z78c2 | z78c3 | z78c4=>exact rfl);k_whole;intro g' L' h' tk' cells' FG' F' N' Y' B' X' T' l1;(try k_lt l1);k_cells Y';(try simp only [List.cons_append,List.nil_append] at N');(try dsimp only);(try k_lift B');(try k_fold)))
 k_with "A79" => ((k_here;k_dflt (refine ListComp_T2 (by k_asm) (by with_unfolding_all rfl) (by decide) (by rfl) (by decide) (by rfl) ?_ (by intro _;rfl))))
 k_with "A80" => ((k_here;k_dflt (refine SrcT.intro (by rfl) (by k_asm) (by k_asm) (by (show PySem.Str.length _<=_);rw [sizeLine_eq];omega) ?_;intro g';refine comp_tab (by assumption) ?_ ?_);(focus (intro a' v' I' oI' C' oC' D' m' ys' h' tk' E' ha' hv' hC' hx' F' N' off' ne';obtain ⟨t9',e9'⟩:=hv';subst e9'));(rotate_left;intro ys' hys';rotate_left)))
 k_with "A81" => ((k_here;k_dflt (exact LCg.CompEnd.intro (by assumption) (by assumption) _ (fun p hp=>hp) (by assumption) trivial ⟨rfl,_,rfl⟩)))
 k_with "A82" => ((k_here;k_dflt (refine tab_method (by k_asm) (by repeat (first | assumption | refine List.Mem.tail _ ?_)) (by assumption) ?_)))
 k_with "A83" => ((k_here;k_dflt (refine tab_get (by k_asm) (by repeat (first | assumption | refine List.Mem.tail _ ?_)) (by assumption) ?_;intro t8')))
 k_with "A84" => ((k_here;k_dflt (refine join_map (News.isList (by k_asm) (by k_mem)) (by assumption) (by assumption) (by (show List.length (Array.toList _)<=_);rw [Array.length_toList];assumption) ?_;intro t7' k7')))
 k_with "A85" => ((k_here;(with_reducible show wpAny _ _ (call (Value.ref 224) _) _ _ _);k_dflt ((refine' spel_use ?z85k1 ?z85k2 ?z85k3 ?z85k4 ?z85k5 ?z85kK ?z85kd ?z85ku ?z85ko ?z85kT ?z85kl ?z85kv ?_);(case z85k1 | z85k2=>k_asm);(case z85k3 | z85k4 | z85k5=>k_asm);(case z85kK=>exact rfl);(case z85kd=>ktr_room);(case z85ku=>ktr_units);(case z85ko=>k_mem);(case z85kT=>first | exact isTab_of (tab:=tabV) (by assumption) (by assumption) (by assumption) | exact isTab_of (tab:=tabT) (by assumption) (by assumption) (by assumption));(case z85kl=>first | exact tabV_len | exact tabT_len);(case z85kv=>omega));intro r9' t9' h9' tk9' e9' b9' F9' N9';(replace b9':=Nat.le_trans b9' (Nat.mul_le_mul_left 6 (by with_reducible assumption)));(try dsimp only);(try k_fold)))
 k_with "A86" => ((k_here;k_dflt (refine' add_bd ?z86a ?z86b ?z86c ?_;(case z86a=>first | with_reducible assumption | exact Nat.le_refl _);(case z86b=>first | with_reducible assumption | exact Nat.le_refl _);(case z86c=>rfl));intro t' k' b'))
 k_with "A87" => ((k_here;k_dflt (refine' kdn_str ?z87q ?z87F ?z87N ?z87b ?z87a ?z87l ?z87e ?z87n ?_;(case z87q=>rfl);(case z87F | z87N=>k_asm);(case z87b=>exact Top.nolimit (by k_asm));(case z87a | z87l=>rfl);(case z87e=>exact List.cons_ne_nil _ _);(case z87n=>exact Nat.le_of_ble_eq_true rfl));intro d' h' o' F' N' l1 lo' hd';(try k_lt l1)))
 k_with "A88" => ((k_here;k_dflt (refine' kdn_made_str ?z88F ?z88N ?z88U ?z88d ?z88k ?z88n ?_;(case z88F | z88N=>k_asm);(case z88U=>k_updF);(case z88d=>k_asm);(case z88k=>rfl);(case z88n=>exact of_decide_eq_true (by first | rfl | kernel_rfl!));intro h' o' F' N' hd');(try dsimp only at N')))
 k_with "A89" => ((k_here;k_dflt (refine eq_no8 (by assumption) ?_)))
 k_with "A90" => ((k_here;(with_reducible show wpAny _ _ (formatField (Value.str _ _) Str.empty) _ _ _);k_dflt (refine' formatField_str ?_ ?z90hz;(case z90hz=>(rw [sizeLine_eq];omega)));intro t' k'))
 k_with "A91" => ((k_here;(rename OutIs _ _ _=>ho');k_dflt (refine' jn_out ?z91N ?z91hm ho' ?z91hk ?z91hl ?_;(case z91N=>k_asm);(case z91hm=>k_mem);(case z91hk=>exact of_decide_eq_true rfl);(case z91hl=>exact Nat.le_trans (told_len (by assumption) (by assumption) (by assumption)) (by decide)));intro t7' k7'))
 k_with "A92" => ((k_here;(with_reducible show wpAny _ _ (call (Value.ref 201) _ _) _ _ _);(rename SB _ _=>s8);k_dflt (refine' init_ct _ _ _ _ _ _ _ _ _ _ _ _ _ _ _ _ _ _ _ _ _ ?z92B ?z92F ?z92X ?z92T ?z92hk ?z92hd ?z92hu ?z92AP ?z92N ?_;(case z92B | z92F=>k_asm);(case z92X | z92T | z92N=>k_asm);(case z92hk=>first | assumption | exact rfl);(case z92hd=>ktr_room);(case z92hu=>ktr_units);(case z92AP=>assumption));(rename Ap _ _=>ap8);clear ap8;intro x' d' D' T1' c1' C' b1' b2' Nn' Pm' Ps' q' zt' u1' u2' s9' S9' F' N' ap9';k_dflt (have S8':=SB.of_same s8 S9');clear s8 S9';(try k_sweep)))
 k_with "A93" => ((k_here;(with_reducible show wpAny _ _ (call (Value.ref 171) _) _ _ _);(rename SB _ _=>s8);(rename Ap _ _=>ap8);k_dflt (refine' star1_ct _ _ _ _ _ _ _ _ _ _ _ _ _ _ _ _ _ _ _ _ _ _ _ _ _ _ _ _ _ _ _ _ _ _ _ _ _ _ _ _ _ _ _ _ _ _ _ ?z93B ?z93F ?z93X ?z93T ?z93hk ?z93hd ?z93hu s8.2 ?z93lo ?z93hval ?z93hod ?z93CD ?z93lt ap8 ?z93N ?_;(case z93B | z93F=>k_asm);(case z93X | z93T | z93N=>k_asm);(case z93hk=>first | assumption | exact rfl);(case z93hd=>ktr_room);(case z93hu=>ktr_units);(case z93lo | z93hod=>assumption);(case z93hval | z93CD | z93lt=>assumption));intro c2' b3' c9' oc9' vs9' t9' g1' g2' g3' s9' S9' F' N' hoc9' hvs9' ap9';k_dflt (have S8':=SB.trans s8 S9');clear s8 S9' ap8;(try k_sweep)))
 k_with "A94" => ((k_here;(with_reducible show wpAny _ _ (call (Value.ref 171) _) _ _ _);(rename SB _ _=>s8);(rename Ap _ _=>ap8);k_dflt (refine' star2_ct _ _ _ _ _ _ _ _ _ _ _ _ _ _ _ _ _ _ _ _ _ _ _ _ _ _ _ _ _ _ _ _ _ _ _ _ _ _ _ _ _ _ _ _ _ _ _ _ _ ?z94B ?z94F ?z94X ?z94T ?z94hk ?z94hd ?z94hu s8.2 ?z94lo ?z94hval ?z94hml ?z94hod ?z94CD ?z94lt ap8 ?z94N ?_;(case z94B | z94F=>k_asm);(case z94X | z94T | z94N=>k_asm);(case z94hk=>first | assumption | exact rfl);(case z94hd=>ktr_room);(case z94hu=>ktr_units);(case z94lo | z94hod=>assumption);(case z94hval | z94hml=>assumption);(case z94CD | z94lt=>assumption));intro c2' b3' c9' oc9' vs9' t9' g1' g2' g3' s9' S9' F' N' hoc9' hvs9' ap9';k_dflt (have S8':=SB.trans s8 S9');clear s8 S9' ap8;(try k_sweep)))
 k_with "A95" => ((k_here;(with_reducible show wpAny _ _ (call (Value.ref 184) _) _ _ _);(rename SB _ _=>s8);(rename Ap _ _=>ap8);k_dflt (refine' end_ct _ _ _ _ _ _ _ _ _ _ _ _ _ _ _ _ _ _ _ _ _ _ _ _ _ _ _ _ _ _ _ _ _ ((174,_)::(_,_)::_) _ _ _ _ _ _ _ _ _ _ _ _ _ _ _ _ ?z95B ?z95F ?z95X ?z95T ?z95hk ?z95hd ?z95hu ?z95hD s8.2 ?z95hv ?z95ho ?z95hn0 ?z95hsz (ap_last (as:=[_,_,_,_,_,_,_,_,_,_,_]) ap8) ?z95N ?_;(case z95B | z95F=>k_asm);(case z95X | z95T | z95N=>k_asm);(case z95hk=>first | assumption | exact rfl);(case z95hd=>ktr_room);(case z95hu=>ktr_units);(case z95hD=>first | exact DatI.one | exact DatI.two (Nat.le_trans (by assumption:_<=1000) (by decide)) (Nat.le_trans (by assumption:_<=2) (by decide)));(case z95hv=>first | exact app_le (by assumption) (by assumption) | omega);(case z95ho=>first | exact OutIs.one.push.push.push | exact OutIs.one.push.push);(case z95hn0 | z95hsz=>exact of_decide_eq_true rfl));intro s9' its9' e9' S9' F' N' ho9';k_dflt (have S8':=SB.trans s8 S9');clear s8 S9' ap8;(try k_sweep);k_dflt (first | rw [told_e0] at ho9' | rw [told_e1] at ho9' | rw [told_e2] at ho9' | ((rename @Eq Int (Int.ofNat (PySem.Str.length _)) 0=>hz9);replace ho9':=told_o4 hz9 ho9') | ((rename @Eq Int (Nat.cast (PySem.Str.length _)) 0=>hz9);replace ho9':=told_o4 hz9 ho9') | replace ho9':=told_o3 (by assumption) ho9')))
 k_with "A96" => ((k_here;refine P.ord_of_char ?_))
 k_with "A97" => ((k_here;(rename Same _ _=>s9);k_dflt (refine' storeU ?z97F ?z97N s9 ?_ ?z97a ?z97b;(case z97F | z97N=>k_asm);(case z97a | z97b=>rfl);k_whole);intro _ _ _ _;clear s9;(try k_sweep)))
 k_with "A98" => ((k_here;(with_reducible show wpAny _ _ (getAttr (Value.ref _) (Str.ofString "append") true) _ _ _);k_dflt (refine' kapp_get ?z98k1 ?z98k2 ?z98k3 ?_;(case z98k1 | z98k2=>k_asm);(case z98k3=>k_mem);k_whole);intro _ _ _ _ l1;(try k_lt l1);(try k_sweep)))
 k_with "A99" => ((k_here;(with_reducible show wpAny _ _ (call (Value.ref _) [_]) _ _ _);k_dflt (refine' kapp_call ?z99k1 ?z99k2 ?z99k4 ?z99k3 ?_ ?z99z;(case z99k1 | z99k2=>k_asm);(case z99k4=>k_mem);(case z99k3=>k_upd);(case z99z=>size_fits);k_whole);intro _ _ _;(try k_sweep)))
 k_with "A100" => ((k_here;(with_reducible show wpAny _ _ (call (Value.ref 245) _) _ _ _);k_dflt ((refine' unit_ct _ _ _ _ _ _ _ _ _ _ _ _ _ _ _ _ _ _ _ _ ?z100k1 ?z100k2 ?z100k3 ?z100k4 ?z100k5 ?z100kK ?z100kd ?z100ku ?z100kv ?_);(case z100k1 | z100k2=>k_asm);(case z100k3 | z100k4 | z100k5=>k_asm);(case z100kK=>exact rfl);(case z100kd=>ktr_room);(case z100ku=>ktr_units);(case z100kv=>assumption));intro _ _ _ _ _;(try dsimp only);(try k_fold)))
 k_with "A101" => ((k_here;(rename Fr _ _ _ _=>F');(rename News _ _ _ _=>N');k_dflt (apply or_join F' N')))
 k_with "A102" => ((k_here;(rename Fr _ _ _ _=>F');(rename News _ _ _ _=>N');k_dflt (apply ifx_join F' N')))
 k_with "A103" => (((show ∀ _,_->_);intro _ hJ';obtain ⟨h',tk',e',F'',N''⟩:=KJoinAt.at_ hJ';subst e';clear hJ'))
 k_with "A104" => (first | ((show ∀ _ _,_->_);intro _ s' hJ';obtain ⟨h',tk',e',F'',N''⟩:=KJoinAt.at_ hJ';subst e';clear hJ') | ((show ∀ _,_->_);intro s' hJ';obtain ⟨h',tk',e',F'',N''⟩:=KJoinAt.at_ hJ';subst e';clear hJ'))
 k_with "A105" => ((k_here;k_dflt (refine k_join (by k_asm) (by k_mem) (by assumption) (by omega) (by assumption) ?_);intro _ _))
 k_with "A106" => ((k_here;(rename (_ || _)=true=>ho9);(have hp9:=slice_pos2 ho9);k_dflt (refine item_str (by decide) (by omega) (by omega) ?_);intro _))
 k_with "A107" => ((k_here;k_dflt (refine' append_K ?z107k1 ?z107k2 ?z107k3 ?_ ?z107z;(case z107k1 | z107k2=>k_asm);(case z107k3=>first | (exact Upd.head (by assumption)) | (exact Upd.tail (by assumption) (.head (by assumption))) | (exact Upd.tail (by assumption) (.tail (by assumption) (.head (by assumption)))));(case z107z=>(simp only [Array.size_push,List.size_toArray,sizeLine_eq];omega));k_whole);intro _ _ _;(try k_sweep)))
 k_with "A108" => ((k_here;(rename Fr _ _ _ _=>lF');(with_unfolding_all refine' For_invVF lF' ?z108k1 ?z108k2 ?_;(case z108k1 | z108k2=>exact rfl);k_whole)))
 k_with "A109" => ((k_here;k_dflt (refine sumK (by rfl) (by k_asm) (by k_asm) (News.isList (by k_asm) (by k_mem)) (by assumption) ?_);intro _ _ _ _ _;(try dsimp only);(try k_fold)))
 k_with "A110" => ((k_here;k_dflt (refine k_split (by k_asm) (by k_asm) (by rfl) (by omega) ?_);intro _ _ _ _ _ _ _ _;(try dsimp only)))
 k_with "A111" => ((k_here;k_dflt (refine LCg.ListComp_U (F₀:=by k_asm) (by with_unfolding_all rfl) (by decide) (by rfl) (by decide) (by rfl) ?_)))
 k_with "A112" => ((k_here;k_dflt (refine Assign_ListComp_T2 (by k_asm) (by rfl) (by with_unfolding_all rfl) (by with_unfolding_all rfl) (by decide) (by rfl) (by decide) (by rfl) (by rfl) (by rfl) ?_ (by intro _;rfl))))
 k_with "A113" => ((k_closed;k_dflt (first | refine ite_pos (by decide) ?_ | refine ite_neg (by decide) ?_ | refine ite_pos (by simp only [decide_eq_true_eq];omega) ?_ | refine ite_neg (by simp only [decide_eq_true_eq];omega) ?_)))
 k_with "A114" => ((k_here;(with_reducible show wpAny _ _ (getAttr (Value.ref _) (Str.ofString "append") true) _ _ _);k_dflt (refine' kapp_get ?z114k1 ?z114k2 ?z114k3 ?_;(case z114k1 | z114k2=>k_asm);(case z114k3=>k_mem);k_whole);intro _ _ _ _ l1q;(try k_lt l1q);(try k_sweep)))
 k_with "A115" => ((k_here;k_dflt (with_reducible refine k_translate_get ?_)))
 k_with "A116" => ((k_here;k_dflt (refine k_translate70 (by k_asm) (by assumption) (by assumption) (by omega) (by assumption) ?_);intro _ _ _ _ _ _))
 k_with "A117" => ((k_here;k_dflt (refine k_splitlines (by k_asm) (by k_asm) (by omega) ?_);intro _ _ _ _ _ _ _ _;(try dsimp only)))
 k_with "A118" => ((k_here;k_dflt (refine' slice_strN_sn (hsz:=?z118hsz) (s:=⟨_,_,_,_,_⟩) ?z118a ?z118b ?_;(case z118a | z118b=>k_asm);(case z118hsz=>(rw [sizeLine_eq];omega)));intro _ _ _ _ _))
 k_with "A119" => ((k_here;k_dflt ((refine' quot_use ?z119k1 ?z119k2 ?z119k3 ?z119k4 ?z119k5 ?z119kK ?z119kd ?z119ku ?z119kx ?z119kb ?_);(case z119k1 | z119k2=>k_asm);(case z119k3 | z119k4 | z119k5=>k_asm);(case z119kK=>exact rfl);(case z119kd=>ktr_room);(case z119ku=>ktr_units);(case z119kx=>exact ⟨_,rfl⟩);(case z119kb=>assumption));intro _ _ _ _ _ _ _ _;(try dsimp only);(try k_fold)))
 k_with "A120" => ((k_here;k_dflt (refine wh_stop ?_)))
 k_with "A121" => ((k_here;k_dflt (refine' kapp_call ?z121k1 ?z121k2 ?z121k4 ?z121k3 ?_ ?z121z;(case z121k1 | z121k2=>k_asm);(case z121k4=>k_mem);(case z121k3=>exact Upd.tail (by assumption) (.tail (by assumption) (.head (by assumption))));(case z121z=>(simp only [Array.size_push,List.size_toArray,sizeLine_eq];omega)));intro _ _ _;(try dsimp only)))
 k_with "A122" => ((k_here;k_dflt (refine call_hex (by assumption) (by rfl) ?_)))
 k_with "A123" => ((k_here;k_dflt ((refine' unqu_use ?z123k1 ?z123k2 ?z123k3 ?z123k4 ?z123k5 ?z123kK ?z123kd ?z123ku ?z123q0 ?z123q1 ?z123q2 ?z123q3 ?z123q4 ?_);(case z123k1 | z123k2=>k_asm);(case z123k3 | z123k4 | z123k5=>k_asm);(case z123kK=>exact rfl);(case z123kd=>ktr_room);(case z123ku=>ktr_units);(case z123q0 | z123q1=>omega);(case z123q2 | z123q3 | z123q4=>assumption));intro _ _ _ _ _ _ _ _;(try dsimp only);(try k_fold)))
 k_with "A124" => ((k_dflt (refine call_made PySem.F.excCall_ValueError excClass_ValueError ?_ (by size_fits));intro h' e' mx'))
 k_with "A125" => ((k_here;k_dflt (refine' num_five ?z125F ?z125N ?z125m ?z125q ?z125l ?_ ?z125s ?z125t;(case z125F | z125N=>k_asm);(case z125m=>k_mem);(case z125q | z125l=>assumption);(case z125s=>with_unfolding_all rfl);(case z125t=>kmk_pure));intro D' b0' b1' b2' b3' b4' u0' u1' u2' u3' u4' h' y0' y1' y2' y3' y4' F' N' l1;(try k_lt l1)))
 k_with "A126" => ((k_here;k_dflt (refine' sign_item ?z126N ?z126m ?z126q ?z126a ?z126b ?_ ?z126s;(case z126N=>k_asm);(case z126m=>k_mem);(case z126q=>assumption);(case z126a=>exact fmod_lo _ (by decide));(case z126b=>exact fmod_hi _ (by decide));(case z126s=>with_unfolding_all rfl));intro v' t' lv' lo'))
 k_with "A127" => ((k_here;(refine ne_same (by with_reducible rfl) ?_)))
 k_with "A128" => (first | ((show ∀ _ _,_->_);intro t' s' hJ';obtain ⟨h',tk',e',F'',N''⟩:=KJoinAt.at_ hJ';subst e';clear hJ') | ((show ∀ _,_->_);intro s' hJ';obtain ⟨h',tk',e',F'',N''⟩:=KJoinAt.at_ hJ';subst e';clear hJ'))
 k_with "A129" => ((k_here;(with_reducible show wpAny _ _ (call (Value.ref 231) _) _ _ _);k_dflt (refine' doc_ct _ _ _ _ _ _ _ _ _ _ _ _ _ _ _ _ _ _ _ _ _ _ _ _ _ _ ?z129B ?z129F ?z129X ?z129N ?z129T ?z129hk ?z129hd ?z129hu ?z129p0 ?z129p3 ?z129pv ?z129pm ?z129pt ?_;(case z129B | z129F=>k_asm);(case z129X | z129N | z129T=>k_asm);(case z129hk=>exact rfl);(case z129hd=>ktr_room);(case z129hu=>ktr_units);(case z129p0=>exact fmod_lo _ (by decide));(case z129p3=>exact fmod_hi _ (by decide));(case z129pv=>assumption);(case z129pm=>omega);(case z129pt=>exact tx_len (by assumption) (by assumption)));intro t' h' tk' F' N'))
 k_with "A130" => ((k_here;(with_reducible show wpAny _ _ (call (Value.ref 238) _) _ _ _);(rename News _ _ _ _=>kN9);k_dflt (refine' told_ct _ _ _ _ _ _ _ _ _ _ _ _ _ _ _ _ _ _ _ _ _ _ _ _ _ _ _ ?z130B ?z130F ?z130X ?z130T ?z130hk ?z130hd ?z130hu ?z130p0 ?z130p3 ?z130pv ?z130pm ?z130pt ?z130CD ?z130hP ?z130lt ?z130G0 (fun q hq=>kN9 q (by repeat (first | exact hq | refine List.Mem.tail _ ?_))) ?_;(case z130B | z130F=>k_asm);(case z130X | z130T=>k_asm);(case z130hk=>exact rfl);(case z130hd=>ktr_room);(case z130hu=>ktr_units);(case z130p0=>exact fmod_lo _ (by decide));(case z130p3=>exact fmod_hi _ (by decide));(case z130pv=>assumption);(case z130pm=>omega);(case z130pt=>exact tx_len (by assumption) (by assumption));(case z130CD | z130hP=>assumption);(case z130lt | z130G0=>assumption));intro t' c9' oc9' vs9' t9' s9' S9' F' N' dd9' vv9';k_dflt (obtain ⟨os9',gb9'⟩:=S9')))
 k_with "A131" => ((k_here;(with_reducible show wpAny _ _ (call (Value.ref 81) _) _ _ _);k_dflt (refine' benc_u _ _ _ _ _ _ _ _ _ _ _ _ _ _ _ _ _ _ ?z131B ?z131F ?z131X ?z131N ?z131T ?z131hk ?z131hd ?z131hu _ _ _ _ _ _ ?z131hD ?z131hw ?z131hw2 ?z131he ?_;(case z131B | z131F=>k_asm);(case z131X | z131N | z131T=>k_asm);(case z131hk=>exact rfl);(case z131hd=>ktr_room);(case z131hu=>ktr_units);(case z131hD=>exact doc_of (by assumption) (by assumption) (low_app (by assumption) (by assumption)) (by assumption) (by assumption) (tx_len (by assumption) (by assumption)));(case z131hw=>first | omega | exact fmod_4 _);(case z131hw2=>(first | omega | exact fmod_100 _ | exact fmod_104 _));(case z131he=>exact eol_ok _));intro t' h' tk' F' N'))
 k_with "A132" => ((k_here;(with_reducible show wpAny _ _ (call (Value.ref 250) _) _ _ _);k_dflt (refine' mail_u _ _ _ _ _ _ _ _ _ _ _ _ _ _ _ _ _ _ ?z132B ?z132F ?z132X ?z132N ?z132T ?z132hk ?z132hd ?z132hu _ _ _ _ _ _ ?z132hD ?z132hw ?z132hw2 ?z132he ?_;(case z132B | z132F=>k_asm);(case z132X | z132N | z132T=>k_asm);(case z132hk=>exact rfl);(case z132hd=>ktr_room);(case z132hu=>ktr_units);(case z132hD=>exact doc_of (by assumption) (by assumption) (low_app (by assumption) (by assumption)) (by assumption) (by assumption) (tx_len (by assumption) (by assumption)));(case z132hw=>first | omega | exact fmod_4 _);(case z132hw2=>(first | omega | exact fmod_100 _ | exact fmod_104 _));(case z132he=>exact eol_ok _));intro t' h' tk' F' N'))
 k_with "A133" => ((k_here;(with_reducible show wpAny _ _ (call (Value.ref 89) _) _ _ _);k_dflt (refine' deco_u _ _ _ _ _ _ _ _ _ _ _ _ _ _ _ _ _ _ ?z133B ?z133F ?z133X ?z133N ?z133T ?z133hk ?z133hd ?z133hu _ _ _ _ ?z133hD ?z133hw ?z133hw2 ?z133he ?_;(case z133B | z133F=>k_asm);(case z133X | z133N | z133T=>k_asm);(case z133hk=>exact rfl);(case z133hd=>ktr_room);(case z133hu=>ktr_units);(case z133hD=>exact doc_of (by assumption) (by assumption) (low_app (by assumption) (by assumption)) (by assumption) (by assumption) (tx_len (by assumption) (by assumption)));(case z133hw=>first | omega | exact fmod_4 _);(case z133hw2=>(first | omega | exact fmod_100 _ | exact fmod_104 _));(case z133he=>exact eol_ok _));intro t' h' tk' F' N'))
 k_with "A134" => ((k_here;(with_reducible show wpAny _ _ (call (Value.ref 257) _) _ _ _);k_dflt (refine' refu_ct _ _ _ _ _ _ _ _ _ _ _ _ _ _ _ _ _ _ _ _ ?z134B ?z134F ?z134X ?z134N ?z134T ?z134hk ?z134hd ?z134hu ?z134hw ?z134hw2 ?z134hv ?_;(case z134B | z134F=>k_asm);(case z134X | z134N | z134T=>k_asm);(case z134hk=>exact rfl);(case z134hd=>ktr_room);(case z134hu=>ktr_units);(case z134hw=>omega);(case z134hw2=>exact fmod_lo _ (by decide));(case z134hv=>exact doc_len (doc_of (by assumption) (by assumption) (low_app (by assumption) (by assumption)) (by assumption) (by assumption) (tx_len (by assumption) (by assumption)))));intro h' tk' F' N'))
 k_with "A135" => ((k_here;refine hold_ofE ?_))
 k_with "A136" => ((dsimp only))
 k_with "A137" => ((k_here;k_dflt (refine' rg_go ?z137qF ?z137qN ?z137qR ?_;(case z137qF | z137qN=>k_asm);(case z137qR=>assumption));intro I' h' F' N' l1;(try k_lt l1)))
 k_with "N" => (exact zn fun _ _ _=>(by (repeat refine np inferInstance ?_);infer_instance))
 exact True.intro
end XREG
section XALL
open PySem.Challenge (pw_re0182_01 rw_re0182_01)
open PySem.W.Fast (tw10295753902157049106 tw14364793385576792824 tw11892475500146522536 te10295753902157049106 te14364793385576792824 te11892475500146522536 tw12563942051412417395 te12563942051412417395 te10110043849684766642 tw10110043849684766642)
local macro_rules | `(tactic| k_room)=>`(tactic| ktr_room)
local macro_rules | `(tactic| walk_at $s:str)=>`(tactic| wtm_at $(Lean.Syntax.mkStrLit (" " ++ s.getString)))
local macro_rules | `(tactic| wtm_at $s:str)=>do `(tactic| k_extra $(Lean.Syntax.mkStrLit (toString ((<- Lean.Macro.getCurrNamespace).components.getD 1 .anonymous)++s.getString)))
local macro_rules | `(tactic| cell_enter)=>`(tactic| wtm_at " cell_enter")
local macro_rules | `(tactic| k_steps)=>`(tactic| wtm_at " k_steps")
local macro_rules | `(tactic| k_upd)=>`(tactic| wtm_at " k_upd")
local macro_rules | `(tactic| k_updF)=>`(tactic| wtm_at " k_updF")
local macro_rules | `(tactic| omega)=>`(tactic| wtm_at " omega")
local macro_rules | `(tactic| k_lt $_)=>`(tactic| wtm_at " lt")
section XU0
open PySem PySem.W PyProof.Rows PySem.Calls
namespace Mine
noncomputable def upd (m:Str->Option Value)(x:Str)(v:Value):Str->Option Value:=fun y=>if y=x then some v else m y
theorem upd_ne {m:Str->Option Value}{x z:Str}{v:Value}(h:z≠x):upd m x v z=m z:=if_neg h
theorem upd_eq {m:Str->Option Value}{x:Str}{v:Value}:upd m x v x=some v:=if_pos (Eq.refl x)
noncomputable def hid (l:List Str)(u m:Str->Option Value):Str->Option Value:=fun z=>if l.contains z then u z else m z
noncomputable def updO (m:Str->Option Value)(x:Str)(u:Str->Option Value):Str->Option Value:=fun y=>if y=x then u y else m y
noncomputable def lk (l:List (Str×Value)):Str->Option Value:=fun y=>l.lookup y
noncomputable def Same (a b:Shared):Prop:=b.gens=a.gens/\b.drawn=a.drawn/\b.os=a.os
theorem Same.rfl {a:Shared}:Same a a:=⟨Eq.refl _,Eq.refl _,Eq.refl _⟩
theorem Same.trans {a b c:Shared}(h:Same a b)(h':Same b c):Same a c:=⟨h'.1.trans h.1,h'.2.1.trans h.2.1,h'.2.2.trans h.2.2⟩
theorem Same.eq {a b:Shared}(h:Same a b):b={ a with heap:=b.heap,toks:=b.toks }:=by
 obtain ⟨h1,h2,h3⟩:=h
 cases b;subst h1;subst h2;subst h3;exact Eq.refl _
theorem with_same {M:Model}{A:Around}{E:Value->Shared->Prop}{s:Shared} {α:Type}{t:Sem α}{Q:α->Shared->Prop}(h:Same s s->wpAny M A t Q E s):wpAny M A t Q E s:=h Same.rfl
theorem ret_same {s s':Shared}{R:Value->Shared->Prop}{v:Value}(S:Same s s')(h:R v { s with heap:=s'.heap,toks:=s'.toks }):R v s':=by
 obtain ⟨h1,h2,h3⟩:=S
 cases s';subst h1;subst h2;subst h3;exact h
theorem storeU {M:Model}{A:Around}{E:Value->Shared->Prop}{s s₀:Shared}{h₀:Heap}{L a:Addr}{m:Str->Option Value}{cn:Str}{cs:Scope}{ccd:Value}{cl:List (Str×Addr)}{x:Str}{v:Value}{Q:Unit->Shared->Prop}{news:List (Addr×Obj)}
  (F:Fr h₀ L s.heap m)(N:News h₀ L s.heap news)(S:Same s₀ s)(h:∀ s',Fr h₀ L s'.heap (upd m x v)->News h₀ L s'.heap news->Same s₀ s'->Q () s')
  (hk:cs.kind = .function)(hx:(envX cn cs L a ccd cl).kindOf x=some .local):wpAny M A (storeName (envX cn cs L a ccd cl) x v) Q E s:=
 storeX_L F N (fun _ F' N'=>h _ F' N' S) hk hx
theorem enterU {prog:Program}{w:World}{A A₀:Around}{s:Shared}{K:Frag}{L:Addr}{h₀ base:Heap}{m mg mb:Str->Option Value}{news:List (Addr×Obj)}{p:Program}{loose:List Str}{mean:ExcName->Option Value}{env:Env}{outer:List Env}{R:Result->Shared->Prop}{name qual:Str}{params:Arguments}{body:List Stmt}{scope:Scope}{dV kV doc pm cdv ct oc:Value}{an od:Option Addr}{osl:Array (Option Value)}{f:Addr}{args:Args}(binds:List (Str×Value))
  (B:Below A₀ base outer h₀)(F:Fr h₀ L s.heap m)(X₀:K.In h₀)(N:News h₀ L s.heap news)(T:Top p loose mean mg mb h₀)(hA:A.frames=some (env::outer))(hf:env.frame=some L)(hke:env.scope.kind = .function)
  (ho:K.lookup f=some ⟨oc,od,.func (fnOf name qual params body scope dV kV doc pm an cdv ct),osl⟩)(hcd:codeIn K cdv qual=true)(hroom:A.depth < recursionLimit)
  (hbind:BindsTo s (fnOf name qual params body scope dV kV doc pm an cdv ct) args binds)(hloc:∀ y∈binds,scope.names.lookup y.1=some .local)
  (h:∀ g L' s',Fr h₀ L g m->Fr g L' s'.heap (lk binds.reverse)->News g L' s'.heap news->Below A base (env::outer) g->K.In g->Top p loose mean mg mb g->Same s s' ->
   wpAny (model prog w) (A.deeper (envOf qual scope L' f cdv)) (execs body (envOf qual scope L' f cdv))
    (fun fl s'=>LeaveK h₀ L m g R (match fl with | .ret v=>v | _=>.none) s')
    (fun e s'=>wpAny (model prog w) (A.deeper (envOf qual scope L' f cdv)) (leaving (envOf qual scope L' f cdv) e) (fun _ s''=>R (.error e) s'') (fun e' s''=>R (.error e') s'') s') s')
  (hco:scope.isCoroutine=false)(hgen:scope.isGenerator=false)(hk:scope.kind = .function)
  (hcell:∀ x∈scope.names,x.2≠.cell):codeAny (model prog w) A (.call (.ref f) args) R s:=
 code_def B F X₀ N T hA hf hke ho hcd hroom hbind hloc (fun g L' _ FG F' N' B' X' T'=>h g L' _ FG F' N' B' X' T' Same.rfl) hco hgen hk hcell
end Mine
end XU0
section XU7
open PySem PySem.W PyProof.Rows PySem.Calls
namespace Mine
noncomputable def seqQ (M:Model)(A:Around)(env:Env)(rest:List Stmt)(Q:Flow->Shared->Prop)(E:Value->Shared->Prop):Flow->Shared->Prop:=fun f s'=>match f with
 | .next=>wpAny M A (execs rest env) Q E s'
 | f=>Q f s'
section
variable {M:Model}{A:Around}{env:Env}{rest:List Stmt}{Q:Flow->Shared->Prop}{E E':Value->Shared->Prop}{s:Shared}
theorem seq_next (h:wpAny M A (execs rest env) Q E s):seqQ M A env rest Q E .next s:=h
theorem seq_ret {v:Value}(h:Q (.ret v) s):seqQ M A env rest Q E (.ret v) s:=h
theorem seq_cont (h:Q .cont s):seqQ M A env rest Q E .cont s:=h
theorem seq_brk (h:Q .brk s):seqQ M A env rest Q E .brk s:=h
theorem nil_seq (h:wpAny M A (execs rest env) Q E s):wpAny M A (execs [] env) (seqQ M A env rest Q E) E' s:=wpAny_execs_nil h
theorem as_cons {x:Str}{p' pos:Pos}{e:Expr}(h:wpAny M A (eval e env) (fun v s₁=>wpAny M A (storeName env x v) (fun _ s₂=>wpAny M A (execs rest env) Q E s₂) E s₁) E s)(hs:swapsWith e (some (.Name x p')) pos.line env=pure false) :
  wpAny M A (execs (.Assign [.Name x p'] e pos::rest) env) Q E s:=wpAny_execs_cons (wpAny_Assign_Name h hs)
theorem if_cons0 {test:Expr}{body:List Stmt}{pos:Pos}(h:wpAny M A (isTrue test env (eval test env)) (fun b s₂=>if b then wpAny M A (execs body env) (seqQ M A env rest Q E) E s₂ else wpAny M A (execs rest env) Q E s₂) E s) :
  wpAny M A (execs (.If test body [] pos::rest) env) Q E s:=
 wpAny_execs_cons (wpAny_If (wpAny_mono h (fun b s₂ hb=>by cases b with
  | true=>exact hb
  | false=>exact wpAny_execs_nil hb) fun _ _ h=>h))
theorem if_cons {test:Expr}{body orelse:List Stmt}{pos:Pos}(h:wpAny M A (isTrue test env (eval test env)) (fun b s₂=>if b then wpAny M A (execs body env) (seqQ M A env rest Q E) E s₂ else wpAny M A (execs orelse env) (seqQ M A env rest Q E) E s₂) E s) :
  wpAny M A (execs (.If test body orelse pos::rest) env) Q E s:=
 wpAny_execs_cons (wpAny_If (wpAny_mono h (fun b s₂ hb=>by cases b with
  | true=>exact hb
  | false=>exact hb) fun _ _ h=>h))
end
theorem ex_cons {prog:Program}{w:World}{A:Around}{env:Env}{rest:List Stmt}{Q:Flow->Shared->Prop}{E:Value->Shared->Prop}{s:Shared}{e:Expr}{pos:Pos}(h:wpAny (model prog w) A (eval e env) (fun _ s₂=>wpAny (model prog w) A (execs rest env) Q E s₂) E s)
  (hi:interactive env=false)(hs:swapsWith e none pos.line env=pure false):wpAny (model prog w) A (execs (.Expr e pos::rest) env) Q E s:=wpAny_execs_cons (wpAny_Expr_any h hi hs)
@[reducible] noncomputable def tick (s:Shared):Shared:={ s with toks:=s.toks + 1 }
section
variable {M:Model}{prog:Program}{w:World}{A:Around}{env:Env}{E:Value->Shared->Prop}{s:Shared}{Q:Value->Shared->Prop}{a b:Int}{x:Str}{k t u:Tok}{pos:Pos}
theorem ci_t (h:Q (.int a s.toks) (tick s)):wpAny M A (eval (.Constant (.int a) k pos) env) Q E s:=wpAny_Constant_int h
theorem cs_t (h:Q (.str x s.toks) (tick s)):wpAny M A (eval (.Constant (.str x) k pos) env) Q E s:=Calls.Constant_str h
theorem ai_t (h:Q (.int (a + b) s.toks) (tick s)):wpAny (model prog w) A (binaryOp .Add (.int a t) (.int b u)) Q E s:=add_int h
theorem si_t (h:Q (.int (a - b) s.toks) (tick s)):wpAny (model prog w) A (binaryOp .Sub (.int a t) (.int b u)) Q E s:=sub_int h
theorem ni_t (h:Q (.int (-a) s.toks) (tick s)):wpAny (model prog w) A (unaryOp .USub (.int a t)) Q E s:=neg_int h
end
theorem nameZ {M:Model}{A:Around}{E:Value->Shared->Prop}{h₀:Heap}{L a:Addr}{cn:Str}{cs:Scope}{ccd:Value}{cl:List (Str×Addr)}(hk:cs.kind = .function){x:Str}(hx:(envX cn cs L a ccd cl).kindOf x=some .local)(hd:(x == Str.ofString "__debug__")=false){pos:Pos}{s:Shared}{m:Str->Option Value}{v:Value}{Q:Value->Shared->Prop}
  (F:Fr h₀ L s.heap m)(hv:m x=some v)(hq:Q v s):wpAny M A (eval (.Name x pos) (envX cn cs L a ccd cl)) Q E s:=nameX_L F hv hq hk hx hd
end Mine
end XU7
section XHA
open PySem PySem.W PyProof.Rows
noncomputable section NHA
namespace Mine.Hd
noncomputable def tBody:List Stmt:=pw_re0182_01.main.body
noncomputable def sAt (i:Nat):Stmt:=tBody.getD i (.Pass ⟨0,0,0,0⟩)
noncomputable def sArgs:Stmt->Arguments
 | .FunctionDef _ a ..=>a
 | _=>⟨[],[],none,[],[],none,[]⟩
noncomputable def sBody:Stmt->List Stmt
 | .FunctionDef _ _ b ..=>b
 | .ClassDef _ _ _ b ..=>b
 | _=>[]
noncomputable def sScope:Stmt->Scope
 | .FunctionDef _ _ _ _ _ _ sc ..=>sc
 | _=>⟨.module,[],false,false,[]⟩
noncomputable def mAt (i j:Nat):Stmt:=(sBody (sAt i)).getD j (.Pass ⟨0,0,0,0⟩)
noncomputable def hEnv:Env:={ scope:=pw_re0182_01.main.scope,locals:=mainNs,globals:=mainNs,cells:=[],code:=.ref 30,frame:=some 31 }
noncomputable def hB:List Stmt:=tBody.drop 1
noncomputable def hC:Code:=.body hB hEnv
noncomputable def hQ:Pos:=⟨0,0,0,0⟩
noncomputable def sts (i n:Nat):List Stmt:=(tBody.drop (i + 1)).take n
@[reducible] noncomputable def en (P:Params)(x:Str)(n:Tok)(v:Value):DictEntry:=⟨PyData.keyHash P x,.str x n,v⟩
noncomputable def o0 (P:Params):Obj:=⟨.type "dict",none,(.dict #[en P "__name__" 1 (.str "builtins" 160),en P "__doc__" 2 (.builtin "builtins.__doc__:str#opaque"),en P "__package__" 3 (.builtin "builtins.__package__:str#opaque"),en P "__loader__" 4 (.builtin "builtins.__loader__:shared#opaque"),en P "__spec__" 5 (.builtin "builtins.__spec__#opaque"),en P "__build_class__" 6 (.builtin "__build_class__"),en P "__import__" 7 (.builtin "__import__"),en P "abs" 8 (.builtin "abs"),en P "all" 9 (.builtin "all"),en P "any" 10 (.builtin "any"),en P "ascii" 11 (.builtin "ascii"),en P "bin" 12 (.builtin "bin"),en P "breakpoint" 13 (.builtin "breakpoint"),en P "callable" 14 (.builtin "callable"),en P "chr" 15 (.builtin "chr"),en P "compile" 16 (.builtin "compile"),en P "delattr" 17 (.builtin "delattr"),en P "dir" 18 (.builtin "dir"),en P "divmod" 19 (.builtin "divmod"),en P "eval" 20 (.builtin "eval"),en P "exec" 21 (.builtin "exec"),en P "format" 22 (.builtin "format"),en P "getattr" 23 (.builtin "getattr"),en P "globals" 24 (.builtin "globals"),en P "hasattr" 25 (.builtin "hasattr"),en P "hash" 26 (.builtin "hash"),en P "hex" 27 (.builtin "hex"),en P "id" 28 (.builtin "id"),en P "input" 29 (.builtin "input"),en P "isinstance" 30 (.builtin "isinstance"),en P "issubclass" 31 (.builtin "issubclass"),en P "iter" 32 (.builtin "iter"),en P "aiter" 33 (.builtin "aiter"),en P "len" 34 (.builtin "len"),en P "locals" 35 (.builtin "locals"),en P "max" 36 (.builtin "max"),en P "min" 37 (.builtin "min"),en P "next" 38 (.builtin "next"),en P "anext" 39 (.builtin "anext"),en P "oct" 40 (.builtin "oct"),en P "ord" 41 (.builtin "ord"),en P "pow" 42 (.builtin "pow"),en P "print" 43 (.builtin "print"),en P "repr" 44 (.builtin "repr"),en P "round" 45 (.builtin "round"),en P "setattr" 46 (.builtin "setattr"),en P "sorted" 47 (.builtin "sorted"),en P "sum" 48 (.builtin "sum"),en P "vars" 49 (.builtin "vars"),en P "None" 50 .none,en P "Ellipsis" 51 .ellipsis,en P "NotImplemented" 52 .notImplemented,en P "False" 53 (.bool false),en P "True" 54 (.bool true),en P "bool" 55 (.type "bool"),en P "memoryview" 56 (.type "memoryview"),en P "bytearray" 57 (.type "bytearray"),en P "bytes" 58 (.type "bytes"),en P "classmethod" 59 (.type "classmethod"),en P "complex" 60 (.type "complex"),en P "dict" 61 (.type "dict"),en P "enumerate" 62 (.type "enumerate"),en P "filter" 63 (.type "filter"),en P "float" 64 (.type "float"),en P "frozenset" 65 (.type "frozenset"),en P "property" 66 (.type "property"),en P "int" 67 (.type "int"),en P "list" 68 (.type "list"),en P "map" 69 (.type "map"),en P "object" 70 (.type "object"),en P "range" 71 (.type "range"),en P "reversed" 72 (.type "reversed"),en P "set" 73 (.type "set"),en P "slice" 74 (.type "slice"),en P "staticmethod" 75 (.type "staticmethod"),en P "str" 76 (.type "str"),en P "super" 77 (.type "super"),en P "tuple" 78 (.type "tuple"),en P "type" 79 (.type "type"),en P "zip" 80 (.type "zip"),en P "__debug__" 81 (.bool true),en P "BaseException" 82 (.type "BaseException"),en P "BaseExceptionGroup" 83 (.type "BaseExceptionGroup"),en P "Exception" 84 (.type "Exception"),en P "GeneratorExit" 85 (.type "GeneratorExit"),en P "KeyboardInterrupt" 86 (.type "KeyboardInterrupt"),en P "SystemExit" 87 (.type "SystemExit"),en P "ArithmeticError" 88 (.type "ArithmeticError"),en P "AssertionError" 89 (.type "AssertionError"),en P "AttributeError" 90 (.type "AttributeError"),en P "BufferError" 91 (.type "BufferError"),en P "EOFError" 92 (.type "EOFError"),en P "ImportError" 93 (.type "ImportError"),en P "LookupError" 94 (.type "LookupError"),en P "MemoryError" 95 (.type "MemoryError"),en P "NameError" 96 (.type "NameError"),en P "OSError" 97 (.type "OSError"),en P "ReferenceError" 98 (.type "ReferenceError"),en P "RuntimeError" 99 (.type "RuntimeError"),en P "StopAsyncIteration" 100 (.type "StopAsyncIteration"),en P "StopIteration" 101 (.type "StopIteration"),en P "SyntaxError" 102 (.type "SyntaxError"),en P "SystemError" 103 (.type "SystemError"),en P "TypeError" 104 (.type "TypeError"),en P "ValueError" 105 (.type "ValueError"),en P "Warning" 106 (.type "Warning"),en P "FloatingPointError" 107 (.type "FloatingPointError"),en P "OverflowError" 108 (.type "OverflowError"),en P "ZeroDivisionError" 109 (.type "ZeroDivisionError"),en P "BytesWarning" 110 (.type "BytesWarning"),en P "DeprecationWarning" 111 (.type "DeprecationWarning"),en P "EncodingWarning" 112 (.type "EncodingWarning"),en P "FutureWarning" 113 (.type "FutureWarning"),en P "ImportWarning" 114 (.type "ImportWarning"),en P "PendingDeprecationWarning" 115 (.type "PendingDeprecationWarning"),en P "ResourceWarning" 116 (.type "ResourceWarning"),en P "RuntimeWarning" 117 (.type "RuntimeWarning"),en P "SyntaxWarning" 118 (.type "SyntaxWarning"),en P "UnicodeWarning" 119 (.type "UnicodeWarning"),en P "UserWarning" 120 (.type "UserWarning"),en P "BlockingIOError" 121 (.type "BlockingIOError"),en P "ChildProcessError" 122 (.type "ChildProcessError"),en P "ConnectionError" 123 (.type "ConnectionError"),en P "FileExistsError" 124 (.type "FileExistsError"),en P "FileNotFoundError" 125 (.type "FileNotFoundError"),en P "InterruptedError" 126 (.type "InterruptedError"),en P "IsADirectoryError" 127 (.type "IsADirectoryError"),en P "NotADirectoryError" 128 (.type "NotADirectoryError"),en P "PermissionError" 129 (.type "PermissionError"),en P "ProcessLookupError" 130 (.type "ProcessLookupError"),en P "TimeoutError" 131 (.type "TimeoutError"),en P "IndentationError" 132 (.type "IndentationError"),en P "_IncompleteInputError" 133 (.type "_IncompleteInputError"),en P "IndexError" 134 (.type "IndexError"),en P "KeyError" 135 (.type "KeyError"),en P "ModuleNotFoundError" 136 (.type "ModuleNotFoundError"),en P "NotImplementedError" 137 (.type "NotImplementedError"),en P "PythonFinalizationError" 138 (.type "PythonFinalizationError"),en P "RecursionError" 139 (.type "RecursionError"),en P "UnboundLocalError" 140 (.type "UnboundLocalError"),en P "UnicodeError" 141 (.type "UnicodeError"),en P "BrokenPipeError" 142 (.type "BrokenPipeError"),en P "ConnectionAbortedError" 143 (.type "ConnectionAbortedError"),en P "ConnectionRefusedError" 144 (.type "ConnectionRefusedError"),en P "ConnectionResetError" 145 (.type "ConnectionResetError"),en P "TabError" 146 (.type "TabError"),en P "UnicodeDecodeError" 147 (.type "UnicodeDecodeError"),en P "UnicodeEncodeError" 148 (.type "UnicodeEncodeError"),en P "UnicodeTranslateError" 149 (.type "UnicodeTranslateError"),en P "ExceptionGroup" 150 (.type "ExceptionGroup"),en P "EnvironmentError" 151 (.type "OSError"),en P "IOError" 152 (.type "OSError"),en P "open" 153 (.builtin "open"),en P "quit" 154 (.builtin "builtins.quit#opaque"),en P "exit" 155 (.builtin "builtins.exit#opaque"),en P "copyright" 156 (.builtin "builtins.copyright#opaque"),en P "credits" 157 (.builtin "builtins.credits#opaque"),en P "license" 158 (.builtin "builtins.license#opaque"),en P "help" 159 (.builtin "builtins.help#opaque")] 159),#[]⟩
noncomputable def o1 (P:Params):Obj:=⟨.type "dict",none,(.dict #[en P "builtins" 162 (.ref 4),en P "__main__" 163 (.ref 5),en P "_sre" 244 (.ref 12)] 3),#[]⟩
noncomputable def o2 (P:Params):Obj:=⟨.none,none,(.dict #[en P "im\x70ort.loaded._sre" 183 (.bool true),en P "class._frozen_importlib.BuiltinImporter" 185 (.ref 14),en P "watched.im\x70ort" 206 (.ref 18),en P "class._frozen_importlib.ModuleSpec" 216 (.ref 22),en P "sys.modules.booked-epoch" 245 (.int 3 0),en P "im\x70ort.later-laid._sre" 270 (.bool true),en P "watched.library" 272 (.ref 27),en P "watched.library-objects" 0 (.str ⟨#[12]⟩ 0),en P "watched.library-deep._sre" 273 (.str ⟨#[4,0,0,11,4,0,0,11,4,0,0,3,4,0,0,11,8,4,100,105,99,116,2]⟩ 0)] 9),#[]⟩
noncomputable def o3 (P:Params):Obj:=⟨.type "dict",none,(.dict #[en P "__name__" 165 (.str "__main__" 164),en P "__doc__" 166 .none,en P "__package__" 167 .none,en P "__loader__" 168 (.builtin "__main__.__loader__#opaque"),en P "__spec__" 169 .none,en P "__annotations__" 170 (.ref 6),en P "__builtins__" 171 (.ref 4),en P "__file__" 173 (.str "/claim/cut.py" 172),en P "__cached__" 174 .none,en P "_sre" 275 (.ref 12)] 10),#[]⟩
noncomputable def o3_3 (P:Params):Obj:=⟨.type "dict",none,(.dict #[en P "__name__" 165 (.str "__main__" 164),en P "__doc__" 166 .none,en P "__package__" 167 .none,en P "__loader__" 168 (.builtin "__main__.__loader__#opaque"),en P "__spec__" 169 .none,en P "__annotations__" 170 (.ref 6),en P "__builtins__" 171 (.ref 4),en P "__file__" 173 (.str "/claim/cut.py" 172),en P "__cached__" 174 .none,en P "_sre" 275 (.ref 12),en P "_wall" 288 (.ref 38),en P "CRLF" 290 (.str "\x0d\n" 289),en P "NL" 292 (.str "\n" 291)] 13),#[]⟩
noncomputable def o3_4 (P:Params):Obj:=⟨.type "dict",none,(.dict #[en P "__name__" 165 (.str "__main__" 164),en P "__doc__" 166 .none,en P "__package__" 167 .none,en P "__loader__" 168 (.builtin "__main__.__loader__#opaque"),en P "__spec__" 169 .none,en P "__annotations__" 170 (.ref 6),en P "__builtins__" 171 (.ref 4),en P "__file__" 173 (.str "/claim/cut.py" 172),en P "__cached__" 174 .none,en P "_sre" 275 (.ref 12),en P "_wall" 288 (.ref 38),en P "CRLF" 290 (.str "\x0d\n" 289),en P "NL" 292 (.str "\n" 291),en P "_QUOPRI_MAP" 1320 (.ref 41)] 14),#[]⟩
noncomputable def o3_12 (P:Params):Obj:=⟨.type "dict",none,(.dict #[en P "__name__" 165 (.str "cpy313.email.quoprimime" 1336),en P "__doc__" 166 .none,en P "__package__" 167 .none,en P "__loader__" 168 (.builtin "__main__.__loader__#opaque"),en P "__spec__" 169 .none,en P "__annotations__" 170 (.ref 6),en P "__builtins__" 171 (.ref 4),en P "__file__" 173 (.str "/claim/cut.py" 172),en P "__cached__" 174 .none,en P "_sre" 275 (.ref 12),en P "_wall" 288 (.ref 38),en P "CRLF" 290 (.str "\x0d\n" 289),en P "NL" 292 (.str "\n" 291),en P "_QUOPRI_MAP" 1320 (.ref 41),en P "_QUOPRI_HEADER_MAP" 1321 (.ref 46),en P "_QUOPRI_BODY_MAP" 1322 (.ref 48),en P "ascii_lowercase" 1324 (.str "abcdefghijklmnopqrstuvwxyz" 1323),en P "ascii_uppercase" 1326 (.str "ABCDEFGHIJKLMNOPQRSTUVWXYZ" 1325),en P "ascii_letters" 1328 (.str "abcdefghijklmnopqrstuvwxyzABCDEFGHIJKLMNOPQRSTUVWXYZ" 1327),en P "digits" 1330 (.str "0123456789" 1329),en P "hexdigits" 1335 (.str "0123456789abcdefABCDEF" 1334)] 21),#[]⟩
noncomputable def o3_13 (P:Params):Obj:=⟨.type "dict",none,(.dict #[en P "__name__" 165 (.str "cpy313.email.quoprimime" 1336),en P "__doc__" 166 .none,en P "__package__" 167 .none,en P "__loader__" 168 (.builtin "__main__.__loader__#opaque"),en P "__spec__" 169 .none,en P "__annotations__" 170 (.ref 6),en P "__builtins__" 171 (.ref 4),en P "__file__" 173 (.str "/claim/cut.py" 172),en P "__cached__" 174 .none,en P "_sre" 275 (.ref 12),en P "_wall" 288 (.ref 38),en P "CRLF" 290 (.str "\x0d\n" 289),en P "NL" 292 (.str "\n" 291),en P "_QUOPRI_MAP" 1320 (.ref 41),en P "_QUOPRI_HEADER_MAP" 1321 (.ref 46),en P "_QUOPRI_BODY_MAP" 1322 (.ref 48),en P "ascii_lowercase" 1324 (.str "abcdefghijklmnopqrstuvwxyz" 1323),en P "ascii_uppercase" 1326 (.str "ABCDEFGHIJKLMNOPQRSTUVWXYZ" 1325),en P "ascii_letters" 1328 (.str "abcdefghijklmnopqrstuvwxyzABCDEFGHIJKLMNOPQRSTUVWXYZ" 1327),en P "digits" 1330 (.str "0123456789" 1329),en P "hexdigits" 1335 (.str "0123456789abcdefABCDEF" 1334),en P "c" 1346 (.int 57 1543)] 22),#[]⟩
noncomputable def o3_14 (P:Params):Obj:=⟨.type "dict",none,(.dict #[en P "__name__" 165 (.str "cpy313.email.quoprimime" 1336),en P "__doc__" 166 .none,en P "__package__" 167 .none,en P "__loader__" 168 (.builtin "__main__.__loader__#opaque"),en P "__spec__" 169 .none,en P "__annotations__" 170 (.ref 6),en P "__builtins__" 171 (.ref 4),en P "__file__" 173 (.str "/claim/cut.py" 172),en P "__cached__" 174 .none,en P "_sre" 275 (.ref 12),en P "_wall" 288 (.ref 38),en P "CRLF" 290 (.str "\x0d\n" 289),en P "NL" 292 (.str "\n" 291),en P "_QUOPRI_MAP" 1320 (.ref 41),en P "_QUOPRI_HEADER_MAP" 1321 (.ref 46),en P "_QUOPRI_BODY_MAP" 1322 (.ref 48),en P "ascii_lowercase" 1324 (.str "abcdefghijklmnopqrstuvwxyz" 1323),en P "ascii_uppercase" 1326 (.str "ABCDEFGHIJKLMNOPQRSTUVWXYZ" 1325),en P "ascii_letters" 1328 (.str "abcdefghijklmnopqrstuvwxyzABCDEFGHIJKLMNOPQRSTUVWXYZ" 1327),en P "digits" 1330 (.str "0123456789" 1329),en P "hexdigits" 1335 (.str "0123456789abcdefABCDEF" 1334),en P "c" 1346 (.int 9 1832)] 22),#[]⟩
noncomputable def o3_23 (P:Params):Obj:=⟨.type "dict",none,(.dict #[en P "__name__" 165 (.str "cpy313.xml.etree.ElementTree" 1890),en P "__doc__" 166 .none,en P "__package__" 167 .none,en P "__loader__" 168 (.builtin "__main__.__loader__#opaque"),en P "__spec__" 169 .none,en P "__annotations__" 170 (.ref 6),en P "__builtins__" 171 (.ref 4),en P "__file__" 173 (.str "/claim/cut.py" 172),en P "__cached__" 174 .none,en P "_sre" 275 (.ref 12),en P "_wall" 288 (.ref 38),en P "CRLF" 290 (.str "\x0d\n" 289),en P "NL" 292 (.str "\n" 291),en P "_QUOPRI_MAP" 1320 (.ref 41),en P "_QUOPRI_HEADER_MAP" 1321 (.ref 46),en P "_QUOPRI_BODY_MAP" 1322 (.ref 48),en P "ascii_lowercase" 1324 (.str "abcdefghijklmnopqrstuvwxyz" 1323),en P "ascii_uppercase" 1326 (.str "ABCDEFGHIJKLMNOPQRSTUVWXYZ" 1325),en P "ascii_letters" 1328 (.str "abcdefghijklmnopqrstuvwxyzABCDEFGHIJKLMNOPQRSTUVWXYZ" 1327),en P "digits" 1330 (.str "0123456789" 1329),en P "hexdigits" 1335 (.str "0123456789abcdefABCDEF" 1334),en P "unquote" 1841 (.ref 61),en P "quote" 1848 (.ref 68),en P "_QUOPRI_BODY_ENCODE_MAP" 1849 (.ref 70),en P "body_encode" 1876 (.ref 81),en P "decode" 1889 (.ref 89),en P "_twin_re_1" 1929 (.ref 94)] 29),#[]⟩
noncomputable def o3_26 (P:Params):Obj:=⟨.type "dict",none,(.dict #[en P "__name__" 165 (.str "cpy313.xml.etree.ElementTree" 1890),en P "__doc__" 166 .none,en P "__package__" 167 .none,en P "__loader__" 168 (.builtin "__main__.__loader__#opaque"),en P "__spec__" 169 .none,en P "__annotations__" 170 (.ref 6),en P "__builtins__" 171 (.ref 4),en P "__file__" 173 (.str "/claim/cut.py" 172),en P "__cached__" 174 .none,en P "_sre" 275 (.ref 12),en P "_wall" 288 (.ref 38),en P "CRLF" 290 (.str "\x0d\n" 289),en P "NL" 292 (.str "\n" 291),en P "_QUOPRI_MAP" 1320 (.ref 41),en P "_QUOPRI_HEADER_MAP" 1321 (.ref 46),en P "_QUOPRI_BODY_MAP" 1322 (.ref 48),en P "ascii_lowercase" 1324 (.str "abcdefghijklmnopqrstuvwxyz" 1323),en P "ascii_uppercase" 1326 (.str "ABCDEFGHIJKLMNOPQRSTUVWXYZ" 1325),en P "ascii_letters" 1328 (.str "abcdefghijklmnopqrstuvwxyzABCDEFGHIJKLMNOPQRSTUVWXYZ" 1327),en P "digits" 1330 (.str "0123456789" 1329),en P "hexdigits" 1335 (.str "0123456789abcdefABCDEF" 1334),en P "unquote" 1841 (.ref 61),en P "quote" 1848 (.ref 68),en P "_QUOPRI_BODY_ENCODE_MAP" 1849 (.ref 70),en P "body_encode" 1876 (.ref 81),en P "decode" 1889 (.ref 89),en P "_twin_re_1" 1929 (.ref 94),en P "_namespace_map" 1951 (.ref 95),en P "_raise_serialization_error" 1958 (.ref 102),en P "_looks_like_prefix_name" 1960 (.ref 103)] 32),#[]⟩
noncomputable def o3_27 (P:Params):Obj:=⟨.type "dict",none,(.dict #[en P "__name__" 165 (.str "cpy313.xml.etree.ElementTree" 1890),en P "__doc__" 166 .none,en P "__package__" 167 .none,en P "__loader__" 168 (.builtin "__main__.__loader__#opaque"),en P "__spec__" 169 .none,en P "__annotations__" 170 (.ref 6),en P "__builtins__" 171 (.ref 4),en P "__file__" 173 (.str "/claim/cut.py" 172),en P "__cached__" 174 .none,en P "_sre" 275 (.ref 12),en P "_wall" 288 (.ref 38),en P "CRLF" 290 (.str "\x0d\n" 289),en P "NL" 292 (.str "\n" 291),en P "_QUOPRI_MAP" 1320 (.ref 41),en P "_QUOPRI_HEADER_MAP" 1321 (.ref 46),en P "_QUOPRI_BODY_MAP" 1322 (.ref 48),en P "ascii_lowercase" 1324 (.str "abcdefghijklmnopqrstuvwxyz" 1323),en P "ascii_uppercase" 1326 (.str "ABCDEFGHIJKLMNOPQRSTUVWXYZ" 1325),en P "ascii_letters" 1328 (.str "abcdefghijklmnopqrstuvwxyzABCDEFGHIJKLMNOPQRSTUVWXYZ" 1327),en P "digits" 1330 (.str "0123456789" 1329),en P "hexdigits" 1335 (.str "0123456789abcdefABCDEF" 1334),en P "unquote" 1841 (.ref 61),en P "quote" 1848 (.ref 68),en P "_QUOPRI_BODY_ENCODE_MAP" 1849 (.ref 70),en P "body_encode" 1876 (.ref 81),en P "decode" 1889 (.ref 89),en P "_twin_re_1" 1929 (.ref 94),en P "_namespace_map" 1951 (.ref 95),en P "_raise_serialization_error" 1958 (.ref 102),en P "_looks_like_prefix_name" 1960 (.ref 103),en P "C14NWriterTarget" 2125 (.ref 201)] 33),#[]⟩
noncomputable def o3_37 (P:Params):Obj:=⟨.type "dict",none,(.dict #[en P "__name__" 165 (.str "law_re0182_01" 2140),en P "__doc__" 166 .none,en P "__package__" 167 .none,en P "__loader__" 168 (.builtin "__main__.__loader__#opaque"),en P "__spec__" 169 .none,en P "__annotations__" 170 (.ref 6),en P "__builtins__" 171 (.ref 4),en P "__file__" 173 (.str "/claim/cut.py" 172),en P "__cached__" 174 .none,en P "_sre" 275 (.ref 12),en P "_wall" 288 (.ref 38),en P "CRLF" 290 (.str "\x0d\n" 289),en P "NL" 292 (.str "\n" 291),en P "_QUOPRI_MAP" 1320 (.ref 41),en P "_QUOPRI_HEADER_MAP" 1321 (.ref 46),en P "_QUOPRI_BODY_MAP" 1322 (.ref 48),en P "ascii_lowercase" 1324 (.str "abcdefghijklmnopqrstuvwxyz" 1323),en P "ascii_uppercase" 1326 (.str "ABCDEFGHIJKLMNOPQRSTUVWXYZ" 1325),en P "ascii_letters" 1328 (.str "abcdefghijklmnopqrstuvwxyzABCDEFGHIJKLMNOPQRSTUVWXYZ" 1327),en P "digits" 1330 (.str "0123456789" 1329),en P "hexdigits" 1335 (.str "0123456789abcdefABCDEF" 1334),en P "unquote" 1841 (.ref 61),en P "quote" 1848 (.ref 68),en P "_QUOPRI_BODY_ENCODE_MAP" 1849 (.ref 70),en P "body_encode" 1876 (.ref 81),en P "decode" 1889 (.ref 89),en P "_twin_re_1" 1929 (.ref 94),en P "_namespace_map" 1951 (.ref 95),en P "_raise_serialization_error" 1958 (.ref 102),en P "_looks_like_prefix_name" 1960 (.ref 103),en P "C14NWriterTarget" 2125 (.ref 201),en P "_escape_cdata_c14n" 2132 (.ref 212),en P "_escape_attrib_c14n" 2139 (.ref 219),en P "_law_spelled" 2147 (.ref 224),en P "_law_document" 2160 (.ref 231),en P "_law_told" 2172 (.ref 238),en P "_law_unit" 2180 (.ref 245),en P "_law_mail" 2186 (.ref 250),en P "_law_refused" 2195 (.ref 257),en P "law" 2201 (.ref 262)] 42),#[]⟩
noncomputable def o4 (P:Params):Obj:=⟨.type "module",(some 0),.plain,#[]⟩
noncomputable def o5 (P:Params):Obj:=⟨.type "module",(some 3),.plain,#[]⟩
noncomputable def o6 (P:Params):Obj:=⟨.type "dict",none,(.dict #[] 0),#[]⟩
noncomputable def o7 (P:Params):Obj:=⟨.type "tuple",none,(.seq #[] 0),#[]⟩
noncomputable def o8 (P:Params):Obj:=⟨.none,none,(.fields #[]),#[]⟩
noncomputable def o9 (P:Params):Obj:=⟨.type "code",none,(.fields #[.str "<module>" 176,.str "<module>" 177,.str "/claim/cut.py" 178,.int 1 0,.int 0 0,.int 0 0,.int 0 0,.int 0 0,.ref 7,.bool false,.int 175 0,.ref 8,.none,.none,.none,.none,.int 179 0,.int 1 0,.str "/claim/cut.py" 180]),#[]⟩
noncomputable def o10 (P:Params):Obj:=⟨.type "frame",none,.plain,#[(some (.ref 9)),(some (.ref 3)),(some (.ref 3)),none,(some (.str "__main__" 164)),none,(some (.ref 0))]⟩
noncomputable def o11 (P:Params):Obj:=⟨.type "dict",none,(.dict #[en P "__name__" 247 (.str "_sre" 246),en P "__doc__" 248 .none,en P "__package__" 250 (.str "" 249),en P "__loader__" 251 (.ref 14),en P "__spec__" 252 (.ref 26),en P "compile" 253 (.builtin "_sre.compile"),en P "template" 254 (.builtin "_sre.template"),en P "getcodesize" 255 (.builtin "_sre.getcodesize"),en P "ascii_iscased" 256 (.builtin "_sre.ascii_iscased"),en P "unicode_iscased" 257 (.builtin "_sre.unicode_iscased"),en P "ascii_tolower" 258 (.builtin "_sre.ascii_tolower"),en P "unicode_tolower" 259 (.builtin "_sre.unicode_tolower"),en P "MAGIC" 261 (.int 20230612 260),en P "CODESIZE" 263 (.int 4 262),en P "MAXREPEAT" 265 (.int 4294967295 264),en P "MAXGROUPS" 267 (.int 1073741823 266),en P "copyright" 269 (.str " SRE 2.2.2 Copyright (c) 1997-2002 by Secret Labs AB " 268)] 17),#[]⟩
noncomputable def o11_1 (P:Params):Obj:=⟨.type "dict",none,(.dict #[en P "__name__" 247 (.str "_sre" 246),en P "__doc__" 248 .none,en P "__package__" 250 (.str "" 249),en P "__loader__" 251 (.builtin "off-the-table:_sre.__loader__:shared#opaque"),en P "__spec__" 252 (.builtin "off-the-table:_sre.__spec__:shared#opaque"),en P "compile" 253 (.builtin "_sre.compile"),en P "template" 254 (.builtin "off-the-table:_sre.template:shared#opaque"),en P "getcodesize" 255 (.builtin "off-the-table:_sre.getcodesize:shared#opaque"),en P "ascii_iscased" 256 (.builtin "off-the-table:_sre.ascii_iscased:shared#opaque"),en P "unicode_iscased" 257 (.builtin "off-the-table:_sre.unicode_iscased:shared#opaque"),en P "ascii_tolower" 258 (.builtin "off-the-table:_sre.ascii_tolower:shared#opaque"),en P "unicode_tolower" 259 (.builtin "off-the-table:_sre.unicode_tolower:shared#opaque"),en P "MAGIC" 261 (.int 20230612 260),en P "CODESIZE" 263 (.int 4 262),en P "MAXREPEAT" 265 (.int 4294967295 264),en P "MAXGROUPS" 267 (.int 1073741823 266),en P "copyright" 269 (.str " SRE 2.2.2 Copyright (c) 1997-2002 by Secret Labs AB " 268)] 17),#[]⟩
noncomputable def o12 (P:Params):Obj:=⟨.type "module",(some 11),.plain,#[]⟩
noncomputable def o13 (P:Params):Obj:=⟨.type "dict",none,(.dict #[en P "__module__" 189 (.str "_frozen_importlib" 186),en P "__firstlineno__" 190 (.int 971 187),en P "__doc__" 191 (.builtin "_frozen_importlib.BuiltinImporter.__doc__:str#opaque"),en P "_ORIGIN" 192 (.str "built-in" 188),en P "find_spec" 193 (.builtin "_frozen_importlib.BuiltinImporter.find_spec#opaque"),en P "create_module" 194 (.builtin "_frozen_importlib.BuiltinImporter.create_module#opaque"),en P "exec_module" 195 (.builtin "_frozen_importlib.BuiltinImporter.exec_module#opaque"),en P "get_code" 196 (.builtin "_frozen_importlib.BuiltinImporter.get_code#opaque"),en P "get_source" 197 (.builtin "_frozen_importlib.BuiltinImporter.get_source#opaque"),en P "is_package" 198 (.builtin "_frozen_importlib.BuiltinImporter.is_package#opaque"),en P "load_module" 199 (.builtin "_frozen_importlib.BuiltinImporter.load_module#opaque"),en P "__static_attributes__" 200 (.ref 15),en P "__dict__" 202 (.ref 16),en P "__weakref__" 204 (.ref 17)] 14),#[]⟩
noncomputable def o14 (P:Params):Obj:=⟨.type "type",none,(.cls { name:="BuiltinImporter",bases:=[.type "object"],mro:=[.ref 14,.type "object"],ns:=13,qualname:="BuiltinImporter",hasDict:=true,slotNames:=[],subclasses:=[],abstract:=false,collection:=none,hasDel:=false }),#[]⟩
noncomputable def o15 (P:Params):Obj:=⟨.type "tuple",none,(.seq #[] 0),#[]⟩
noncomputable def o16 (P:Params):Obj:=⟨.type "getset_descriptor",none,(.fields #[.str "__dict__" 201,.ref 14,.builtin "function.__dict__",.builtin "function.__dict__#set"]),#[]⟩
noncomputable def o17 (P:Params):Obj:=⟨.type "getset_descriptor",none,(.fields #[.str "__weakref__" 203,.ref 14,.builtin "ExceptionGroup.__weakref__",.none]),#[]⟩
noncomputable def o18 (P:Params):Obj:=⟨.none,none,(.seq #[.int 13 0,(.str ⟨#[6,189,10,95,95,109,111,100,117,108,101,95,95,6,186,17,95,102,114,111,122,101,110,95,105,109,112,111,114,116,108,105,98,6,190,15,95,95,102,105,114,115,116,108,105,110,101,110,111,95,95,4,187,0,971,6,191,7,95,95,100,111,99,95,95,9,52,95,102,114,111,122,101,110,95,105,109,112,111,114,116,108,105,98,46,66,117,105,108,116,105,110,73,109,112,111,114,116,101,114,46,95,95,100,111,99,95,95,58,115,116,114,35,111,112,97,113,117,101,6,192,7,95,79,82,73,71,73,78,6,188,8,98,117,105,108,116,45,105,110,6,193,9,102,105,110,100,95,115,112,101,99,9,50,95,102,114,111,122,101,110,95,105,109,112,111,114,116,108,105,98,46,66,117,105,108,116,105,110,73,109,112,111,114,116,101,114,46,102,105,110,100,95,115,112,101,99,35,111,112,97,113,117,101,6,194,13,99,114,101,97,116,101,95,109,111,100,117,108,101,9,54,95,102,114,111,122,101,110,95,105,109,112,111,114,116,108,105,98,46,66,117,105,108,116,105,110,73,109,112,111,114,116,101,114,46,99,114,101,97,116,101,95,109,111,100,117,108,101,35,111,112,97,113,117,101,6,195,11,101,120,101,99,95,109,111,100,117,108,101,9,52,95,102,114,111,122,101,110,95,105,109,112,111,114,116,108,105,98,46,66,117,105,108,116,105,110,73,109,112,111,114,116,101,114,46,101,120,101,99,95,109,111,100,117,108,101,35,111,112,97,113,117,101,6,196,8,103,101,116,95,99,111,100,101,9,49,95,102,114,111,122,101,110,95,105,109,112,111,114,116,108,105,98,46,66,117,105,108,116,105,110,73,109,112,111,114,116,101,114,46,103,101,116,95,99,111,100,101,35,111,112,97,113,117,101,6,197,10,103,101,116,95,115,111,117,114,99,101,9,51,95,102,114,111,122,101,110,95,105,109,112,111,114,116,108,105,98,46,66,117,105,108,116,105,110,73,109,112,111,114,116,101,114,46,103,101,116,95,115,111,117,114,99,101,35,111,112,97,113,117,101,6,198,10,105,115,95,112,97,99,107,97,103,101,9,51,95,102,114,111,122,101,110,95,105,109,112,111,114,116,108,105,98,46,66,117,105,108,116,105,110,73,109,112,111,114,116,101,114,46,105,115,95,112,97,99,107,97,103,101,35,111,112,97,113,117,101,6,199,11,108,111,97,100,95,109,111,100,117,108,101,9,52,95,102,114,111,122,101,110,95,105,109,112,111,114,116,108,105,98,46,66,117,105,108,116,105,110,73,109,112,111,114,116,101,114,46,108,111,97,100,95,109,111,100,117,108,101,35,111,112,97,113,117,101,6,200,21,95,95,115,116,97,116,105,99,95,97,116,116,114,105,98,117,116,101,115,95,95,4,0,0,15,6,202,8,95,95,100,105,99,116,95,95,4,0,0,16,6,204,11,95,95,119,101,97,107,114,101,102,95,95,4,0,0,17]⟩ 0),.bool true,.bool true,.str "" 205,.int 21 0,(.str ⟨#[6,227,10,95,95,109,111,100,117,108,101,95,95,6,217,17,95,102,114,111,122,101,110,95,105,109,112,111,114,116,108,105,98,6,228,15,95,95,102,105,114,115,116,108,105,110,101,110,111,95,95,4,218,0,562,6,229,7,95,95,100,111,99,95,95,9,47,95,102,114,111,122,101,110,95,105,109,112,111,114,116,108,105,98,46,77,111,100,117,108,101,83,112,101,99,46,95,95,100,111,99,95,95,58,115,116,114,35,111,112,97,113,117,101,6,230,8,95,95,105,110,105,116,95,95,9,44,95,102,114,111,122,101,110,95,105,109,112,111,114,116,108,105,98,46,77,111,100,117,108,101,83,112,101,99,46,95,95,105,110,105,116,95,95,35,111,112,97,113,117,101,6,231,8,95,95,114,101,112,114,95,95,9,44,95,102,114,111,122,101,110,95,105,109,112,111,114,116,108,105,98,46,77,111,100,117,108,101,83,112,101,99,46,95,95,114,101,112,114,95,95,35,111,112,97,113,117,101,6,232,6,95,95,101,113,95,95,9,42,95,102,114,111,122,101,110,95,105,109,112,111,114,116,108,105,98,46,77,111,100,117,108,101,83,112,101,99,46,95,95,101,113,95,95,35,111,112,97,113,117,101,6,233,6,99,97,99,104,101,100,9,42,95,102,114,111,122,101,110,95,105,109,112,111,114,116,108,105,98,46,77,111,100,117,108,101,83,112,101,99,46,99,97,99,104,101,100,35,111,112,97,113,117,101,6,234,6,112,97,114,101,110,116,9,42,95,102,114,111,122,101,110,95,105,109,112,111,114,116,108,105,98,46,77,111,100,117,108,101,83,112,101,99,46,112,97,114,101,110,116,35,111,112,97,113,117,101,6,235,12,104,97,115,95,108,111,99,97,116,105,111,110,9,48,95,102,114,111,122,101,110,95,105,109,112,111,114,116,108,105,98,46,77,111,100,117,108,101,83,112,101,99,46,104,97,115,95,108,111,99,97,116,105,111,110,35,111,112,97,113,117,101,6,236,21,95,95,115,116,97,116,105,99,95,97,116,116,114,105,98,117,116,101,115,95,95,4,0,0,23,6,238,8,95,95,100,105,99,116,95,95,4,0,0,24,6,240,11,95,95,119,101,97,107,114,101,102,95,95,4,0,0,25,6,241,8,95,95,104,97,115,104,95,95,0]⟩ 0),.bool true,.bool true,.str "" 242] 1),#[]⟩
noncomputable def o19 (P:Params):Obj:=⟨.type "list",none,(.seq #[] 0),#[]⟩
noncomputable def o20 (P:Params):Obj:=⟨.type "dict",none,(.dict #[en P "name" 208 (.str "_sre" 207),en P "loader" 209 (.ref 14),en P "origin" 210 (.str "built-in" 184),en P "loader_state" 211 .none,en P "submodule_search_locations" 212 .none,en P "_uninitialized_submodules" 213 (.ref 19),en P "_set_fileattr" 214 (.bool false),en P "_cached" 215 .none,en P "_initializing" 243 (.bool false)] 9),#[]⟩
noncomputable def o21 (P:Params):Obj:=⟨.type "dict",none,(.dict #[en P "__module__" 227 (.str "_frozen_importlib" 217),en P "__firstlineno__" 228 (.int 562 218),en P "__doc__" 229 (.builtin "_frozen_importlib.ModuleSpec.__doc__:str#opaque"),en P "__init__" 230 (.builtin "_frozen_importlib.ModuleSpec.__init__#opaque"),en P "__repr__" 231 (.builtin "_frozen_importlib.ModuleSpec.__repr__#opaque"),en P "__eq__" 232 (.builtin "_frozen_importlib.ModuleSpec.__eq__#opaque"),en P "cached" 233 (.builtin "_frozen_importlib.ModuleSpec.cached#opaque"),en P "parent" 234 (.builtin "_frozen_importlib.ModuleSpec.parent#opaque"),en P "has_location" 235 (.builtin "_frozen_importlib.ModuleSpec.has_location#opaque"),en P "__static_attributes__" 236 (.ref 23),en P "__dict__" 238 (.ref 24),en P "__weakref__" 240 (.ref 25),en P "__hash__" 241 .none] 13),#[]⟩
noncomputable def o22 (P:Params):Obj:=⟨.type "type",none,(.cls { name:="ModuleSpec",bases:=[.type "object"],mro:=[.ref 22,.type "object"],ns:=21,qualname:="ModuleSpec",hasDict:=true,slotNames:=[],subclasses:=[],abstract:=false,collection:=none,hasDel:=false }),#[]⟩
noncomputable def o23 (P:Params):Obj:=⟨.type "tuple",none,(.seq #[.str "_cached" 219,.str "_set_fileattr" 220,.str "_uninitialized_submodules" 221,.str "loader" 222,.str "loader_state" 223,.str "name" 224,.str "origin" 225,.str "submodule_search_locations" 226] 0),#[]⟩
noncomputable def o24 (P:Params):Obj:=⟨.type "getset_descriptor",none,(.fields #[.str "__dict__" 237,.ref 22,.builtin "function.__dict__",.builtin "function.__dict__#set"]),#[]⟩
noncomputable def o25 (P:Params):Obj:=⟨.type "getset_descriptor",none,(.fields #[.str "__weakref__" 239,.ref 22,.builtin "ExceptionGroup.__weakref__",.none]),#[]⟩
noncomputable def o26 (P:Params):Obj:=⟨.ref 22,(some 20),.plain,#[]⟩
noncomputable def o27 (P:Params):Obj:=⟨.none,none,(.seq #[.int 11 0,(.str ⟨#[6,247,8,95,95,110,97,109,101,95,95,6,246,4,95,115,114,101,6,248,7,95,95,100,111,99,95,95,0,6,250,11,95,95,112,97,99,107,97,103,101,95,95,6,249,0,6,251,10,95,95,108,111,97,100,101,114,95,95,4,0,0,14,6,252,8,95,95,115,112,101,99,95,95,4,0,0,26,6,253,7,99,111,109,112,105,108,101,9,12,95,115,114,101,46,99,111,109,112,105,108,101,6,254,8,116,101,109,112,108,97,116,101,9,13,95,115,114,101,46,116,101,109,112,108,97,116,101,6,255,11,103,101,116,99,111,100,101,115,105,122,101,9,16,95,115,114,101,46,103,101,116,99,111,100,101,115,105,122,101,6,256,13,97,115,99,105,105,95,105,115,99,97,115,101,100,9,18,95,115,114,101,46,97,115,99,105,105,95,105,115,99,97,115,101,100,6,257,15,117,110,105,99,111,100,101,95,105,115,99,97,115,101,100,9,20,95,115,114,101,46,117,110,105,99,111,100,101,95,105,115,99,97,115,101,100,6,258,13,97,115,99,105,105,95,116,111,108,111,119,101,114,9,18,95,115,114,101,46,97,115,99,105,105,95,116,111,108,111,119,101,114,6,259,15,117,110,105,99,111,100,101,95,116,111,108,111,119,101,114,9,20,95,115,114,101,46,117,110,105,99,111,100,101,95,116,111,108,111,119,101,114,6,261,5,77,65,71,73,67,4,260,0,20230612,6,263,8,67,79,68,69,83,73,90,69,4,262,0,4,6,265,9,77,65,88,82,69,80,69,65,84,4,264,0,4294967295,6,267,9,77,65,88,71,82,79,85,80,83,4,266,0,1073741823,6,269,9,99,111,112,121,114,105,103,104,116,6,268,53,32,83,82,69,32,50,46,50,46,50,32,67,111,112,121,114,105,103,104,116,32,40,99,41,32,49,57,57,55,45,50,48,48,50,32,98,121,32,83,101,99,114,101,116,32,76,97,98,115,32,65,66,32]⟩ 0),.bool true,.bool false,.str "_sre" 271] 0),#[]⟩
noncomputable def o28 (P:Params):Obj:=⟨.type "tuple",none,(.seq #[] 0),#[]⟩
noncomputable def o29 (P:Params):Obj:=⟨.none,none,(.fields #[]),#[]⟩
noncomputable def o29_1 (P:Params):Obj:=⟨.none,none,(.fields #[.int 2 0,.int 0 0,.ref 37]),#[]⟩
noncomputable def o29_5 (P:Params):Obj:=⟨.none,none,(.fields #[.int 2 0,.int 0 0,.ref 37,.int 21 0,.int 0 0,.ref 60,.int 23 0,.int 0 0,.ref 67,.int 29 0,.int 0 0,.ref 80,.int 67 0,.int 0 0,.ref 88]),#[]⟩
noncomputable def o29_6 (P:Params):Obj:=⟨.none,none,(.fields #[.int 2 0,.int 0 0,.ref 37,.int 21 0,.int 0 0,.ref 60,.int 23 0,.int 0 0,.ref 67,.int 29 0,.int 0 0,.ref 80,.int 67 0,.int 0 0,.ref 88,.int 100 0,.int 0 0,.ref 101]),#[]⟩
noncomputable def o29_7 (P:Params):Obj:=⟨.none,none,(.fields #[.int 2 0,.int 0 0,.ref 37,.int 21 0,.int 0 0,.ref 60,.int 23 0,.int 0 0,.ref 67,.int 29 0,.int 0 0,.ref 80,.int 67 0,.int 0 0,.ref 88,.int 100 0,.int 0 0,.ref 101,.int 103 0,.int 0 0,.ref 109]),#[]⟩
noncomputable def o29_16 (P:Params):Obj:=⟨.none,none,(.fields #[.int 2 0,.int 0 0,.ref 37,.int 21 0,.int 0 0,.ref 60,.int 23 0,.int 0 0,.ref 67,.int 29 0,.int 0 0,.ref 80,.int 67 0,.int 0 0,.ref 88,.int 100 0,.int 0 0,.ref 101,.int 103 0,.int 0 0,.ref 109,.int 286 0,.int 0 0,.ref 211,.int 299 0,.int 0 0,.ref 218,.int 317 0,.int 0 0,.ref 223,.int 319 0,.int 0 0,.ref 230,.int 334 0,.int 0 0,.ref 237,.int 350 0,.int 0 0,.ref 244,.int 355 0,.int 0 0,.ref 249,.int 381 0,.int 0 0,.ref 256,.int 387 0,.int 0 0,.ref 261]),#[]⟩
noncomputable def o30 (P:Params):Obj:=⟨.type "code",none,(.fields #[.str "<module>" 277,.str "<module>" 278,.str "/claim/cut.py" 279,.int 1 0,.int 0 0,.int 0 0,.int 0 0,.int 0 0,.ref 28,.bool false,.int 276 0,.ref 29,.none,.none,.none,.none,.int 280 0,.int 1 0,.str "/claim/cut.py" 281]),#[]⟩
noncomputable def o31 (P:Params):Obj:=⟨.type "frame",none,.plain,#[(some (.ref 30)),(some (.ref 3)),(some (.ref 3)),none,(some (.str "__main__" 164)),none,(some (.ref 0))]⟩
noncomputable def o32 (P:Params):Obj:=⟨.type "tuple",none,(.seq #[] 0),#[]⟩
noncomputable def o33 (P:Params):Obj:=⟨.none,none,(.fields #[]),#[]⟩
noncomputable def o34 (P:Params):Obj:=⟨.type "tuple",none,(.seq #[.str "k" 285] 0),#[]⟩
noncomputable def o35 (P:Params):Obj:=⟨.type "tuple",none,(.seq #[] 0),#[]⟩
noncomputable def o36 (P:Params):Obj:=⟨.none,none,(.func { name:="_wall",qualname:="_wall",params:=sArgs (sAt 1),body:=.stmts (sBody (sAt 1)),scope:=sScope (sAt 1),globals:=0,closure:=[],defaults:=.none,kwdefaults:=.none,doc:=.none,pyModule:=.none,annotations:=none,code:=.none,closureTuple:=.none,builtins:=0 }),#[]⟩
noncomputable def o37 (P:Params):Obj:=⟨.type "code",none,(.fields #[.str "_wall" 282,.str "_wall" 283,.str "/claim/cut.py" 284,.int 2 0,.int 1 0,.int 0 0,.int 0 0,.int 3 0,.ref 32,.bool true,.int 276 0,.ref 33,.none,.ref 34,.ref 35,.ref 36,.int 286 0,.int 2 0,.str "/claim/cut.py" 287]),#[]⟩
noncomputable def o38 (P:Params):Obj:=⟨.type "function",none,(.func { name:="_wall",qualname:="_wall",params:=sArgs (sAt 1),body:=.stmts (sBody (sAt 1)),scope:=sScope (sAt 1),globals:=3,closure:=[],defaults:=.none,kwdefaults:=.none,doc:=.none,pyModule:=.str "__main__" 164,annotations:=none,code:=.ref 37,closureTuple:=.none,builtins:=0 }),#[]⟩
noncomputable def o39 (P:Params):Obj:=⟨.type "range",none,(.fields #[.int 0 294,.int 256 293,.int 1 295]),#[]⟩
noncomputable def o40 (P:Params):Obj:=⟨.type "range_iterator",none,(.fields #[.int 256 0,.int 0 0,.int 1 0]),#[]⟩
noncomputable def mrg:Nat->List (Nat×Nat×Nat)->List Value->List Value
 | i,(j,c,t)::u,v::l=>match i == j with
  | true=>.str ⟨#[c]⟩ t::mrg (i + 1) u l
  | false=>v::mrg (i + 1) ((j,c,t)::u) l
 | _,_,l=>l
noncomputable def sq0 (u:List (Nat×Nat×Nat)):Obj->Obj
 | ⟨c,d,.seq a _,s⟩=>⟨c,d,.seq (mrg 0 u a.toList).toArray 0,s⟩
 | o=>o
noncomputable def o41 (P:Params):Obj:=⟨.type "list",none,(.seq #[(.str ⟨#[61,48,48]⟩ 299),(.str ⟨#[61,48,49]⟩ 303),(.str ⟨#[61,48,50]⟩ 307),(.str ⟨#[61,48,51]⟩ 311),(.str ⟨#[61,48,52]⟩ 315),(.str ⟨#[61,48,53]⟩ 319),(.str ⟨#[61,48,54]⟩ 323),(.str ⟨#[61,48,55]⟩ 327),(.str ⟨#[61,48,56]⟩ 331),(.str ⟨#[61,48,57]⟩ 335),(.str ⟨#[61,48,65]⟩ 339),(.str ⟨#[61,48,66]⟩ 343),(.str ⟨#[61,48,67]⟩ 347),(.str ⟨#[61,48,68]⟩ 351),(.str ⟨#[61,48,69]⟩ 355),(.str ⟨#[61,48,70]⟩ 359),(.str ⟨#[61,49,48]⟩ 363),(.str ⟨#[61,49,49]⟩ 367),(.str ⟨#[61,49,50]⟩ 371),(.str ⟨#[61,49,51]⟩ 375),(.str ⟨#[61,49,52]⟩ 379),(.str ⟨#[61,49,53]⟩ 383),(.str ⟨#[61,49,54]⟩ 387),(.str ⟨#[61,49,55]⟩ 391),(.str ⟨#[61,49,56]⟩ 395),(.str ⟨#[61,49,57]⟩ 399),(.str ⟨#[61,49,65]⟩ 403),(.str ⟨#[61,49,66]⟩ 407),(.str ⟨#[61,49,67]⟩ 411),(.str ⟨#[61,49,68]⟩ 415),(.str ⟨#[61,49,69]⟩ 419),(.str ⟨#[61,49,70]⟩ 423),(.str ⟨#[61,50,48]⟩ 427),(.str ⟨#[61,50,49]⟩ 431),(.str ⟨#[61,50,50]⟩ 435),(.str ⟨#[61,50,51]⟩ 439),(.str ⟨#[61,50,52]⟩ 443),(.str ⟨#[61,50,53]⟩ 447),(.str ⟨#[61,50,54]⟩ 451),(.str ⟨#[61,50,55]⟩ 455),(.str ⟨#[61,50,56]⟩ 459),(.str ⟨#[61,50,57]⟩ 463),(.str ⟨#[61,50,65]⟩ 467),(.str ⟨#[61,50,66]⟩ 471),(.str ⟨#[61,50,67]⟩ 475),(.str ⟨#[61,50,68]⟩ 479),(.str ⟨#[61,50,69]⟩ 483),(.str ⟨#[61,50,70]⟩ 487),(.str ⟨#[61,51,48]⟩ 491),(.str ⟨#[61,51,49]⟩ 495),(.str ⟨#[61,51,50]⟩ 499),(.str ⟨#[61,51,51]⟩ 503),(.str ⟨#[61,51,52]⟩ 507),(.str ⟨#[61,51,53]⟩ 511),(.str ⟨#[61,51,54]⟩ 515),(.str ⟨#[61,51,55]⟩ 519),(.str ⟨#[61,51,56]⟩ 523),(.str ⟨#[61,51,57]⟩ 527),(.str ⟨#[61,51,65]⟩ 531),(.str ⟨#[61,51,66]⟩ 535),(.str ⟨#[61,51,67]⟩ 539),(.str ⟨#[61,51,68]⟩ 543),(.str ⟨#[61,51,69]⟩ 547),(.str ⟨#[61,51,70]⟩ 551),(.str ⟨#[61,52,48]⟩ 555),(.str ⟨#[61,52,49]⟩ 559),(.str ⟨#[61,52,50]⟩ 563),(.str ⟨#[61,52,51]⟩ 567),(.str ⟨#[61,52,52]⟩ 571),(.str ⟨#[61,52,53]⟩ 575),(.str ⟨#[61,52,54]⟩ 579),(.str ⟨#[61,52,55]⟩ 583),(.str ⟨#[61,52,56]⟩ 587),(.str ⟨#[61,52,57]⟩ 591),(.str ⟨#[61,52,65]⟩ 595),(.str ⟨#[61,52,66]⟩ 599),(.str ⟨#[61,52,67]⟩ 603),(.str ⟨#[61,52,68]⟩ 607),(.str ⟨#[61,52,69]⟩ 611),(.str ⟨#[61,52,70]⟩ 615),(.str ⟨#[61,53,48]⟩ 619),(.str ⟨#[61,53,49]⟩ 623),(.str ⟨#[61,53,50]⟩ 627),(.str ⟨#[61,53,51]⟩ 631),(.str ⟨#[61,53,52]⟩ 635),(.str ⟨#[61,53,53]⟩ 639),(.str ⟨#[61,53,54]⟩ 643),(.str ⟨#[61,53,55]⟩ 647),(.str ⟨#[61,53,56]⟩ 651),(.str ⟨#[61,53,57]⟩ 655),(.str ⟨#[61,53,65]⟩ 659),(.str ⟨#[61,53,66]⟩ 663),(.str ⟨#[61,53,67]⟩ 667),(.str ⟨#[61,53,68]⟩ 671),(.str ⟨#[61,53,69]⟩ 675),(.str ⟨#[61,53,70]⟩ 679),(.str ⟨#[61,54,48]⟩ 683),(.str ⟨#[61,54,49]⟩ 687),(.str ⟨#[61,54,50]⟩ 691),(.str ⟨#[61,54,51]⟩ 695),(.str ⟨#[61,54,52]⟩ 699),(.str ⟨#[61,54,53]⟩ 703),(.str ⟨#[61,54,54]⟩ 707),(.str ⟨#[61,54,55]⟩ 711),(.str ⟨#[61,54,56]⟩ 715),(.str ⟨#[61,54,57]⟩ 719),(.str ⟨#[61,54,65]⟩ 723),(.str ⟨#[61,54,66]⟩ 727),(.str ⟨#[61,54,67]⟩ 731),(.str ⟨#[61,54,68]⟩ 735),(.str ⟨#[61,54,69]⟩ 739),(.str ⟨#[61,54,70]⟩ 743),(.str ⟨#[61,55,48]⟩ 747),(.str ⟨#[61,55,49]⟩ 751),(.str ⟨#[61,55,50]⟩ 755),(.str ⟨#[61,55,51]⟩ 759),(.str ⟨#[61,55,52]⟩ 763),(.str ⟨#[61,55,53]⟩ 767),(.str ⟨#[61,55,54]⟩ 771),(.str ⟨#[61,55,55]⟩ 775),(.str ⟨#[61,55,56]⟩ 779),(.str ⟨#[61,55,57]⟩ 783),(.str ⟨#[61,55,65]⟩ 787),(.str ⟨#[61,55,66]⟩ 791),(.str ⟨#[61,55,67]⟩ 795),(.str ⟨#[61,55,68]⟩ 799),(.str ⟨#[61,55,69]⟩ 803),(.str ⟨#[61,55,70]⟩ 807),(.str ⟨#[61,56,48]⟩ 811),(.str ⟨#[61,56,49]⟩ 815),(.str ⟨#[61,56,50]⟩ 819),(.str ⟨#[61,56,51]⟩ 823),(.str ⟨#[61,56,52]⟩ 827),(.str ⟨#[61,56,53]⟩ 831),(.str ⟨#[61,56,54]⟩ 835),(.str ⟨#[61,56,55]⟩ 839),(.str ⟨#[61,56,56]⟩ 843),(.str ⟨#[61,56,57]⟩ 847),(.str ⟨#[61,56,65]⟩ 851),(.str ⟨#[61,56,66]⟩ 855),(.str ⟨#[61,56,67]⟩ 859),(.str ⟨#[61,56,68]⟩ 863),(.str ⟨#[61,56,69]⟩ 867),(.str ⟨#[61,56,70]⟩ 871),(.str ⟨#[61,57,48]⟩ 875),(.str ⟨#[61,57,49]⟩ 879),(.str ⟨#[61,57,50]⟩ 883),(.str ⟨#[61,57,51]⟩ 887),(.str ⟨#[61,57,52]⟩ 891),(.str ⟨#[61,57,53]⟩ 895),(.str ⟨#[61,57,54]⟩ 899),(.str ⟨#[61,57,55]⟩ 903),(.str ⟨#[61,57,56]⟩ 907),(.str ⟨#[61,57,57]⟩ 911),(.str ⟨#[61,57,65]⟩ 915),(.str ⟨#[61,57,66]⟩ 919),(.str ⟨#[61,57,67]⟩ 923),(.str ⟨#[61,57,68]⟩ 927),(.str ⟨#[61,57,69]⟩ 931),(.str ⟨#[61,57,70]⟩ 935),(.str ⟨#[61,65,48]⟩ 939),(.str ⟨#[61,65,49]⟩ 943),(.str ⟨#[61,65,50]⟩ 947),(.str ⟨#[61,65,51]⟩ 951),(.str ⟨#[61,65,52]⟩ 955),(.str ⟨#[61,65,53]⟩ 959),(.str ⟨#[61,65,54]⟩ 963),(.str ⟨#[61,65,55]⟩ 967),(.str ⟨#[61,65,56]⟩ 971),(.str ⟨#[61,65,57]⟩ 975),(.str ⟨#[61,65,65]⟩ 979),(.str ⟨#[61,65,66]⟩ 983),(.str ⟨#[61,65,67]⟩ 987),(.str ⟨#[61,65,68]⟩ 991),(.str ⟨#[61,65,69]⟩ 995),(.str ⟨#[61,65,70]⟩ 999),(.str ⟨#[61,66,48]⟩ 1003),(.str ⟨#[61,66,49]⟩ 1007),(.str ⟨#[61,66,50]⟩ 1011),(.str ⟨#[61,66,51]⟩ 1015),(.str ⟨#[61,66,52]⟩ 1019),(.str ⟨#[61,66,53]⟩ 1023),(.str ⟨#[61,66,54]⟩ 1027),(.str ⟨#[61,66,55]⟩ 1031),(.str ⟨#[61,66,56]⟩ 1035),(.str ⟨#[61,66,57]⟩ 1039),(.str ⟨#[61,66,65]⟩ 1043),(.str ⟨#[61,66,66]⟩ 1047),(.str ⟨#[61,66,67]⟩ 1051),(.str ⟨#[61,66,68]⟩ 1055),(.str ⟨#[61,66,69]⟩ 1059),(.str ⟨#[61,66,70]⟩ 1063),(.str ⟨#[61,67,48]⟩ 1067),(.str ⟨#[61,67,49]⟩ 1071),(.str ⟨#[61,67,50]⟩ 1075),(.str ⟨#[61,67,51]⟩ 1079),(.str ⟨#[61,67,52]⟩ 1083),(.str ⟨#[61,67,53]⟩ 1087),(.str ⟨#[61,67,54]⟩ 1091),(.str ⟨#[61,67,55]⟩ 1095),(.str ⟨#[61,67,56]⟩ 1099),(.str ⟨#[61,67,57]⟩ 1103),(.str ⟨#[61,67,65]⟩ 1107),(.str ⟨#[61,67,66]⟩ 1111),(.str ⟨#[61,67,67]⟩ 1115),(.str ⟨#[61,67,68]⟩ 1119),(.str ⟨#[61,67,69]⟩ 1123),(.str ⟨#[61,67,70]⟩ 1127),(.str ⟨#[61,68,48]⟩ 1131),(.str ⟨#[61,68,49]⟩ 1135),(.str ⟨#[61,68,50]⟩ 1139),(.str ⟨#[61,68,51]⟩ 1143),(.str ⟨#[61,68,52]⟩ 1147),(.str ⟨#[61,68,53]⟩ 1151),(.str ⟨#[61,68,54]⟩ 1155),(.str ⟨#[61,68,55]⟩ 1159),(.str ⟨#[61,68,56]⟩ 1163),(.str ⟨#[61,68,57]⟩ 1167),(.str ⟨#[61,68,65]⟩ 1171),(.str ⟨#[61,68,66]⟩ 1175),(.str ⟨#[61,68,67]⟩ 1179),(.str ⟨#[61,68,68]⟩ 1183),(.str ⟨#[61,68,69]⟩ 1187),(.str ⟨#[61,68,70]⟩ 1191),(.str ⟨#[61,69,48]⟩ 1195),(.str ⟨#[61,69,49]⟩ 1199),(.str ⟨#[61,69,50]⟩ 1203),(.str ⟨#[61,69,51]⟩ 1207),(.str ⟨#[61,69,52]⟩ 1211),(.str ⟨#[61,69,53]⟩ 1215),(.str ⟨#[61,69,54]⟩ 1219),(.str ⟨#[61,69,55]⟩ 1223),(.str ⟨#[61,69,56]⟩ 1227),(.str ⟨#[61,69,57]⟩ 1231),(.str ⟨#[61,69,65]⟩ 1235),(.str ⟨#[61,69,66]⟩ 1239),(.str ⟨#[61,69,67]⟩ 1243),(.str ⟨#[61,69,68]⟩ 1247),(.str ⟨#[61,69,69]⟩ 1251),(.str ⟨#[61,69,70]⟩ 1255),(.str ⟨#[61,70,48]⟩ 1259),(.str ⟨#[61,70,49]⟩ 1263),(.str ⟨#[61,70,50]⟩ 1267),(.str ⟨#[61,70,51]⟩ 1271),(.str ⟨#[61,70,52]⟩ 1275),(.str ⟨#[61,70,53]⟩ 1279),(.str ⟨#[61,70,54]⟩ 1283),(.str ⟨#[61,70,55]⟩ 1287),(.str ⟨#[61,70,56]⟩ 1291),(.str ⟨#[61,70,57]⟩ 1295),(.str ⟨#[61,70,65]⟩ 1299),(.str ⟨#[61,70,66]⟩ 1303),(.str ⟨#[61,70,67]⟩ 1307),(.str ⟨#[61,70,68]⟩ 1311),(.str ⟨#[61,70,69]⟩ 1315),(.str ⟨#[61,70,70]⟩ 1319)] 256),#[]⟩
noncomputable def o42 (P:Params):Obj:=⟨.type "dict",none,(.dict #[] 2),#[]⟩
noncomputable def o43 (P:Params):Obj:=⟨.type "tuple",none,(.seq #[] 0),#[]⟩
noncomputable def o44 (P:Params):Obj:=⟨.type "StopIteration",none,(.fields #[.ref 43,.none,.none,.none,.bool false,.none]),#[]⟩
noncomputable def o45 (P:Params):Obj:=⟨.type "slice",none,(.fields #[.none,.none,.none]),#[]⟩
noncomputable def o46 (P:Params):Obj:=sq0 [] (o41 P)
noncomputable def o46_1 (P:Params):Obj:=sq0 [(33,33,1350),(42,42,1353),(43,43,1356),(45,45,1347),(47,47,1359),(48,48,1518),(49,49,1521),(50,50,1524),(51,51,1527),(52,52,1530),(53,53,1533),(54,54,1536),(55,55,1539),(56,56,1542),(57,57,1545),(65,65,1440),(66,66,1443),(67,67,1446),(68,68,1449),(69,69,1452),(70,70,1455),(71,71,1458),(72,72,1461),(73,73,1464),(74,74,1467),(75,75,1470),(76,76,1473),(77,77,1476),(78,78,1479),(79,79,1482),(80,80,1485),(81,81,1488),(82,82,1491),(83,83,1494),(84,84,1497),(85,85,1500),(86,86,1503),(87,87,1506),(88,88,1509),(89,89,1512),(90,90,1515),(97,97,1362),(98,98,1365),(99,99,1368),(100,100,1371),(101,101,1374),(102,102,1377),(103,103,1380),(104,104,1383),(105,105,1386),(106,106,1389),(107,107,1392),(108,108,1395),(109,109,1398),(110,110,1401),(111,111,1404),(112,112,1407),(113,113,1410),(114,114,1413),(115,115,1416),(116,116,1419),(117,117,1422),(118,118,1425),(119,119,1428),(120,120,1431),(121,121,1434),(122,122,1437)] (o41 P)
noncomputable def o46_2 (P:Params):Obj:=sq0 [(32,95,1546)] (o46_1 P)
noncomputable def o47 (P:Params):Obj:=⟨.type "slice",none,(.fields #[.none,.none,.none]),#[]⟩
noncomputable def o48 (P:Params):Obj:=sq0 [] (o41 P)
noncomputable def o48_1 (P:Params):Obj:=sq0 [(9,9,1834),(32,32,1552),(33,33,1555),(34,34,1558),(35,35,1561),(36,36,1564),(37,37,1567),(38,38,1570),(39,39,1573),(40,40,1576),(41,41,1579),(42,42,1582),(43,43,1585),(44,44,1588),(45,45,1591),(46,46,1594),(47,47,1597),(48,48,1600),(49,49,1603),(50,50,1606),(51,51,1609),(52,52,1612),(53,53,1615),(54,54,1618),(55,55,1621),(56,56,1624),(57,57,1627),(58,58,1630),(59,59,1633),(60,60,1636),(62,62,1639),(63,63,1642),(64,64,1645),(65,65,1648),(66,66,1651),(67,67,1654),(68,68,1657),(69,69,1660),(70,70,1663),(71,71,1666),(72,72,1669),(73,73,1672),(74,74,1675),(75,75,1678),(76,76,1681),(77,77,1684),(78,78,1687),(79,79,1690),(80,80,1693),(81,81,1696),(82,82,1699),(83,83,1702),(84,84,1705),(85,85,1708),(86,86,1711),(87,87,1714),(88,88,1717),(89,89,1720),(90,90,1723),(91,91,1726),(92,92,1729),(93,93,1732),(94,94,1735),(95,95,1738),(96,96,1741),(97,97,1744),(98,98,1747),(99,99,1750),(100,100,1753),(101,101,1756),(102,102,1759),(103,103,1762),(104,104,1765),(105,105,1768),(106,106,1771),(107,107,1774),(108,108,1777),(109,109,1780),(110,110,1783),(111,111,1786),(112,112,1789),(113,113,1792),(114,114,1795),(115,115,1798),(116,116,1801),(117,117,1804),(118,118,1807),(119,119,1810),(120,120,1813),(121,121,1816),(122,122,1819),(123,123,1822),(124,124,1825),(125,125,1828),(126,126,1831)] (o41 P)
noncomputable def o49 (P:Params):Obj:=⟨.type "bytes_iterator",none,(.fields #[.none,.int 67 0]),#[]⟩
noncomputable def o50 (P:Params):Obj:=⟨.type "tuple",none,(.seq #[] 0),#[]⟩
noncomputable def o51 (P:Params):Obj:=⟨.type "StopIteration",none,(.fields #[.ref 50,.none,.none,.none,.bool false,.none]),#[]⟩
noncomputable def o52 (P:Params):Obj:=⟨.type "bytes_iterator",none,(.fields #[.none,.int 95 0]),#[]⟩
noncomputable def o53 (P:Params):Obj:=⟨.type "tuple",none,(.seq #[] 0),#[]⟩
noncomputable def o54 (P:Params):Obj:=⟨.type "StopIteration",none,(.fields #[.ref 53,.none,.none,.none,.bool false,.none]),#[]⟩
noncomputable def o55 (P:Params):Obj:=⟨.type "tuple",none,(.seq #[] 0),#[]⟩
noncomputable def o56 (P:Params):Obj:=⟨.none,none,(.fields #[]),#[]⟩
noncomputable def o57 (P:Params):Obj:=⟨.type "tuple",none,(.seq #[.str "s" 1838] 0),#[]⟩
noncomputable def o58 (P:Params):Obj:=⟨.type "tuple",none,(.seq #[] 0),#[]⟩
noncomputable def o59 (P:Params):Obj:=⟨.none,none,(.func { name:="unquote",qualname:="unquote",params:=sArgs (sAt 16),body:=.stmts (sBody (sAt 16)),scope:=sScope (sAt 16),globals:=0,closure:=[],defaults:=.none,kwdefaults:=.none,doc:=.none,pyModule:=.none,annotations:=none,code:=.none,closureTuple:=.none,builtins:=0 }),#[]⟩
noncomputable def o60 (P:Params):Obj:=⟨.type "code",none,(.fields #[.str "unquote" 1835,.str "unquote" 1836,.str "/claim/cut.py" 1837,.int 21 0,.int 1 0,.int 0 0,.int 0 0,.int 3 0,.ref 55,.bool true,.int 276 0,.ref 56,.none,.ref 57,.ref 58,.ref 59,.int 1839 0,.int 21 0,.str "/claim/cut.py" 1840]),#[]⟩
noncomputable def o61 (P:Params):Obj:=⟨.type "function",none,(.func { name:="unquote",qualname:="unquote",params:=sArgs (sAt 16),body:=.stmts (sBody (sAt 16)),scope:=sScope (sAt 16),globals:=3,closure:=[],defaults:=.none,kwdefaults:=.none,doc:=.none,pyModule:=.str "cpy313.email.quoprimime" 1336,annotations:=none,code:=.ref 60,closureTuple:=.none,builtins:=0 }),#[]⟩
noncomputable def o62 (P:Params):Obj:=⟨.type "tuple",none,(.seq #[] 0),#[]⟩
noncomputable def o63 (P:Params):Obj:=⟨.none,none,(.fields #[]),#[]⟩
noncomputable def o64 (P:Params):Obj:=⟨.type "tuple",none,(.seq #[.str "c" 1845] 0),#[]⟩
noncomputable def o65 (P:Params):Obj:=⟨.type "tuple",none,(.seq #[] 0),#[]⟩
noncomputable def o66 (P:Params):Obj:=⟨.none,none,(.func { name:="quote",qualname:="quote",params:=sArgs (sAt 17),body:=.stmts (sBody (sAt 17)),scope:=sScope (sAt 17),globals:=0,closure:=[],defaults:=.none,kwdefaults:=.none,doc:=.none,pyModule:=.none,annotations:=none,code:=.none,closureTuple:=.none,builtins:=0 }),#[]⟩
noncomputable def o67 (P:Params):Obj:=⟨.type "code",none,(.fields #[.str "quote" 1842,.str "quote" 1843,.str "/claim/cut.py" 1844,.int 23 0,.int 1 0,.int 0 0,.int 0 0,.int 3 0,.ref 62,.bool true,.int 276 0,.ref 63,.none,.ref 64,.ref 65,.ref 66,.int 1846 0,.int 23 0,.str "/claim/cut.py" 1847]),#[]⟩
noncomputable def o68 (P:Params):Obj:=⟨.type "function",none,(.func { name:="quote",qualname:="quote",params:=sArgs (sAt 17),body:=.stmts (sBody (sAt 17)),scope:=sScope (sAt 17),globals:=3,closure:=[],defaults:=.none,kwdefaults:=.none,doc:=.none,pyModule:=.str "cpy313.email.quoprimime" 1336,annotations:=none,code:=.ref 67,closureTuple:=.none,builtins:=0 }),#[]⟩
noncomputable def o69 (P:Params):Obj:=⟨.type "slice",none,(.fields #[.none,.none,.none]),#[]⟩
noncomputable def o70_1 (P:Params):Obj:=⟨.type "list",none,(.seq #[(.str ⟨#[61,48,48]⟩ 299),(.str ⟨#[61,48,49]⟩ 303),(.str ⟨#[61,48,50]⟩ 307),(.str ⟨#[61,48,51]⟩ 311),(.str ⟨#[61,48,52]⟩ 315),(.str ⟨#[61,48,53]⟩ 319),(.str ⟨#[61,48,54]⟩ 323),(.str ⟨#[61,48,55]⟩ 327),(.str ⟨#[61,48,56]⟩ 331),(.str ⟨#[9]⟩ 1834),(.str ⟨#[10]⟩ 1856),(.str ⟨#[61,48,66]⟩ 343),(.str ⟨#[61,48,67]⟩ 347),(.str ⟨#[13]⟩ 1853),(.str ⟨#[61,48,69]⟩ 355),(.str ⟨#[61,48,70]⟩ 359),(.str ⟨#[61,49,48]⟩ 363),(.str ⟨#[61,49,49]⟩ 367),(.str ⟨#[61,49,50]⟩ 371),(.str ⟨#[61,49,51]⟩ 375),(.str ⟨#[61,49,52]⟩ 379),(.str ⟨#[61,49,53]⟩ 383),(.str ⟨#[61,49,54]⟩ 387),(.str ⟨#[61,49,55]⟩ 391),(.str ⟨#[61,49,56]⟩ 395),(.str ⟨#[61,49,57]⟩ 399),(.str ⟨#[61,49,65]⟩ 403),(.str ⟨#[61,49,66]⟩ 407),(.str ⟨#[61,49,67]⟩ 411),(.str ⟨#[61,49,68]⟩ 415),(.str ⟨#[61,49,69]⟩ 419),(.str ⟨#[61,49,70]⟩ 423),(.str ⟨#[32]⟩ 1552),(.str ⟨#[33]⟩ 1555),(.str ⟨#[34]⟩ 1558),(.str ⟨#[35]⟩ 1561),(.str ⟨#[36]⟩ 1564),(.str ⟨#[37]⟩ 1567),(.str ⟨#[38]⟩ 1570),(.str ⟨#[39]⟩ 1573),(.str ⟨#[40]⟩ 1576),(.str ⟨#[41]⟩ 1579),(.str ⟨#[42]⟩ 1582),(.str ⟨#[43]⟩ 1585),(.str ⟨#[44]⟩ 1588),(.str ⟨#[45]⟩ 1591),(.str ⟨#[46]⟩ 1594),(.str ⟨#[47]⟩ 1597),(.str ⟨#[48]⟩ 1600),(.str ⟨#[49]⟩ 1603),(.str ⟨#[50]⟩ 1606),(.str ⟨#[51]⟩ 1609),(.str ⟨#[52]⟩ 1612),(.str ⟨#[53]⟩ 1615),(.str ⟨#[54]⟩ 1618),(.str ⟨#[55]⟩ 1621),(.str ⟨#[56]⟩ 1624),(.str ⟨#[57]⟩ 1627),(.str ⟨#[58]⟩ 1630),(.str ⟨#[59]⟩ 1633),(.str ⟨#[60]⟩ 1636),(.str ⟨#[61,51,68]⟩ 543),(.str ⟨#[62]⟩ 1639),(.str ⟨#[63]⟩ 1642),(.str ⟨#[64]⟩ 1645),(.str ⟨#[65]⟩ 1648),(.str ⟨#[66]⟩ 1651),(.str ⟨#[67]⟩ 1654),(.str ⟨#[68]⟩ 1657),(.str ⟨#[69]⟩ 1660),(.str ⟨#[70]⟩ 1663),(.str ⟨#[71]⟩ 1666),(.str ⟨#[72]⟩ 1669),(.str ⟨#[73]⟩ 1672),(.str ⟨#[74]⟩ 1675),(.str ⟨#[75]⟩ 1678),(.str ⟨#[76]⟩ 1681),(.str ⟨#[77]⟩ 1684),(.str ⟨#[78]⟩ 1687),(.str ⟨#[79]⟩ 1690),(.str ⟨#[80]⟩ 1693),(.str ⟨#[81]⟩ 1696),(.str ⟨#[82]⟩ 1699),(.str ⟨#[83]⟩ 1702),(.str ⟨#[84]⟩ 1705),(.str ⟨#[85]⟩ 1708),(.str ⟨#[86]⟩ 1711),(.str ⟨#[87]⟩ 1714),(.str ⟨#[88]⟩ 1717),(.str ⟨#[89]⟩ 1720),(.str ⟨#[90]⟩ 1723),(.str ⟨#[91]⟩ 1726),(.str ⟨#[92]⟩ 1729),(.str ⟨#[93]⟩ 1732),(.str ⟨#[94]⟩ 1735),(.str ⟨#[95]⟩ 1738),(.str ⟨#[96]⟩ 1741),(.str ⟨#[97]⟩ 1744),(.str ⟨#[98]⟩ 1747),(.str ⟨#[99]⟩ 1750),(.str ⟨#[100]⟩ 1753),(.str ⟨#[101]⟩ 1756),(.str ⟨#[102]⟩ 1759),(.str ⟨#[103]⟩ 1762),(.str ⟨#[104]⟩ 1765),(.str ⟨#[105]⟩ 1768),(.str ⟨#[106]⟩ 1771),(.str ⟨#[107]⟩ 1774),(.str ⟨#[108]⟩ 1777),(.str ⟨#[109]⟩ 1780),(.str ⟨#[110]⟩ 1783),(.str ⟨#[111]⟩ 1786),(.str ⟨#[112]⟩ 1789),(.str ⟨#[113]⟩ 1792),(.str ⟨#[114]⟩ 1795),(.str ⟨#[115]⟩ 1798),(.str ⟨#[116]⟩ 1801),(.str ⟨#[117]⟩ 1804),(.str ⟨#[118]⟩ 1807),(.str ⟨#[119]⟩ 1810),(.str ⟨#[120]⟩ 1813),(.str ⟨#[121]⟩ 1816),(.str ⟨#[122]⟩ 1819),(.str ⟨#[123]⟩ 1822),(.str ⟨#[124]⟩ 1825),(.str ⟨#[125]⟩ 1828),(.str ⟨#[126]⟩ 1831),(.str ⟨#[61,55,70]⟩ 807),(.str ⟨#[61,56,48]⟩ 811),(.str ⟨#[61,56,49]⟩ 815),(.str ⟨#[61,56,50]⟩ 819),(.str ⟨#[61,56,51]⟩ 823),(.str ⟨#[61,56,52]⟩ 827),(.str ⟨#[61,56,53]⟩ 831),(.str ⟨#[61,56,54]⟩ 835),(.str ⟨#[61,56,55]⟩ 839),(.str ⟨#[61,56,56]⟩ 843),(.str ⟨#[61,56,57]⟩ 847),(.str ⟨#[61,56,65]⟩ 851),(.str ⟨#[61,56,66]⟩ 855),(.str ⟨#[61,56,67]⟩ 859),(.str ⟨#[61,56,68]⟩ 863),(.str ⟨#[61,56,69]⟩ 867),(.str ⟨#[61,56,70]⟩ 871),(.str ⟨#[61,57,48]⟩ 875),(.str ⟨#[61,57,49]⟩ 879),(.str ⟨#[61,57,50]⟩ 883),(.str ⟨#[61,57,51]⟩ 887),(.str ⟨#[61,57,52]⟩ 891),(.str ⟨#[61,57,53]⟩ 895),(.str ⟨#[61,57,54]⟩ 899),(.str ⟨#[61,57,55]⟩ 903),(.str ⟨#[61,57,56]⟩ 907),(.str ⟨#[61,57,57]⟩ 911),(.str ⟨#[61,57,65]⟩ 915),(.str ⟨#[61,57,66]⟩ 919),(.str ⟨#[61,57,67]⟩ 923),(.str ⟨#[61,57,68]⟩ 927),(.str ⟨#[61,57,69]⟩ 931),(.str ⟨#[61,57,70]⟩ 935),(.str ⟨#[61,65,48]⟩ 939),(.str ⟨#[61,65,49]⟩ 943),(.str ⟨#[61,65,50]⟩ 947),(.str ⟨#[61,65,51]⟩ 951),(.str ⟨#[61,65,52]⟩ 955),(.str ⟨#[61,65,53]⟩ 959),(.str ⟨#[61,65,54]⟩ 963),(.str ⟨#[61,65,55]⟩ 967),(.str ⟨#[61,65,56]⟩ 971),(.str ⟨#[61,65,57]⟩ 975),(.str ⟨#[61,65,65]⟩ 979),(.str ⟨#[61,65,66]⟩ 983),(.str ⟨#[61,65,67]⟩ 987),(.str ⟨#[61,65,68]⟩ 991),(.str ⟨#[61,65,69]⟩ 995),(.str ⟨#[61,65,70]⟩ 999),(.str ⟨#[61,66,48]⟩ 1003),(.str ⟨#[61,66,49]⟩ 1007),(.str ⟨#[61,66,50]⟩ 1011),(.str ⟨#[61,66,51]⟩ 1015),(.str ⟨#[61,66,52]⟩ 1019),(.str ⟨#[61,66,53]⟩ 1023),(.str ⟨#[61,66,54]⟩ 1027),(.str ⟨#[61,66,55]⟩ 1031),(.str ⟨#[61,66,56]⟩ 1035),(.str ⟨#[61,66,57]⟩ 1039),(.str ⟨#[61,66,65]⟩ 1043),(.str ⟨#[61,66,66]⟩ 1047),(.str ⟨#[61,66,67]⟩ 1051),(.str ⟨#[61,66,68]⟩ 1055),(.str ⟨#[61,66,69]⟩ 1059),(.str ⟨#[61,66,70]⟩ 1063),(.str ⟨#[61,67,48]⟩ 1067),(.str ⟨#[61,67,49]⟩ 1071),(.str ⟨#[61,67,50]⟩ 1075),(.str ⟨#[61,67,51]⟩ 1079),(.str ⟨#[61,67,52]⟩ 1083),(.str ⟨#[61,67,53]⟩ 1087),(.str ⟨#[61,67,54]⟩ 1091),(.str ⟨#[61,67,55]⟩ 1095),(.str ⟨#[61,67,56]⟩ 1099),(.str ⟨#[61,67,57]⟩ 1103),(.str ⟨#[61,67,65]⟩ 1107),(.str ⟨#[61,67,66]⟩ 1111),(.str ⟨#[61,67,67]⟩ 1115),(.str ⟨#[61,67,68]⟩ 1119),(.str ⟨#[61,67,69]⟩ 1123),(.str ⟨#[61,67,70]⟩ 1127),(.str ⟨#[61,68,48]⟩ 1131),(.str ⟨#[61,68,49]⟩ 1135),(.str ⟨#[61,68,50]⟩ 1139),(.str ⟨#[61,68,51]⟩ 1143),(.str ⟨#[61,68,52]⟩ 1147),(.str ⟨#[61,68,53]⟩ 1151),(.str ⟨#[61,68,54]⟩ 1155),(.str ⟨#[61,68,55]⟩ 1159),(.str ⟨#[61,68,56]⟩ 1163),(.str ⟨#[61,68,57]⟩ 1167),(.str ⟨#[61,68,65]⟩ 1171),(.str ⟨#[61,68,66]⟩ 1175),(.str ⟨#[61,68,67]⟩ 1179),(.str ⟨#[61,68,68]⟩ 1183),(.str ⟨#[61,68,69]⟩ 1187),(.str ⟨#[61,68,70]⟩ 1191),(.str ⟨#[61,69,48]⟩ 1195),(.str ⟨#[61,69,49]⟩ 1199),(.str ⟨#[61,69,50]⟩ 1203),(.str ⟨#[61,69,51]⟩ 1207),(.str ⟨#[61,69,52]⟩ 1211),(.str ⟨#[61,69,53]⟩ 1215),(.str ⟨#[61,69,54]⟩ 1219),(.str ⟨#[61,69,55]⟩ 1223),(.str ⟨#[61,69,56]⟩ 1227),(.str ⟨#[61,69,57]⟩ 1231),(.str ⟨#[61,69,65]⟩ 1235),(.str ⟨#[61,69,66]⟩ 1239),(.str ⟨#[61,69,67]⟩ 1243),(.str ⟨#[61,69,68]⟩ 1247),(.str ⟨#[61,69,69]⟩ 1251),(.str ⟨#[61,69,70]⟩ 1255),(.str ⟨#[61,70,48]⟩ 1259),(.str ⟨#[61,70,49]⟩ 1263),(.str ⟨#[61,70,50]⟩ 1267),(.str ⟨#[61,70,51]⟩ 1271),(.str ⟨#[61,70,52]⟩ 1275),(.str ⟨#[61,70,53]⟩ 1279),(.str ⟨#[61,70,54]⟩ 1283),(.str ⟨#[61,70,55]⟩ 1287),(.str ⟨#[61,70,56]⟩ 1291),(.str ⟨#[61,70,57]⟩ 1295),(.str ⟨#[61,70,65]⟩ 1299),(.str ⟨#[61,70,66]⟩ 1303),(.str ⟨#[61,70,67]⟩ 1307),(.str ⟨#[61,70,68]⟩ 1311),(.str ⟨#[61,70,69]⟩ 1315),(.str ⟨#[61,70,70]⟩ 1319)] 0),#[]⟩
noncomputable def o71 (P:Params):Obj:=⟨.type "bytes_iterator",none,(.fields #[.none,.int 2 0]),#[]⟩
noncomputable def o72 (P:Params):Obj:=⟨.type "tuple",none,(.seq #[] 0),#[]⟩
noncomputable def o73 (P:Params):Obj:=⟨.type "StopIteration",none,(.fields #[.ref 72,.none,.none,.none,.bool false,.none]),#[]⟩
noncomputable def o74 (P:Params):Obj:=⟨.type "tuple",none,(.seq #[.int 76 1857,.str "\n" 291] 0),#[]⟩
noncomputable def o75 (P:Params):Obj:=⟨.type "tuple",none,(.seq #[] 0),#[]⟩
noncomputable def o76 (P:Params):Obj:=⟨.none,none,(.fields #[]),#[]⟩
noncomputable def o77 (P:Params):Obj:=⟨.type "tuple",none,(.seq #[.str "body" 1861,.str "maxlinelen" 1862,.str "eol" 1863,.str "soft_break" 1864,.str "maxlinelen1" 1865,.str "encoded_body" 1866,.str "append" 1867,.str "line" 1868,.str "start" 1869,.str "laststart" 1870,.str "stop" 1871,.str "room" 1872,.str "q" 1873] 0),#[]⟩
noncomputable def o78 (P:Params):Obj:=⟨.type "tuple",none,(.seq #[] 0),#[]⟩
noncomputable def o79 (P:Params):Obj:=⟨.none,none,(.func { name:="body_encode",qualname:="body_encode",params:=sArgs (sAt 21),body:=.stmts (sBody (sAt 21)),scope:=sScope (sAt 21),globals:=0,closure:=[],defaults:=.none,kwdefaults:=.none,doc:=.none,pyModule:=.none,annotations:=none,code:=.none,closureTuple:=.none,builtins:=0 }),#[]⟩
noncomputable def o80 (P:Params):Obj:=⟨.type "code",none,(.fields #[.str "body_encode" 1858,.str "body_encode" 1859,.str "/claim/cut.py" 1860,.int 29 0,.int 3 0,.int 0 0,.int 0 0,.int 3 0,.ref 75,.bool true,.int 276 0,.ref 76,.none,.ref 77,.ref 78,.ref 79,.int 1874 0,.int 29 0,.str "/claim/cut.py" 1875]),#[]⟩
noncomputable def o81 (P:Params):Obj:=⟨.type "function",none,(.func { name:="body_encode",qualname:="body_encode",params:=sArgs (sAt 21),body:=.stmts (sBody (sAt 21)),scope:=sScope (sAt 21),globals:=3,closure:=[],defaults:=.ref 74,kwdefaults:=.none,doc:=.none,pyModule:=.str "cpy313.email.quoprimime" 1336,annotations:=none,code:=.ref 80,closureTuple:=.none,builtins:=0 }),#[]⟩
noncomputable def o82 (P:Params):Obj:=⟨.type "tuple",none,(.seq #[.str "\n" 291] 0),#[]⟩
noncomputable def o83 (P:Params):Obj:=⟨.type "tuple",none,(.seq #[] 0),#[]⟩
noncomputable def o84 (P:Params):Obj:=⟨.none,none,(.fields #[]),#[]⟩
noncomputable def o85 (P:Params):Obj:=⟨.type "tuple",none,(.seq #[.str "encoded" 1880,.str "eol" 1881,.str "decoded" 1882,.str "line" 1883,.str "i" 1884,.str "n" 1885,.str "c" 1886] 0),#[]⟩
noncomputable def o86 (P:Params):Obj:=⟨.type "tuple",none,(.seq #[] 0),#[]⟩
noncomputable def o87 (P:Params):Obj:=⟨.none,none,(.func { name:="decode",qualname:="decode",params:=sArgs (sAt 22),body:=.stmts (sBody (sAt 22)),scope:=sScope (sAt 22),globals:=0,closure:=[],defaults:=.none,kwdefaults:=.none,doc:=.none,pyModule:=.none,annotations:=none,code:=.none,closureTuple:=.none,builtins:=0 }),#[]⟩
noncomputable def o88 (P:Params):Obj:=⟨.type "code",none,(.fields #[.str "decode" 1877,.str "decode" 1878,.str "/claim/cut.py" 1879,.int 67 0,.int 2 0,.int 0 0,.int 0 0,.int 3 0,.ref 83,.bool true,.int 276 0,.ref 84,.none,.ref 85,.ref 86,.ref 87,.int 1887 0,.int 67 0,.str "/claim/cut.py" 1888]),#[]⟩
noncomputable def o89 (P:Params):Obj:=⟨.type "function",none,(.func { name:="decode",qualname:="decode",params:=sArgs (sAt 22),body:=.stmts (sBody (sAt 22)),scope:=sScope (sAt 22),globals:=3,closure:=[],defaults:=.ref 82,kwdefaults:=.none,doc:=.none,pyModule:=.str "cpy313.email.quoprimime" 1336,annotations:=none,code:=.ref 88,closureTuple:=.none,builtins:=0 }),#[]⟩
noncomputable def o90 (P:Params):Obj:=⟨.type "list",none,(.seq #[.int 14 1895,.int 4 1896,.int 0 1897,.int 3 1898,.int 4294967295 1899,.int 6 1900,.int 0 1901,.int 24 1902,.int 9 1903,.int 1 1904,.int 4294967295 1905,.int 13 1906,.int 4 1907,.int 8 1908,.int 14 1909,.int 0 1910,.int 1 1911,.int 16 1912,.int 58 1913,.int 24 1914,.int 9 1915,.int 1 1916,.int 4294967295 1917,.int 13 1918,.int 4 1919,.int 8 1920,.int 14 1921,.int 0 1922,.int 1 1923,.int 6 1924,.int 5 1925,.int 1 1926] 0),#[]⟩
noncomputable def o91 (P:Params):Obj:=⟨.type "dict",none,(.dict #[] 0),#[]⟩
noncomputable def o92 (P:Params):Obj:=⟨.type "tuple",none,(.seq #[.none] 0),#[]⟩
noncomputable def o93 (P:Params):Obj:=⟨.type "tuple",none,(.seq #[.int 14 0,.int 4 0,.int 0 0,.int 3 0,.int 4294967295 0,.int 6 0,.int 0 0,.int 24 0,.int 9 0,.int 1 0,.int 4294967295 0,.int 13 0,.int 4 0,.int 8 0,.int 14 0,.int 0 0,.int 1 0,.int 16 0,.int 58 0,.int 24 0,.int 9 0,.int 1 0,.int 4294967295 0,.int 13 0,.int 4 0,.int 8 0,.int 14 0,.int 0 0,.int 1 0,.int 6 0,.int 5 0,.int 1 0] 0),#[]⟩
noncomputable def o94 (P:Params):Obj:=⟨.type "re.Pattern",none,(.fields #[.str "^\\w+:\\w+$" 1893,.int 32 1928,.int 0 0,.none,.none,.ref 93,.int 0 0]),#[]⟩
noncomputable def o95 (P:Params):Obj:=⟨.type "dict",none,(.dict #[en P "http://www.w3.org/XML/1998/namespace" 1930 (.str "xml" 1931),en P "http://www.w3.org/1999/xhtml" 1932 (.str "html" 1933),en P "http://www.w3.org/1999/02/22-rdf-syntax-ns#" 1934 (.str "rdf" 1935),en P "http://schemas.xmlsoap.org/wsdl/" 1936 (.str "wsdl" 1937),en P "http://www.w3.org/2001/XMLSchema" 1938 (.str "xs" 1939),en P "http://www.w3.org/2001/XMLSchema-in\x73tance" 1940 (.str "xsi" 1941),en P "http://purl.org/dc/elements/1.1/" 1942 (.str "dc" 1943)] 7),#[]⟩
noncomputable def o96 (P:Params):Obj:=⟨.type "tuple",none,(.seq #[] 0),#[]⟩
noncomputable def o97 (P:Params):Obj:=⟨.none,none,(.fields #[]),#[]⟩
noncomputable def o98 (P:Params):Obj:=⟨.type "tuple",none,(.seq #[.str "text" 1955] 0),#[]⟩
noncomputable def o99 (P:Params):Obj:=⟨.type "tuple",none,(.seq #[] 0),#[]⟩
noncomputable def o100 (P:Params):Obj:=⟨.none,none,(.func { name:="_raise_serialization_error",qualname:="_raise_serialization_error",params:=sArgs (sAt 26),body:=.stmts (sBody (sAt 26)),scope:=sScope (sAt 26),globals:=0,closure:=[],defaults:=.none,kwdefaults:=.none,doc:=.none,pyModule:=.none,annotations:=none,code:=.none,closureTuple:=.none,builtins:=0 }),#[]⟩
noncomputable def o101 (P:Params):Obj:=⟨.type "code",none,(.fields #[.str "_raise_serialization_error" 1952,.str "_raise_serialization_error" 1953,.str "/claim/cut.py" 1954,.int 100 0,.int 1 0,.int 0 0,.int 0 0,.int 3 0,.ref 96,.bool true,.int 276 0,.ref 97,.none,.ref 98,.ref 99,.ref 100,.int 1956 0,.int 100 0,.str "/claim/cut.py" 1957]),#[]⟩
noncomputable def o102 (P:Params):Obj:=⟨.type "function",none,(.func { name:="_raise_serialization_error",qualname:="_raise_serialization_error",params:=sArgs (sAt 26),body:=.stmts (sBody (sAt 26)),scope:=sScope (sAt 26),globals:=3,closure:=[],defaults:=.none,kwdefaults:=.none,doc:=.none,pyModule:=.str "cpy313.xml.etree.ElementTree" 1890,annotations:=none,code:=.ref 101,closureTuple:=.none,builtins:=0 }),#[]⟩
noncomputable def o103 (P:Params):Obj:=⟨.type "builtin_function_or_method",none,(.fields #[.builtin "re.Pattern.match",.ref 94]),#[]⟩
noncomputable def o104 (P:Params):Obj:=⟨.type "tuple",none,(.seq #[] 0),#[]⟩
noncomputable def o105 (P:Params):Obj:=⟨.type "builtin_function_or_method",none,(.fields #[.builtin "type.__prepare__",.type "type"]),#[]⟩
noncomputable def o106 (P:Params):Obj:=⟨.type "dict",none,(.dict #[en P "__module__" 1968 (.str "cpy313.xml.etree.ElementTree" 1890),en P "__qualname__" 1970 (.str "C14NWriterTarget" 1969),en P "__firstlineno__" 1972 (.int 103 1971),en P "__init__" 1994 (.ref 118),en P "_iter_namespaces" 2004 (.ref 126),en P "_resolve_prefix_name" 2016 (.ref 133),en P "_qname" 2029 (.ref 141),en P "data" 2037 (.ref 148),en P "_flush" 2050 (.ref 157),en P "start_ns" 2059 (.ref 164),en P "start" 2069 (.ref 171),en P "_start" 2075 (.ref 177),en P "end" 2083 (.ref 184),en P "comment" 2091 (.ref 191),en P "pi" 2100 (.ref 198),en P "__static_attributes__" 2118 (.ref 199)] 16),#[]⟩
noncomputable def o107 (P:Params):Obj:=⟨.type "tuple",none,(.seq #[] 0),#[]⟩
noncomputable def o108 (P:Params):Obj:=⟨.none,none,(.fields #[.int 105 0,.int 4 0,.ref 117,.int 133 0,.int 4 0,.ref 125,.int 138 0,.int 4 0,.ref 132,.int 145 0,.int 4 0,.ref 140,.int 172 0,.int 4 0,.ref 147,.int 176 0,.int 4 0,.ref 156,.int 190 0,.int 4 0,.ref 163,.int 193 0,.int 4 0,.ref 170,.int 206 0,.int 4 0,.ref 176,.int 251 0,.int 4 0,.ref 183,.int 263 0,.int 4 0,.ref 190,.int 276 0,.int 4 0,.ref 197]),#[]⟩
noncomputable def o109 (P:Params):Obj:=⟨.type "code",none,(.fields #[.str "C14NWriterTarget" 1963,.str "C14NWriterTarget" 1964,.str "/claim/cut.py" 1965,.int 103 0,.int 0 0,.int 0 0,.int 0 0,.int 0 0,.ref 107,.bool false,.int 276 0,.ref 108,.none,.none,.none,.none,.int 1966 0,.int 103 0,.str "/claim/cut.py" 1967]),#[]⟩
noncomputable def o110 (P:Params):Obj:=⟨.type "frame",none,.plain,#[(some (.ref 109)),(some (.ref 3)),(some (.ref 106)),none,(some (.str "cpy313.xml.etree.ElementTree" 1890)),none,(some (.ref 0))]⟩
noncomputable def o111 (P:Params):Obj:=⟨.type "dict",none,(.dict #[en P "with_comments" 1973 (.bool false),en P "strip_text" 1974 (.bool false),en P "rewrite_prefixes" 1975 (.bool false),en P "qname_aware_tags" 1976 .none,en P "qname_aware_attrs" 1977 .none,en P "exclude_attrs" 1978 .none,en P "exclude_tags" 1979 .none] 7),#[]⟩
noncomputable def o112 (P:Params):Obj:=⟨.type "tuple",none,(.seq #[] 0),#[]⟩
noncomputable def o113 (P:Params):Obj:=⟨.none,none,(.fields #[]),#[]⟩
noncomputable def o114 (P:Params):Obj:=⟨.type "tuple",none,(.seq #[.str "self" 1983,.str "write" 1984,.str "with_comments" 1985,.str "strip_text" 1986,.str "rewrite_prefixes" 1987,.str "qname_aware_tags" 1988,.str "qname_aware_attrs" 1989,.str "exclude_attrs" 1990,.str "exclude_tags" 1991] 0),#[]⟩
noncomputable def o115 (P:Params):Obj:=⟨.type "tuple",none,(.seq #[] 0),#[]⟩
noncomputable def o116 (P:Params):Obj:=⟨.none,none,(.func { name:="__init__",qualname:="C14NWriterTarget.__init__",params:=sArgs (mAt 28 0),body:=.stmts (sBody (mAt 28 0)),scope:=sScope (mAt 28 0),globals:=0,closure:=[],defaults:=.none,kwdefaults:=.none,doc:=.none,pyModule:=.none,annotations:=none,code:=.none,closureTuple:=.none,builtins:=0 }),#[]⟩
noncomputable def o117 (P:Params):Obj:=⟨.type "code",none,(.fields #[.str "__init__" 1980,.str "C14NWriterTarget.__init__" 1981,.str "/claim/cut.py" 1982,.int 105 0,.int 2 0,.int 0 0,.int 7 0,.int 3 0,.ref 112,.bool true,.int 276 0,.ref 113,.none,.ref 114,.ref 115,.ref 116,.int 1992 0,.int 105 0,.str "/claim/cut.py" 1993]),#[]⟩
noncomputable def o118 (P:Params):Obj:=⟨.type "function",none,(.func { name:="__init__",qualname:="C14NWriterTarget.__init__",params:=sArgs (mAt 28 0),body:=.stmts (sBody (mAt 28 0)),scope:=sScope (mAt 28 0),globals:=3,closure:=[],defaults:=.none,kwdefaults:=.ref 111,doc:=.none,pyModule:=.str "cpy313.xml.etree.ElementTree" 1890,annotations:=none,code:=.ref 117,closureTuple:=.none,builtins:=0 }),#[]⟩
noncomputable def o119 (P:Params):Obj:=⟨.type "tuple",none,(.seq #[.type "reversed"] 0),#[]⟩
noncomputable def o120 (P:Params):Obj:=⟨.type "tuple",none,(.seq #[] 0),#[]⟩
noncomputable def o121 (P:Params):Obj:=⟨.none,none,(.fields #[]),#[]⟩
noncomputable def o122 (P:Params):Obj:=⟨.type "tuple",none,(.seq #[.str "self" 1998,.str "ns_stack" 1999,.str "_reversed" 2000,.str "namespaces" 2001] 0),#[]⟩
noncomputable def o123 (P:Params):Obj:=⟨.type "tuple",none,(.seq #[] 0),#[]⟩
noncomputable def o124 (P:Params):Obj:=⟨.none,none,(.func { name:="_iter_namespaces",qualname:="C14NWriterTarget._iter_namespaces",params:=sArgs (mAt 28 1),body:=.stmts (sBody (mAt 28 1)),scope:=sScope (mAt 28 1),globals:=0,closure:=[],defaults:=.none,kwdefaults:=.none,doc:=.none,pyModule:=.none,annotations:=none,code:=.none,closureTuple:=.none,builtins:=0 }),#[]⟩
noncomputable def o125 (P:Params):Obj:=⟨.type "code",none,(.fields #[.str "_iter_namespaces" 1995,.str "C14NWriterTarget._iter_namespaces" 1996,.str "/claim/cut.py" 1997,.int 133 0,.int 3 0,.int 0 0,.int 0 0,.int 35 0,.ref 120,.bool true,.int 276 0,.ref 121,.none,.ref 122,.ref 123,.ref 124,.int 2002 0,.int 133 0,.str "/claim/cut.py" 2003]),#[]⟩
noncomputable def o126 (P:Params):Obj:=⟨.type "function",none,(.func { name:="_iter_namespaces",qualname:="C14NWriterTarget._iter_namespaces",params:=sArgs (mAt 28 1),body:=.stmts (sBody (mAt 28 1)),scope:=sScope (mAt 28 1),globals:=3,closure:=[],defaults:=.ref 119,kwdefaults:=.none,doc:=.none,pyModule:=.str "cpy313.xml.etree.ElementTree" 1890,annotations:=none,code:=.ref 125,closureTuple:=.none,builtins:=0 }),#[]⟩
noncomputable def o127 (P:Params):Obj:=⟨.type "tuple",none,(.seq #[] 0),#[]⟩
noncomputable def o128 (P:Params):Obj:=⟨.none,none,(.fields #[]),#[]⟩
noncomputable def o129 (P:Params):Obj:=⟨.type "tuple",none,(.seq #[.str "self" 2008,.str "prefixed_name" 2009,.str "prefix" 2010,.str "name" 2011,.str "uri" 2012,.str "p" 2013] 0),#[]⟩
noncomputable def o130 (P:Params):Obj:=⟨.type "tuple",none,(.seq #[] 0),#[]⟩
noncomputable def o131 (P:Params):Obj:=⟨.none,none,(.func { name:="_resolve_prefix_name",qualname:="C14NWriterTarget._resolve_prefix_name",params:=sArgs (mAt 28 2),body:=.stmts (sBody (mAt 28 2)),scope:=sScope (mAt 28 2),globals:=0,closure:=[],defaults:=.none,kwdefaults:=.none,doc:=.none,pyModule:=.none,annotations:=none,code:=.none,closureTuple:=.none,builtins:=0 }),#[]⟩
noncomputable def o132 (P:Params):Obj:=⟨.type "code",none,(.fields #[.str "_resolve_prefix_name" 2005,.str "C14NWriterTarget._resolve_prefix_name" 2006,.str "/claim/cut.py" 2007,.int 138 0,.int 2 0,.int 0 0,.int 0 0,.int 3 0,.ref 127,.bool true,.int 276 0,.ref 128,.none,.ref 129,.ref 130,.ref 131,.int 2014 0,.int 138 0,.str "/claim/cut.py" 2015]),#[]⟩
noncomputable def o133 (P:Params):Obj:=⟨.type "function",none,(.func { name:="_resolve_prefix_name",qualname:="C14NWriterTarget._resolve_prefix_name",params:=sArgs (mAt 28 2),body:=.stmts (sBody (mAt 28 2)),scope:=sScope (mAt 28 2),globals:=3,closure:=[],defaults:=.none,kwdefaults:=.none,doc:=.none,pyModule:=.str "cpy313.xml.etree.ElementTree" 1890,annotations:=none,code:=.ref 132,closureTuple:=.none,builtins:=0 }),#[]⟩
noncomputable def o134 (P:Params):Obj:=⟨.type "tuple",none,(.seq #[.none] 0),#[]⟩
noncomputable def o135 (P:Params):Obj:=⟨.type "tuple",none,(.seq #[] 0),#[]⟩
noncomputable def o136 (P:Params):Obj:=⟨.none,none,(.fields #[]),#[]⟩
noncomputable def o137 (P:Params):Obj:=⟨.type "tuple",none,(.seq #[.str "self" 2020,.str "qname" 2021,.str "uri" 2022,.str "tag" 2023,.str "prefixes_seen" 2024,.str "u" 2025,.str "prefix" 2026] 0),#[]⟩
noncomputable def o138 (P:Params):Obj:=⟨.type "tuple",none,(.seq #[] 0),#[]⟩
noncomputable def o139 (P:Params):Obj:=⟨.none,none,(.func { name:="_qname",qualname:="C14NWriterTarget._qname",params:=sArgs (mAt 28 3),body:=.stmts (sBody (mAt 28 3)),scope:=sScope (mAt 28 3),globals:=0,closure:=[],defaults:=.none,kwdefaults:=.none,doc:=.none,pyModule:=.none,annotations:=none,code:=.none,closureTuple:=.none,builtins:=0 }),#[]⟩
noncomputable def o140 (P:Params):Obj:=⟨.type "code",none,(.fields #[.str "_qname" 2017,.str "C14NWriterTarget._qname" 2018,.str "/claim/cut.py" 2019,.int 145 0,.int 3 0,.int 0 0,.int 0 0,.int 3 0,.ref 135,.bool true,.int 276 0,.ref 136,.none,.ref 137,.ref 138,.ref 139,.int 2027 0,.int 145 0,.str "/claim/cut.py" 2028]),#[]⟩
noncomputable def o141 (P:Params):Obj:=⟨.type "function",none,(.func { name:="_qname",qualname:="C14NWriterTarget._qname",params:=sArgs (mAt 28 3),body:=.stmts (sBody (mAt 28 3)),scope:=sScope (mAt 28 3),globals:=3,closure:=[],defaults:=.ref 134,kwdefaults:=.none,doc:=.none,pyModule:=.str "cpy313.xml.etree.ElementTree" 1890,annotations:=none,code:=.ref 140,closureTuple:=.none,builtins:=0 }),#[]⟩
noncomputable def o142 (P:Params):Obj:=⟨.type "tuple",none,(.seq #[] 0),#[]⟩
noncomputable def o143 (P:Params):Obj:=⟨.none,none,(.fields #[]),#[]⟩
noncomputable def o144 (P:Params):Obj:=⟨.type "tuple",none,(.seq #[.str "self" 2033,.str "data" 2034] 0),#[]⟩
noncomputable def o145 (P:Params):Obj:=⟨.type "tuple",none,(.seq #[] 0),#[]⟩
noncomputable def o146 (P:Params):Obj:=⟨.none,none,(.func { name:="data",qualname:="C14NWriterTarget.data",params:=sArgs (mAt 28 4),body:=.stmts (sBody (mAt 28 4)),scope:=sScope (mAt 28 4),globals:=0,closure:=[],defaults:=.none,kwdefaults:=.none,doc:=.none,pyModule:=.none,annotations:=none,code:=.none,closureTuple:=.none,builtins:=0 }),#[]⟩
noncomputable def o147 (P:Params):Obj:=⟨.type "code",none,(.fields #[.str "data" 2030,.str "C14NWriterTarget.data" 2031,.str "/claim/cut.py" 2032,.int 172 0,.int 2 0,.int 0 0,.int 0 0,.int 3 0,.ref 142,.bool true,.int 276 0,.ref 143,.none,.ref 144,.ref 145,.ref 146,.int 2035 0,.int 172 0,.str "/claim/cut.py" 2036]),#[]⟩
noncomputable def o148 (P:Params):Obj:=⟨.type "function",none,(.func { name:="data",qualname:="C14NWriterTarget.data",params:=sArgs (mAt 28 4),body:=.stmts (sBody (mAt 28 4)),scope:=sScope (mAt 28 4),globals:=3,closure:=[],defaults:=.none,kwdefaults:=.none,doc:=.none,pyModule:=.str "cpy313.xml.etree.ElementTree" 1890,annotations:=none,code:=.ref 147,closureTuple:=.none,builtins:=0 }),#[]⟩
noncomputable def o149 (P:Params):Obj:=⟨.type "builtin_function_or_method",none,(.fields #[.builtin "str.join",.str "" 2038]),#[]⟩
noncomputable def o150 (P:Params):Obj:=⟨.type "tuple",none,(.seq #[.ref 149] 0),#[]⟩
noncomputable def o151 (P:Params):Obj:=⟨.type "tuple",none,(.seq #[] 0),#[]⟩
noncomputable def o152 (P:Params):Obj:=⟨.none,none,(.fields #[]),#[]⟩
noncomputable def o153 (P:Params):Obj:=⟨.type "tuple",none,(.seq #[.str "self" 2043,.str "_join_text" 2044,.str "data" 2045,.str "args" 2046,.str "qname_text" 2047] 0),#[]⟩
noncomputable def o154 (P:Params):Obj:=⟨.type "tuple",none,(.seq #[] 0),#[]⟩
noncomputable def o155 (P:Params):Obj:=⟨.none,none,(.func { name:="_flush",qualname:="C14NWriterTarget._flush",params:=sArgs (mAt 28 5),body:=.stmts (sBody (mAt 28 5)),scope:=sScope (mAt 28 5),globals:=0,closure:=[],defaults:=.none,kwdefaults:=.none,doc:=.none,pyModule:=.none,annotations:=none,code:=.none,closureTuple:=.none,builtins:=0 }),#[]⟩
noncomputable def o156 (P:Params):Obj:=⟨.type "code",none,(.fields #[.str "_flush" 2040,.str "C14NWriterTarget._flush" 2041,.str "/claim/cut.py" 2042,.int 176 0,.int 2 0,.int 0 0,.int 0 0,.int 3 0,.ref 151,.bool true,.int 276 0,.ref 152,.none,.ref 153,.ref 154,.ref 155,.int 2048 0,.int 176 0,.str "/claim/cut.py" 2049]),#[]⟩
noncomputable def o157 (P:Params):Obj:=⟨.type "function",none,(.func { name:="_flush",qualname:="C14NWriterTarget._flush",params:=sArgs (mAt 28 5),body:=.stmts (sBody (mAt 28 5)),scope:=sScope (mAt 28 5),globals:=3,closure:=[],defaults:=.ref 150,kwdefaults:=.none,doc:=.none,pyModule:=.str "cpy313.xml.etree.ElementTree" 1890,annotations:=none,code:=.ref 156,closureTuple:=.none,builtins:=0 }),#[]⟩
noncomputable def o158 (P:Params):Obj:=⟨.type "tuple",none,(.seq #[] 0),#[]⟩
noncomputable def o159 (P:Params):Obj:=⟨.none,none,(.fields #[]),#[]⟩
noncomputable def o160 (P:Params):Obj:=⟨.type "tuple",none,(.seq #[.str "self" 2054,.str "prefix" 2055,.str "uri" 2056] 0),#[]⟩
noncomputable def o161 (P:Params):Obj:=⟨.type "tuple",none,(.seq #[] 0),#[]⟩
noncomputable def o162 (P:Params):Obj:=⟨.none,none,(.func { name:="start_ns",qualname:="C14NWriterTarget.start_ns",params:=sArgs (mAt 28 6),body:=.stmts (sBody (mAt 28 6)),scope:=sScope (mAt 28 6),globals:=0,closure:=[],defaults:=.none,kwdefaults:=.none,doc:=.none,pyModule:=.none,annotations:=none,code:=.none,closureTuple:=.none,builtins:=0 }),#[]⟩
noncomputable def o163 (P:Params):Obj:=⟨.type "code",none,(.fields #[.str "start_ns" 2051,.str "C14NWriterTarget.start_ns" 2052,.str "/claim/cut.py" 2053,.int 190 0,.int 3 0,.int 0 0,.int 0 0,.int 3 0,.ref 158,.bool true,.int 276 0,.ref 159,.none,.ref 160,.ref 161,.ref 162,.int 2057 0,.int 190 0,.str "/claim/cut.py" 2058]),#[]⟩
noncomputable def o164 (P:Params):Obj:=⟨.type "function",none,(.func { name:="start_ns",qualname:="C14NWriterTarget.start_ns",params:=sArgs (mAt 28 6),body:=.stmts (sBody (mAt 28 6)),scope:=sScope (mAt 28 6),globals:=3,closure:=[],defaults:=.none,kwdefaults:=.none,doc:=.none,pyModule:=.str "cpy313.xml.etree.ElementTree" 1890,annotations:=none,code:=.ref 163,closureTuple:=.none,builtins:=0 }),#[]⟩
noncomputable def o165 (P:Params):Obj:=⟨.type "tuple",none,(.seq #[] 0),#[]⟩
noncomputable def o166 (P:Params):Obj:=⟨.none,none,(.fields #[]),#[]⟩
noncomputable def o167 (P:Params):Obj:=⟨.type "tuple",none,(.seq #[.str "self" 2063,.str "tag" 2064,.str "attrs" 2065,.str "new_namespaces" 2066] 0),#[]⟩
noncomputable def o168 (P:Params):Obj:=⟨.type "tuple",none,(.seq #[] 0),#[]⟩
noncomputable def o169 (P:Params):Obj:=⟨.none,none,(.func { name:="start",qualname:="C14NWriterTarget.start",params:=sArgs (mAt 28 7),body:=.stmts (sBody (mAt 28 7)),scope:=sScope (mAt 28 7),globals:=0,closure:=[],defaults:=.none,kwdefaults:=.none,doc:=.none,pyModule:=.none,annotations:=none,code:=.none,closureTuple:=.none,builtins:=0 }),#[]⟩
noncomputable def o170 (P:Params):Obj:=⟨.type "code",none,(.fields #[.str "start" 2060,.str "C14NWriterTarget.start" 2061,.str "/claim/cut.py" 2062,.int 193 0,.int 3 0,.int 0 0,.int 0 0,.int 3 0,.ref 165,.bool true,.int 276 0,.ref 166,.none,.ref 167,.ref 168,.ref 169,.int 2067 0,.int 193 0,.str "/claim/cut.py" 2068]),#[]⟩
noncomputable def o171 (P:Params):Obj:=⟨.type "function",none,(.func { name:="start",qualname:="C14NWriterTarget.start",params:=sArgs (mAt 28 7),body:=.stmts (sBody (mAt 28 7)),scope:=sScope (mAt 28 7),globals:=3,closure:=[],defaults:=.none,kwdefaults:=.none,doc:=.none,pyModule:=.str "cpy313.xml.etree.ElementTree" 1890,annotations:=none,code:=.ref 170,closureTuple:=.none,builtins:=0 }),#[]⟩
noncomputable def o172 (P:Params):Obj:=⟨.type "tuple",none,(.seq #[.none] 0),#[]⟩
noncomputable def o173 (P:Params):Obj:=⟨.type "tuple",none,(.seq #[] 0),#[]⟩
noncomputable def o174 (P:Params):Obj:=⟨.none,none,(.fields #[]),#[]⟩
noncomputable def o175 (P:Params):Obj:=⟨.none,none,(.func { name:="_start",qualname:="C14NWriterTarget._start",params:=sArgs (mAt 28 8),body:=.stmts (sBody (mAt 28 8)),scope:=sScope (mAt 28 8),globals:=0,closure:=[],defaults:=.none,kwdefaults:=.none,doc:=.none,pyModule:=.none,annotations:=none,code:=.none,closureTuple:=.none,builtins:=0 }),#[]⟩
noncomputable def o176 (P:Params):Obj:=⟨.type "code",none,(.fields #[.str "_start" 2070,.str "C14NWriterTarget._start" 2071,.str "/claim/cut.py" 2072,.int 206 0,.int 5 0,.int 0 0,.int 0 0,.int 3 0,.ref 173,.bool true,.int 276 0,.ref 174,.none,.none,.none,.ref 175,.int 2073 0,.int 206 0,.str "/claim/cut.py" 2074]),#[]⟩
noncomputable def o177 (P:Params):Obj:=⟨.type "function",none,(.func { name:="_start",qualname:="C14NWriterTarget._start",params:=sArgs (mAt 28 8),body:=.stmts (sBody (mAt 28 8)),scope:=sScope (mAt 28 8),globals:=3,closure:=[],defaults:=.ref 172,kwdefaults:=.none,doc:=.none,pyModule:=.str "cpy313.xml.etree.ElementTree" 1890,annotations:=none,code:=.ref 176,closureTuple:=.none,builtins:=0 }),#[]⟩
noncomputable def o178 (P:Params):Obj:=⟨.type "tuple",none,(.seq #[] 0),#[]⟩
noncomputable def o179 (P:Params):Obj:=⟨.none,none,(.fields #[]),#[]⟩
noncomputable def o180 (P:Params):Obj:=⟨.type "tuple",none,(.seq #[.str "self" 2079,.str "tag" 2080] 0),#[]⟩
noncomputable def o181 (P:Params):Obj:=⟨.type "tuple",none,(.seq #[] 0),#[]⟩
noncomputable def o182 (P:Params):Obj:=⟨.none,none,(.func { name:="end",qualname:="C14NWriterTarget.end",params:=sArgs (mAt 28 9),body:=.stmts (sBody (mAt 28 9)),scope:=sScope (mAt 28 9),globals:=0,closure:=[],defaults:=.none,kwdefaults:=.none,doc:=.none,pyModule:=.none,annotations:=none,code:=.none,closureTuple:=.none,builtins:=0 }),#[]⟩
noncomputable def o183 (P:Params):Obj:=⟨.type "code",none,(.fields #[.str "end" 2076,.str "C14NWriterTarget.end" 2077,.str "/claim/cut.py" 2078,.int 251 0,.int 2 0,.int 0 0,.int 0 0,.int 3 0,.ref 178,.bool true,.int 276 0,.ref 179,.none,.ref 180,.ref 181,.ref 182,.int 2081 0,.int 251 0,.str "/claim/cut.py" 2082]),#[]⟩
noncomputable def o184 (P:Params):Obj:=⟨.type "function",none,(.func { name:="end",qualname:="C14NWriterTarget.end",params:=sArgs (mAt 28 9),body:=.stmts (sBody (mAt 28 9)),scope:=sScope (mAt 28 9),globals:=3,closure:=[],defaults:=.none,kwdefaults:=.none,doc:=.none,pyModule:=.str "cpy313.xml.etree.ElementTree" 1890,annotations:=none,code:=.ref 183,closureTuple:=.none,builtins:=0 }),#[]⟩
noncomputable def o185 (P:Params):Obj:=⟨.type "tuple",none,(.seq #[] 0),#[]⟩
noncomputable def o186 (P:Params):Obj:=⟨.none,none,(.fields #[]),#[]⟩
noncomputable def o187 (P:Params):Obj:=⟨.type "tuple",none,(.seq #[.str "self" 2087,.str "text" 2088] 0),#[]⟩
noncomputable def o188 (P:Params):Obj:=⟨.type "tuple",none,(.seq #[] 0),#[]⟩
noncomputable def o189 (P:Params):Obj:=⟨.none,none,(.func { name:="comment",qualname:="C14NWriterTarget.comment",params:=sArgs (mAt 28 10),body:=.stmts (sBody (mAt 28 10)),scope:=sScope (mAt 28 10),globals:=0,closure:=[],defaults:=.none,kwdefaults:=.none,doc:=.none,pyModule:=.none,annotations:=none,code:=.none,closureTuple:=.none,builtins:=0 }),#[]⟩
noncomputable def o190 (P:Params):Obj:=⟨.type "code",none,(.fields #[.str "comment" 2084,.str "C14NWriterTarget.comment" 2085,.str "/claim/cut.py" 2086,.int 263 0,.int 2 0,.int 0 0,.int 0 0,.int 3 0,.ref 185,.bool true,.int 276 0,.ref 186,.none,.ref 187,.ref 188,.ref 189,.int 2089 0,.int 263 0,.str "/claim/cut.py" 2090]),#[]⟩
noncomputable def o191 (P:Params):Obj:=⟨.type "function",none,(.func { name:="comment",qualname:="C14NWriterTarget.comment",params:=sArgs (mAt 28 10),body:=.stmts (sBody (mAt 28 10)),scope:=sScope (mAt 28 10),globals:=3,closure:=[],defaults:=.none,kwdefaults:=.none,doc:=.none,pyModule:=.str "cpy313.xml.etree.ElementTree" 1890,annotations:=none,code:=.ref 190,closureTuple:=.none,builtins:=0 }),#[]⟩
noncomputable def o192 (P:Params):Obj:=⟨.type "tuple",none,(.seq #[] 0),#[]⟩
noncomputable def o193 (P:Params):Obj:=⟨.none,none,(.fields #[]),#[]⟩
noncomputable def o194 (P:Params):Obj:=⟨.type "tuple",none,(.seq #[.str "self" 2095,.str "target" 2096,.str "data" 2097] 0),#[]⟩
noncomputable def o195 (P:Params):Obj:=⟨.type "tuple",none,(.seq #[] 0),#[]⟩
noncomputable def o196 (P:Params):Obj:=⟨.none,none,(.func { name:="pi",qualname:="C14NWriterTarget.pi",params:=sArgs (mAt 28 11),body:=.stmts (sBody (mAt 28 11)),scope:=sScope (mAt 28 11),globals:=0,closure:=[],defaults:=.none,kwdefaults:=.none,doc:=.none,pyModule:=.none,annotations:=none,code:=.none,closureTuple:=.none,builtins:=0 }),#[]⟩
noncomputable def o197 (P:Params):Obj:=⟨.type "code",none,(.fields #[.str "pi" 2092,.str "C14NWriterTarget.pi" 2093,.str "/claim/cut.py" 2094,.int 276 0,.int 3 0,.int 0 0,.int 0 0,.int 3 0,.ref 192,.bool true,.int 276 0,.ref 193,.none,.ref 194,.ref 195,.ref 196,.int 2098 0,.int 276 0,.str "/claim/cut.py" 2099]),#[]⟩
noncomputable def o198 (P:Params):Obj:=⟨.type "function",none,(.func { name:="pi",qualname:="C14NWriterTarget.pi",params:=sArgs (mAt 28 11),body:=.stmts (sBody (mAt 28 11)),scope:=sScope (mAt 28 11),globals:=3,closure:=[],defaults:=.none,kwdefaults:=.none,doc:=.none,pyModule:=.str "cpy313.xml.etree.ElementTree" 1890,annotations:=none,code:=.ref 197,closureTuple:=.none,builtins:=0 }),#[]⟩
noncomputable def o199 (P:Params):Obj:=⟨.type "tuple",none,(.seq #[.str "_data" 2101,.str "_declared_ns_stack" 2102,.str "_exclude_attrs" 2103,.str "_exclude_tags" 2104,.str "_find_qname_aware_attrs" 2105,.str "_ignored_depth" 2106,.str "_ns_stack" 2107,.str "_pending_start" 2108,.str "_prefix_map" 2109,.str "_preserve_space" 2110,.str "_qname_aware_tags" 2111,.str "_rewrite_prefixes" 2112,.str "_root_done" 2113,.str "_root_seen" 2114,.str "_strip_text" 2115,.str "_with_comments" 2116,.str "_write" 2117] 0),#[]⟩
noncomputable def o200 (P:Params):Obj:=⟨.type "dict",none,(.dict #[en P "__module__" 1968 (.str "cpy313.xml.etree.ElementTree" 1890),en P "__firstlineno__" 1972 (.int 103 1971),en P "__init__" 1994 (.ref 118),en P "_iter_namespaces" 2004 (.ref 126),en P "_resolve_prefix_name" 2016 (.ref 133),en P "_qname" 2029 (.ref 141),en P "data" 2037 (.ref 148),en P "_flush" 2050 (.ref 157),en P "start_ns" 2059 (.ref 164),en P "start" 2069 (.ref 171),en P "_start" 2075 (.ref 177),en P "end" 2083 (.ref 184),en P "comment" 2091 (.ref 191),en P "pi" 2100 (.ref 198),en P "__static_attributes__" 2118 (.ref 199),en P "__dict__" 2120 (.ref 202),en P "__weakref__" 2122 (.ref 203),en P "__doc__" 2123 .none] 4),#[]⟩
noncomputable def o201 (P:Params):Obj:=⟨.type "type",none,(.cls { name:="C14NWriterTarget",bases:=[.type "object"],mro:=[.ref 201,.type "object"],ns:=200,qualname:="C14NWriterTarget",hasDict:=true,slotNames:=[],subclasses:=[],abstract:=false,collection:=none,hasDel:=false }),#[none,none,(some (.str "C14NWriterTarget" 1961)),(some (.str "C14NWriterTarget" 1969)),(some (.builtin "object.__new__")),(some (.bool true))]⟩
noncomputable def o202 (P:Params):Obj:=⟨.type "getset_descriptor",none,(.fields #[.str "__dict__" 2119,.ref 201,.builtin "function.__dict__",.builtin "function.__dict__#set"]),#[]⟩
noncomputable def o203 (P:Params):Obj:=⟨.type "getset_descriptor",none,(.fields #[.str "__weakref__" 2121,.ref 201,.builtin "ExceptionGroup.__weakref__",.none]),#[]⟩
noncomputable def o204 (P:Params):Obj:=⟨.type "super",none,(.fields #[.ref 201,.ref 201,.ref 201]),#[]⟩
noncomputable def o205 (P:Params):Obj:=⟨.type "builtin_function_or_method",none,(.fields #[.builtin "object.__init_subclass__",.ref 201]),#[]⟩
noncomputable def o206 (P:Params):Obj:=⟨.type "tuple",none,(.seq #[] 0),#[]⟩
noncomputable def o207 (P:Params):Obj:=⟨.none,none,(.fields #[]),#[]⟩
noncomputable def o208 (P:Params):Obj:=⟨.type "tuple",none,(.seq #[.str "text" 2129] 0),#[]⟩
noncomputable def o209 (P:Params):Obj:=⟨.type "tuple",none,(.seq #[] 0),#[]⟩
noncomputable def o210 (P:Params):Obj:=⟨.none,none,(.func { name:="_escape_cdata_c14n",qualname:="_escape_cdata_c14n",params:=sArgs (sAt 29),body:=.stmts (sBody (sAt 29)),scope:=sScope (sAt 29),globals:=0,closure:=[],defaults:=.none,kwdefaults:=.none,doc:=.none,pyModule:=.none,annotations:=none,code:=.none,closureTuple:=.none,builtins:=0 }),#[]⟩
noncomputable def o211 (P:Params):Obj:=⟨.type "code",none,(.fields #[.str "_escape_cdata_c14n" 2126,.str "_escape_cdata_c14n" 2127,.str "/claim/cut.py" 2128,.int 286 0,.int 1 0,.int 0 0,.int 0 0,.int 3 0,.ref 206,.bool true,.int 276 0,.ref 207,.none,.ref 208,.ref 209,.ref 210,.int 2130 0,.int 286 0,.str "/claim/cut.py" 2131]),#[]⟩
noncomputable def o212 (P:Params):Obj:=⟨.type "function",none,(.func { name:="_escape_cdata_c14n",qualname:="_escape_cdata_c14n",params:=sArgs (sAt 29),body:=.stmts (sBody (sAt 29)),scope:=sScope (sAt 29),globals:=3,closure:=[],defaults:=.none,kwdefaults:=.none,doc:=.none,pyModule:=.str "cpy313.xml.etree.ElementTree" 1890,annotations:=none,code:=.ref 211,closureTuple:=.none,builtins:=0 }),#[]⟩
noncomputable def o213 (P:Params):Obj:=⟨.type "tuple",none,(.seq #[] 0),#[]⟩
noncomputable def o214 (P:Params):Obj:=⟨.none,none,(.fields #[]),#[]⟩
noncomputable def o215 (P:Params):Obj:=⟨.type "tuple",none,(.seq #[.str "text" 2136] 0),#[]⟩
noncomputable def o216 (P:Params):Obj:=⟨.type "tuple",none,(.seq #[] 0),#[]⟩
noncomputable def o217 (P:Params):Obj:=⟨.none,none,(.func { name:="_escape_attrib_c14n",qualname:="_escape_attrib_c14n",params:=sArgs (sAt 30),body:=.stmts (sBody (sAt 30)),scope:=sScope (sAt 30),globals:=0,closure:=[],defaults:=.none,kwdefaults:=.none,doc:=.none,pyModule:=.none,annotations:=none,code:=.none,closureTuple:=.none,builtins:=0 }),#[]⟩
noncomputable def o218 (P:Params):Obj:=⟨.type "code",none,(.fields #[.str "_escape_attrib_c14n" 2133,.str "_escape_attrib_c14n" 2134,.str "/claim/cut.py" 2135,.int 299 0,.int 1 0,.int 0 0,.int 0 0,.int 3 0,.ref 213,.bool true,.int 276 0,.ref 214,.none,.ref 215,.ref 216,.ref 217,.int 2137 0,.int 299 0,.str "/claim/cut.py" 2138]),#[]⟩
noncomputable def o219 (P:Params):Obj:=⟨.type "function",none,(.func { name:="_escape_attrib_c14n",qualname:="_escape_attrib_c14n",params:=sArgs (sAt 30),body:=.stmts (sBody (sAt 30)),scope:=sScope (sAt 30),globals:=3,closure:=[],defaults:=.none,kwdefaults:=.none,doc:=.none,pyModule:=.str "cpy313.xml.etree.ElementTree" 1890,annotations:=none,code:=.ref 218,closureTuple:=.none,builtins:=0 }),#[]⟩
noncomputable def o220 (P:Params):Obj:=⟨.type "tuple",none,(.seq #[] 0),#[]⟩
noncomputable def o221 (P:Params):Obj:=⟨.none,none,(.fields #[]),#[]⟩
noncomputable def o222 (P:Params):Obj:=⟨.none,none,(.func { name:="_law_spelled",qualname:="_law_spelled",params:=sArgs (sAt 32),body:=.stmts (sBody (sAt 32)),scope:=sScope (sAt 32),globals:=0,closure:=[],defaults:=.none,kwdefaults:=.none,doc:=.none,pyModule:=.none,annotations:=none,code:=.none,closureTuple:=.none,builtins:=0 }),#[]⟩
noncomputable def o223 (P:Params):Obj:=⟨.type "code",none,(.fields #[.str "_law_spelled" 2142,.str "_law_spelled" 2143,.str "/claim/cut.py" 2144,.int 317 0,.int 2 0,.int 0 0,.int 0 0,.int 3 0,.ref 220,.bool true,.int 276 0,.ref 221,.none,.none,.none,.ref 222,.int 2145 0,.int 317 0,.str "/claim/cut.py" 2146]),#[]⟩
noncomputable def o224 (P:Params):Obj:=⟨.type "function",none,(.func { name:="_law_spelled",qualname:="_law_spelled",params:=sArgs (sAt 32),body:=.stmts (sBody (sAt 32)),scope:=sScope (sAt 32),globals:=3,closure:=[],defaults:=.none,kwdefaults:=.none,doc:=.none,pyModule:=.str "law_re0182_01" 2140,annotations:=none,code:=.ref 223,closureTuple:=.none,builtins:=0 }),#[]⟩
noncomputable def o225 (P:Params):Obj:=⟨.type "tuple",none,(.seq #[] 0),#[]⟩
noncomputable def o226 (P:Params):Obj:=⟨.none,none,(.fields #[]),#[]⟩
noncomputable def o227 (P:Params):Obj:=⟨.type "tuple",none,(.seq #[.str "value" 2151,.str "place" 2152,.str "mail" 2153,.str "text" 2154,.str "in_values" 2155,.str "in_texts" 2156,.str "due" 2157] 0),#[]⟩
noncomputable def o228 (P:Params):Obj:=⟨.type "tuple",none,(.seq #[] 0),#[]⟩
noncomputable def o229 (P:Params):Obj:=⟨.none,none,(.func { name:="_law_document",qualname:="_law_document",params:=sArgs (sAt 33),body:=.stmts (sBody (sAt 33)),scope:=sScope (sAt 33),globals:=0,closure:=[],defaults:=.none,kwdefaults:=.none,doc:=.none,pyModule:=.none,annotations:=none,code:=.none,closureTuple:=.none,builtins:=0 }),#[]⟩
noncomputable def o230 (P:Params):Obj:=⟨.type "code",none,(.fields #[.str "_law_document" 2148,.str "_law_document" 2149,.str "/claim/cut.py" 2150,.int 319 0,.int 4 0,.int 0 0,.int 0 0,.int 3 0,.ref 225,.bool true,.int 276 0,.ref 226,.none,.ref 227,.ref 228,.ref 229,.int 2158 0,.int 319 0,.str "/claim/cut.py" 2159]),#[]⟩
noncomputable def o231 (P:Params):Obj:=⟨.type "function",none,(.func { name:="_law_document",qualname:="_law_document",params:=sArgs (sAt 33),body:=.stmts (sBody (sAt 33)),scope:=sScope (sAt 33),globals:=3,closure:=[],defaults:=.none,kwdefaults:=.none,doc:=.none,pyModule:=.str "law_re0182_01" 2140,annotations:=none,code:=.ref 230,closureTuple:=.none,builtins:=0 }),#[]⟩
noncomputable def o232 (P:Params):Obj:=⟨.type "tuple",none,(.seq #[] 0),#[]⟩
noncomputable def o233 (P:Params):Obj:=⟨.none,none,(.fields #[]),#[]⟩
noncomputable def o234 (P:Params):Obj:=⟨.type "tuple",none,(.seq #[.str "value" 2164,.str "place" 2165,.str "mail" 2166,.str "text" 2167,.str "out" 2168,.str "target" 2169] 0),#[]⟩
noncomputable def o235 (P:Params):Obj:=⟨.type "tuple",none,(.seq #[] 0),#[]⟩
noncomputable def o236 (P:Params):Obj:=⟨.none,none,(.func { name:="_law_told",qualname:="_law_told",params:=sArgs (sAt 34),body:=.stmts (sBody (sAt 34)),scope:=sScope (sAt 34),globals:=0,closure:=[],defaults:=.none,kwdefaults:=.none,doc:=.none,pyModule:=.none,annotations:=none,code:=.none,closureTuple:=.none,builtins:=0 }),#[]⟩
noncomputable def o237 (P:Params):Obj:=⟨.type "code",none,(.fields #[.str "_law_told" 2161,.str "_law_told" 2162,.str "/claim/cut.py" 2163,.int 334 0,.int 4 0,.int 0 0,.int 0 0,.int 3 0,.ref 232,.bool true,.int 276 0,.ref 233,.none,.ref 234,.ref 235,.ref 236,.int 2170 0,.int 334 0,.str "/claim/cut.py" 2171]),#[]⟩
noncomputable def o238 (P:Params):Obj:=⟨.type "function",none,(.func { name:="_law_told",qualname:="_law_told",params:=sArgs (sAt 34),body:=.stmts (sBody (sAt 34)),scope:=sScope (sAt 34),globals:=3,closure:=[],defaults:=.none,kwdefaults:=.none,doc:=.none,pyModule:=.str "law_re0182_01" 2140,annotations:=none,code:=.ref 237,closureTuple:=.none,builtins:=0 }),#[]⟩
noncomputable def o239 (P:Params):Obj:=⟨.type "tuple",none,(.seq #[] 0),#[]⟩
noncomputable def o240 (P:Params):Obj:=⟨.none,none,(.fields #[]),#[]⟩
noncomputable def o241 (P:Params):Obj:=⟨.type "tuple",none,(.seq #[.str "sign" 2176,.str "figures" 2177] 0),#[]⟩
noncomputable def o242 (P:Params):Obj:=⟨.type "tuple",none,(.seq #[] 0),#[]⟩
noncomputable def o243 (P:Params):Obj:=⟨.none,none,(.func { name:="_law_unit",qualname:="_law_unit",params:=sArgs (sAt 35),body:=.stmts (sBody (sAt 35)),scope:=sScope (sAt 35),globals:=0,closure:=[],defaults:=.none,kwdefaults:=.none,doc:=.none,pyModule:=.none,annotations:=none,code:=.none,closureTuple:=.none,builtins:=0 }),#[]⟩
noncomputable def o244 (P:Params):Obj:=⟨.type "code",none,(.fields #[.str "_law_unit" 2173,.str "_law_unit" 2174,.str "/claim/cut.py" 2175,.int 350 0,.int 1 0,.int 0 0,.int 0 0,.int 3 0,.ref 239,.bool true,.int 276 0,.ref 240,.none,.ref 241,.ref 242,.ref 243,.int 2178 0,.int 350 0,.str "/claim/cut.py" 2179]),#[]⟩
noncomputable def o245 (P:Params):Obj:=⟨.type "function",none,(.func { name:="_law_unit",qualname:="_law_unit",params:=sArgs (sAt 35),body:=.stmts (sBody (sAt 35)),scope:=sScope (sAt 35),globals:=3,closure:=[],defaults:=.none,kwdefaults:=.none,doc:=.none,pyModule:=.str "law_re0182_01" 2140,annotations:=none,code:=.ref 244,closureTuple:=.none,builtins:=0 }),#[]⟩
noncomputable def o246 (P:Params):Obj:=⟨.type "tuple",none,(.seq #[] 0),#[]⟩
noncomputable def o247 (P:Params):Obj:=⟨.none,none,(.fields #[]),#[]⟩
noncomputable def o248 (P:Params):Obj:=⟨.none,none,(.func { name:="_law_mail",qualname:="_law_mail",params:=sArgs (sAt 36),body:=.stmts (sBody (sAt 36)),scope:=sScope (sAt 36),globals:=0,closure:=[],defaults:=.none,kwdefaults:=.none,doc:=.none,pyModule:=.none,annotations:=none,code:=.none,closureTuple:=.none,builtins:=0 }),#[]⟩
noncomputable def o249 (P:Params):Obj:=⟨.type "code",none,(.fields #[.str "_law_mail" 2181,.str "_law_mail" 2182,.str "/claim/cut.py" 2183,.int 355 0,.int 3 0,.int 0 0,.int 0 0,.int 3 0,.ref 246,.bool true,.int 276 0,.ref 247,.none,.none,.none,.ref 248,.int 2184 0,.int 355 0,.str "/claim/cut.py" 2185]),#[]⟩
noncomputable def o250 (P:Params):Obj:=⟨.type "function",none,(.func { name:="_law_mail",qualname:="_law_mail",params:=sArgs (sAt 36),body:=.stmts (sBody (sAt 36)),scope:=sScope (sAt 36),globals:=3,closure:=[],defaults:=.none,kwdefaults:=.none,doc:=.none,pyModule:=.str "law_re0182_01" 2140,annotations:=none,code:=.ref 249,closureTuple:=.none,builtins:=0 }),#[]⟩
noncomputable def o251 (P:Params):Obj:=⟨.type "tuple",none,(.seq #[] 0),#[]⟩
noncomputable def o252 (P:Params):Obj:=⟨.none,none,(.fields #[]),#[]⟩
noncomputable def o253 (P:Params):Obj:=⟨.type "tuple",none,(.seq #[.str "text" 2190,.str "width" 2191,.str "error" 2192] 0),#[]⟩
noncomputable def o254 (P:Params):Obj:=⟨.type "tuple",none,(.seq #[] 0),#[]⟩
noncomputable def o255 (P:Params):Obj:=⟨.none,none,(.func { name:="_law_refused",qualname:="_law_refused",params:=sArgs (sAt 37),body:=.stmts (sBody (sAt 37)),scope:=sScope (sAt 37),globals:=0,closure:=[],defaults:=.none,kwdefaults:=.none,doc:=.none,pyModule:=.none,annotations:=none,code:=.none,closureTuple:=.none,builtins:=0 }),#[]⟩
noncomputable def o256 (P:Params):Obj:=⟨.type "code",none,(.fields #[.str "_law_refused" 2187,.str "_law_refused" 2188,.str "/claim/cut.py" 2189,.int 381 0,.int 2 0,.int 0 0,.int 0 0,.int 3 0,.ref 251,.bool true,.int 276 0,.ref 252,.none,.ref 253,.ref 254,.ref 255,.int 2193 0,.int 381 0,.str "/claim/cut.py" 2194]),#[]⟩
noncomputable def o257 (P:Params):Obj:=⟨.type "function",none,(.func { name:="_law_refused",qualname:="_law_refused",params:=sArgs (sAt 37),body:=.stmts (sBody (sAt 37)),scope:=sScope (sAt 37),globals:=3,closure:=[],defaults:=.none,kwdefaults:=.none,doc:=.none,pyModule:=.str "law_re0182_01" 2140,annotations:=none,code:=.ref 256,closureTuple:=.none,builtins:=0 }),#[]⟩
noncomputable def o258 (P:Params):Obj:=⟨.type "tuple",none,(.seq #[] 0),#[]⟩
noncomputable def o259 (P:Params):Obj:=⟨.none,none,(.fields #[]),#[]⟩
noncomputable def o260 (P:Params):Obj:=⟨.none,none,(.func { name:="law",qualname:="law",params:=sArgs (sAt 38),body:=.stmts (sBody (sAt 38)),scope:=sScope (sAt 38),globals:=0,closure:=[],defaults:=.none,kwdefaults:=.none,doc:=.none,pyModule:=.none,annotations:=none,code:=.none,closureTuple:=.none,builtins:=0 }),#[]⟩
noncomputable def o261 (P:Params):Obj:=⟨.type "code",none,(.fields #[.str "law" 2196,.str "law" 2197,.str "/claim/cut.py" 2198,.int 387 0,.int 1 0,.int 0 0,.int 0 0,.int 3 0,.ref 258,.bool true,.int 276 0,.ref 259,.none,.none,.none,.ref 260,.int 2199 0,.int 387 0,.str "/claim/cut.py" 2200]),#[]⟩
noncomputable def o262 (P:Params):Obj:=⟨.type "function",none,(.func { name:="law",qualname:="law",params:=sArgs (sAt 38),body:=.stmts (sBody (sAt 38)),scope:=sScope (sAt 38),globals:=3,closure:=[],defaults:=.none,kwdefaults:=.none,doc:=.none,pyModule:=.str "law_re0182_01" 2140,annotations:=none,code:=.ref 261,closureTuple:=.none,builtins:=0 }),#[]⟩
noncomputable def Tse (P:Params):PySem.W.BT:=(.node (o0 P) (.node (o1 P) (.node (o3 P) (.node (o7 P) (.node (o15 P) .nil .nil) (.node (o23 P) .nil .nil)) (.node (o11 P) (.node (o19 P) .nil .nil) (.node (o27 P) .nil .nil))) (.node (o5 P) (.node (o9 P) (.node (o17 P) .nil .nil) (.node (o25 P) .nil .nil)) (.node (o13 P) (.node (o21 P) .nil .nil) .nil))) (.node (o2 P) (.node (o4 P) (.node (o8 P) (.node (o16 P) .nil .nil) (.node (o24 P) .nil .nil)) (.node (o12 P) (.node (o20 P) .nil .nil) .nil)) (.node (o6 P) (.node (o10 P) (.node (o18 P) .nil .nil) (.node (o26 P) .nil .nil)) (.node (o14 P) (.node (o22 P) .nil .nil) .nil))))
noncomputable def Ts0 (P:Params):PySem.W.BT:=(.node (o0 P) (.node (o1 P) (.node (o3 P) (.node (o7 P) (.node (o15 P) .nil .nil) (.node (o23 P) .nil .nil)) (.node (o11_1 P) (.node (o19 P) .nil .nil) (.node (o27 P) .nil .nil))) (.node (o5 P) (.node (o9 P) (.node (o17 P) .nil .nil) (.node (o25 P) .nil .nil)) (.node (o13 P) (.node (o21 P) .nil .nil) .nil))) (.node (o2 P) (.node (o4 P) (.node (o8 P) (.node (o16 P) .nil .nil) (.node (o24 P) .nil .nil)) (.node (o12 P) (.node (o20 P) .nil .nil) .nil)) (.node (o6 P) (.node (o10 P) (.node (o18 P) .nil .nil) (.node (o26 P) .nil .nil)) (.node (o14 P) (.node (o22 P) .nil .nil) .nil))))
noncomputable def Tpre (P:Params):PySem.W.BT:=(.node (o0 P) (.node (o1 P) (.node (o3 P) (.node (o7 P) (.node (o15 P) (.node (o31 P) .nil .nil) .nil) (.node (o23 P) .nil .nil)) (.node (o11_1 P) (.node (o19 P) .nil .nil) (.node (o27 P) .nil .nil))) (.node (o5 P) (.node (o9 P) (.node (o17 P) .nil .nil) (.node (o25 P) .nil .nil)) (.node (o13 P) (.node (o21 P) .nil .nil) (.node (o29 P) .nil .nil)))) (.node (o2 P) (.node (o4 P) (.node (o8 P) (.node (o16 P) .nil .nil) (.node (o24 P) .nil .nil)) (.node (o12 P) (.node (o20 P) .nil .nil) (.node (o28 P) .nil .nil))) (.node (o6 P) (.node (o10 P) (.node (o18 P) .nil .nil) (.node (o26 P) .nil .nil)) (.node (o14 P) (.node (o22 P) .nil .nil) (.node (o30 P) .nil .nil)))))
noncomputable def Tblock (P:Params):PySem.W.BT:=(.node (o0 P) (.node (o1 P) (.node (o3 P) (.node (o7 P) (.node (o15 P) (.node (o31 P) .nil .nil) .nil) (.node (o23 P) .nil .nil)) (.node (o11_1 P) (.node (o19 P) .nil .nil) (.node (o27 P) .nil .nil))) (.node (o5 P) (.node (o9 P) (.node (o17 P) .nil .nil) (.node (o25 P) .nil .nil)) (.node (o13 P) (.node (o21 P) .nil .nil) (.node (o29 P) .nil .nil)))) (.node (o2 P) (.node (o4 P) (.node (o8 P) (.node (o16 P) .nil .nil) (.node (o24 P) .nil .nil)) (.node (o12 P) (.node (o20 P) .nil .nil) (.node (o28 P) .nil .nil))) (.node (o6 P) (.node (o10 P) (.node (o18 P) .nil .nil) (.node (o26 P) .nil .nil)) (.node (o14 P) (.node (o22 P) .nil .nil) (.node (o30 P) .nil .nil)))))
noncomputable def T2 (P:Params):PySem.W.BT:=(.node (o0 P) (.node (o1 P) (.node (o3_3 P) (.node (o7 P) (.node (o15 P) (.node (o31 P) .nil .nil) .nil) (.node (o23 P) .nil .nil)) (.node (o11_1 P) (.node (o19 P) (.node (o35 P) .nil .nil) .nil) (.node (o27 P) .nil .nil))) (.node (o5 P) (.node (o9 P) (.node (o17 P) (.node (o33 P) .nil .nil) .nil) (.node (o25 P) .nil .nil)) (.node (o13 P) (.node (o21 P) (.node (o37 P) .nil .nil) .nil) (.node (o29_1 P) .nil .nil)))) (.node (o2 P) (.node (o4 P) (.node (o8 P) (.node (o16 P) (.node (o32 P) .nil .nil) .nil) (.node (o24 P) .nil .nil)) (.node (o12 P) (.node (o20 P) (.node (o36 P) .nil .nil) .nil) (.node (o28 P) .nil .nil))) (.node (o6 P) (.node (o10 P) (.node (o18 P) (.node (o34 P) .nil .nil) .nil) (.node (o26 P) .nil .nil)) (.node (o14 P) (.node (o22 P) (.node (o38 P) .nil .nil) .nil) (.node (o30 P) .nil .nil)))))
noncomputable def T3 (P:Params):PySem.W.BT:=(.node (o0 P) (.node (o1 P) (.node (o3_4 P) (.node (o7 P) (.node (o15 P) (.node (o31 P) .nil .nil) .nil) (.node (o23 P) (.node (o39 P) .nil .nil) .nil)) (.node (o11_1 P) (.node (o19 P) (.node (o35 P) .nil .nil) .nil) (.node (o27 P) (.node (o43 P) .nil .nil) .nil))) (.node (o5 P) (.node (o9 P) (.node (o17 P) (.node (o33 P) .nil .nil) .nil) (.node (o25 P) (.node (o41 P) .nil .nil) .nil)) (.node (o13 P) (.node (o21 P) (.node (o37 P) .nil .nil) .nil) (.node (o29_1 P) .nil .nil)))) (.node (o2 P) (.node (o4 P) (.node (o8 P) (.node (o16 P) (.node (o32 P) .nil .nil) .nil) (.node (o24 P) (.node (o40 P) .nil .nil) .nil)) (.node (o12 P) (.node (o20 P) (.node (o36 P) .nil .nil) .nil) (.node (o28 P) (.node (o44 P) .nil .nil) .nil))) (.node (o6 P) (.node (o10 P) (.node (o18 P) (.node (o34 P) .nil .nil) .nil) (.node (o26 P) (.node (o42 P) .nil .nil) .nil)) (.node (o14 P) (.node (o22 P) (.node (o38 P) .nil .nil) .nil) (.node (o30 P) .nil .nil)))))
noncomputable def T11 (P:Params):PySem.W.BT:=(.node (o0 P) (.node (o1 P) (.node (o3_12 P) (.node (o7 P) (.node (o15 P) (.node (o31 P) .nil .nil) (.node (o47 P) .nil .nil)) (.node (o23 P) (.node (o39 P) .nil .nil) .nil)) (.node (o11_1 P) (.node (o19 P) (.node (o35 P) .nil .nil) .nil) (.node (o27 P) (.node (o43 P) .nil .nil) .nil))) (.node (o5 P) (.node (o9 P) (.node (o17 P) (.node (o33 P) .nil .nil) .nil) (.node (o25 P) (.node (o41 P) .nil .nil) .nil)) (.node (o13 P) (.node (o21 P) (.node (o37 P) .nil .nil) .nil) (.node (o29_1 P) (.node (o45 P) .nil .nil) .nil)))) (.node (o2 P) (.node (o4 P) (.node (o8 P) (.node (o16 P) (.node (o32 P) .nil .nil) (.node (o48 P) .nil .nil)) (.node (o24 P) (.node (o40 P) .nil .nil) .nil)) (.node (o12 P) (.node (o20 P) (.node (o36 P) .nil .nil) .nil) (.node (o28 P) (.node (o44 P) .nil .nil) .nil))) (.node (o6 P) (.node (o10 P) (.node (o18 P) (.node (o34 P) .nil .nil) .nil) (.node (o26 P) (.node (o42 P) .nil .nil) .nil)) (.node (o14 P) (.node (o22 P) (.node (o38 P) .nil .nil) .nil) (.node (o30 P) (.node (o46 P) .nil .nil) .nil)))))
noncomputable def T12 (P:Params):PySem.W.BT:=(.node (o0 P) (.node (o1 P) (.node (o3_13 P) (.node (o7 P) (.node (o15 P) (.node (o31 P) .nil .nil) (.node (o47 P) .nil .nil)) (.node (o23 P) (.node (o39 P) .nil .nil) .nil)) (.node (o11_1 P) (.node (o19 P) (.node (o35 P) .nil .nil) (.node (o51 P) .nil .nil)) (.node (o27 P) (.node (o43 P) .nil .nil) .nil))) (.node (o5 P) (.node (o9 P) (.node (o17 P) (.node (o33 P) .nil .nil) (.node (o49 P) .nil .nil)) (.node (o25 P) (.node (o41 P) .nil .nil) .nil)) (.node (o13 P) (.node (o21 P) (.node (o37 P) .nil .nil) .nil) (.node (o29_1 P) (.node (o45 P) .nil .nil) .nil)))) (.node (o2 P) (.node (o4 P) (.node (o8 P) (.node (o16 P) (.node (o32 P) .nil .nil) (.node (o48 P) .nil .nil)) (.node (o24 P) (.node (o40 P) .nil .nil) .nil)) (.node (o12 P) (.node (o20 P) (.node (o36 P) .nil .nil) .nil) (.node (o28 P) (.node (o44 P) .nil .nil) .nil))) (.node (o6 P) (.node (o10 P) (.node (o18 P) (.node (o34 P) .nil .nil) (.node (o50 P) .nil .nil)) (.node (o26 P) (.node (o42 P) .nil .nil) .nil)) (.node (o14 P) (.node (o22 P) (.node (o38 P) .nil .nil) .nil) (.node (o30 P) (.node (o46_1 P) .nil .nil) .nil)))))
noncomputable def T13 (P:Params):PySem.W.BT:=(.node (o0 P) (.node (o1 P) (.node (o3_13 P) (.node (o7 P) (.node (o15 P) (.node (o31 P) .nil .nil) (.node (o47 P) .nil .nil)) (.node (o23 P) (.node (o39 P) .nil .nil) .nil)) (.node (o11_1 P) (.node (o19 P) (.node (o35 P) .nil .nil) (.node (o51 P) .nil .nil)) (.node (o27 P) (.node (o43 P) .nil .nil) .nil))) (.node (o5 P) (.node (o9 P) (.node (o17 P) (.node (o33 P) .nil .nil) (.node (o49 P) .nil .nil)) (.node (o25 P) (.node (o41 P) .nil .nil) .nil)) (.node (o13 P) (.node (o21 P) (.node (o37 P) .nil .nil) .nil) (.node (o29_1 P) (.node (o45 P) .nil .nil) .nil)))) (.node (o2 P) (.node (o4 P) (.node (o8 P) (.node (o16 P) (.node (o32 P) .nil .nil) (.node (o48 P) .nil .nil)) (.node (o24 P) (.node (o40 P) .nil .nil) .nil)) (.node (o12 P) (.node (o20 P) (.node (o36 P) .nil .nil) .nil) (.node (o28 P) (.node (o44 P) .nil .nil) .nil))) (.node (o6 P) (.node (o10 P) (.node (o18 P) (.node (o34 P) .nil .nil) (.node (o50 P) .nil .nil)) (.node (o26 P) (.node (o42 P) .nil .nil) .nil)) (.node (o14 P) (.node (o22 P) (.node (o38 P) .nil .nil) .nil) (.node (o30 P) (.node (o46_2 P) .nil .nil) .nil)))))
noncomputable def T14 (P:Params):PySem.W.BT:=(.node (o0 P) (.node (o1 P) (.node (o3_14 P) (.node (o7 P) (.node (o15 P) (.node (o31 P) .nil .nil) (.node (o47 P) .nil .nil)) (.node (o23 P) (.node (o39 P) .nil .nil) .nil)) (.node (o11_1 P) (.node (o19 P) (.node (o35 P) .nil .nil) (.node (o51 P) .nil .nil)) (.node (o27 P) (.node (o43 P) .nil .nil) .nil))) (.node (o5 P) (.node (o9 P) (.node (o17 P) (.node (o33 P) .nil .nil) (.node (o49 P) .nil .nil)) (.node (o25 P) (.node (o41 P) .nil .nil) .nil)) (.node (o13 P) (.node (o21 P) (.node (o37 P) .nil .nil) (.node (o53 P) .nil .nil)) (.node (o29_1 P) (.node (o45 P) .nil .nil) .nil)))) (.node (o2 P) (.node (o4 P) (.node (o8 P) (.node (o16 P) (.node (o32 P) .nil .nil) (.node (o48_1 P) .nil .nil)) (.node (o24 P) (.node (o40 P) .nil .nil) .nil)) (.node (o12 P) (.node (o20 P) (.node (o36 P) .nil .nil) (.node (o52 P) .nil .nil)) (.node (o28 P) (.node (o44 P) .nil .nil) .nil))) (.node (o6 P) (.node (o10 P) (.node (o18 P) (.node (o34 P) .nil .nil) (.node (o50 P) .nil .nil)) (.node (o26 P) (.node (o42 P) .nil .nil) .nil)) (.node (o14 P) (.node (o22 P) (.node (o38 P) .nil .nil) (.node (o54 P) .nil .nil)) (.node (o30 P) (.node (o46_2 P) .nil .nil) .nil)))))
noncomputable def T23 (P:Params):PySem.W.BT:=(.node (o0 P) (.node (o1 P) (.node (o3_23 P) (.node (o7 P) (.node (o15 P) (.node (o31 P) (.node (o63 P) .nil .nil) .nil) (.node (o47 P) (.node (o79 P) .nil .nil) .nil)) (.node (o23 P) (.node (o39 P) (.node (o71 P) .nil .nil) .nil) (.node (o55 P) (.node (o87 P) .nil .nil) .nil))) (.node (o11_1 P) (.node (o19 P) (.node (o35 P) (.node (o67 P) .nil .nil) .nil) (.node (o51 P) (.node (o83 P) .nil .nil) .nil)) (.node (o27 P) (.node (o43 P) (.node (o75 P) .nil .nil) .nil) (.node (o59 P) (.node (o91 P) .nil .nil) .nil)))) (.node (o5 P) (.node (o9 P) (.node (o17 P) (.node (o33 P) (.node (o65 P) .nil .nil) .nil) (.node (o49 P) (.node (o81 P) .nil .nil) .nil)) (.node (o25 P) (.node (o41 P) (.node (o73 P) .nil .nil) .nil) (.node (o57 P) (.node (o89 P) .nil .nil) .nil))) (.node (o13 P) (.node (o21 P) (.node (o37 P) (.node (o69 P) .nil .nil) .nil) (.node (o53 P) (.node (o85 P) .nil .nil) .nil)) (.node (o29_5 P) (.node (o45 P) (.node (o77 P) .nil .nil) .nil) (.node (o61 P) (.node (o93 P) .nil .nil) .nil))))) (.node (o2 P) (.node (o4 P) (.node (o8 P) (.node (o16 P) (.node (o32 P) (.node (o64 P) .nil .nil) .nil) (.node (o48_1 P) (.node (o80 P) .nil .nil) .nil)) (.node (o24 P) (.node (o40 P) (.node (o72 P) .nil .nil) .nil) (.node (o56 P) (.node (o88 P) .nil .nil) .nil))) (.node (o12 P) (.node (o20 P) (.node (o36 P) (.node (o68 P) .nil .nil) .nil) (.node (o52 P) (.node (o84 P) .nil .nil) .nil)) (.node (o28 P) (.node (o44 P) (.node (o76 P) .nil .nil) .nil) (.node (o60 P) (.node (o92 P) .nil .nil) .nil)))) (.node (o6 P) (.node (o10 P) (.node (o18 P) (.node (o34 P) (.node (o66 P) .nil .nil) .nil) (.node (o50 P) (.node (o82 P) .nil .nil) .nil)) (.node (o26 P) (.node (o42 P) (.node (o74 P) .nil .nil) .nil) (.node (o58 P) (.node (o90 P) .nil .nil) .nil))) (.node (o14 P) (.node (o22 P) (.node (o38 P) (.node (o70_1 P) .nil .nil) .nil) (.node (o54 P) (.node (o86 P) .nil .nil) .nil)) (.node (o30 P) (.node (o46_2 P) (.node (o78 P) .nil .nil) .nil) (.node (o62 P) (.node (o94 P) .nil .nil) .nil))))))
noncomputable def T26 (P:Params):PySem.W.BT:=(.node (o0 P) (.node (o1 P) (.node (o3_26 P) (.node (o7 P) (.node (o15 P) (.node (o31 P) (.node (o63 P) .nil .nil) (.node (o95 P) .nil .nil)) (.node (o47 P) (.node (o79 P) .nil .nil) .nil)) (.node (o23 P) (.node (o39 P) (.node (o71 P) .nil .nil) (.node (o103 P) .nil .nil)) (.node (o55 P) (.node (o87 P) .nil .nil) .nil))) (.node (o11_1 P) (.node (o19 P) (.node (o35 P) (.node (o67 P) .nil .nil) (.node (o99 P) .nil .nil)) (.node (o51 P) (.node (o83 P) .nil .nil) .nil)) (.node (o27 P) (.node (o43 P) (.node (o75 P) .nil .nil) .nil) (.node (o59 P) (.node (o91 P) .nil .nil) .nil)))) (.node (o5 P) (.node (o9 P) (.node (o17 P) (.node (o33 P) (.node (o65 P) .nil .nil) (.node (o97 P) .nil .nil)) (.node (o49 P) (.node (o81 P) .nil .nil) .nil)) (.node (o25 P) (.node (o41 P) (.node (o73 P) .nil .nil) .nil) (.node (o57 P) (.node (o89 P) .nil .nil) .nil))) (.node (o13 P) (.node (o21 P) (.node (o37 P) (.node (o69 P) .nil .nil) (.node (o101 P) .nil .nil)) (.node (o53 P) (.node (o85 P) .nil .nil) .nil)) (.node (o29_6 P) (.node (o45 P) (.node (o77 P) .nil .nil) .nil) (.node (o61 P) (.node (o93 P) .nil .nil) .nil))))) (.node (o2 P) (.node (o4 P) (.node (o8 P) (.node (o16 P) (.node (o32 P) (.node (o64 P) .nil .nil) (.node (o96 P) .nil .nil)) (.node (o48_1 P) (.node (o80 P) .nil .nil) .nil)) (.node (o24 P) (.node (o40 P) (.node (o72 P) .nil .nil) .nil) (.node (o56 P) (.node (o88 P) .nil .nil) .nil))) (.node (o12 P) (.node (o20 P) (.node (o36 P) (.node (o68 P) .nil .nil) (.node (o100 P) .nil .nil)) (.node (o52 P) (.node (o84 P) .nil .nil) .nil)) (.node (o28 P) (.node (o44 P) (.node (o76 P) .nil .nil) .nil) (.node (o60 P) (.node (o92 P) .nil .nil) .nil)))) (.node (o6 P) (.node (o10 P) (.node (o18 P) (.node (o34 P) (.node (o66 P) .nil .nil) (.node (o98 P) .nil .nil)) (.node (o50 P) (.node (o82 P) .nil .nil) .nil)) (.node (o26 P) (.node (o42 P) (.node (o74 P) .nil .nil) .nil) (.node (o58 P) (.node (o90 P) .nil .nil) .nil))) (.node (o14 P) (.node (o22 P) (.node (o38 P) (.node (o70_1 P) .nil .nil) (.node (o102 P) .nil .nil)) (.node (o54 P) (.node (o86 P) .nil .nil) .nil)) (.node (o30 P) (.node (o46_2 P) (.node (o78 P) .nil .nil) .nil) (.node (o62 P) (.node (o94 P) .nil .nil) .nil))))))
noncomputable def T27 (P:Params):PySem.W.BT:=(.node (o0 P) (.node (o1 P) (.node (o3_27 P) (.node (o7 P) (.node (o15 P) (.node (o31 P) (.node (o63 P) (.node (o127 P) .nil .nil) (.node (o191 P) .nil .nil)) (.node (o95 P) (.node (o159 P) .nil .nil) .nil)) (.node (o47 P) (.node (o79 P) (.node (o143 P) .nil .nil) .nil) (.node (o111 P) (.node (o175 P) .nil .nil) .nil))) (.node (o23 P) (.node (o39 P) (.node (o71 P) (.node (o135 P) .nil .nil) (.node (o199 P) .nil .nil)) (.node (o103 P) (.node (o167 P) .nil .nil) .nil)) (.node (o55 P) (.node (o87 P) (.node (o151 P) .nil .nil) .nil) (.node (o119 P) (.node (o183 P) .nil .nil) .nil)))) (.node (o11_1 P) (.node (o19 P) (.node (o35 P) (.node (o67 P) (.node (o131 P) .nil .nil) (.node (o195 P) .nil .nil)) (.node (o99 P) (.node (o163 P) .nil .nil) .nil)) (.node (o51 P) (.node (o83 P) (.node (o147 P) .nil .nil) .nil) (.node (o115 P) (.node (o179 P) .nil .nil) .nil))) (.node (o27 P) (.node (o43 P) (.node (o75 P) (.node (o139 P) .nil .nil) (.node (o203 P) .nil .nil)) (.node (o107 P) (.node (o171 P) .nil .nil) .nil)) (.node (o59 P) (.node (o91 P) (.node (o155 P) .nil .nil) .nil) (.node (o123 P) (.node (o187 P) .nil .nil) .nil))))) (.node (o5 P) (.node (o9 P) (.node (o17 P) (.node (o33 P) (.node (o65 P) (.node (o129 P) .nil .nil) (.node (o193 P) .nil .nil)) (.node (o97 P) (.node (o161 P) .nil .nil) .nil)) (.node (o49 P) (.node (o81 P) (.node (o145 P) .nil .nil) .nil) (.node (o113 P) (.node (o177 P) .nil .nil) .nil))) (.node (o25 P) (.node (o41 P) (.node (o73 P) (.node (o137 P) .nil .nil) (.node (o201 P) .nil .nil)) (.node (o105 P) (.node (o169 P) .nil .nil) .nil)) (.node (o57 P) (.node (o89 P) (.node (o153 P) .nil .nil) .nil) (.node (o121 P) (.node (o185 P) .nil .nil) .nil)))) (.node (o13 P) (.node (o21 P) (.node (o37 P) (.node (o69 P) (.node (o133 P) .nil .nil) (.node (o197 P) .nil .nil)) (.node (o101 P) (.node (o165 P) .nil .nil) .nil)) (.node (o53 P) (.node (o85 P) (.node (o149 P) .nil .nil) .nil) (.node (o117 P) (.node (o181 P) .nil .nil) .nil))) (.node (o29_7 P) (.node (o45 P) (.node (o77 P) (.node (o141 P) .nil .nil) (.node (o205 P) .nil .nil)) (.node (o109 P) (.node (o173 P) .nil .nil) .nil)) (.node (o61 P) (.node (o93 P) (.node (o157 P) .nil .nil) .nil) (.node (o125 P) (.node (o189 P) .nil .nil) .nil)))))) (.node (o2 P) (.node (o4 P) (.node (o8 P) (.node (o16 P) (.node (o32 P) (.node (o64 P) (.node (o128 P) .nil .nil) (.node (o192 P) .nil .nil)) (.node (o96 P) (.node (o160 P) .nil .nil) .nil)) (.node (o48_1 P) (.node (o80 P) (.node (o144 P) .nil .nil) .nil) (.node (o112 P) (.node (o176 P) .nil .nil) .nil))) (.node (o24 P) (.node (o40 P) (.node (o72 P) (.node (o136 P) .nil .nil) (.node (o200 P) .nil .nil)) (.node (o104 P) (.node (o168 P) .nil .nil) .nil)) (.node (o56 P) (.node (o88 P) (.node (o152 P) .nil .nil) .nil) (.node (o120 P) (.node (o184 P) .nil .nil) .nil)))) (.node (o12 P) (.node (o20 P) (.node (o36 P) (.node (o68 P) (.node (o132 P) .nil .nil) (.node (o196 P) .nil .nil)) (.node (o100 P) (.node (o164 P) .nil .nil) .nil)) (.node (o52 P) (.node (o84 P) (.node (o148 P) .nil .nil) .nil) (.node (o116 P) (.node (o180 P) .nil .nil) .nil))) (.node (o28 P) (.node (o44 P) (.node (o76 P) (.node (o140 P) .nil .nil) (.node (o204 P) .nil .nil)) (.node (o108 P) (.node (o172 P) .nil .nil) .nil)) (.node (o60 P) (.node (o92 P) (.node (o156 P) .nil .nil) .nil) (.node (o124 P) (.node (o188 P) .nil .nil) .nil))))) (.node (o6 P) (.node (o10 P) (.node (o18 P) (.node (o34 P) (.node (o66 P) (.node (o130 P) .nil .nil) (.node (o194 P) .nil .nil)) (.node (o98 P) (.node (o162 P) .nil .nil) .nil)) (.node (o50 P) (.node (o82 P) (.node (o146 P) .nil .nil) .nil) (.node (o114 P) (.node (o178 P) .nil .nil) .nil))) (.node (o26 P) (.node (o42 P) (.node (o74 P) (.node (o138 P) .nil .nil) (.node (o202 P) .nil .nil)) (.node (o106 P) (.node (o170 P) .nil .nil) .nil)) (.node (o58 P) (.node (o90 P) (.node (o154 P) .nil .nil) .nil) (.node (o122 P) (.node (o186 P) .nil .nil) .nil)))) (.node (o14 P) (.node (o22 P) (.node (o38 P) (.node (o70_1 P) (.node (o134 P) .nil .nil) (.node (o198 P) .nil .nil)) (.node (o102 P) (.node (o166 P) .nil .nil) .nil)) (.node (o54 P) (.node (o86 P) (.node (o150 P) .nil .nil) .nil) (.node (o118 P) (.node (o182 P) .nil .nil) .nil))) (.node (o30 P) (.node (o46_2 P) (.node (o78 P) (.node (o142 P) .nil .nil) .nil) (.node (o110 P) (.node (o174 P) .nil .nil) .nil)) (.node (o62 P) (.node (o94 P) (.node (o158 P) .nil .nil) .nil) (.node (o126 P) (.node (o190 P) .nil .nil) .nil)))))))
noncomputable def T37 (P:Params):PySem.W.BT:=(.node (o0 P) (.node (o1 P) (.node (o3_37 P) (.node (o7 P) (.node (o15 P) (.node (o31 P) (.node (o63 P) (.node (o127 P) (.node (o255 P) .nil .nil) .nil) (.node (o191 P) .nil .nil)) (.node (o95 P) (.node (o159 P) .nil .nil) (.node (o223 P) .nil .nil))) (.node (o47 P) (.node (o79 P) (.node (o143 P) .nil .nil) (.node (o207 P) .nil .nil)) (.node (o111 P) (.node (o175 P) .nil .nil) (.node (o239 P) .nil .nil)))) (.node (o23 P) (.node (o39 P) (.node (o71 P) (.node (o135 P) .nil .nil) (.node (o199 P) .nil .nil)) (.node (o103 P) (.node (o167 P) .nil .nil) (.node (o231 P) .nil .nil))) (.node (o55 P) (.node (o87 P) (.node (o151 P) .nil .nil) (.node (o215 P) .nil .nil)) (.node (o119 P) (.node (o183 P) .nil .nil) (.node (o247 P) .nil .nil))))) (.node (o11_1 P) (.node (o19 P) (.node (o35 P) (.node (o67 P) (.node (o131 P) (.node (o259 P) .nil .nil) .nil) (.node (o195 P) .nil .nil)) (.node (o99 P) (.node (o163 P) .nil .nil) (.node (o227 P) .nil .nil))) (.node (o51 P) (.node (o83 P) (.node (o147 P) .nil .nil) (.node (o211 P) .nil .nil)) (.node (o115 P) (.node (o179 P) .nil .nil) (.node (o243 P) .nil .nil)))) (.node (o27 P) (.node (o43 P) (.node (o75 P) (.node (o139 P) .nil .nil) (.node (o203 P) .nil .nil)) (.node (o107 P) (.node (o171 P) .nil .nil) (.node (o235 P) .nil .nil))) (.node (o59 P) (.node (o91 P) (.node (o155 P) .nil .nil) (.node (o219 P) .nil .nil)) (.node (o123 P) (.node (o187 P) .nil .nil) (.node (o251 P) .nil .nil)))))) (.node (o5 P) (.node (o9 P) (.node (o17 P) (.node (o33 P) (.node (o65 P) (.node (o129 P) (.node (o257 P) .nil .nil) .nil) (.node (o193 P) .nil .nil)) (.node (o97 P) (.node (o161 P) .nil .nil) (.node (o225 P) .nil .nil))) (.node (o49 P) (.node (o81 P) (.node (o145 P) .nil .nil) (.node (o209 P) .nil .nil)) (.node (o113 P) (.node (o177 P) .nil .nil) (.node (o241 P) .nil .nil)))) (.node (o25 P) (.node (o41 P) (.node (o73 P) (.node (o137 P) .nil .nil) (.node (o201 P) .nil .nil)) (.node (o105 P) (.node (o169 P) .nil .nil) (.node (o233 P) .nil .nil))) (.node (o57 P) (.node (o89 P) (.node (o153 P) .nil .nil) (.node (o217 P) .nil .nil)) (.node (o121 P) (.node (o185 P) .nil .nil) (.node (o249 P) .nil .nil))))) (.node (o13 P) (.node (o21 P) (.node (o37 P) (.node (o69 P) (.node (o133 P) (.node (o261 P) .nil .nil) .nil) (.node (o197 P) .nil .nil)) (.node (o101 P) (.node (o165 P) .nil .nil) (.node (o229 P) .nil .nil))) (.node (o53 P) (.node (o85 P) (.node (o149 P) .nil .nil) (.node (o213 P) .nil .nil)) (.node (o117 P) (.node (o181 P) .nil .nil) (.node (o245 P) .nil .nil)))) (.node (o29_16 P) (.node (o45 P) (.node (o77 P) (.node (o141 P) .nil .nil) (.node (o205 P) .nil .nil)) (.node (o109 P) (.node (o173 P) .nil .nil) (.node (o237 P) .nil .nil))) (.node (o61 P) (.node (o93 P) (.node (o157 P) .nil .nil) (.node (o221 P) .nil .nil)) (.node (o125 P) (.node (o189 P) .nil .nil) (.node (o253 P) .nil .nil))))))) (.node (o2 P) (.node (o4 P) (.node (o8 P) (.node (o16 P) (.node (o32 P) (.node (o64 P) (.node (o128 P) (.node (o256 P) .nil .nil) .nil) (.node (o192 P) .nil .nil)) (.node (o96 P) (.node (o160 P) .nil .nil) (.node (o224 P) .nil .nil))) (.node (o48_1 P) (.node (o80 P) (.node (o144 P) .nil .nil) (.node (o208 P) .nil .nil)) (.node (o112 P) (.node (o176 P) .nil .nil) (.node (o240 P) .nil .nil)))) (.node (o24 P) (.node (o40 P) (.node (o72 P) (.node (o136 P) .nil .nil) (.node (o200 P) .nil .nil)) (.node (o104 P) (.node (o168 P) .nil .nil) (.node (o232 P) .nil .nil))) (.node (o56 P) (.node (o88 P) (.node (o152 P) .nil .nil) (.node (o216 P) .nil .nil)) (.node (o120 P) (.node (o184 P) .nil .nil) (.node (o248 P) .nil .nil))))) (.node (o12 P) (.node (o20 P) (.node (o36 P) (.node (o68 P) (.node (o132 P) (.node (o260 P) .nil .nil) .nil) (.node (o196 P) .nil .nil)) (.node (o100 P) (.node (o164 P) .nil .nil) (.node (o228 P) .nil .nil))) (.node (o52 P) (.node (o84 P) (.node (o148 P) .nil .nil) (.node (o212 P) .nil .nil)) (.node (o116 P) (.node (o180 P) .nil .nil) (.node (o244 P) .nil .nil)))) (.node (o28 P) (.node (o44 P) (.node (o76 P) (.node (o140 P) .nil .nil) (.node (o204 P) .nil .nil)) (.node (o108 P) (.node (o172 P) .nil .nil) (.node (o236 P) .nil .nil))) (.node (o60 P) (.node (o92 P) (.node (o156 P) .nil .nil) (.node (o220 P) .nil .nil)) (.node (o124 P) (.node (o188 P) .nil .nil) (.node (o252 P) .nil .nil)))))) (.node (o6 P) (.node (o10 P) (.node (o18 P) (.node (o34 P) (.node (o66 P) (.node (o130 P) (.node (o258 P) .nil .nil) .nil) (.node (o194 P) .nil .nil)) (.node (o98 P) (.node (o162 P) .nil .nil) (.node (o226 P) .nil .nil))) (.node (o50 P) (.node (o82 P) (.node (o146 P) .nil .nil) (.node (o210 P) .nil .nil)) (.node (o114 P) (.node (o178 P) .nil .nil) (.node (o242 P) .nil .nil)))) (.node (o26 P) (.node (o42 P) (.node (o74 P) (.node (o138 P) .nil .nil) (.node (o202 P) .nil .nil)) (.node (o106 P) (.node (o170 P) .nil .nil) (.node (o234 P) .nil .nil))) (.node (o58 P) (.node (o90 P) (.node (o154 P) .nil .nil) (.node (o218 P) .nil .nil)) (.node (o122 P) (.node (o186 P) .nil .nil) (.node (o250 P) .nil .nil))))) (.node (o14 P) (.node (o22 P) (.node (o38 P) (.node (o70_1 P) (.node (o134 P) (.node (o262 P) .nil .nil) .nil) (.node (o198 P) .nil .nil)) (.node (o102 P) (.node (o166 P) .nil .nil) (.node (o230 P) .nil .nil))) (.node (o54 P) (.node (o86 P) (.node (o150 P) .nil .nil) (.node (o214 P) .nil .nil)) (.node (o118 P) (.node (o182 P) .nil .nil) (.node (o246 P) .nil .nil)))) (.node (o30 P) (.node (o46_2 P) (.node (o78 P) (.node (o142 P) .nil .nil) (.node (o206 P) .nil .nil)) (.node (o110 P) (.node (o174 P) .nil .nil) (.node (o238 P) .nil .nil))) (.node (o62 P) (.node (o94 P) (.node (o158 P) .nil .nil) (.node (o222 P) .nil .nil)) (.node (o126 P) (.node (o190 P) .nil .nil) (.node (o254 P) .nil .nil))))))))
theorem goT_app {tb:String->Option Builtin}{p:Program}{w:World}{n₀:Nat}{ann:Option Value}{b:Nat}:∀ {n m:Nat}{s s':PySem.W.SharedT}{t t':Thread}{r:Option (PySem.W.SharedT×Thread)},
  segGoT tb p w n₀ ann b n s t=some (s',t')->segGoT tb p w n₀ ann b m s' t'=r->segGoT tb p w n₀ ann b (n + m) s t=r
 | 0,m,s,s',t,t',r,h,k=>by
  obtain ⟨rfl,rfl⟩:s=s'/\t=t':=by simpa [segGoT] using h
  rw [Nat.zero_add];exact k
 | n + 1,m,s,s',t,t',r,h,k=>by
  rw [show n + 1 + m=n + m + 1 by omega]
  unfold segGoT at h ⊢
  cases he:endAt b t with
  | some f=>rw [he] at h;cases h
  | none=>
   rw [he] at h
   cases hk:stepOk n₀ ann t with
   | false=>rw [hk] at h;cases h
   | true=>
    rw [hk] at h
    cases hs:stepT (denote tb) p w s t with
    | none=>rw [hs] at h;cases h
    | some x=>rw [hs] at h;exact goT_app h k
theorem look3 {tb:String->Option Builtin}{p:Program}{w:World}{n₀:Nat}{ann:Option Value}{a:Nat}{T:PySem.W.BT}{n:Nat}{life:Life}{gens:Array GenState}{drawn:Drawn}{toks:Nat}{os:OsState}{o:Obj}{g:Unit->Sem Fin}{id:String}{as:Args}{pos:Pos} {f1 f2:Frame}{st:List Frame}
  (ha:Nat.blt a n=true)(hT:T.get a=some o)(hl:alive o=some o)(hp:o.data.pastItsLine=none) :
  segGoT tb p w n₀ ann 1 1 ⟨T,n,life,gens,drawn,toks,os⟩ ⟨(lookBehind a).bind g,.builtin id as,pos,f1::f2::st⟩=some (⟨T,n,life,gens,drawn,toks,os⟩,⟨g (),.builtin id as,pos,f1::f2::st⟩):=by
 obtain ⟨k,e,hk⟩:∃ k,((lookBehind a).bind g)=Sem.load a none k/\∀ o:Obj,o.data.pastItsLine=none->k o=g ():=by
  refine ⟨_,rfl,fun o h=>?_⟩
  show Sem.bind (Sem.bind (Sem.pure o) _) g=g ()
  simp only [Sem.bind,h]
  rfl
 rw [e]
 unfold segGoT
 have e1:endAt 1 ⟨Sem.load a none k,.builtin id as,pos,f1::f2::st⟩=none:=by
  unfold endAt;simp
 have e2:stepOk n₀ ann ⟨Sem.load a none k,.builtin id as,pos,f1::f2::st⟩=true:=by
  unfold stepOk;simp [Thread.calm,Thread.atCollectorCode,Thread.yieldsInsideHandler]
 rw [e1,e2]
 simp only [stepT,ha,hT,hl,segGoT,hk o hp]
noncomputable def x39:Obj:=⟨.type "range",none,(.fields #[.int 0 294,.int 256 293,.int 1 295]),#[]⟩
noncomputable def x40 (x l:Int):Obj:=⟨.type "range_iterator",none,.fields #[.int x 0,.int l 0,.int 1 0],#[]⟩
noncomputable def x41 (items:Array Value)(ep:Nat):Obj:=⟨.type "list",none,.seq items ep,#[]⟩
noncomputable def x42 (P:Params)(cv:Value):Obj:=⟨.type "dict",none,.dict #[en P "c" 297 cv] 1,#[]⟩
noncomputable def L3 (P:Params)(x l:Int)(items:Array Value)(ep:Nat)(cv:Value):PySem.W.BT:=(.node (o0 P) (.node (o1 P) (.node (o3_3 P) (.node (o7 P) (.node (o15 P) (.node (o31 P) .nil .nil) .nil) (.node (o23 P) (.node x39 .nil .nil) .nil)) (.node (o11_1 P) (.node (o19 P) (.node (o35 P) .nil .nil) .nil) (.node (o27 P) .nil .nil))) (.node (o5 P) (.node (o9 P) (.node (o17 P) (.node (o33 P) .nil .nil) .nil) (.node (o25 P) (.node (x41 items ep) .nil .nil) .nil)) (.node (o13 P) (.node (o21 P) (.node (o37 P) .nil .nil) .nil) (.node (o29_1 P) .nil .nil)))) (.node (o2 P) (.node (o4 P) (.node (o8 P) (.node (o16 P) (.node (o32 P) .nil .nil) .nil) (.node (o24 P) (.node (x40 x l) .nil .nil) .nil)) (.node (o12 P) (.node (o20 P) (.node (o36 P) .nil .nil) .nil) (.node (o28 P) .nil .nil))) (.node (o6 P) (.node (o10 P) (.node (o18 P) (.node (o34 P) .nil .nil) .nil) (.node (o26 P) (.node (x42 P cv) .nil .nil) .nil)) (.node (o14 P) (.node (o22 P) (.node (o38 P) .nil .nil) .nil) (.node (o30 P) .nil .nil)))))
noncomputable def L3e (P:Params)(items:Array Value):PySem.W.BT:=(.node (o0 P) (.node (o1 P) (.node (o3_4 P) (.node (o7 P) (.node (o15 P) (.node (o31 P) .nil .nil) .nil) (.node (o23 P) (.node (o39 P) .nil .nil) .nil)) (.node (o11_1 P) (.node (o19 P) (.node (o35 P) .nil .nil) .nil) (.node (o27 P) (.node (o43 P) .nil .nil) .nil))) (.node (o5 P) (.node (o9 P) (.node (o17 P) (.node (o33 P) .nil .nil) .nil) (.node (o25 P) (.node (x41 items 256) .nil .nil) .nil)) (.node (o13 P) (.node (o21 P) (.node (o37 P) .nil .nil) .nil) (.node (o29_1 P) .nil .nil)))) (.node (o2 P) (.node (o4 P) (.node (o8 P) (.node (o16 P) (.node (o32 P) .nil .nil) .nil) (.node (o24 P) (.node (o40 P) .nil .nil) .nil)) (.node (o12 P) (.node (o20 P) (.node (o36 P) .nil .nil) .nil) (.node (o28 P) (.node (o44 P) .nil .nil) .nil))) (.node (o6 P) (.node (o10 P) (.node (o18 P) (.node (o34 P) .nil .nil) .nil) (.node (o26 P) (.node (o42 P) .nil .nil) .nil)) (.node (o14 P) (.node (o22 P) (.node (o38 P) .nil .nil) .nil) (.node (o30 P) .nil .nil)))))
noncomputable def cExpr:PySem.Expr:=match sAt 4 with
 | .Assign _ v _=>v
 | _=>.Constant .none 0 ⟨0,0,0,0⟩
noncomputable def cScope:PySem.Expr->Scope
 | .ListComp _ _ sc _=>sc
 | _=>⟨.module,[],false,false,[]⟩
noncomputable def cEnv:Env:={ scope:=cScope cExpr,locals:=42,globals:=mainNs,cells:=[],code:=.ref 30,frame:=some 31 }
noncomputable def cLoop:Code:=.compLoop cExpr 0 (.ref 40) (.ref 41) cEnv
noncomputable def pA:Pos:=⟨7,15,7,26⟩
noncomputable def frOf:Option (PySem.W.SharedT×Thread)->Frame
 | some (_,⟨_,_,_,f::_⟩)=>f
 | _=>.gen 0 (fun _=>.raise .none) [] cLoop pA
noncomputable def hx (d:Nat):Nat:=if d < 10 then 48 + d else 55 + d
noncomputable def hexS (c:Nat):Str:=⟨#[61,hx (c / 16),hx (c % 16)]⟩
noncomputable def modC (t1 t2:Nat)(x:Int):Code:=.builtin "str.__mod__" ⟨[.str "=%02X" t1,.int x t2],[]⟩
noncomputable def appC (v:Value):Code:=.builtin "list.append" ⟨[.ref 41,v],[]⟩
noncomputable def head3 (st:List Frame):Thread:=⟨denote treeTable cLoop,cLoop,pA,st⟩
noncomputable def frA (w:World)(os:OsState)(F G:Frame)(st:List Frame)(x:Int)(k:Nat)(items:Array Value)(ep:Nat)(cv:Value)(t:Nat):Frame:=frOf (tw10295753902157049106 tw14364793385576792824 pw_re0182_01 w 28 (some (.ref 6)) 1 27 ⟨L3 w.params x (.ofNat (k + 1)) items ep cv,43,{},#[],{},t,os⟩ ⟨tw11892475500146522536 tw14364793385576792824 cLoop,cLoop,pA,F::G::st⟩)
theorem segA (w:World)(os:OsState)(F G:Frame)(st:List Frame)(x:Int)(k:Nat)(items:Array Value)(ep:Nat)(cv:Value)(t:Nat):segGoT treeTable pw_re0182_01 w 28 (some (.ref 6)) 1 27 ⟨L3 w.params x (.ofNat (k + 1)) items ep cv,43,{},#[],{},t,os⟩ (head3 (F::G::st))=some (⟨L3 w.params (x + 1) (.ofNat (k + 1) - 1) items ep (.int x t),43,{},#[],{},t + 3,os⟩,⟨denote treeTable (modC (t + 2) t x),modC (t + 2) t x,pA,frA w os F G st x k items ep cv t::F::G::st⟩):=by
 unfold head3
 rw [te10295753902157049106,te14364793385576792824,te11892475500146522536]
 kernel_rfl
noncomputable def frB (w:World)(os:OsState)(F G:Frame)(st:List Frame)(x:Int)(k:Nat)(items:Array Value)(ep:Nat)(cv:Value)(t:Nat) (t1 t2 t3:Nat) (x1 l1:Int) (items1:Array Value) (ep1:Nat) (cv1:Value)(vs:Str)(vt:Nat):Frame:=frOf (tw10295753902157049106 tw14364793385576792824 pw_re0182_01 w 28 (some (.ref 6)) 1 4 ⟨L3 w.params x1 l1 items1 ep1 cv1,43,{},#[],{},t3,os⟩ ⟨.pure (.done (.ret (.str vs vt))),modC t1 t2 x,pA,frA w os F G st x k items ep cv t::F::G::st⟩)
theorem segC (w:World)(os:OsState)(F G:Frame)(st:List Frame)(x:Int)(k:Nat)(items:Array Value)(ep:Nat)(cv:Value)(t:Nat) (t1 t2 t3:Nat) (x1 l1:Int) (items1:Array Value) (ep1:Nat) (cv1:Value)(vs:Str)(vt:Nat):segGoT treeTable pw_re0182_01 w 28 (some (.ref 6)) 1 4 ⟨L3 w.params x1 l1 items1 ep1 cv1,43,{},#[],{},t3,os⟩ ⟨.pure (.done (.ret (.str vs vt))),modC t1 t2 x,pA,frA w os F G st x k items ep cv t::F::G::st⟩=some (⟨L3 w.params x1 l1 items1 ep1 cv1,43,{},#[],{},t3,os⟩,⟨denote treeTable (appC (.str vs vt)),appC (.str vs vt),pA,frB w os F G st x k items ep cv t t1 t2 t3 x1 l1 items1 ep1 cv1 vs vt::F::G::st⟩):=by
 rw [te10295753902157049106,te14364793385576792824,te11892475500146522536]
 kernel_rfl
theorem segD (w:World)(os:OsState)(F G:Frame)(st:List Frame)(x:Int)(k:Nat)(items:Array Value)(ep:Nat)(cv:Value)(t:Nat) (t1 t2 t3:Nat) (x1 l1:Int) (items1:Array Value) (ep1:Nat) (cv1:Value)(vs:Str)(vt:Nat) (f1:Frame):segGoT treeTable pw_re0182_01 w 28 (some (.ref 6)) 1 2 ⟨L3 w.params x1 l1 items1 ep1 cv1,43,{},#[],{},t3,os⟩ ⟨denote treeTable (appC (.str vs vt)),appC (.str vs vt),pA,f1::F::G::st⟩=some (⟨L3 w.params x1 l1 (items1.push (.str vs vt)) (if (items1.push (.str vs vt)).size == items1.size then ep1 else ep1 + 1) cv1,43,{},#[],{},t3,os⟩,⟨(lookBehind 41).bind (fun _=>ret .none),appC (.str vs vt),pA,f1::F::G::st⟩):=by
 rw [te10295753902157049106,te14364793385576792824,te11892475500146522536,PySem.W.Fast.te4948061348172112992,PySem.W.R.bindR_eq,PySem.W.Fast.te6905046200447255374,PySem.W.Fast.te2398297429280069960]
 kernel_rfl
theorem segE (w:World)(os:OsState)(F G:Frame)(st:List Frame)(x:Int)(k:Nat)(items:Array Value)(ep:Nat)(cv:Value)(t:Nat) (t1 t2 t3:Nat) (x1 l1:Int) (items1:Array Value) (ep1:Nat) (cv1:Value)(vs:Str)(vt:Nat) (w1:Value) (t4:Nat) (x2 l2:Int) (items2:Array Value) (ep2:Nat) (cv2:Value):segGoT treeTable pw_re0182_01 w 28 (some (.ref 6)) 1 2 ⟨L3 w.params x2 l2 items2 ep2 cv2,43,{},#[],{},t4,os⟩ ⟨.pure (.done (.ret w1)),appC (.str vs vt),pA,frB w os F G st x k items ep cv t t1 t2 t3 x1 l1 items1 ep1 cv1 vs vt::F::G::st⟩=some (⟨L3 w.params x2 l2 items2 ep2 cv2,43,{},#[],{},t4,os⟩,head3 (F::G::st)):=by
 unfold head3
 rw [te10295753902157049106,te14364793385576792824,te11892475500146522536]
 kernel_rfl
theorem modL:(List.range 256).map (fun n=>fun (t1 t2:Nat)=>tw11892475500146522536 tw14364793385576792824 (modC t1 t2 (.ofNat n)))=(List.range 256).map (fun n=>fun (t1 t2:Nat)=>(.fresh (fun t=>.pure (.done (.ret (.str (hexS n) t)))):Sem Fin)):=by
 kernel_rfl
theorem mod_at (n:Nat)(h:n < 256) (t1 t2:Nat):denote treeTable (modC t1 t2 (.ofNat n)) = .fresh (fun t=>.pure (.done (.ret (.str (hexS n) t)))):=by
 rw [te14364793385576792824,te11892475500146522536]
 have q:=congrArg (fun l=>l[n]?) modL
 simp only [List.getElem?_map,List.getElem?_range h,Option.map_some,Option.some.injEq] at q
 exact congrFun (congrFun q t1) t2
theorem fresh1 {tb:String->Option Builtin}{p:Program}{w:World}{n₀:Nat}{ann:Option Value}{T:PySem.W.BT}{n:Nat}{life:Life}{gens:Array GenState}{drawn:Drawn}{toks:Nat}{os:OsState}{k:Tok->Sem Fin}{id:String}{as:Args}{pos:Pos} {f1 f2:Frame}{st:List Frame} :
  segGoT tb p w n₀ ann 1 1 ⟨T,n,life,gens,drawn,toks,os⟩ ⟨.fresh k,.builtin id as,pos,f1::f2::st⟩=some (⟨T,n,life,gens,drawn,toks + 1,os⟩,⟨k toks,.builtin id as,pos,f1::f2::st⟩):=by
 unfold segGoT
 have e1:endAt 1 ⟨Sem.fresh k,.builtin id as,pos,f1::f2::st⟩=none:=by
  unfold endAt;simp
 have e2:stepOk n₀ ann ⟨Sem.fresh k,.builtin id as,pos,f1::f2::st⟩=true:=by
  unfold stepOk;simp [Thread.calm,Thread.atCollectorCode,Thread.yieldsInsideHandler]
 rw [e1,e2]
 rfl
theorem past_seq (items:Array Value)(ep:Nat)(h:items.size < 1000):(x41 items ep).data.pastItsLine=none:=by
 show (if items.size > sizeLine + 1 then some "sequence:memory" else none)=none
 have:=PySem.sizeLine_eq
 rw [if_neg (by omega)]
theorem turn3 (w:World)(os:OsState)(F G:Frame)(st:List Frame)(i k:Nat)(items:Array Value)(ep:Nat)(cv:Value)(t:Nat)(hi:i < 256)(hs:items.size < 900) :
  segGoT treeTable pw_re0182_01 w 28 (some (.ref 6)) 1 37 ⟨L3 w.params (.ofNat i) (.ofNat (k + 1)) items ep cv,43,{},#[],{},t,os⟩ (head3 (F::G::st))=some (⟨L3 w.params (.ofNat (i + 1)) (.ofNat k) (items.push (.str (hexS i) (t + 3))) (ep + 1) (.int (.ofNat i) t),43,{},#[],{},t + 4,os⟩,head3 (F::G::st)):=by
 refine goT_app (n:=27) (m:=10) (segA w os F G st (.ofNat i) k items ep cv t) ?_
 rw [mod_at i hi]
 refine goT_app (n:=1) (m:=9) fresh1 ?_
 refine goT_app (n:=4) (m:=5) (segC w os F G st (.ofNat i) k items ep cv t (t + 2) t (t + 3 + 1) (.ofNat i + 1) (.ofNat (k + 1) - 1) items ep (.int (.ofNat i) t) (hexS i) (t + 3)) ?_
 refine goT_app (n:=2) (m:=3) (segD w os F G st (.ofNat i) k items ep cv t (t + 2) t (t + 3 + 1) (.ofNat i + 1) (.ofNat (k + 1) - 1) items ep (.int (.ofNat i) t) (hexS i) (t + 3) _) ?_
 have e1:(Int.ofNat i + 1)=Int.ofNat (i + 1):=rfl
 have e2:(Int.ofNat (k + 1) - 1)=Int.ofNat k:=by show ((k + 1:Nat):Int) - 1=(k:Int);omega
 have e3:(if (items.push (.str (hexS i) (t + 3))).size == items.size then ep else ep + 1)=ep + 1:=by
  rw [if_neg (by simp)]
 rw [e3]
 rw [show L3 w.params (.ofNat i + 1) (.ofNat (k + 1) - 1) (items.push (.str (hexS i) (t + 3))) (ep + 1) (.int (.ofNat i) t)=L3 w.params (.ofNat (i + 1)) (.ofNat k) (items.push (.str (hexS i) (t + 3))) (ep + 1) (.int (.ofNat i) t) from by rw [e1,e2]]
 refine goT_app (n:=1) (m:=2) (look3 (o:=x41 (items.push (.str (hexS i) (t + 3))) (ep + 1)) rfl rfl rfl (past_seq _ _ (by simp;omega))) ?_
 exact segE w os F G st (.ofNat i) k items ep cv t (t + 2) t (t + 3 + 1) (.ofNat i + 1) (.ofNat (k + 1) - 1) items ep (.int (.ofNat i) t) (hexS i) (t + 3) .none (t + 4) (.ofNat (i + 1)) (.ofNat k) (items.push (.str (hexS i) (t + 3))) (ep + 1) (.int (.ofNat i) t)
noncomputable def app3:Nat->Nat->Nat->Array Value->Array Value
 | 0,_,_,l=>l
 | m + 1,i,t,l=>app3 m (i + 1) (t + 4) (l.push (.str (hexS i) (t + 3)))
noncomputable def cv3:Nat->Nat->Nat->Value->Value
 | 0,_,_,v=>v
 | m + 1,i,t,_=>cv3 m (i + 1) (t + 4) (.int (.ofNat i) t)
noncomputable def fuel3:Nat->Nat
 | 0=>0
 | m + 1=>37 + fuel3 m
theorem run3 (w:World)(os:OsState)(F G:Frame)(st:List Frame):∀ (m i:Nat)(items:Array Value)(ep:Nat)(cv:Value)(t:Nat),i + m=256->items.size + m < 800 ->
  segGoT treeTable pw_re0182_01 w 28 (some (.ref 6)) 1 (fuel3 m) ⟨L3 w.params (.ofNat i) (.ofNat m) items ep cv,43,{},#[],{},t,os⟩ (head3 (F::G::st))=some (⟨L3 w.params (.ofNat 256) (.ofNat 0) (app3 m i t items) (ep + m) (cv3 m i t cv),43,{},#[],{},t + 4 * m,os⟩,head3 (F::G::st))
 | 0,i,items,ep,cv,t,h,_=>by
  obtain rfl:i=256:=by omega
  rfl
 | m + 1,i,items,ep,cv,t,h,hs=>by
  refine goT_app (turn3 w os F G st i m items ep cv t (by omega) (by omega)) ?_
  rw [run3 w os F G st m (i + 1) _ (ep + 1) _ (t + 4) (by omega) (by simp;omega)]
  have e1:ep + 1 + m=ep + (m + 1):=by omega
  have e2:t + 4 + 4 * m=t + 4 * (m + 1):=by omega
  rw [e1,e2]
  rfl
noncomputable def fr3 (w:World)(os:OsState):Frame:=frOf (tw10295753902157049106 tw14364793385576792824 pw_re0182_01 ((w.withFollow "comprehension-iter-twice" true).withFollow "special-get-raises" true) 28 (some (.ref 6)) 1 79 ⟨T2 w.params,39,{},#[],{},293,os⟩ ⟨(tw12563942051412417395 (sts 3 1) hEnv).wrap doneF deadEnd id id,hC,⟨6,0,6,2⟩,[topFrame hQ]⟩)
noncomputable def Pre3 (w:World)(os:OsState)(n:Nat):Prop:=segGoT treeTable pw_re0182_01 w 28 (some (.ref 6)) 1 n ⟨T2 w.params,39,{},#[],{},293,os⟩ (piecesOf (sts 3 1) hEnv hC ⟨6,0,6,2⟩ [topFrame hQ])=some (⟨L3 w.params (.ofNat 1) (.ofNat 255) #[.str (hexS 0) 299] 1 (.int (.ofNat 0) 296),43,{},#[],{},300,os⟩,head3 (fr3 w os::[topFrame hQ]))
theorem pre3_true_true (w:World)(os:OsState):Pre3 ((w.withFollow "comprehension-iter-twice" true).withFollow "special-get-raises" true) os 79:=by
 unfold Pre3 head3 piecesOf
 rw [te10295753902157049106,te14364793385576792824,te11892475500146522536,te12563942051412417395]
 kernel_rfl
theorem pre3_true_false (w:World)(os:OsState):Pre3 ((w.withFollow "comprehension-iter-twice" true).withFollow "special-get-raises" false) os 79:=by
 unfold Pre3 head3 piecesOf
 rw [te10295753902157049106,te14364793385576792824,te11892475500146522536,te12563942051412417395]
 kernel_rfl
theorem pre3_false_true (w:World)(os:OsState):Pre3 ((w.withFollow "comprehension-iter-twice" false).withFollow "special-get-raises" true) os 89:=by
 unfold Pre3 head3 piecesOf
 rw [te10295753902157049106,te14364793385576792824,te11892475500146522536,te12563942051412417395]
 kernel_rfl
theorem pre3_false_false (w:World)(os:OsState):Pre3 ((w.withFollow "comprehension-iter-twice" false).withFollow "special-get-raises" false) os 89:=by
 unfold Pre3 head3 piecesOf
 rw [te10295753902157049106,te14364793385576792824,te11892475500146522536,te12563942051412417395]
 kernel_rfl
theorem suf3 (w:World)(os:OsState)(items:Array Value)(cv:Value)(j:Nat):segRunT treeTable pw_re0182_01 w 28 (some (.ref 6)) 1 (j + 28) ⟨L3 w.params (.ofNat 256) (.ofNat 0) items 256 cv,43,{},#[],{},1320,os⟩ (head3 (fr3 w os::[topFrame hQ]))=some (.next,⟨L3e w.params items,45,{},#[],{},1321,os⟩,hC,⟨7,0,7,11⟩):=by
 unfold head3
 rw [te10110043849684766642,te14364793385576792824,te11892475500146522536]
 kernel_rfl
theorem g0_t (w:World)(os:OsState):tw10110043849684766642 tw14364793385576792824 pw_re0182_01 w 28 (some (.ref 6)) 1 48 ⟨Tblock w.params,32,{},#[],{},282,os⟩ ⟨(tw12563942051412417395 (sts 0 3) hEnv).wrap doneF deadEnd id id,hC,⟨0,0,0,0⟩,[topFrame hQ]⟩=some (.next,⟨T2 w.params,39,{},#[],{},293,os⟩,hC,⟨6,0,6,2⟩):=by
 kernel_rfl
theorem g0 (w:World)(os:OsState):segRunT treeTable pw_re0182_01 w 28 (some (.ref 6)) 1 48 ⟨Tblock w.params,32,{},#[],{},282,os⟩ (piecesOf (sts 0 3) hEnv hC ⟨0,0,0,0⟩ [topFrame hQ])=some (.next,⟨T2 w.params,39,{},#[],{},293,os⟩,hC,⟨6,0,6,2⟩):=by
 rw [te10110043849684766642,te14364793385576792824]
 unfold piecesOf
 rw [te12563942051412417395]
 exact g0_t w os
theorem g4_t (w:World)(os:OsState):tw10110043849684766642 tw14364793385576792824 pw_re0182_01 w 28 (some (.ref 6)) 1 133 ⟨T3 w.params,45,{},#[],{},1321,os⟩ ⟨(tw12563942051412417395 (sts 4 8) hEnv).wrap doneF deadEnd id id,hC,⟨7,0,7,11⟩,[topFrame hQ]⟩=some (.next,⟨T11 w.params,49,{},#[],{},1338,os⟩,hC,⟨15,0,15,8⟩):=by
 kernel_rfl
theorem g4 (w:World)(os:OsState):segRunT treeTable pw_re0182_01 w 28 (some (.ref 6)) 1 133 ⟨T3 w.params,45,{},#[],{},1321,os⟩ (piecesOf (sts 4 8) hEnv hC ⟨7,0,7,11⟩ [topFrame hQ])=some (.next,⟨T11 w.params,49,{},#[],{},1338,os⟩,hC,⟨15,0,15,8⟩):=by
 rw [te10110043849684766642,te14364793385576792824]
 unfold piecesOf
 rw [te12563942051412417395]
 exact g4_t w os
theorem g13_t (w:World)(os:OsState):tw10110043849684766642 tw14364793385576792824 pw_re0182_01 w 28 (some (.ref 6)) 1 25 ⟨T12 w.params,52,{},#[],{},1546,os⟩ ⟨(tw12563942051412417395 (sts 13 1) hEnv).wrap doneF deadEnd id id,hC,⟨16,9,16,74⟩,[topFrame hQ]⟩=some (.next,⟨T13 w.params,52,{},#[],{},1549,os⟩,hC,⟨18,0,18,28⟩):=by
 kernel_rfl
theorem g13 (w:World)(os:OsState):segRunT treeTable pw_re0182_01 w 28 (some (.ref 6)) 1 25 ⟨T12 w.params,52,{},#[],{},1546,os⟩ (piecesOf (sts 13 1) hEnv hC ⟨16,9,16,74⟩ [topFrame hQ])=some (.next,⟨T13 w.params,52,{},#[],{},1549,os⟩,hC,⟨18,0,18,28⟩):=by
 rw [te10110043849684766642,te14364793385576792824]
 unfold piecesOf
 rw [te12563942051412417395]
 exact g13_t w os
theorem g15_false (w:World)(os:OsState):tw10110043849684766642 tw14364793385576792824 pw_re0182_01 (w.withFollow "special-get-raises" false) 28 (some (.ref 6)) 1 382 ⟨T14 (w.withFollow "special-get-raises" false).params,55,{},#[],{},1835,os⟩ ⟨(tw12563942051412417395 (sts 15 9) hEnv).wrap doneF deadEnd id id,hC,⟨19,9,19,110⟩,[topFrame hQ]⟩=some (.next,⟨T23 (w.withFollow "special-get-raises" false).params,95,{},#[],{},1930,os⟩,hC,⟨98,0,98,10⟩):=by
 kernel_rfl
theorem g15_true (w:World)(os:OsState):tw10110043849684766642 tw14364793385576792824 pw_re0182_01 (w.withFollow "special-get-raises" true) 28 (some (.ref 6)) 1 382 ⟨T14 (w.withFollow "special-get-raises" true).params,55,{},#[],{},1835,os⟩ ⟨(tw12563942051412417395 (sts 15 9) hEnv).wrap doneF deadEnd id id,hC,⟨19,9,19,110⟩,[topFrame hQ]⟩=some (.next,⟨T23 (w.withFollow "special-get-raises" true).params,95,{},#[],{},1930,os⟩,hC,⟨98,0,98,10⟩):=by
 kernel_rfl
theorem g15 (w:World)(os:OsState):segRunT treeTable pw_re0182_01 w 28 (some (.ref 6)) 1 382 ⟨T14 w.params,55,{},#[],{},1835,os⟩ ⟨(execs (sts 15 9) hEnv).wrap doneF deadEnd id id,hC,⟨19,9,19,110⟩,[topFrame hQ]⟩=some (.next,⟨T23 w.params,95,{},#[],{},1930,os⟩,hC,⟨98,0,98,10⟩):=by
 rw [te10110043849684766642,te14364793385576792824,te12563942051412417395]
 exact byRow2 "special-get-raises" (P:=fun w=>tw10110043849684766642 tw14364793385576792824 pw_re0182_01 w 28 (some (.ref 6)) 1 382 ⟨T14 w.params,55,{},#[],{},1835,os⟩ ⟨(tw12563942051412417395 (sts 15 9) hEnv).wrap doneF deadEnd id id,hC,⟨19,9,19,110⟩,[topFrame hQ]⟩=some (.next,⟨T23 w.params,95,{},#[],{},1930,os⟩,hC,⟨98,0,98,10⟩)) (fun w=>g15_false w os) (fun w=>g15_true w os) w
theorem g24_false (w:World)(os:OsState):tw10110043849684766642 tw14364793385576792824 pw_re0182_01 (w.withFollow "special-get-raises" false) 28 (some (.ref 6)) 1 172 ⟨T23 (w.withFollow "special-get-raises" false).params,95,{},#[],{},1930,os⟩ ⟨(tw12563942051412417395 (sts 24 3) hEnv).wrap doneF deadEnd id id,hC,⟨98,0,98,10⟩,[topFrame hQ]⟩=some (.next,⟨T26 (w.withFollow "special-get-raises" false).params,104,{},#[],{},1961,os⟩,hC,⟨102,0,102,23⟩):=by
 kernel_rfl
theorem g24_true (w:World)(os:OsState):tw10110043849684766642 tw14364793385576792824 pw_re0182_01 (w.withFollow "special-get-raises" true) 28 (some (.ref 6)) 1 172 ⟨T23 (w.withFollow "special-get-raises" true).params,95,{},#[],{},1930,os⟩ ⟨(tw12563942051412417395 (sts 24 3) hEnv).wrap doneF deadEnd id id,hC,⟨98,0,98,10⟩,[topFrame hQ]⟩=some (.next,⟨T26 (w.withFollow "special-get-raises" true).params,104,{},#[],{},1961,os⟩,hC,⟨102,0,102,23⟩):=by
 kernel_rfl
theorem g24 (w:World)(os:OsState):segRunT treeTable pw_re0182_01 w 28 (some (.ref 6)) 1 172 ⟨T23 w.params,95,{},#[],{},1930,os⟩ ⟨(execs (sts 24 3) hEnv).wrap doneF deadEnd id id,hC,⟨98,0,98,10⟩,[topFrame hQ]⟩=some (.next,⟨T26 w.params,104,{},#[],{},1961,os⟩,hC,⟨102,0,102,23⟩):=by
 rw [te10110043849684766642,te14364793385576792824,te12563942051412417395]
 exact byRow2 "special-get-raises" (P:=fun w=>tw10110043849684766642 tw14364793385576792824 pw_re0182_01 w 28 (some (.ref 6)) 1 172 ⟨T23 w.params,95,{},#[],{},1930,os⟩ ⟨(tw12563942051412417395 (sts 24 3) hEnv).wrap doneF deadEnd id id,hC,⟨98,0,98,10⟩,[topFrame hQ]⟩=some (.next,⟨T26 w.params,104,{},#[],{},1961,os⟩,hC,⟨102,0,102,23⟩)) (fun w=>g24_false w os) (fun w=>g24_true w os) w
theorem g27_t (w:World)(os:OsState):tw10110043849684766642 tw14364793385576792824 pw_re0182_01 w 28 (some (.ref 6)) 1 661 ⟨T26 w.params,104,{},#[],{},1961,os⟩ ⟨(tw12563942051412417395 (sts 27 1) hEnv).wrap doneF deadEnd id id,hC,⟨102,0,102,23⟩,[topFrame hQ]⟩=some (.next,⟨T27 w.params,206,{},#[],{},2126,os⟩,hC,⟨103,0,285,29⟩):=by
 kernel_rfl
theorem g27 (w:World)(os:OsState):segRunT treeTable pw_re0182_01 w 28 (some (.ref 6)) 1 661 ⟨T26 w.params,104,{},#[],{},1961,os⟩ (piecesOf (sts 27 1) hEnv hC ⟨102,0,102,23⟩ [topFrame hQ])=some (.next,⟨T27 w.params,206,{},#[],{},2126,os⟩,hC,⟨103,0,285,29⟩):=by
 rw [te10110043849684766642,te14364793385576792824]
 unfold piecesOf
 rw [te12563942051412417395]
 exact g27_t w os
theorem g28_t (w:World)(os:OsState):tw10110043849684766642 tw14364793385576792824 pw_re0182_01 w 28 (some (.ref 6)) 1 276 ⟨T27 w.params,206,{},#[],{},2126,os⟩ ⟨(tw12563942051412417395 (sts 28 10) hEnv).wrap doneF deadEnd id id,hC,⟨103,0,285,29⟩,[topFrame hQ]⟩=some (.next,⟨T37 w.params,263,{},#[],{},2202,os⟩,hC,⟨387,0,410,15⟩):=by
 kernel_rfl
theorem g28 (w:World)(os:OsState):segRunT treeTable pw_re0182_01 w 28 (some (.ref 6)) 1 276 ⟨T27 w.params,206,{},#[],{},2126,os⟩ (piecesOf (sts 28 10) hEnv hC ⟨103,0,285,29⟩ [topFrame hQ])=some (.next,⟨T37 w.params,263,{},#[],{},2202,os⟩,hC,⟨387,0,410,15⟩):=by
 rw [te10110043849684766642,te14364793385576792824]
 unfold piecesOf
 rw [te12563942051412417395]
 exact g28_t w os
theorem end3 (P:Params):L3e P (app3 255 1 300 #[.str (hexS 0) 299])=T3 P:=by
 kernel_rfl
noncomputable def Some3 (w:World)(os:OsState):Prop:=∃ n,(n=79\/n=89)/\Pre3 w os n
theorem pre3 (w:World)(os:OsState):Some3 w os:=by
 refine byRow2 "special-get-raises" (P:=fun w=>Some3 w os) (fun w=>?_) (fun w=>?_) w
 ·refine byRow2 "comprehension-iter-twice" (P:=fun w=>Some3 (w.withFollow "special-get-raises" false) os) (fun w=>?_) (fun w=>?_) w
  ·exact ⟨89,.inr rfl,pre3_false_false w os⟩
  ·exact ⟨79,.inl rfl,pre3_true_false w os⟩
 ·refine byRow2 "comprehension-iter-twice" (P:=fun w=>Some3 (w.withFollow "special-get-raises" true) os) (fun w=>?_) (fun w=>?_) w
  ·exact ⟨89,.inr rfl,pre3_false_true w os⟩
  ·exact ⟨79,.inl rfl,pre3_true_true w os⟩
theorem piece3 (w:World)(os:OsState):segRun treeTable pw_re0182_01 w 28 (some (.ref 6)) 1 9552 (⟨T2 w.params,39,{},#[],{},293,os⟩:PySem.W.SharedT).abs (piecesOf (sts 3 1) hEnv hC ⟨6,0,6,2⟩ [topFrame hQ])=some (.next,(⟨T3 w.params,45,{},#[],{},1321,os⟩:PySem.W.SharedT).abs,hC,⟨7,0,7,11⟩):=by
 obtain ⟨n,hn,h⟩:=pre3 w os
 have h1:=segGo_of h
 have h2:=segGo_of (run3 w os (fr3 w os) (topFrame hQ) [] 255 1 #[.str (hexS 0) 299] 1 (.int (.ofNat 0) 296) 300 rfl (by decide))
 rcases hn with rfl | rfl
 ·have h3:=segRun_of (suf3 w os (app3 255 1 300 #[.str (hexS 0) 299]) (cv3 255 1 300 (.int (.ofNat 0) 296)) 10)
  rw [end3] at h3
  have r:=seg_go h1 (seg_go h2 h3)
  have e:fuel3 255=9435:=by decide +kernel
  rw [e] at r
  exact r
 ·have h3:=segRun_of (suf3 w os (app3 255 1 300 #[.str (hexS 0) 299]) (cv3 255 1 300 (.int (.ofNat 0) 296)) 0)
  rw [end3] at h3
  have r:=seg_go h1 (seg_go h2 h3)
  have e:fuel3 255=9435:=by decide +kernel
  rw [e] at r
  exact r
noncomputable def fuel45:Nat->Nat
 | 0=>0
 | m + 1=>45 + fuel45 m
noncomputable def mk2 {α:Type}:Nat->Nat->(Nat->α)->List α
 | 0,_,_=>[]
 | n + 1,k,f=>f k::mk2 n (k + 1) f
theorem mk2_get {α:Type}:∀ (n k:Nat)(f:Nat->α)(i:Nat),i < n->(mk2 n k f)[i]? = some (f (k + i))
 | 0,_,_,_,h=>absurd h (Nat.not_lt_zero _)
 | n + 1,k,f,0,_=>rfl
 | n + 1,k,f,i + 1,h=>by
  show (mk2 n (k + 1) f)[i]? = _
  rw [mk2_get n (k + 1) f i (by omega)]
  congr 2;omega
noncomputable def hexF (c:Nat):Value:=.str (hexS c) (299 + 4 * c)
noncomputable def arr (f:Nat->Value):Array Value:=((List.range 256).map f).toArray
theorem arr_set (f:Nat->Value)(c:Nat)(v:Value):(arr f).setIfInBounds c v=arr (fun k=>if k=c then v else f k):=by
 unfold arr
 rw [List.setIfInBounds_toArray]
 congr 1
 apply List.ext_getElem?
 intro i
 rw [List.getElem?_set]
 simp only [List.getElem?_map,List.length_map,List.length_range]
 by_cases hi:i < 256
 ·rw [List.getElem?_range hi]
  by_cases hc:c=i
  ·subst hc;simp [hi]
  ·have:¬ i=c:=fun e=>hc e.symm
   simp [hc,this]
 ·rw [List.getElem?_eq_none (by simp;omega)]
  by_cases hc:c=i
  ·subst hc;simp [hi]
  ·simp [hc]
noncomputable def chC (x:Int) (t1:Nat):Code:=.builtin "chr" ⟨[.int x t1],[]⟩
theorem chrL:(List.range 256).map (fun n=>fun (t1:Nat)=>tw11892475500146522536 tw14364793385576792824 (chC (.ofNat n) t1))=(List.range 256).map (fun n=>fun (t1:Nat)=>(.fresh (fun t=>.pure (.done (.ret (.str ⟨#[n]⟩ t)))):Sem Fin)):=by
 kernel_rfl
theorem chr_at (n:Nat)(h:n < 256) (t1:Nat):denote treeTable (chC (.ofNat n) t1) = .fresh (fun t=>.pure (.done (.ret (.str ⟨#[n]⟩ t)))):=by
 rw [te14364793385576792824,te11892475500146522536]
 have q:=congrArg (fun l=>l[n]?) chrL
 simp only [List.getElem?_map,List.getElem?_range h,Option.map_some,Option.some.injEq] at q
 exact congrFun q t1
noncomputable def dQ (P:Params)(cv:Value):Obj:=⟨.type "dict",none,(.dict #[en P "__name__" 165 (.str "cpy313.email.quoprimime" 1336),en P "__doc__" 166 .none,en P "__package__" 167 .none,en P "__loader__" 168 (.builtin "__main__.__loader__#opaque"),en P "__spec__" 169 .none,en P "__annotations__" 170 (.ref 6),en P "__builtins__" 171 (.ref 4),en P "__file__" 173 (.str "/claim/cut.py" 172),en P "__cached__" 174 .none,en P "_sre" 275 (.ref 12),en P "_wall" 288 (.ref 38),en P "CRLF" 290 (.str "\x0d\n" 289),en P "NL" 292 (.str "\n" 291),en P "_QUOPRI_MAP" 1320 (.ref 41),en P "_QUOPRI_HEADER_MAP" 1321 (.ref 46),en P "_QUOPRI_BODY_MAP" 1322 (.ref 48),en P "ascii_lowercase" 1324 (.str "abcdefghijklmnopqrstuvwxyz" 1323),en P "ascii_uppercase" 1326 (.str "ABCDEFGHIJKLMNOPQRSTUVWXYZ" 1325),en P "ascii_letters" 1328 (.str "abcdefghijklmnopqrstuvwxyzABCDEFGHIJKLMNOPQRSTUVWXYZ" 1327),en P "digits" 1330 (.str "0123456789" 1329),en P "hexdigits" 1335 (.str "0123456789abcdefABCDEF" 1334),en P "c" 1346 cv] 22),#[]⟩
noncomputable def byQ:List Nat:=[45,33,42,43,47,97,98,99,100,101,102,103,104,105,106,107,108,109,110,111,112,113,114,115,116,117,118,119,120,121,122,65,66,67,68,69,70,71,72,73,74,75,76,77,78,79,80,81,82,83,84,85,86,87,88,89,90,48,49,50,51,52,53,54,55,56,57]
noncomputable def bsQ:Array UInt8:=#[45,33,42,43,47,97,98,99,100,101,102,103,104,105,106,107,108,109,110,111,112,113,114,115,116,117,118,119,120,121,122,65,66,67,68,69,70,71,72,73,74,75,76,77,78,79,80,81,82,83,84,85,86,87,88,89,90,48,49,50,51,52,53,54,55,56,57]
noncomputable def itQ (i:Nat):Obj:=⟨.type "bytes_iterator",none,.fields #[.bytes bsQ 1344,.int (.ofNat i) 0],#[]⟩
noncomputable def liQ (items:Array Value)(ep:Nat):Obj:=⟨.type "list",none,.seq items ep,#[]⟩
noncomputable def LQ (P:Params)(i:Nat)(items:Array Value)(cv:Value)(ep:Nat:=0):PySem.W.BT:=(.node (o0 P) (.node (o1 P) (.node (dQ P cv) (.node (o7 P) (.node (o15 P) (.node (o31 P) .nil .nil) (.node (o47 P) .nil .nil)) (.node (o23 P) (.node (o39 P) .nil .nil) .nil)) (.node (o11_1 P) (.node (o19 P) (.node (o35 P) .nil .nil) .nil) (.node (o27 P) (.node (o43 P) .nil .nil) .nil))) (.node (o5 P) (.node (o9 P) (.node (o17 P) (.node (o33 P) .nil .nil) (.node (itQ i) .nil .nil)) (.node (o25 P) (.node (o41 P) .nil .nil) .nil)) (.node (o13 P) (.node (o21 P) (.node (o37 P) .nil .nil) .nil) (.node (o29_1 P) (.node (o45 P) .nil .nil) .nil)))) (.node (o2 P) (.node (o4 P) (.node (o8 P) (.node (o16 P) (.node (o32 P) .nil .nil) (.node (o48 P) .nil .nil)) (.node (o24 P) (.node (o40 P) .nil .nil) .nil)) (.node (o12 P) (.node (o20 P) (.node (o36 P) .nil .nil) .nil) (.node (o28 P) (.node (o44 P) .nil .nil) .nil))) (.node (o6 P) (.node (o10 P) (.node (o18 P) (.node (o34 P) .nil .nil) .nil) (.node (o26 P) (.node (o42 P) .nil .nil) .nil)) (.node (o14 P) (.node (o22 P) (.node (o38 P) .nil .nil) .nil) (.node (o30 P) (.node (liQ items ep) .nil .nil) .nil)))))
noncomputable def LQe (P:Params)(items:Array Value)(cv:Value):PySem.W.BT:=(.node (o0 P) (.node (o1 P) (.node (dQ P cv) (.node (o7 P) (.node (o15 P) (.node (o31 P) .nil .nil) (.node (o47 P) .nil .nil)) (.node (o23 P) (.node (o39 P) .nil .nil) .nil)) (.node (o11_1 P) (.node (o19 P) (.node (o35 P) .nil .nil) (.node (o51 P) .nil .nil)) (.node (o27 P) (.node (o43 P) .nil .nil) .nil))) (.node (o5 P) (.node (o9 P) (.node (o17 P) (.node (o33 P) .nil .nil) (.node (o49 P) .nil .nil)) (.node (o25 P) (.node (o41 P) .nil .nil) .nil)) (.node (o13 P) (.node (o21 P) (.node (o37 P) .nil .nil) .nil) (.node (o29_1 P) (.node (o45 P) .nil .nil) .nil)))) (.node (o2 P) (.node (o4 P) (.node (o8 P) (.node (o16 P) (.node (o32 P) .nil .nil) (.node (o48 P) .nil .nil)) (.node (o24 P) (.node (o40 P) .nil .nil) .nil)) (.node (o12 P) (.node (o20 P) (.node (o36 P) .nil .nil) .nil) (.node (o28 P) (.node (o44 P) .nil .nil) .nil))) (.node (o6 P) (.node (o10 P) (.node (o18 P) (.node (o34 P) .nil .nil) (.node (o50 P) .nil .nil)) (.node (o26 P) (.node (o42 P) .nil .nil) .nil)) (.node (o14 P) (.node (o22 P) (.node (o38 P) .nil .nil) .nil) (.node (o30 P) (.node (liQ items 0) .nil .nil) .nil)))))
noncomputable def fxQ:Stmt:=sAt 13
noncomputable def ftQ:PySem.Expr:=match fxQ with
 | .For t _ _ _ _=>t
 | _=>.Constant .none 0 ⟨0,0,0,0⟩
noncomputable def fbQ:List Stmt:=match fxQ with
 | .For _ _ b _ _=>b
 | _=>[]
noncomputable def fcQ:Code:=.forLoop ftQ (.ref 49) fbQ [] hEnv
noncomputable def pHQ:Pos:=⟨17,4,17,25⟩
noncomputable def pNQ:Pos:=⟨16,4,16,5⟩
noncomputable def pCQ:Pos:=⟨17,28,17,34⟩
noncomputable def hdQ (st:List Frame):Thread:=⟨denote treeTable fcQ,fcQ,pHQ,st⟩
noncomputable def nxQ:Code:=.builtin "bytes_iterator.__next__" ⟨[.ref 49],[]⟩
noncomputable def seQ (x:Int) (t1:Nat)(v:Value):Code:=.builtin "list.__setitem__" ⟨[.ref 46,.int x t1,v],[]⟩
noncomputable def fAQ (w:World)(os:OsState)(F G:Frame)(st:List Frame)(i:Nat)(items:Array Value)(cv:Value)(t:Nat):Frame:=frOf (tw10295753902157049106 tw14364793385576792824 pw_re0182_01 w 28 (some (.ref 6)) 1 5 ⟨LQ w.params i items cv,50,{},#[],{},t,os⟩ ⟨tw11892475500146522536 tw14364793385576792824 fcQ,fcQ,pHQ,F::G::st⟩)
theorem aQ (w:World)(os:OsState)(F G:Frame)(st:List Frame)(i:Nat)(items:Array Value)(cv:Value)(t:Nat):segGoT treeTable pw_re0182_01 w 28 (some (.ref 6)) 1 5 ⟨LQ w.params i items cv,50,{},#[],{},t,os⟩ (hdQ (F::G::st))=some (⟨LQ w.params i items cv,50,{},#[],{},t,os⟩,⟨denote treeTable nxQ,nxQ,pNQ,fAQ w os F G st i items cv t::F::G::st⟩):=by
 unfold hdQ
 rw [te10295753902157049106,te14364793385576792824,te11892475500146522536]
 kernel_rfl
theorem nQ:(List.range 67).map (fun (i:Nat)=>fun (w:World)(os:OsState) (f1 F G:Frame)(st:List Frame)(items:Array Value)(cv:Value)(t:Nat)=>tw10295753902157049106 tw14364793385576792824 pw_re0182_01 w 28 (some (.ref 6)) 1 5 ⟨LQ w.params i items cv,50,{},#[],{},t,os⟩ ⟨tw11892475500146522536 tw14364793385576792824 nxQ,nxQ,pNQ,f1::F::G::st⟩)=(List.range 67).map (fun (i:Nat)=>fun (w:World)(os:OsState) (f1 F G:Frame)(st:List Frame)(items:Array Value)(cv:Value)(t:Nat)=>some (⟨LQ w.params (i + 1) items cv,50,{},#[],{},t + 1,os⟩,(⟨.pure (.done (.ret (.int (.ofNat (byQ.getD i 0)) t))),nxQ,pNQ,f1::F::G::st⟩:Thread))):=by
 kernel_rfl
theorem nQ_at (i:Nat)(h:i < 67)(w:World)(os:OsState) (f1 F G:Frame)(st:List Frame)(items:Array Value)(cv:Value)(t:Nat):segGoT treeTable pw_re0182_01 w 28 (some (.ref 6)) 1 5 ⟨LQ w.params i items cv,50,{},#[],{},t,os⟩ ⟨denote treeTable nxQ,nxQ,pNQ,f1::F::G::st⟩=some (⟨LQ w.params (i + 1) items cv,50,{},#[],{},t + 1,os⟩,⟨.pure (.done (.ret (.int (.ofNat (byQ.getD i 0)) t))),nxQ,pNQ,f1::F::G::st⟩):=by
 rw [te10295753902157049106,te14364793385576792824,te11892475500146522536]
 have q:=congrArg (fun l=>l[i]?) nQ
 simp only [List.getElem?_map,List.getElem?_range h,Option.map_some,Option.some.injEq] at q
 exact congrFun (congrFun (congrFun (congrFun (congrFun (congrFun (congrFun (congrFun (congrFun q w) os) f1) F) G) st) items) cv) t
noncomputable def fBQ (w:World)(os:OsState)(F G:Frame)(st:List Frame)(i:Nat)(items:Array Value)(cv:Value)(t:Nat)(x:Int) (t1 i1:Nat) (items1:Array Value) (cv1:Value) (t2:Nat):Frame:=frOf (tw10295753902157049106 tw14364793385576792824 pw_re0182_01 w 28 (some (.ref 6)) 1 17 ⟨LQ w.params i1 items1 cv1,50,{},#[],{},t2,os⟩ ⟨.pure (.done (.ret (.int x t1))),nxQ,pNQ,fAQ w os F G st i items cv t::F::G::st⟩)
theorem bQ (w:World)(os:OsState)(F G:Frame)(st:List Frame)(i:Nat)(items:Array Value)(cv:Value)(t:Nat)(x:Int) (t1 i1:Nat) (items1:Array Value) (cv1:Value) (t2:Nat):segGoT treeTable pw_re0182_01 w 28 (some (.ref 6)) 1 17 ⟨LQ w.params i1 items1 cv1,50,{},#[],{},t2,os⟩ ⟨.pure (.done (.ret (.int x t1))),nxQ,pNQ,fAQ w os F G st i items cv t::F::G::st⟩=some (⟨LQ w.params i1 items1 (.int x t1),50,{},#[],{},t2 + 1,os⟩,⟨denote treeTable (chC x t1),chC x t1,pCQ,fBQ w os F G st i items cv t x t1 i1 items1 cv1 t2::F::G::st⟩):=by
 rw [te10295753902157049106,te14364793385576792824,te11892475500146522536]
 kernel_rfl
noncomputable def fCQ (w:World)(os:OsState)(F G:Frame)(st:List Frame)(i:Nat)(items:Array Value)(cv:Value)(t:Nat)(x:Int) (t1 i1:Nat) (items1:Array Value) (cv1:Value) (t2:Nat)(vs:Str) (vt i2:Nat) (items2:Array Value) (t3:Nat):Frame:=frOf (tw10295753902157049106 tw14364793385576792824 pw_re0182_01 w 28 (some (.ref 6)) 1 12 ⟨LQ w.params i2 items2 (.int x t1),50,{},#[],{},t3,os⟩ ⟨.pure (.done (.ret (.str vs vt))),chC x t1,pCQ,fBQ w os F G st i items cv t x t1 i1 items1 cv1 t2::F::G::st⟩)
theorem cQ (w:World)(os:OsState)(F G:Frame)(st:List Frame)(i:Nat)(items:Array Value)(cv:Value)(t:Nat)(x:Int) (t1 i1:Nat) (items1:Array Value) (cv1:Value) (t2:Nat)(vs:Str) (vt i2:Nat) (items2:Array Value) (t3:Nat):segGoT treeTable pw_re0182_01 w 28 (some (.ref 6)) 1 12 ⟨LQ w.params i2 items2 (.int x t1),50,{},#[],{},t3,os⟩ ⟨.pure (.done (.ret (.str vs vt))),chC x t1,pCQ,fBQ w os F G st i items cv t x t1 i1 items1 cv1 t2::F::G::st⟩=some (⟨LQ w.params i2 items2 (.int x t1),50,{},#[],{},t3,os⟩,⟨denote treeTable (seQ x t1 (.str vs vt)),seQ x t1 (.str vs vt),pHQ,fCQ w os F G st i items cv t x t1 i1 items1 cv1 t2 vs vt i2 items2 t3::F::G::st⟩):=by
 rw [te10295753902157049106,te14364793385576792824,te11892475500146522536]
 kernel_rfl
theorem eQ (w:World)(os:OsState)(F G:Frame)(st:List Frame)(i:Nat)(items:Array Value)(cv:Value)(t:Nat)(x:Int) (t1 i1:Nat) (items1:Array Value) (cv1:Value) (t2:Nat)(vs:Str) (vt i2:Nat) (items2:Array Value) (t3:Nat) (w1:Value) (i3:Nat) (items3:Array Value) (cv3:Value) (t4:Nat):segGoT treeTable pw_re0182_01 w 28 (some (.ref 6)) 1 2 ⟨LQ w.params i3 items3 cv3,50,{},#[],{},t4,os⟩ ⟨.pure (.done (.ret w1)),seQ x t1 (.str vs vt),pHQ,fCQ w os F G st i items cv t x t1 i1 items1 cv1 t2 vs vt i2 items2 t3::F::G::st⟩=some (⟨LQ w.params i3 items3 cv3,50,{},#[],{},t4,os⟩,hdQ (F::G::st)):=by
 unfold hdQ
 rw [te10295753902157049106,te14364793385576792824,te11892475500146522536]
 kernel_rfl
noncomputable def isQ:Nat->Nat->Value
 | 0=>hexF
 | i + 1=>fun k=>if k=byQ.getD i 0 then .str ⟨#[byQ.getD i 0]⟩ (1347 + 3 * i) else isQ i k
theorem sQ:mk2 67 0 (fun (i:Nat)=>fun (w:World)(os:OsState) (f1 F G:Frame)(st:List Frame)(cv:Value) (i1 t1 t:Nat)(v:Value)(f:Nat->Value)=>tw10295753902157049106 tw14364793385576792824 pw_re0182_01 w 28 (some (.ref 6)) 1 3 ⟨LQ w.params i1 (arr f) cv,50,{},#[],{},t,os⟩ ⟨tw11892475500146522536 tw14364793385576792824 (seQ (.ofNat (byQ.getD i 0)) t1 v),(seQ (.ofNat (byQ.getD i 0)) t1 v),pHQ,f1::F::G::st⟩)=(List.range 67).map (fun (i:Nat)=>fun (w:World)(os:OsState) (f1 F G:Frame)(st:List Frame)(cv:Value) (i1 t1 t:Nat)(v:Value)(f:Nat->Value)=>some (⟨LQ w.params i1 ((arr f).setIfInBounds (byQ.getD i 0) v) cv (if ((arr f).setIfInBounds (byQ.getD i 0) v).size == (arr f).size then 0 else 0 + 1),50,{},#[],{},t,os⟩,(⟨.pure (.done (.ret .none)),(seQ (.ofNat (byQ.getD i 0)) t1 v),pHQ,f1::F::G::st⟩:Thread))):=by
 kernel_rfl
theorem sQ_at (i:Nat)(h:i < 67)(w:World)(os:OsState) (f1 F G:Frame)(st:List Frame)(cv:Value) (i1 t1 t:Nat)(v:Value)(f:Nat->Value):segGoT treeTable pw_re0182_01 w 28 (some (.ref 6)) 1 3 ⟨LQ w.params i1 (arr f) cv,50,{},#[],{},t,os⟩ ⟨denote treeTable (seQ (.ofNat (byQ.getD i 0)) t1 v),(seQ (.ofNat (byQ.getD i 0)) t1 v),pHQ,f1::F::G::st⟩=some (⟨LQ w.params i1 ((arr f).setIfInBounds (byQ.getD i 0) v) cv (if ((arr f).setIfInBounds (byQ.getD i 0) v).size == (arr f).size then 0 else 0 + 1),50,{},#[],{},t,os⟩,⟨.pure (.done (.ret .none)),(seQ (.ofNat (byQ.getD i 0)) t1 v),pHQ,f1::F::G::st⟩):=by
 rw [te10295753902157049106,te14364793385576792824,te11892475500146522536]
 have q:=congrArg (fun l=>l[i]?) sQ
 simp only [mk2_get _ _ _ _ h,Nat.zero_add,List.getElem?_map,List.getElem?_range h,Option.map_some,Option.some.injEq] at q
 have q2:=congrFun (congrFun (congrFun (congrFun (congrFun (congrFun (congrFun (congrFun (congrFun (congrFun (congrFun (congrFun q w) os) f1) F) G) st) cv) i1) t1) t) v) f
 rw [q2,if_pos (by simp)]
theorem turnQ (w:World)(os:OsState)(F G:Frame)(st:List Frame)(i:Nat)(cv:Value)(hi:i < 67) :
  segGoT treeTable pw_re0182_01 w 28 (some (.ref 6)) 1 45 ⟨LQ w.params i (arr (isQ i)) cv,50,{},#[],{},1345 + 3 * i,os⟩ (hdQ (F::G::st))=some (⟨LQ w.params (i + 1) (arr (isQ (i + 1))) (.int (.ofNat (byQ.getD i 0)) (1345 + 3 * i)),50,{},#[],{},1345 + 3 * (i + 1),os⟩,hdQ (F::G::st)):=by
 have hb:(byQ.getD i 0) < 256:=by
  have:=List.all_eq_true.mp (show byQ.all (·< 256)=true from by decide +kernel)
  rw [List.getD_eq_getElem?_getD]
  cases q:byQ[i]? with
  | none=>decide
  | some y=>exact of_decide_eq_true (this y (List.mem_of_getElem? q))
 refine goT_app (n:=5) (m:=40) (aQ w os F G st i (arr (isQ i)) cv (1345 + 3 * i)) ?_
 refine goT_app (n:=5) (m:=35) (nQ_at i hi w os _ F G st (arr (isQ i)) cv (1345 + 3 * i)) ?_
 refine goT_app (n:=17) (m:=18) (bQ w os F G st i (arr (isQ i)) cv (1345 + 3 * i) (.ofNat (byQ.getD i 0)) (1345 + 3 * i) (i + 1) (arr (isQ i)) cv (1345 + 3 * i + 1)) ?_
 rw [chr_at _ hb]
 refine goT_app (n:=1) (m:=17) fresh1 ?_
 have et:1345 + 3 * i + 1 + 1=1347 + 3 * i:=by omega
 rw [et]
 refine goT_app (n:=12) (m:=5) (cQ w os F G st i (arr (isQ i)) cv (1345 + 3 * i) (.ofNat (byQ.getD i 0)) (1345 + 3 * i) (i + 1) (arr (isQ i)) cv (1345 + 3 * i + 1) ⟨#[(byQ.getD i 0)]⟩ (1347 + 3 * i) (i + 1) (arr (isQ i)) (1347 + 3 * i + 1)) ?_
 refine goT_app (n:=3) (m:=2) (sQ_at i hi w os _ F G st (.int (.ofNat (byQ.getD i 0)) (1345 + 3 * i)) (i + 1) (1345 + 3 * i) (1347 + 3 * i + 1) (.str ⟨#[(byQ.getD i 0)]⟩ (1347 + 3 * i)) (isQ i)) ?_
 rw [arr_set]
 have et:1347 + 3 * i + 1=1345 + 3 * (i + 1):=by omega
 rw [et]
 exact eQ w os F G st i (arr (isQ i)) cv (1345 + 3 * i) (.ofNat (byQ.getD i 0)) (1345 + 3 * i) (i + 1) (arr (isQ i)) cv (1345 + 3 * i + 1) ⟨#[(byQ.getD i 0)]⟩ (1347 + 3 * i) (i + 1) (arr (isQ i)) (1345 + 3 * (i + 1)) .none (i + 1) (arr (isQ (i + 1))) (.int (.ofNat (byQ.getD i 0)) (1345 + 3 * i)) (1345 + 3 * (i + 1))
noncomputable def cvQ:Nat->Nat->Value->Value
 | 0,_,cv=>cv
 | m + 1,i,_=>cvQ m (i + 1) (.int (.ofNat (byQ.getD i 0)) (1345 + 3 * i))
theorem runQ (w:World)(os:OsState)(F G:Frame)(st:List Frame):∀ (m i:Nat)(cv:Value),i + m=67 ->
  segGoT treeTable pw_re0182_01 w 28 (some (.ref 6)) 1 (fuel45 m) ⟨LQ w.params i (arr (isQ i)) cv,50,{},#[],{},1345 + 3 * i,os⟩ (hdQ (F::G::st))=some (⟨LQ w.params 67 (arr (isQ 67)) (cvQ m i cv),50,{},#[],{},1345 + 3 * 67,os⟩,hdQ (F::G::st))
 | 0,i,cv,h=>by
  obtain rfl:i=67:=by omega
  rfl
 | m + 1,i,cv,h=>by
  refine goT_app (turnQ w os F G st i cv (by omega)) ?_
  exact runQ w os F G st m (i + 1) _ (by omega)
noncomputable def frQ (w:World)(os:OsState):Frame:=frOf (tw10295753902157049106 tw14364793385576792824 pw_re0182_01 (w.withFollow "special-get-raises" true) 28 (some (.ref 6)) 1 89 ⟨T11 w.params,49,{},#[],{},1338,os⟩ ⟨(tw12563942051412417395 (sts 12 1) hEnv).wrap doneF deadEnd id id,hC,⟨15,0,15,8⟩,[topFrame hQ]⟩)
noncomputable def PreQ (w:World)(os:OsState):Prop:=segGoT treeTable pw_re0182_01 w 28 (some (.ref 6)) 1 89 ⟨T11 w.params,49,{},#[],{},1338,os⟩ (piecesOf (sts 12 1) hEnv hC ⟨15,0,15,8⟩ [topFrame hQ])=some (⟨LQ w.params 1 (arr (isQ 1)) (.int (.ofNat 45) 1345),50,{},#[],{},1348,os⟩,hdQ (frQ w os::[topFrame hQ]))
theorem preQ_true (w:World)(os:OsState):PreQ (w.withFollow "special-get-raises" true) os:=by
 unfold PreQ hdQ piecesOf
 rw [te10295753902157049106,te14364793385576792824,te11892475500146522536,te12563942051412417395]
 kernel_rfl
theorem preQ_false (w:World)(os:OsState):PreQ (w.withFollow "special-get-raises" false) os:=by
 unfold PreQ hdQ piecesOf
 rw [te10295753902157049106,te14364793385576792824,te11892475500146522536,te12563942051412417395]
 kernel_rfl
theorem preQ (w:World)(os:OsState):PreQ w os:=byRow2 "special-get-raises" (P:=fun w=>PreQ w os) (fun w=>preQ_false w os) (fun w=>preQ_true w os) w
theorem sufQ (w:World)(os:OsState)(items:Array Value)(cv:Value):segRunT treeTable pw_re0182_01 w 28 (some (.ref 6)) 1 18 ⟨LQ w.params 67 items cv,50,{},#[],{},1546,os⟩ (hdQ (frQ w os::[topFrame hQ]))=some (.next,⟨LQe w.params items cv,52,{},#[],{},1546,os⟩,hC,⟨16,9,16,74⟩):=by
 unfold hdQ
 rw [te10110043849684766642,te14364793385576792824,te11892475500146522536]
 kernel_rfl
theorem endQ (P:Params):LQe P (arr (isQ 67)) (cvQ 66 1 (.int (.ofNat 45) 1345))=T12 P:=by
 kernel_rfl
theorem pieceQ (w:World)(os:OsState):segRun treeTable pw_re0182_01 w 28 (some (.ref 6)) 1 (89 + (fuel45 66 + 18)) (⟨T11 w.params,49,{},#[],{},1338,os⟩:PySem.W.SharedT).abs (piecesOf (sts 12 1) hEnv hC ⟨15,0,15,8⟩ [topFrame hQ])=some (.next,(⟨T12 w.params,52,{},#[],{},1546,os⟩:PySem.W.SharedT).abs,hC,⟨16,9,16,74⟩):=by
 have h1:=segGo_of (preQ w os)
 have h2:=segGo_of (runQ w os (frQ w os) (topFrame hQ) [] 66 1 (.int (.ofNat 45) 1345) rfl)
 have h3:=segRun_of (sufQ w os (arr (isQ 67)) (cvQ 66 1 (.int (.ofNat 45) 1345)))
 rw [endQ] at h3
 exact seg_go h1 (seg_go h2 h3)
noncomputable def dZ (P:Params)(cv:Value):Obj:=⟨.type "dict",none,(.dict #[en P "__name__" 165 (.str "cpy313.email.quoprimime" 1336),en P "__doc__" 166 .none,en P "__package__" 167 .none,en P "__loader__" 168 (.builtin "__main__.__loader__#opaque"),en P "__spec__" 169 .none,en P "__annotations__" 170 (.ref 6),en P "__builtins__" 171 (.ref 4),en P "__file__" 173 (.str "/claim/cut.py" 172),en P "__cached__" 174 .none,en P "_sre" 275 (.ref 12),en P "_wall" 288 (.ref 38),en P "CRLF" 290 (.str "\x0d\n" 289),en P "NL" 292 (.str "\n" 291),en P "_QUOPRI_MAP" 1320 (.ref 41),en P "_QUOPRI_HEADER_MAP" 1321 (.ref 46),en P "_QUOPRI_BODY_MAP" 1322 (.ref 48),en P "ascii_lowercase" 1324 (.str "abcdefghijklmnopqrstuvwxyz" 1323),en P "ascii_uppercase" 1326 (.str "ABCDEFGHIJKLMNOPQRSTUVWXYZ" 1325),en P "ascii_letters" 1328 (.str "abcdefghijklmnopqrstuvwxyzABCDEFGHIJKLMNOPQRSTUVWXYZ" 1327),en P "digits" 1330 (.str "0123456789" 1329),en P "hexdigits" 1335 (.str "0123456789abcdefABCDEF" 1334),en P "c" 1346 cv] 22),#[]⟩
noncomputable def byZ:List Nat:=[32,33,34,35,36,37,38,39,40,41,42,43,44,45,46,47,48,49,50,51,52,53,54,55,56,57,58,59,60,62,63,64,65,66,67,68,69,70,71,72,73,74,75,76,77,78,79,80,81,82,83,84,85,86,87,88,89,90,91,92,93,94,95,96,97,98,99,100,101,102,103,104,105,106,107,108,109,110,111,112,113,114,115,116,117,118,119,120,121,122,123,124,125,126,9]
noncomputable def bsZ:Array UInt8:=#[32,33,34,35,36,37,38,39,40,41,42,43,44,45,46,47,48,49,50,51,52,53,54,55,56,57,58,59,60,62,63,64,65,66,67,68,69,70,71,72,73,74,75,76,77,78,79,80,81,82,83,84,85,86,87,88,89,90,91,92,93,94,95,96,97,98,99,100,101,102,103,104,105,106,107,108,109,110,111,112,113,114,115,116,117,118,119,120,121,122,123,124,125,126,9]
noncomputable def itZ (i:Nat):Obj:=⟨.type "bytes_iterator",none,.fields #[.bytes bsZ 1549,.int (.ofNat i) 0],#[]⟩
noncomputable def liZ (items:Array Value)(ep:Nat):Obj:=⟨.type "list",none,.seq items ep,#[]⟩
noncomputable def LZ (P:Params)(i:Nat)(items:Array Value)(cv:Value)(ep:Nat:=0):PySem.W.BT:=(.node (o0 P) (.node (o1 P) (.node (dZ P cv) (.node (o7 P) (.node (o15 P) (.node (o31 P) .nil .nil) (.node (o47 P) .nil .nil)) (.node (o23 P) (.node (o39 P) .nil .nil) .nil)) (.node (o11_1 P) (.node (o19 P) (.node (o35 P) .nil .nil) (.node (o51 P) .nil .nil)) (.node (o27 P) (.node (o43 P) .nil .nil) .nil))) (.node (o5 P) (.node (o9 P) (.node (o17 P) (.node (o33 P) .nil .nil) (.node (o49 P) .nil .nil)) (.node (o25 P) (.node (o41 P) .nil .nil) .nil)) (.node (o13 P) (.node (o21 P) (.node (o37 P) .nil .nil) .nil) (.node (o29_1 P) (.node (o45 P) .nil .nil) .nil)))) (.node (o2 P) (.node (o4 P) (.node (o8 P) (.node (o16 P) (.node (o32 P) .nil .nil) (.node (liZ items ep) .nil .nil)) (.node (o24 P) (.node (o40 P) .nil .nil) .nil)) (.node (o12 P) (.node (o20 P) (.node (o36 P) .nil .nil) (.node (itZ i) .nil .nil)) (.node (o28 P) (.node (o44 P) .nil .nil) .nil))) (.node (o6 P) (.node (o10 P) (.node (o18 P) (.node (o34 P) .nil .nil) (.node (o50 P) .nil .nil)) (.node (o26 P) (.node (o42 P) .nil .nil) .nil)) (.node (o14 P) (.node (o22 P) (.node (o38 P) .nil .nil) .nil) (.node (o30 P) (.node (o46_2 P) .nil .nil) .nil)))))
noncomputable def LZe (P:Params)(items:Array Value)(cv:Value):PySem.W.BT:=(.node (o0 P) (.node (o1 P) (.node (dZ P cv) (.node (o7 P) (.node (o15 P) (.node (o31 P) .nil .nil) (.node (o47 P) .nil .nil)) (.node (o23 P) (.node (o39 P) .nil .nil) .nil)) (.node (o11_1 P) (.node (o19 P) (.node (o35 P) .nil .nil) (.node (o51 P) .nil .nil)) (.node (o27 P) (.node (o43 P) .nil .nil) .nil))) (.node (o5 P) (.node (o9 P) (.node (o17 P) (.node (o33 P) .nil .nil) (.node (o49 P) .nil .nil)) (.node (o25 P) (.node (o41 P) .nil .nil) .nil)) (.node (o13 P) (.node (o21 P) (.node (o37 P) .nil .nil) (.node (o53 P) .nil .nil)) (.node (o29_1 P) (.node (o45 P) .nil .nil) .nil)))) (.node (o2 P) (.node (o4 P) (.node (o8 P) (.node (o16 P) (.node (o32 P) .nil .nil) (.node (liZ items 0) .nil .nil)) (.node (o24 P) (.node (o40 P) .nil .nil) .nil)) (.node (o12 P) (.node (o20 P) (.node (o36 P) .nil .nil) (.node (o52 P) .nil .nil)) (.node (o28 P) (.node (o44 P) .nil .nil) .nil))) (.node (o6 P) (.node (o10 P) (.node (o18 P) (.node (o34 P) .nil .nil) (.node (o50 P) .nil .nil)) (.node (o26 P) (.node (o42 P) .nil .nil) .nil)) (.node (o14 P) (.node (o22 P) (.node (o38 P) .nil .nil) (.node (o54 P) .nil .nil)) (.node (o30 P) (.node (o46_2 P) .nil .nil) .nil)))))
noncomputable def fxZ:Stmt:=sAt 15
noncomputable def ftZ:PySem.Expr:=match fxZ with
 | .For t _ _ _ _=>t
 | _=>.Constant .none 0 ⟨0,0,0,0⟩
noncomputable def fbZ:List Stmt:=match fxZ with
 | .For _ _ b _ _=>b
 | _=>[]
noncomputable def fcZ:Code:=.forLoop ftZ (.ref 52) fbZ [] hEnv
noncomputable def pHZ:Pos:=⟨20,4,20,23⟩
noncomputable def pNZ:Pos:=⟨19,4,19,5⟩
noncomputable def pCZ:Pos:=⟨20,26,20,32⟩
noncomputable def hdZ (st:List Frame):Thread:=⟨denote treeTable fcZ,fcZ,pHZ,st⟩
noncomputable def nxZ:Code:=.builtin "bytes_iterator.__next__" ⟨[.ref 52],[]⟩
noncomputable def seZ (x:Int) (t1:Nat)(v:Value):Code:=.builtin "list.__setitem__" ⟨[.ref 48,.int x t1,v],[]⟩
noncomputable def fAZ (w:World)(os:OsState)(F G:Frame)(st:List Frame)(i:Nat)(items:Array Value)(cv:Value)(t:Nat):Frame:=frOf (tw10295753902157049106 tw14364793385576792824 pw_re0182_01 w 28 (some (.ref 6)) 1 5 ⟨LZ w.params i items cv,53,{},#[],{},t,os⟩ ⟨tw11892475500146522536 tw14364793385576792824 fcZ,fcZ,pHZ,F::G::st⟩)
theorem aZ (w:World)(os:OsState)(F G:Frame)(st:List Frame)(i:Nat)(items:Array Value)(cv:Value)(t:Nat):segGoT treeTable pw_re0182_01 w 28 (some (.ref 6)) 1 5 ⟨LZ w.params i items cv,53,{},#[],{},t,os⟩ (hdZ (F::G::st))=some (⟨LZ w.params i items cv,53,{},#[],{},t,os⟩,⟨denote treeTable nxZ,nxZ,pNZ,fAZ w os F G st i items cv t::F::G::st⟩):=by
 unfold hdZ
 rw [te10295753902157049106,te14364793385576792824,te11892475500146522536]
 kernel_rfl
theorem nZ:(List.range 95).map (fun (i:Nat)=>fun (w:World)(os:OsState) (f1 F G:Frame)(st:List Frame)(items:Array Value)(cv:Value)(t:Nat)=>tw10295753902157049106 tw14364793385576792824 pw_re0182_01 w 28 (some (.ref 6)) 1 5 ⟨LZ w.params i items cv,53,{},#[],{},t,os⟩ ⟨tw11892475500146522536 tw14364793385576792824 nxZ,nxZ,pNZ,f1::F::G::st⟩)=(List.range 95).map (fun (i:Nat)=>fun (w:World)(os:OsState) (f1 F G:Frame)(st:List Frame)(items:Array Value)(cv:Value)(t:Nat)=>some (⟨LZ w.params (i + 1) items cv,53,{},#[],{},t + 1,os⟩,(⟨.pure (.done (.ret (.int (.ofNat (byZ.getD i 0)) t))),nxZ,pNZ,f1::F::G::st⟩:Thread))):=by
 kernel_rfl
theorem nZ_at (i:Nat)(h:i < 95)(w:World)(os:OsState) (f1 F G:Frame)(st:List Frame)(items:Array Value)(cv:Value)(t:Nat):segGoT treeTable pw_re0182_01 w 28 (some (.ref 6)) 1 5 ⟨LZ w.params i items cv,53,{},#[],{},t,os⟩ ⟨denote treeTable nxZ,nxZ,pNZ,f1::F::G::st⟩=some (⟨LZ w.params (i + 1) items cv,53,{},#[],{},t + 1,os⟩,⟨.pure (.done (.ret (.int (.ofNat (byZ.getD i 0)) t))),nxZ,pNZ,f1::F::G::st⟩):=by
 rw [te10295753902157049106,te14364793385576792824,te11892475500146522536]
 have q:=congrArg (fun l=>l[i]?) nZ
 simp only [List.getElem?_map,List.getElem?_range h,Option.map_some,Option.some.injEq] at q
 exact congrFun (congrFun (congrFun (congrFun (congrFun (congrFun (congrFun (congrFun (congrFun q w) os) f1) F) G) st) items) cv) t
noncomputable def fBZ (w:World)(os:OsState)(F G:Frame)(st:List Frame)(i:Nat)(items:Array Value)(cv:Value)(t:Nat)(x:Int) (t1 i1:Nat) (items1:Array Value) (cv1:Value) (t2:Nat):Frame:=frOf (tw10295753902157049106 tw14364793385576792824 pw_re0182_01 w 28 (some (.ref 6)) 1 17 ⟨LZ w.params i1 items1 cv1,53,{},#[],{},t2,os⟩ ⟨.pure (.done (.ret (.int x t1))),nxZ,pNZ,fAZ w os F G st i items cv t::F::G::st⟩)
theorem bZ (w:World)(os:OsState)(F G:Frame)(st:List Frame)(i:Nat)(items:Array Value)(cv:Value)(t:Nat)(x:Int) (t1 i1:Nat) (items1:Array Value) (cv1:Value) (t2:Nat):segGoT treeTable pw_re0182_01 w 28 (some (.ref 6)) 1 17 ⟨LZ w.params i1 items1 cv1,53,{},#[],{},t2,os⟩ ⟨.pure (.done (.ret (.int x t1))),nxZ,pNZ,fAZ w os F G st i items cv t::F::G::st⟩=some (⟨LZ w.params i1 items1 (.int x t1),53,{},#[],{},t2 + 1,os⟩,⟨denote treeTable (chC x t1),chC x t1,pCZ,fBZ w os F G st i items cv t x t1 i1 items1 cv1 t2::F::G::st⟩):=by
 rw [te10295753902157049106,te14364793385576792824,te11892475500146522536]
 kernel_rfl
noncomputable def fCZ (w:World)(os:OsState)(F G:Frame)(st:List Frame)(i:Nat)(items:Array Value)(cv:Value)(t:Nat)(x:Int) (t1 i1:Nat) (items1:Array Value) (cv1:Value) (t2:Nat)(vs:Str) (vt i2:Nat) (items2:Array Value) (t3:Nat):Frame:=frOf (tw10295753902157049106 tw14364793385576792824 pw_re0182_01 w 28 (some (.ref 6)) 1 12 ⟨LZ w.params i2 items2 (.int x t1),53,{},#[],{},t3,os⟩ ⟨.pure (.done (.ret (.str vs vt))),chC x t1,pCZ,fBZ w os F G st i items cv t x t1 i1 items1 cv1 t2::F::G::st⟩)
theorem cZ (w:World)(os:OsState)(F G:Frame)(st:List Frame)(i:Nat)(items:Array Value)(cv:Value)(t:Nat)(x:Int) (t1 i1:Nat) (items1:Array Value) (cv1:Value) (t2:Nat)(vs:Str) (vt i2:Nat) (items2:Array Value) (t3:Nat):segGoT treeTable pw_re0182_01 w 28 (some (.ref 6)) 1 12 ⟨LZ w.params i2 items2 (.int x t1),53,{},#[],{},t3,os⟩ ⟨.pure (.done (.ret (.str vs vt))),chC x t1,pCZ,fBZ w os F G st i items cv t x t1 i1 items1 cv1 t2::F::G::st⟩=some (⟨LZ w.params i2 items2 (.int x t1),53,{},#[],{},t3,os⟩,⟨denote treeTable (seZ x t1 (.str vs vt)),seZ x t1 (.str vs vt),pHZ,fCZ w os F G st i items cv t x t1 i1 items1 cv1 t2 vs vt i2 items2 t3::F::G::st⟩):=by
 rw [te10295753902157049106,te14364793385576792824,te11892475500146522536]
 kernel_rfl
theorem eZ (w:World)(os:OsState)(F G:Frame)(st:List Frame)(i:Nat)(items:Array Value)(cv:Value)(t:Nat)(x:Int) (t1 i1:Nat) (items1:Array Value) (cv1:Value) (t2:Nat)(vs:Str) (vt i2:Nat) (items2:Array Value) (t3:Nat) (w1:Value) (i3:Nat) (items3:Array Value) (cv3:Value) (t4:Nat):segGoT treeTable pw_re0182_01 w 28 (some (.ref 6)) 1 2 ⟨LZ w.params i3 items3 cv3,53,{},#[],{},t4,os⟩ ⟨.pure (.done (.ret w1)),seZ x t1 (.str vs vt),pHZ,fCZ w os F G st i items cv t x t1 i1 items1 cv1 t2 vs vt i2 items2 t3::F::G::st⟩=some (⟨LZ w.params i3 items3 cv3,53,{},#[],{},t4,os⟩,hdZ (F::G::st)):=by
 unfold hdZ
 rw [te10295753902157049106,te14364793385576792824,te11892475500146522536]
 kernel_rfl
noncomputable def isZ:Nat->Nat->Value
 | 0=>hexF
 | i + 1=>fun k=>if k=byZ.getD i 0 then .str ⟨#[byZ.getD i 0]⟩ (1552 + 3 * i) else isZ i k
theorem sZ:mk2 95 0 (fun (i:Nat)=>fun (w:World)(os:OsState) (f1 F G:Frame)(st:List Frame)(cv:Value) (i1 t1 t:Nat)(v:Value)(f:Nat->Value)=>tw10295753902157049106 tw14364793385576792824 pw_re0182_01 w 28 (some (.ref 6)) 1 3 ⟨LZ w.params i1 (arr f) cv,53,{},#[],{},t,os⟩ ⟨tw11892475500146522536 tw14364793385576792824 (seZ (.ofNat (byZ.getD i 0)) t1 v),(seZ (.ofNat (byZ.getD i 0)) t1 v),pHZ,f1::F::G::st⟩)=(List.range 95).map (fun (i:Nat)=>fun (w:World)(os:OsState) (f1 F G:Frame)(st:List Frame)(cv:Value) (i1 t1 t:Nat)(v:Value)(f:Nat->Value)=>some (⟨LZ w.params i1 ((arr f).setIfInBounds (byZ.getD i 0) v) cv (if ((arr f).setIfInBounds (byZ.getD i 0) v).size == (arr f).size then 0 else 0 + 1),53,{},#[],{},t,os⟩,(⟨.pure (.done (.ret .none)),(seZ (.ofNat (byZ.getD i 0)) t1 v),pHZ,f1::F::G::st⟩:Thread))):=by
 kernel_rfl
theorem sZ_at (i:Nat)(h:i < 95)(w:World)(os:OsState) (f1 F G:Frame)(st:List Frame)(cv:Value) (i1 t1 t:Nat)(v:Value)(f:Nat->Value):segGoT treeTable pw_re0182_01 w 28 (some (.ref 6)) 1 3 ⟨LZ w.params i1 (arr f) cv,53,{},#[],{},t,os⟩ ⟨denote treeTable (seZ (.ofNat (byZ.getD i 0)) t1 v),(seZ (.ofNat (byZ.getD i 0)) t1 v),pHZ,f1::F::G::st⟩=some (⟨LZ w.params i1 ((arr f).setIfInBounds (byZ.getD i 0) v) cv (if ((arr f).setIfInBounds (byZ.getD i 0) v).size == (arr f).size then 0 else 0 + 1),53,{},#[],{},t,os⟩,⟨.pure (.done (.ret .none)),(seZ (.ofNat (byZ.getD i 0)) t1 v),pHZ,f1::F::G::st⟩):=by
 rw [te10295753902157049106,te14364793385576792824,te11892475500146522536]
 have q:=congrArg (fun l=>l[i]?) sZ
 simp only [mk2_get _ _ _ _ h,Nat.zero_add,List.getElem?_map,List.getElem?_range h,Option.map_some,Option.some.injEq] at q
 have q2:=congrFun (congrFun (congrFun (congrFun (congrFun (congrFun (congrFun (congrFun (congrFun (congrFun (congrFun (congrFun q w) os) f1) F) G) st) cv) i1) t1) t) v) f
 rw [q2,if_pos (by simp)]
theorem turnZ (w:World)(os:OsState)(F G:Frame)(st:List Frame)(i:Nat)(cv:Value)(hi:i < 95) :
  segGoT treeTable pw_re0182_01 w 28 (some (.ref 6)) 1 45 ⟨LZ w.params i (arr (isZ i)) cv,53,{},#[],{},1550 + 3 * i,os⟩ (hdZ (F::G::st))=some (⟨LZ w.params (i + 1) (arr (isZ (i + 1))) (.int (.ofNat (byZ.getD i 0)) (1550 + 3 * i)),53,{},#[],{},1550 + 3 * (i + 1),os⟩,hdZ (F::G::st)):=by
 have hb:(byZ.getD i 0) < 256:=by
  have:=List.all_eq_true.mp (show byZ.all (·< 256)=true from by decide +kernel)
  rw [List.getD_eq_getElem?_getD]
  cases q:byZ[i]? with
  | none=>decide
  | some y=>exact of_decide_eq_true (this y (List.mem_of_getElem? q))
 refine goT_app (n:=5) (m:=40) (aZ w os F G st i (arr (isZ i)) cv (1550 + 3 * i)) ?_
 refine goT_app (n:=5) (m:=35) (nZ_at i hi w os _ F G st (arr (isZ i)) cv (1550 + 3 * i)) ?_
 refine goT_app (n:=17) (m:=18) (bZ w os F G st i (arr (isZ i)) cv (1550 + 3 * i) (.ofNat (byZ.getD i 0)) (1550 + 3 * i) (i + 1) (arr (isZ i)) cv (1550 + 3 * i + 1)) ?_
 rw [chr_at _ hb]
 refine goT_app (n:=1) (m:=17) fresh1 ?_
 have et:1550 + 3 * i + 1 + 1=1552 + 3 * i:=by omega
 rw [et]
 refine goT_app (n:=12) (m:=5) (cZ w os F G st i (arr (isZ i)) cv (1550 + 3 * i) (.ofNat (byZ.getD i 0)) (1550 + 3 * i) (i + 1) (arr (isZ i)) cv (1550 + 3 * i + 1) ⟨#[(byZ.getD i 0)]⟩ (1552 + 3 * i) (i + 1) (arr (isZ i)) (1552 + 3 * i + 1)) ?_
 refine goT_app (n:=3) (m:=2) (sZ_at i hi w os _ F G st (.int (.ofNat (byZ.getD i 0)) (1550 + 3 * i)) (i + 1) (1550 + 3 * i) (1552 + 3 * i + 1) (.str ⟨#[(byZ.getD i 0)]⟩ (1552 + 3 * i)) (isZ i)) ?_
 rw [arr_set]
 have et:1552 + 3 * i + 1=1550 + 3 * (i + 1):=by omega
 rw [et]
 exact eZ w os F G st i (arr (isZ i)) cv (1550 + 3 * i) (.ofNat (byZ.getD i 0)) (1550 + 3 * i) (i + 1) (arr (isZ i)) cv (1550 + 3 * i + 1) ⟨#[(byZ.getD i 0)]⟩ (1552 + 3 * i) (i + 1) (arr (isZ i)) (1550 + 3 * (i + 1)) .none (i + 1) (arr (isZ (i + 1))) (.int (.ofNat (byZ.getD i 0)) (1550 + 3 * i)) (1550 + 3 * (i + 1))
noncomputable def cvZ:Nat->Nat->Value->Value
 | 0,_,cv=>cv
 | m + 1,i,_=>cvZ m (i + 1) (.int (.ofNat (byZ.getD i 0)) (1550 + 3 * i))
theorem runZ (w:World)(os:OsState)(F G:Frame)(st:List Frame):∀ (m i:Nat)(cv:Value),i + m=95 ->
  segGoT treeTable pw_re0182_01 w 28 (some (.ref 6)) 1 (fuel45 m) ⟨LZ w.params i (arr (isZ i)) cv,53,{},#[],{},1550 + 3 * i,os⟩ (hdZ (F::G::st))=some (⟨LZ w.params 95 (arr (isZ 95)) (cvZ m i cv),53,{},#[],{},1550 + 3 * 95,os⟩,hdZ (F::G::st))
 | 0,i,cv,h=>by
  obtain rfl:i=95:=by omega
  rfl
 | m + 1,i,cv,h=>by
  refine goT_app (turnZ w os F G st i cv (by omega)) ?_
  exact runZ w os F G st m (i + 1) _ (by omega)
noncomputable def frZ (w:World)(os:OsState):Frame:=frOf (tw10295753902157049106 tw14364793385576792824 pw_re0182_01 (w.withFollow "special-get-raises" true) 28 (some (.ref 6)) 1 55 ⟨T13 w.params,52,{},#[],{},1549,os⟩ ⟨(tw12563942051412417395 (sts 14 1) hEnv).wrap doneF deadEnd id id,hC,⟨18,0,18,28⟩,[topFrame hQ]⟩)
noncomputable def PreZ (w:World)(os:OsState):Prop:=segGoT treeTable pw_re0182_01 w 28 (some (.ref 6)) 1 55 ⟨T13 w.params,52,{},#[],{},1549,os⟩ (piecesOf (sts 14 1) hEnv hC ⟨18,0,18,28⟩ [topFrame hQ])=some (⟨LZ w.params 1 (arr (isZ 1)) (.int (.ofNat 32) 1550),53,{},#[],{},1553,os⟩,hdZ (frZ w os::[topFrame hQ]))
theorem preZ_true (w:World)(os:OsState):PreZ (w.withFollow "special-get-raises" true) os:=by
 unfold PreZ hdZ piecesOf
 rw [te10295753902157049106,te14364793385576792824,te11892475500146522536,te12563942051412417395]
 kernel_rfl
theorem preZ_false (w:World)(os:OsState):PreZ (w.withFollow "special-get-raises" false) os:=by
 unfold PreZ hdZ piecesOf
 rw [te10295753902157049106,te14364793385576792824,te11892475500146522536,te12563942051412417395]
 kernel_rfl
theorem preZ (w:World)(os:OsState):PreZ w os:=byRow2 "special-get-raises" (P:=fun w=>PreZ w os) (fun w=>preZ_false w os) (fun w=>preZ_true w os) w
theorem sufZ (w:World)(os:OsState)(items:Array Value)(cv:Value):segRunT treeTable pw_re0182_01 w 28 (some (.ref 6)) 1 18 ⟨LZ w.params 95 items cv,53,{},#[],{},1835,os⟩ (hdZ (frZ w os::[topFrame hQ]))=some (.next,⟨LZe w.params items cv,55,{},#[],{},1835,os⟩,hC,⟨19,9,19,110⟩):=by
 unfold hdZ
 rw [te10110043849684766642,te14364793385576792824,te11892475500146522536]
 kernel_rfl
theorem endZ (P:Params):LZe P (arr (isZ 95)) (cvZ 94 1 (.int (.ofNat 32) 1550))=T14 P:=by
 kernel_rfl
theorem pieceZ (w:World)(os:OsState):segRun treeTable pw_re0182_01 w 28 (some (.ref 6)) 1 (55 + (fuel45 94 + 18)) (⟨T13 w.params,52,{},#[],{},1549,os⟩:PySem.W.SharedT).abs (piecesOf (sts 14 1) hEnv hC ⟨18,0,18,28⟩ [topFrame hQ])=some (.next,(⟨T14 w.params,55,{},#[],{},1835,os⟩:PySem.W.SharedT).abs,hC,⟨19,9,19,110⟩):=by
 have h1:=segGo_of (preZ w os)
 have h2:=segGo_of (runZ w os (frZ w os) (topFrame hQ) [] 94 1 (.int (.ofNat 32) 1550) rfl)
 have h3:=segRun_of (sufZ w os (arr (isZ 95)) (cvZ 94 1 (.int (.ofNat 32) 1550)))
 rw [endZ] at h3
 exact seg_go h1 (seg_go h2 h3)
noncomputable def thrOf:Option (PySem.W.SharedT×Thread)->Thread
 | some (_,t)=>t
 | none=>⟨.raise .none,hC,hQ,[]⟩
noncomputable def thrE (w:World)(os:OsState):Thread:=thrOf (PySem.W.Fast.tw14789777615569096658 tw14364793385576792824 (opening pw_re0182_01) w 798 ⟨.nil,0,{},#[],{},1,os⟩ (PySem.W.Fast.tw1435165496053646825 (opening pw_re0182_01)).2)
theorem imp1 (w:World)(os:OsState):impGoT treeTable (opening pw_re0182_01) w 798 ⟨.nil,0,{},#[],{},1,os⟩ (start (opening pw_re0182_01)).2=some (⟨Tse w.params,28,{},#[],{},276,os⟩,thrE w os):=by
 rw [PySem.W.Fast.te14789777615569096658,te14364793385576792824,PySem.W.Fast.te1435165496053646825]
 kernel_rfl
theorem imp2 (w:World)(os:OsState):importEnds treeTable (opening pw_re0182_01) w 1 (⟨Tse w.params,28,{},#[],{},276,os⟩:PySem.W.SharedT).abs (thrE w os)=some (⟨Tse w.params,28,{},#[],{},276,os⟩:PySem.W.SharedT).abs:=by
 rw [PySem.W.Fast.te10274390034422433532,te14364793385576792824]
 kernel_rfl
theorem start_is:(start (opening pw_re0182_01)).1=(⟨.nil,0,{},#[],{},1,(start (opening pw_re0182_01)).1.os⟩:PySem.W.SharedT).abs:=by
 kernel_rfl
noncomputable def He (P:Params):Heap:=absHeap (Tse P) 28 {}
noncomputable def H0 (P:Params):Heap:=absHeap (Ts0 P) 28 {}
theorem imp_all (w:World):importEnds treeTable (opening pw_re0182_01) w (798 + 1) (start (opening pw_re0182_01)).1 (start (opening pw_re0182_01)).2=some ⟨He w.params,#[],{},276,(start (opening pw_re0182_01)).1.os⟩:=by
 have h1:=impGo_of (imp1 w (start (opening pw_re0182_01)).1.os)
 rw [<- start_is] at h1
 exact imp_go h1 (imp2 w _)
theorem fence (w:World):(fun os=>(fenceModules? pw_re0182_01 ⟨He w.params,#[],{},276,os⟩).map (fun s=>(s.heap,s.gens,s.drawn,s.toks)))=fun _=>some (H0 w.params,#[],{},276):=by
 kernel_rfl
theorem opened (w:World):(fencedOpening treeTable pw_re0182_01 w 40000).map (fun s=>(s.heap,s.gens,s.drawn,s.toks))=some (H0 w.params,#[],{},276):=open_cut imp_all (by decide) fence w
theorem topPre (w:World)(os:OsState):topGo treeTable pw_re0182_01 w 28 (some (.ref 6)) 12 (⟨Ts0 w.params,28,{},#[],{},276,os⟩:PySem.W.SharedT).abs (topStub pw_re0182_01)=some ((⟨Tpre w.params,32,{},#[],{},282,os⟩:PySem.W.SharedT).abs,⟨denote treeTable hC,hC,hQ,[topFrame hQ]⟩):=by
 unfold topStub
 rw [PySem.W.Fast.te15667345088766844465,te14364793385576792824,te11892475500146522536,PySem.W.Fast.te17154629097778926822,PySem.W.Fast.te12822647523644345616]
 kernel_rfl
theorem topBlock (w:World)(os:OsState):segRun treeTable pw_re0182_01 w 28 (some (.ref 6)) 1 1 (⟨Tpre w.params,32,{},#[],{},282,os⟩:PySem.W.SharedT).abs (blockOf hB hEnv hC hQ [topFrame hQ])=some (.next,(⟨Tblock w.params,32,{},#[],{},282,os⟩:PySem.W.SharedT).abs,hC,hQ):=by
 unfold blockOf
 rw [PySem.W.Fast.te14374325043358763698,te14364793385576792824,PySem.W.Fast.te1066825118222455980]
 kernel_rfl
theorem topFin (w:World)(os:OsState):topRun treeTable pw_re0182_01 w 28 (some (.ref 6)) 2 (⟨T37 w.params,263,{},#[],{},2202,os⟩:PySem.W.SharedT).abs ⟨doneF .next,hC,⟨387,0,410,15⟩,[topFrame hQ]⟩=some (⟨T37 w.params,263,{},#[],{},2202,os⟩:PySem.W.SharedT).abs:=by
 rw [PySem.W.Fast.te14082659384304107361,te14364793385576792824]
 kernel_rfl
theorem rest_is:restOf hB hEnv hC hQ [topFrame hQ]=restOf (sts 0 3++(sts 3 1++(sts 4 8++(sts 12 1++(sts 13 1++(sts 14 1++(sts 15 9++(sts 24 3++(sts 27 1++(sts 28 10++[])))))))))) hEnv hC hQ [topFrame hQ]:=by
 have e:hB=(sts 0 3++(sts 3 1++(sts 4 8++(sts 12 1++(sts 13 1++(sts 14 1++(sts 15 9++(sts 24 3++(sts 27 1++(sts 28 10++[])))))))))):=by kernel_rfl
 exact congrArg (fun b=>restOf b hEnv hC hQ [topFrame hQ]) e
noncomputable def hM:Nat:=12 + (1 + (48 + (9552 + (133 + ((89 + (fuel45 66 + 18)) + (25 + ((55 + (fuel45 94 + 18)) + (382 + (172 + (661 + (276 + 2)))))))))))
theorem topAll (w:World)(os:OsState):topRun treeTable pw_re0182_01 w 28 (some (.ref 6)) hM (⟨Ts0 w.params,28,{},#[],{},276,os⟩:PySem.W.SharedT).abs (topStub pw_re0182_01)=some (⟨T37 w.params,263,{},#[],{},2202,os⟩:PySem.W.SharedT).abs:=by
 refine go_top (topPre w os) (piece_block (topBlock w os) ?_)
 rw [rest_is]
 refine piece_app (segRun_of (g0 w os)) (piece_app (piece3 w os) (piece_app (segRun_of (g4 w os)) (piece_app (pieceQ w os) (piece_app (segRun_of (g13 w os)) (piece_app (pieceZ w os) (piece_app (segRun_of (g15 w os)) (piece_app (segRun_of (g24 w os)) (piece_app (segRun_of (g27 w os)) (piece_app (segRun_of (g28 w os)) (piece_nil (topFin w os)))))))))))
noncomputable def H1 (P:Params):Heap:=absHeap (T37 P) 263 {}
theorem hSize (w:World):((H0 w.params).isNs mainGlobals && (#[]:Array GenState).size == 0,(H0 w.params).objs.size,(H0 w.params).nsMap mainGlobals "__annotations__")=(true,28,(some (.ref 6))):=by
 kernel_rfl
theorem hLe:Nat.ble hM 40000=true:=by decide +kernel
end Mine.Hd
end NHA
end XHA
section XHB
open PySem PySem.W PyProof.Rows
noncomputable section NHB
namespace Mine.Hd
noncomputable def mkFn {n:Str}{a:Arguments}{b:List Stmt}{d:List Expr}{r:Option Expr}{t:List TypeParam}{s:Scope}{ts:Option Scope}{bi:Str}{p:Pos}(st:Stmt)(_:st = .FunctionDef n a b d r t s ts bi p)(f:Arguments->List Stmt->Scope->Obj):Obj:=f a b s
noncomputable def k38 (P:Params):Obj:=mkFn (sAt 1) rfl fun a b s=>⟨(.type "function"),none,(.func { name:=(Str.ofString "_wall"),qualname:=(Str.ofString "_wall"),params:=a,body:=.stmts b,scope:=s,globals:=3,closure:=[],defaults:=.none,kwdefaults:=.none,doc:=.none,pyModule:=(.str (Str.ofString "__main__") 164),annotations:=none,code:=(.ref 37),closureTuple:=.none,builtins:=0 }),#[]⟩
noncomputable def k61 (P:Params):Obj:=mkFn (sAt 16) rfl fun a b s=>⟨(.type "function"),none,(.func { name:=(Str.ofString "unquote"),qualname:=(Str.ofString "unquote"),params:=a,body:=.stmts b,scope:=s,globals:=3,closure:=[],defaults:=.none,kwdefaults:=.none,doc:=.none,pyModule:=(.str (Str.ofString "cpy313.email.quoprimime") 1336),annotations:=none,code:=(.ref 60),closureTuple:=.none,builtins:=0 }),#[]⟩
noncomputable def k68 (P:Params):Obj:=mkFn (sAt 17) rfl fun a b s=>⟨(.type "function"),none,(.func { name:=(Str.ofString "quote"),qualname:=(Str.ofString "quote"),params:=a,body:=.stmts b,scope:=s,globals:=3,closure:=[],defaults:=.none,kwdefaults:=.none,doc:=.none,pyModule:=(.str (Str.ofString "cpy313.email.quoprimime") 1336),annotations:=none,code:=(.ref 67),closureTuple:=.none,builtins:=0 }),#[]⟩
noncomputable def k81 (P:Params):Obj:=mkFn (sAt 21) rfl fun a b s=>⟨(.type "function"),none,(.func { name:=(Str.ofString "body_encode"),qualname:=(Str.ofString "body_encode"),params:=a,body:=.stmts b,scope:=s,globals:=3,closure:=[],defaults:=(.ref 74),kwdefaults:=.none,doc:=.none,pyModule:=(.str (Str.ofString "cpy313.email.quoprimime") 1336),annotations:=none,code:=(.ref 80),closureTuple:=.none,builtins:=0 }),#[]⟩
noncomputable def k89 (P:Params):Obj:=mkFn (sAt 22) rfl fun a b s=>⟨(.type "function"),none,(.func { name:=(Str.ofString "decode"),qualname:=(Str.ofString "decode"),params:=a,body:=.stmts b,scope:=s,globals:=3,closure:=[],defaults:=(.ref 82),kwdefaults:=.none,doc:=.none,pyModule:=(.str (Str.ofString "cpy313.email.quoprimime") 1336),annotations:=none,code:=(.ref 88),closureTuple:=.none,builtins:=0 }),#[]⟩
noncomputable def k102 (P:Params):Obj:=mkFn (sAt 26) rfl fun a b s=>⟨(.type "function"),none,(.func { name:=(Str.ofString "_raise_serialization_error"),qualname:=(Str.ofString "_raise_serialization_error"),params:=a,body:=.stmts b,scope:=s,globals:=3,closure:=[],defaults:=.none,kwdefaults:=.none,doc:=.none,pyModule:=(.str (Str.ofString "cpy313.xml.etree.ElementTree") 1890),annotations:=none,code:=(.ref 101),closureTuple:=.none,builtins:=0 }),#[]⟩
noncomputable def k118 (P:Params):Obj:=mkFn (mAt 28 0) rfl fun a b s=>⟨(.type "function"),none,(.func { name:=(Str.ofString "__init__"),qualname:=(Str.ofString "C14NWriterTarget.__init__"),params:=a,body:=.stmts b,scope:=s,globals:=3,closure:=[],defaults:=.none,kwdefaults:=(.ref 111),doc:=.none,pyModule:=(.str (Str.ofString "cpy313.xml.etree.ElementTree") 1890),annotations:=none,code:=(.ref 117),closureTuple:=.none,builtins:=0 }),#[]⟩
noncomputable def k126 (P:Params):Obj:=mkFn (mAt 28 1) rfl fun a b s=>⟨(.type "function"),none,(.func { name:=(Str.ofString "_iter_namespaces"),qualname:=(Str.ofString "C14NWriterTarget._iter_namespaces"),params:=a,body:=.stmts b,scope:=s,globals:=3,closure:=[],defaults:=(.ref 119),kwdefaults:=.none,doc:=.none,pyModule:=(.str (Str.ofString "cpy313.xml.etree.ElementTree") 1890),annotations:=none,code:=(.ref 125),closureTuple:=.none,builtins:=0 }),#[]⟩
noncomputable def k133 (P:Params):Obj:=mkFn (mAt 28 2) rfl fun a b s=>⟨(.type "function"),none,(.func { name:=(Str.ofString "_resolve_prefix_name"),qualname:=(Str.ofString "C14NWriterTarget._resolve_prefix_name"),params:=a,body:=.stmts b,scope:=s,globals:=3,closure:=[],defaults:=.none,kwdefaults:=.none,doc:=.none,pyModule:=(.str (Str.ofString "cpy313.xml.etree.ElementTree") 1890),annotations:=none,code:=(.ref 132),closureTuple:=.none,builtins:=0 }),#[]⟩
noncomputable def k141 (P:Params):Obj:=mkFn (mAt 28 3) rfl fun a b s=>⟨(.type "function"),none,(.func { name:=(Str.ofString "_qname"),qualname:=(Str.ofString "C14NWriterTarget._qname"),params:=a,body:=.stmts b,scope:=s,globals:=3,closure:=[],defaults:=(.ref 134),kwdefaults:=.none,doc:=.none,pyModule:=(.str (Str.ofString "cpy313.xml.etree.ElementTree") 1890),annotations:=none,code:=(.ref 140),closureTuple:=.none,builtins:=0 }),#[]⟩
noncomputable def k148 (P:Params):Obj:=mkFn (mAt 28 4) rfl fun a b s=>⟨(.type "function"),none,(.func { name:=(Str.ofString "data"),qualname:=(Str.ofString "C14NWriterTarget.data"),params:=a,body:=.stmts b,scope:=s,globals:=3,closure:=[],defaults:=.none,kwdefaults:=.none,doc:=.none,pyModule:=(.str (Str.ofString "cpy313.xml.etree.ElementTree") 1890),annotations:=none,code:=(.ref 147),closureTuple:=.none,builtins:=0 }),#[]⟩
noncomputable def k157 (P:Params):Obj:=mkFn (mAt 28 5) rfl fun a b s=>⟨(.type "function"),none,(.func { name:=(Str.ofString "_flush"),qualname:=(Str.ofString "C14NWriterTarget._flush"),params:=a,body:=.stmts b,scope:=s,globals:=3,closure:=[],defaults:=(.ref 150),kwdefaults:=.none,doc:=.none,pyModule:=(.str (Str.ofString "cpy313.xml.etree.ElementTree") 1890),annotations:=none,code:=(.ref 156),closureTuple:=.none,builtins:=0 }),#[]⟩
noncomputable def k164 (P:Params):Obj:=mkFn (mAt 28 6) rfl fun a b s=>⟨(.type "function"),none,(.func { name:=(Str.ofString "start_ns"),qualname:=(Str.ofString "C14NWriterTarget.start_ns"),params:=a,body:=.stmts b,scope:=s,globals:=3,closure:=[],defaults:=.none,kwdefaults:=.none,doc:=.none,pyModule:=(.str (Str.ofString "cpy313.xml.etree.ElementTree") 1890),annotations:=none,code:=(.ref 163),closureTuple:=.none,builtins:=0 }),#[]⟩
noncomputable def k171 (P:Params):Obj:=mkFn (mAt 28 7) rfl fun a b s=>⟨(.type "function"),none,(.func { name:=(Str.ofString "start"),qualname:=(Str.ofString "C14NWriterTarget.start"),params:=a,body:=.stmts b,scope:=s,globals:=3,closure:=[],defaults:=.none,kwdefaults:=.none,doc:=.none,pyModule:=(.str (Str.ofString "cpy313.xml.etree.ElementTree") 1890),annotations:=none,code:=(.ref 170),closureTuple:=.none,builtins:=0 }),#[]⟩
noncomputable def k177 (P:Params):Obj:=mkFn (mAt 28 8) rfl fun a b s=>⟨(.type "function"),none,(.func { name:=(Str.ofString "_start"),qualname:=(Str.ofString "C14NWriterTarget._start"),params:=a,body:=.stmts b,scope:=s,globals:=3,closure:=[],defaults:=(.ref 172),kwdefaults:=.none,doc:=.none,pyModule:=(.str (Str.ofString "cpy313.xml.etree.ElementTree") 1890),annotations:=none,code:=(.ref 176),closureTuple:=.none,builtins:=0 }),#[]⟩
noncomputable def k184 (P:Params):Obj:=mkFn (mAt 28 9) rfl fun a b s=>⟨(.type "function"),none,(.func { name:=(Str.ofString "end"),qualname:=(Str.ofString "C14NWriterTarget.end"),params:=a,body:=.stmts b,scope:=s,globals:=3,closure:=[],defaults:=.none,kwdefaults:=.none,doc:=.none,pyModule:=(.str (Str.ofString "cpy313.xml.etree.ElementTree") 1890),annotations:=none,code:=(.ref 183),closureTuple:=.none,builtins:=0 }),#[]⟩
noncomputable def k191 (P:Params):Obj:=mkFn (mAt 28 10) rfl fun a b s=>⟨(.type "function"),none,(.func { name:=(Str.ofString "comment"),qualname:=(Str.ofString "C14NWriterTarget.comment"),params:=a,body:=.stmts b,scope:=s,globals:=3,closure:=[],defaults:=.none,kwdefaults:=.none,doc:=.none,pyModule:=(.str (Str.ofString "cpy313.xml.etree.ElementTree") 1890),annotations:=none,code:=(.ref 190),closureTuple:=.none,builtins:=0 }),#[]⟩
noncomputable def k198 (P:Params):Obj:=mkFn (mAt 28 11) rfl fun a b s=>⟨(.type "function"),none,(.func { name:=(Str.ofString "pi"),qualname:=(Str.ofString "C14NWriterTarget.pi"),params:=a,body:=.stmts b,scope:=s,globals:=3,closure:=[],defaults:=.none,kwdefaults:=.none,doc:=.none,pyModule:=(.str (Str.ofString "cpy313.xml.etree.ElementTree") 1890),annotations:=none,code:=(.ref 197),closureTuple:=.none,builtins:=0 }),#[]⟩
noncomputable def k212 (P:Params):Obj:=mkFn (sAt 29) rfl fun a b s=>⟨(.type "function"),none,(.func { name:=(Str.ofString "_escape_cdata_c14n"),qualname:=(Str.ofString "_escape_cdata_c14n"),params:=a,body:=.stmts b,scope:=s,globals:=3,closure:=[],defaults:=.none,kwdefaults:=.none,doc:=.none,pyModule:=(.str (Str.ofString "cpy313.xml.etree.ElementTree") 1890),annotations:=none,code:=(.ref 211),closureTuple:=.none,builtins:=0 }),#[]⟩
noncomputable def k219 (P:Params):Obj:=mkFn (sAt 30) rfl fun a b s=>⟨(.type "function"),none,(.func { name:=(Str.ofString "_escape_attrib_c14n"),qualname:=(Str.ofString "_escape_attrib_c14n"),params:=a,body:=.stmts b,scope:=s,globals:=3,closure:=[],defaults:=.none,kwdefaults:=.none,doc:=.none,pyModule:=(.str (Str.ofString "cpy313.xml.etree.ElementTree") 1890),annotations:=none,code:=(.ref 218),closureTuple:=.none,builtins:=0 }),#[]⟩
noncomputable def k224 (P:Params):Obj:=mkFn (sAt 32) rfl fun a b s=>⟨(.type "function"),none,(.func { name:=(Str.ofString "_law_spelled"),qualname:=(Str.ofString "_law_spelled"),params:=a,body:=.stmts b,scope:=s,globals:=3,closure:=[],defaults:=.none,kwdefaults:=.none,doc:=.none,pyModule:=(.str (Str.ofString "law_re0182_01") 2140),annotations:=none,code:=(.ref 223),closureTuple:=.none,builtins:=0 }),#[]⟩
noncomputable def k231 (P:Params):Obj:=mkFn (sAt 33) rfl fun a b s=>⟨(.type "function"),none,(.func { name:=(Str.ofString "_law_document"),qualname:=(Str.ofString "_law_document"),params:=a,body:=.stmts b,scope:=s,globals:=3,closure:=[],defaults:=.none,kwdefaults:=.none,doc:=.none,pyModule:=(.str (Str.ofString "law_re0182_01") 2140),annotations:=none,code:=(.ref 230),closureTuple:=.none,builtins:=0 }),#[]⟩
noncomputable def k238 (P:Params):Obj:=mkFn (sAt 34) rfl fun a b s=>⟨(.type "function"),none,(.func { name:=(Str.ofString "_law_told"),qualname:=(Str.ofString "_law_told"),params:=a,body:=.stmts b,scope:=s,globals:=3,closure:=[],defaults:=.none,kwdefaults:=.none,doc:=.none,pyModule:=(.str (Str.ofString "law_re0182_01") 2140),annotations:=none,code:=(.ref 237),closureTuple:=.none,builtins:=0 }),#[]⟩
noncomputable def k245 (P:Params):Obj:=mkFn (sAt 35) rfl fun a b s=>⟨(.type "function"),none,(.func { name:=(Str.ofString "_law_unit"),qualname:=(Str.ofString "_law_unit"),params:=a,body:=.stmts b,scope:=s,globals:=3,closure:=[],defaults:=.none,kwdefaults:=.none,doc:=.none,pyModule:=(.str (Str.ofString "law_re0182_01") 2140),annotations:=none,code:=(.ref 244),closureTuple:=.none,builtins:=0 }),#[]⟩
noncomputable def k250 (P:Params):Obj:=mkFn (sAt 36) rfl fun a b s=>⟨(.type "function"),none,(.func { name:=(Str.ofString "_law_mail"),qualname:=(Str.ofString "_law_mail"),params:=a,body:=.stmts b,scope:=s,globals:=3,closure:=[],defaults:=.none,kwdefaults:=.none,doc:=.none,pyModule:=(.str (Str.ofString "law_re0182_01") 2140),annotations:=none,code:=(.ref 249),closureTuple:=.none,builtins:=0 }),#[]⟩
noncomputable def k257 (P:Params):Obj:=mkFn (sAt 37) rfl fun a b s=>⟨(.type "function"),none,(.func { name:=(Str.ofString "_law_refused"),qualname:=(Str.ofString "_law_refused"),params:=a,body:=.stmts b,scope:=s,globals:=3,closure:=[],defaults:=.none,kwdefaults:=.none,doc:=.none,pyModule:=(.str (Str.ofString "law_re0182_01") 2140),annotations:=none,code:=(.ref 256),closureTuple:=.none,builtins:=0 }),#[]⟩
noncomputable def k262 (P:Params):Obj:=mkFn (sAt 38) rfl fun a b s=>⟨(.type "function"),none,(.func { name:=(Str.ofString "law"),qualname:=(Str.ofString "law"),params:=a,body:=.stmts b,scope:=s,globals:=3,closure:=[],defaults:=.none,kwdefaults:=.none,doc:=.none,pyModule:=(.str (Str.ofString "law_re0182_01") 2140),annotations:=none,code:=(.ref 261),closureTuple:=.none,builtins:=0 }),#[]⟩
noncomputable def heapK (P:Params):Frag:=(nat_lit 2,o2 P)::(nat_lit 3,o3_37 P)::(nat_lit 32,o32 P)::(nat_lit 34,o34 P)::(nat_lit 35,o35 P)::(nat_lit 37,o37 P)::(nat_lit 38,k38 P)::(nat_lit 41,o41 P)::(nat_lit 55,o55 P)::(nat_lit 57,o57 P)::(nat_lit 58,o58 P)::(nat_lit 60,o60 P)::(nat_lit 61,k61 P)::(nat_lit 62,o62 P)::(nat_lit 64,o64 P)::(nat_lit 65,o65 P)::(nat_lit 67,o67 P)::(nat_lit 68,k68 P)::(nat_lit 70,o70_1 P)::(nat_lit 74,o74 P)::(nat_lit 75,o75 P)::(nat_lit 77,o77 P)::(nat_lit 78,o78 P)::(nat_lit 80,o80 P)::(nat_lit 81,k81 P)::(nat_lit 82,o82 P)::(nat_lit 83,o83 P)::(nat_lit 85,o85 P)::(nat_lit 86,o86 P)::(nat_lit 88,o88 P)::(nat_lit 89,k89 P)::(nat_lit 93,o93 P)::(nat_lit 94,o94 P)::(nat_lit 95,o95 P)::(nat_lit 96,o96 P)::(nat_lit 98,o98 P)::(nat_lit 99,o99 P)::(nat_lit 101,o101 P)::(nat_lit 102,k102 P)::(nat_lit 103,o103 P)::(nat_lit 111,o111 P)::(nat_lit 112,o112 P)::(nat_lit 114,o114 P)::(nat_lit 115,o115 P)::(nat_lit 117,o117 P)::(nat_lit 118,k118 P)::(nat_lit 119,o119 P)::(nat_lit 120,o120 P)::(nat_lit 122,o122 P)::(nat_lit 123,o123 P)::(nat_lit 125,o125 P)::(nat_lit 126,k126 P)::(nat_lit 127,o127 P)::(nat_lit 129,o129 P)::(nat_lit 130,o130 P)::(nat_lit 132,o132 P)::(nat_lit 133,k133 P)::(nat_lit 134,o134 P)::(nat_lit 135,o135 P)::(nat_lit 137,o137 P)::(nat_lit 138,o138 P)::(nat_lit 140,o140 P)::(nat_lit 141,k141 P)::(nat_lit 142,o142 P)::(nat_lit 144,o144 P)::(nat_lit 145,o145 P)::(nat_lit 147,o147 P)::(nat_lit 148,k148 P)::(nat_lit 149,o149 P)::(nat_lit 150,o150 P)::(nat_lit 151,o151 P)::(nat_lit 153,o153 P)::(nat_lit 154,o154 P)::(nat_lit 156,o156 P)::(nat_lit 157,k157 P)::(nat_lit 158,o158 P)::(nat_lit 160,o160 P)::(nat_lit 161,o161 P)::(nat_lit 163,o163 P)::(nat_lit 164,k164 P)::(nat_lit 165,o165 P)::(nat_lit 167,o167 P)::(nat_lit 168,o168 P)::(nat_lit 170,o170 P)::(nat_lit 171,k171 P)::(nat_lit 172,o172 P)::(nat_lit 173,o173 P)::(nat_lit 176,o176 P)::(nat_lit 177,k177 P)::(nat_lit 178,o178 P)::(nat_lit 180,o180 P)::(nat_lit 181,o181 P)::(nat_lit 183,o183 P)::(nat_lit 184,k184 P)::(nat_lit 185,o185 P)::(nat_lit 187,o187 P)::(nat_lit 188,o188 P)::(nat_lit 190,o190 P)::(nat_lit 191,k191 P)::(nat_lit 192,o192 P)::(nat_lit 194,o194 P)::(nat_lit 195,o195 P)::(nat_lit 197,o197 P)::(nat_lit 198,k198 P)::(nat_lit 199,o199 P)::(nat_lit 200,o200 P)::(nat_lit 201,o201 P)::(nat_lit 202,o202 P)::(nat_lit 203,o203 P)::(nat_lit 206,o206 P)::(nat_lit 208,o208 P)::(nat_lit 209,o209 P)::(nat_lit 211,o211 P)::(nat_lit 212,k212 P)::(nat_lit 213,o213 P)::(nat_lit 215,o215 P)::(nat_lit 216,o216 P)::(nat_lit 218,o218 P)::(nat_lit 219,k219 P)::(nat_lit 220,o220 P)::(nat_lit 223,o223 P)::(nat_lit 224,k224 P)::(nat_lit 225,o225 P)::(nat_lit 227,o227 P)::(nat_lit 228,o228 P)::(nat_lit 230,o230 P)::(nat_lit 231,k231 P)::(nat_lit 232,o232 P)::(nat_lit 234,o234 P)::(nat_lit 235,o235 P)::(nat_lit 237,o237 P)::(nat_lit 238,k238 P)::(nat_lit 239,o239 P)::(nat_lit 241,o241 P)::(nat_lit 242,o242 P)::(nat_lit 244,o244 P)::(nat_lit 245,k245 P)::(nat_lit 246,o246 P)::(nat_lit 249,o249 P)::(nat_lit 250,k250 P)::(nat_lit 251,o251 P)::(nat_lit 253,o253 P)::(nat_lit 254,o254 P)::(nat_lit 256,o256 P)::(nat_lit 257,k257 P)::(nat_lit 258,o258 P)::(nat_lit 261,o261 P)::(nat_lit 262,k262 P)::[]
noncomputable def keysK:List Addr:=2::3::32::34::35::37::38::41::55::57::58::60::61::62::64::65::67::68::70::74::75::77::78::80::81::82::83::85::86::88::89::93::94::95::96::98::99::101::102::103::111::112::114::115::117::118::119::120::122::123::125::126::127::129::130::132::133::134::135::137::138::140::141::142::144::145::147::148::149::150::151::153::154::156::157::158::160::161::163::164::165::167::168::170::171::172::173::176::177::178::180::181::183::184::185::187::188::190::191::192::194::195::197::198::199::200::201::202::203::206::208::209::211::212::213::215::216::218::219::220::223::224::225::227::228::230::231::232::234::235::237::238::239::241::242::244::245::246::249::250::251::253::254::256::257::258::261::262::[]
noncomputable def HK:Hook:=kmHook heapK keysK (fun _=>by kernel_rfl!) [174]
noncomputable def pick (is:List Nat):List Stmt:=is.map sAt
noncomputable def viewQ:Program:={ pw_re0182_01 with main:={ pw_re0182_01.main with body:=[sAt 0,sAt 1,sAt 2,sAt 3,sAt 4,sAt 5,sAt 6,sAt 7,sAt 8,sAt 9,sAt 10,sAt 11,sAt 16,sAt 17,sAt 18,sAt 24,sAt 25,sAt 26,sAt 27,sAt 28,sAt 29,sAt 30,sAt 32,sAt 33,sAt 34,sAt 35,sAt 36,sAt 37,sAt 38] } }
noncomputable def LS:List Str:=["_QUOPRI_MAP","_QUOPRI_HEADER_MAP","_QUOPRI_BODY_MAP","ascii_letters","hexdigits","_QUOPRI_BODY_ENCODE_MAP","body_encode","decode","_twin_re_1","_namespace_map","_looks_like_prefix_name","C14NWriterTarget"]
noncomputable def LV:List (Str×WData):=[("ascii_letters",WData.str "abcdefghijklmnopqrstuvwxyzABCDEFGHIJKLMNOPQRSTUVWXYZ"),("hexdigits",WData.str "0123456789abcdefABCDEF")]
end Mine.Hd
end NHB
end XHB
section XHC
open PySem PySem.W PyProof.Rows
noncomputable section NHC
namespace Mine.Hd
noncomputable abbrev PW:Program:=pw_re0182_01
noncomputable def RR:RowW:=rw_re0182_01.row.toRowW
noncomputable def Xt:Shared->Bool:=fun s=>xlAt viewQ LV s && recOk (RowW.records RR) s
noncomputable def SS (w:World)(os:OsState):Shared:=⟨H1 w.params,#[],{},2202,os⟩
theorem lk1 (w:World)(os:OsState):staticsOk (importedModules PW.main.body) (H0 w.params) (H1 w.params)=true:=by
 rw [PySem.W.Fast.te5923862056798008813];kernel_rfl!
theorem lk2 (w:World)(os:OsState):namesBound PW (H1 w.params)=true:=by
 kernel_rfl!
theorem lk3 (w:World)(os:OsState):gensDone (SS w os)=true:=by
 kernel_rfl!
theorem lk4 (w:World)(os:OsState):laidKept (H0 w.params) (H1 w.params)=true:=by
 kernel_rfl!
theorem lkK (w:World)(os:OsState):HK.obs (SS w os)=HK.val w:=by
 kernel_rfl!
end Mine.Hd
end NHC
end XHC
section XHDD
open PySem PySem.W PyProof.Rows
noncomputable section NHDD
namespace Mine.Hd
theorem sk2 (w:World)(os:OsState):(SS w os).heap.bltView=bltViewBooted:=by kernel_rfl!
theorem sk3a (w:World)(os:OsState):(SS w os).heap.isNs mainGlobals=true:=by kernel_rfl!
theorem sk3b (w:World)(os:OsState):(SS w os).heap.isNs builtinsNs=true:=by kernel_rfl!
theorem sk3c (w:World)(os:OsState):tablesOk viewQ (SS w os).heap=true:=by rw [PySem.W.Fast.te10994771534591457954];kernel_rfl!
theorem sk3d (w:World)(os:OsState):Xt (SS w os)=true:=by kernel_rfl!
theorem sk3e (w:World)(os:OsState):(SS w os).heap.accountedOkI (importedModules PW.main.body)=true:=by rw [PySem.W.Fast.te14722251495701143533,PySem.W.Fast.te5923862056798008813];kernel_rfl!
theorem sk3f (w:World)(os:OsState):(SS w os).heap.keysOk (looseW viewQ LS) ((recsOf viewQ).map (·.name)) ((litsOf viewQ).map (·.1)) ((clssOf viewQ (looseW viewQ LS)).map (·.name))=true:=by rw [PySem.W.Fast.te10880121769531294198,PySem.W.Fast.te821141287760084731,PySem.W.Fast.te3399658132070893891,PySem.W.Fast.te7409074990110511671,PySem.W.Fast.te13664370479719496447];kernel_rfl!
theorem sk4 (w:World)(os:OsState):tabsOk viewQ (SS w os)=true:=by rw [PySem.W.Fast.te479339242167458305];kernel_rfl!
theorem sk5 (w:World)(os:OsState):pinSeenD viewQ (drecsOf viewQ) (SS w os)=pinGoodD (drecsOf viewQ):=by rw [PySem.W.Fast.te16090120013241838585,PySem.W.Fast.te3247288618530077131];kernel_rfl!
theorem sk6 (w:World)(os:OsState):plainSeenE viewQ (looseW viewQ LS) (SS w os)=plainGoodE viewQ (looseW viewQ LS):=by rw [PySem.W.Fast.te2386780881361962483,PySem.W.Fast.te821141287760084731];kernel_rfl!
theorem sk7 (w:World)(os:OsState):plainSeenD viewQ LS (SS w os)=plainGoodD viewQ LS:=by rw [PySem.W.Fast.te11698064438423848299];kernel_rfl!
theorem sk8 (w:World)(os:OsState):wideSeen viewQ (SS w os)=wideGood viewQ:=by rw [PySem.W.Fast.te7317090234206586261];kernel_rfl!
theorem sk9 (w:World)(os:OsState):clsSeenW viewQ LS (SS w os)=clsGoodW viewQ LS:=by rw [PySem.W.Fast.te7369524293546568484];kernel_rfl!
theorem sk1 (w:World)(os:OsState):seen ((recsOf viewQ).map (·.name)) (ownsOf viewQ) [] (SS w os)=expectedOf viewQ:=by rw [PySem.W.Fast.te5160383126252970620,PySem.W.Fast.te3399658132070893891,PySem.W.Fast.te5991557255702980513];kernel_rfl!
end Mine.Hd
end NHDD
end XHDD
section XHE
open PySem PySem.W PyProof.Rows
noncomputable section NHE
namespace Mine.Hd
theorem sk1' (w:World)(os:OsState):seen ((recsOf viewQ).map (·.name)) (ownsOf viewQ) [] { SS w os with gens:=#[] }=expectedOf viewQ:=sk1 w os
theorem leftO:LeftO rw_re0182_01.row.prog viewQ LS Xt HK.obs HK.val 40000 true:=
 LeftO.of_pieces (H₀:=H0) (H₁:=H1) (gs₀:=#[]) (gs₁:=#[]) (d₀:={}) (d₁:={}) (k₀:=276) (k₁:=2202) (m₀:=28) (ann:=some (.ref 6)) (M:=hM) opened hSize topAll hLe
  fun w=>funext fun os=>by
   refine looks_pair ?_ (looks_pair ?_ ?_)
   ·rw [show rw_re0182_01.row.prog=PW from rfl]
    have h3:=lk3 w os
    unfold SS at h3
    rw [lk1 w os,lk2 w os,h3,lk4 w os];rfl
   ·have h:openSeen viewQ LS (importedModules PW.main.body) Xt true (SS w os)=openGood viewQ LS:=by
     unfold openSeen openGood
     rw [sk1' w os,sk2 w os,sk3f w os,sk3e w os,sk3a w os,sk3b w os,sk3c w os,sk3d w os,sk4 w os,sk5 w os,sk6 w os,sk7 w os,sk8 w os,sk9 w os]
     rfl
    exact h
   ·exact lkK w os
end Mine.Hd
end NHE
end XHE
section XHF
open PySem PySem.W PyProof.Rows
noncomputable section NHF
namespace Mine.Hd
theorem and2 {a b:Bool}(h:a=true)(k:b=true):(a && b)=true:=by rw [h,k];rfl
theorem said:rw_re0182_01.wellSaid=true:=by
 rw [PySem.W.Fast.te9446332074065402090]
 delta PySem.W.Fast.tw9446332074065402090
 repeat' (with_reducible refine and2 ?_ ?_)
 all_goals try (delta PySem.W.Fast.tw17960256430627541270;repeat' (with_reducible refine and2 ?_ ?_))
 all_goals try (delta PySem.W.Fast.tw2436336058641802641;repeat' (with_reducible refine and2 ?_ ?_))
 all_goals try (delta PySem.W.Fast.tw12908688711261696721;repeat' (with_reducible refine and2 ?_ ?_))
 all_goals as_aux_lemma=>kernel_rfl
end Mine.Hd
end NHF
end XHF
section XHG
open PySem PySem.W PyProof.Rows
namespace Mine.Hd
abbrev RW:OpenRow:=rw_re0182_01.row
noncomputable def fnParts:Stmt->Arguments×List Stmt×Scope×Pos
 | .FunctionDef _ a b _ _ _ s _ _ p=>(a,b,s,p)
 | _=>(⟨[],[],none,[],[],none,[]⟩,[],⟨.module,[],false,false,[]⟩,⟨0,0,0,0⟩)
theorem head_of {d:DefRec}{kwd:List (Str×Expr)}(hdef:defOf viewQ RW.name=some (d,kwd))(hp:RW.prog.theDef RW.name=some (d.params,d.body,d.scope))(hk:kwWritten? d.params.kwonlyargs d.params.kw_defaults=some kwd)
  (hw:RW.toRowW.promised)(hc:WalkO viewQ LS (XL viewQ LV) (kmHook heapK keysK (fun _=>by kernel_rfl) [174]).says rw_re0182_01.row.toRowW d kwd fun f vs=>call f vs):rw_re0182_01.Holds:=by
 refine holds_law said fun said'=>?_
 refine holds_open (r:=RW) (q:=viewQ) (loose:=LS) (Xt:=Xt) (XP:=XL viewQ LV) (Yf:=HK.obs) (Ya:=HK.val) (YP:=HK.says) (N:=40000) leftO (Hook.of HK) (Hook.keeps HK) (fun s e=>xl_of s (Bool.and_eq_true_iff.mp e).1) XL.keeps hdef hp hk (fun s e=>recFacts_of (Bool.and_eq_true_iff.mp e).2) (by rfl) said' (by decide +kernel) ⟨rfl,rfl,rfl,rfl,rfl,by decide +kernel⟩ hw hc
end Mine.Hd
end XHG
section XU8
open PySem PySem.W PyProof.Rows
namespace Mine
theorem ne_w:Nonempty World:=⟨{ draws:=fun _ _=>0,params:={ strHash:=fun _=>0,shareClass:=fun _=>0,mergeTok:=fun x=>x,idOf:=fun _=>0,idOfShared:=fun _ _=>0,followText:=fun _=>true,idOfImm:=fun _=>0 } }⟩
theorem zn {P:Prop}(h:Nonempty World->Nonempty Around->Nonempty Shared->P):P:=h ne_w ⟨{}⟩ ⟨{}⟩
@[irreducible] noncomputable def f1 {α β:Type}(z:α×β):α:=z.1
@[irreducible] noncomputable def f2 {α β:Type}(z:α×β):β:=z.2
noncomputable def st {α β:Type}{X:Type}(k:X->β->Prop)(P:α->X)(z:α×β):Prop:=k (P (f1 z)) (f2 z)
theorem zx {α:Type}(N:Nonempty α)(P:α->Prop):Nonempty {z:α // P z->∀ y,P y}:=
 (Classical.em (∀ y,P y)).elim (fun h=>N.elim fun a=>⟨⟨a,fun _=>h⟩⟩) fun h=>Classical.byContradiction fun k=>h fun y=>Classical.byContradiction fun g=>k ⟨⟨y,fun p=>absurd p g⟩⟩
noncomputable def zz {α:Type}(N:Nonempty α)(P:α->Prop):α:=(Classical.choice (zx N P)).1
theorem zz_all {α:Type}(N:Nonempty α)(P:α->Prop)(h:P (zz N P))(z:α):P z:=(Classical.choice (zx N P)).2 h z
theorem np {α β:Type}(a:Nonempty α)(b:Nonempty β):Nonempty (α×β):=a.elim fun x=>b.elim fun y=>⟨(x,y)⟩
noncomputable def s4 {α β γ δ ε X:Type}(k:X->ε->Prop):(α->β->γ->δ->X)->(α×β×γ×δ×ε)->Prop:=st <| st <| st <| st <| k
noncomputable def zy {α:Type}(P:α->Prop)(N:Nonempty α):α:=zz N P
theorem zy_all {α:Type}(N:Nonempty α)(P:α->Prop)(h:P (zy P N))(z:α):P z:=zz_all N P h z
theorem neH:Nonempty (Heap×Addr×Shared):=⟨({},0,{})⟩
@[irreducible] noncomputable def zH (P:Heap->Addr->Shared->Prop):Heap:=(zz neH fun z=>P z.1 z.2.1 z.2.2).1
@[irreducible] noncomputable def zL (P:Heap->Addr->Shared->Prop):Addr:=(zz neH fun z=>P z.1 z.2.1 z.2.2).2.1
@[irreducible] noncomputable def zS (P:Heap->Addr->Shared->Prop):Shared:=(zz neH fun z=>P z.1 z.2.1 z.2.2).2.2
theorem zz3 (P:Heap->Addr->Shared->Prop)(h:P (zH P) (zL P) (zS P)):∀ g L s,P g L s:=by with_unfolding_all exact fun g L s=>zz_all neH (fun z=>P z.1 z.2.1 z.2.2) h (g,L,s)
noncomputable def EP (prog:Program)(w:World)(A:Around)(K:Frag)(L:Addr)(h₀ base:Heap)(m mg mb:Str->Option Value)(news:List (Addr×Obj))(p:Program)(loose:List Str)(mean:ExcName->Option Value)(env:Env)(outer:List Env)(R:Result->Shared->Prop)(qual:Str)(f:Addr)(cdv:Value)(body:List Stmt)(scope:Scope)(binds:List (Str×Value))(s:Shared)(g:Heap)(L':Addr)(s':Shared):Prop:=∀ (_:Fr h₀ L g m)(_:Fr g L' s'.heap (lk binds.reverse))(_:News g L' s'.heap news)(_:Below A base (env::outer) g)(_:K.In g)(_:Top p loose mean mg mb g)(_:Same s s'),
   wpAny (model prog w) (A.deeper (envOf qual scope L' f cdv)) (execs body (envOf qual scope L' f cdv))
    (fun fl s'=>LeaveK h₀ L m g R (match fl with | .ret v=>v | _=>.none) s')
    (fun e s'=>wpAny (model prog w) (A.deeper (envOf qual scope L' f cdv)) (leaving (envOf qual scope L' f cdv) e) (fun _ s''=>R (.error e) s'') (fun e' s''=>R (.error e') s'') s') s'
theorem enterZ {prog:Program}{w:World}{A A₀:Around}{s:Shared}{K:Frag}{L:Addr}{h₀ base:Heap}{m mg mb:Str->Option Value}{news:List (Addr×Obj)}{p:Program}{loose:List Str}{mean:ExcName->Option Value}{env:Env}{outer:List Env}{R:Result->Shared->Prop}{name qual:Str}{params:Arguments}{body:List Stmt}{scope:Scope}{dV kV doc pm cdv ct oc:Value}{an od:Option Addr}{osl:Array (Option Value)}{f:Addr}{args:Args}(binds:List (Str×Value))
  (B:Below A₀ base outer h₀)(F:Fr h₀ L s.heap m)(X₀:K.In h₀)(N:News h₀ L s.heap news)(T:Top p loose mean mg mb h₀)(hA:A.frames=some (env::outer))(hf:env.frame=some L)(hke:env.scope.kind = .function)
  (ho:K.lookup f=some ⟨oc,od,.func (fnOf name qual params body scope dV kV doc pm an cdv ct),osl⟩)(hcd:codeIn K cdv qual=true)(hroom:A.depth < recursionLimit)
  (hbind:BindsTo s (fnOf name qual params body scope dV kV doc pm an cdv ct) args binds)(hloc:∀ y∈binds,scope.names.lookup y.1=some .local)
  (h:EP prog w A K L h₀ base m mg mb news p loose mean env outer R qual f cdv body scope binds s (zH (EP prog w A K L h₀ base m mg mb news p loose mean env outer R qual f cdv body scope binds s)) (zL (EP prog w A K L h₀ base m mg mb news p loose mean env outer R qual f cdv body scope binds s)) (zS (EP prog w A K L h₀ base m mg mb news p loose mean env outer R qual f cdv body scope binds s)))
  (hco:scope.isCoroutine=false)(hgen:scope.isGenerator=false)(hk:scope.kind = .function)
  (hcell:∀ x∈scope.names,x.2≠.cell):codeAny (model prog w) A (.call (.ref f) args) R s:=
 enterU binds B F X₀ N T hA hf hke ho hcd hroom hbind hloc (zz3 _ h) hco hgen hk hcell
end Mine
end XU8
section XN1
open PySem PySem.W PyProof.Rows PySem.Calls
namespace Mine
section
variable {prog:Program}{w:World}{A:Around}{h₀:Heap}{L:Addr}{m:PySem.Str->Option Value}{env:Env}{elt:Expr}{x:PySem.Str}{scope:Scope}{cl:List (PySem.Str×Addr)}{s:Shared}{S:List (Addr×Obj)->Prop}{P:Nat->Value->Prop}{Fin:List Value->List (Addr×Obj)->Prop}{news:List (Addr×Obj)}
noncomputable def IntEl (news:List (Addr×Obj))(hi:Int)(y:Value)(news':List (Addr×Obj)):Prop:=news'=news/\∃ (r:Int)(t:Tok),y = .int r t/\0<=r/\r<=hi
theorem kb_rest {n:Nat}(hi:Int)(Ok:Int->Prop)(hP:∀ i v,i < n->P i v->∃ k t,Ok k/\v = .int k t)
  (turn:∀ k t I oI C oC D m₂ ys h tk (E':Value->Shared->Prop),Ok k->LCg.NsObj oC m₂->m₂ x=some (.int k t)->Fr h₀ L h m->News h₀ L h ((I,oI)::(C,oC)::(D,LCg.lst ys)::news)->LCg.Off3 I C D news->((@Ne Nat I C)/\(@Ne Nat I D)/\(@Ne Nat C D)) ->
   wpAny (model prog w) A (eval elt (compEnvC scope cl C env)) (LCg.CompEnd h₀ L m { s with heap:=h,toks:=tk } I oI C oC D (LCg.lst ys) S (IntEl news hi)) E' { s with heap:=h,toks:=tk })
  (fin:∀ ys rs,IntsAre ys rs->rs.length=n->(∀ r∈rs,0<=r/\r<=hi)->Fin ys news):LCg.CompRest prog w A h₀ L m env elt x scope cl s S P Fin n 0 [] news:=by
 have key:∀ (j i:Nat)(ys:List Value)(rs:List Int),i + j=n->IntsAre ys rs->rs.length=i->(∀ r∈rs,0<=r/\r<=hi)->LCg.CompRest prog w A h₀ L m env elt x scope cl s S P Fin j i ys news:=by
  intro j
  induction j with
  | zero=>
   intro i ys rs e hy hl hb
   exact LCg.CompRest.zero (fin ys rs hy (by omega) hb)
  | succ j ih=>
   intro i ys rs e hy hl hb
   refine LCg.CompRest.succ ?_
   intro v I oI C oC D m₂ h tk E' hv hC hx F N off ne
   obtain ⟨k,t,hk,hv'⟩:=hP i v (by omega) hv
   rw [hv'] at hx
   refine wpAny_mono (turn k t I oI C oC D m₂ ys h tk E' hk hC hx F N off ne) (fun y s₂ hq=>?_) fun _ _ e=>e
   obtain ⟨h',tk',nw,e2,F',N',off',hS,hn,r,t',hy',h0,h1⟩:=hq
   rw [hn] at N' off' hS
   refine ⟨h',tk',news,e2,F',N',off',hS,?_⟩
   rw [hy']
   refine ih (i + 1) _ (rs++[r]) (by omega) (IntsAre.append hy (.cons r t' .nil)) (by simp [hl]) ?_
   intro q hq
   rcases List.mem_append.mp hq with hq | hq
   ·exact hb q hq
   ·rw [List.mem_singleton.mp hq];exact ⟨h0,h1⟩
 exact key n 0 [] [] (by omega) .nil rfl (by simp)
end
end Mine
end XN1
section XN2
open PySem PySem.W PyProof.Rows PySem.Calls
namespace Mine.N2
open Mine.Hd
theorem slice3_ints {prog:Program}{w:World}{A:Around}{E:Value->Shared->Prop}{s:Shared}{h₀:Heap}{L:Addr}{m:PySem.Str->Option Value}{news:List (Addr×Obj)}{value slice:Expr}{l:Addr}{vs:List Value}{ns:List Int}{vl vu vk:Value}{lo hi st:Option Int}{ops:List Value}{Q:Value->Shared->Prop}
  (F:Fr h₀ L s.heap m)(N:News h₀ L s.heap news)(hl:s.heap.IsList l vs.toArray)(pl:IsPart vl lo)(pu:IsPart vu hi)(pk:IsPart vk st) (h0:st≠some 0)(hi':IntsAre vs ns)
  (h:∀ D ws ks h',IntsAre ws ks->ks.length<=ns.length->Fr h₀ L h' m->News h₀ L h' ((D,listOf ws.toArray 0)::news)->(∀ p∈news,p.1 < D)->Q (.ref D) { s with heap:=h' })
  (hs:subscripted slice false (.ref l) (.ref s.heap.objs.size)=operate ops (getItem (.ref l) (.ref s.heap.objs.size)))(ht:∀ r,letTemporaryGo value (.ref l) r=pure ())(hz:ns.length<=sizeLine) :
  wpAny (model prog w) A (subscriptTail value slice (.ref l) (.ref s.heap.objs.size)) Q E { s with heap:=s.heap.push { cls:=.type "slice",data:=.fields #[vl,vu,vk] } }:=by
 refine slice_list3 F N hl pl pu pk h0 (fun h' F' N'=>h _ (slicePick vs.toArray lo hi st).toList _ h' (hi'.pick lo hi st) (length_pickNums_le hi' lo hi st) F' ?_ fun p hp=>Nat.lt_succ_of_lt (Heap.lt_size (N p hp).1)) hs ht (by rw [List.size_toArray,hi'.length];exact hz)
 rw [Array.toArray_toList]
 exact N'
theorem wt1:True:=by
 k_with "N2 subscriptTail Name Slice ref ref" => k_extra "A1"
 k_with "N2 eval ListComp" => k_extra "A2"
 exact True.intro
theorem kb_ints {prog:Program}{w:World}{A:Around}{h₀:Heap}{L:Addr}{m:PySem.Str->Option Value}{env:Env}{elt:Expr}{x:PySem.Str}{scope:Scope}{cl:List (PySem.Str×Addr)}{s:Shared}{S:List (Addr×Obj)->Prop}{Fin:List Value->List (Addr×Obj)->Prop}{news:List (Addr×Obj)}{vs:List Value}{ns:List Int}(hi:Int)(hv:IntsAre vs ns)
  (turn:∀ k t I oI C oC D m₂ ys h tk (E':Value->Shared->Prop),True->LCg.NsObj oC m₂->m₂ x=some (.int k t)->Fr h₀ L h m->News h₀ L h ((I,oI)::(C,oC)::(D,LCg.lst ys)::news)->LCg.Off3 I C D news->((@Ne Nat I C)/\(@Ne Nat I D)/\(@Ne Nat C D)) ->
   wpAny (model prog w) A (eval elt (compEnvC scope cl C env)) (LCg.CompEnd h₀ L m { s with heap:=h,toks:=tk } I oI C oC D (LCg.lst ys) S (IntEl news hi)) E' { s with heap:=h,toks:=tk })
  (fin:∀ ys rs,IntsAre ys rs->rs.length=ns.length->(∀ r∈rs,0<=r/\r<=hi)->Fin ys news):LCg.CompRest prog w A h₀ L m env elt x scope cl s S (fun i v=>vs.toArray[i]? = some v) Fin vs.toArray.size 0 [] news:=
 kb_rest (n:=vs.toArray.size) hi (fun _=>True) (fun i v _ e=>by
  obtain ⟨k,t,e2,_⟩:=IntsAre.at hv i v (by simpa using e)
  exact ⟨k,t,trivial,e2⟩) turn (fun ys rs h1 h2 h3=>fin ys rs h1 (by rw [h2,List.size_toArray,hv.length]) h3)
theorem wt2:True:=by
 k_with "N2 CompSrc" => k_extra "A3"
 exact True.intro
theorem sum_bd:∀ {rs:List Int}{c:Int},(∀ r∈rs,0<=r/\r<=c)->0<=rs.sum/\rs.sum<=c * rs.length
 | [],c,_=>by simp
 | r::rs,c,h=>by
  have h1:=sum_bd (rs:=rs) (c:=c) fun q hq=>h q (.tail _ hq)
  have h2:=h r (.head _)
  have e:c * ((rs.length:Int) + 1)=c * rs.length + c:=by rw [Int.mul_add,Int.mul_one]
  simp only [List.sum_cons,List.length_cons,Int.natCast_add,Int.natCast_one,e]
  lia
theorem wt3:True:=by
 k_with "N2 call builtin:sum" => k_extra "A4"
 exact True.intro
theorem getD_bd (n:Nat):0<=([10,3,5,3,12,7,6,14,0,74]:List Int).getD n 0/\([10,3,5,3,12,7,6,14,0,74]:List Int).getD n 0<=74:=by
 by_cases h:n < 10
 ·have h9:∀ i,i < 10->0<=([10,3,5,3,12,7,6,14,0,74]:List Int).getD i 0/\([10,3,5,3,12,7,6,14,0,74]:List Int).getD i 0<=74:=by decide
  exact h9 n h
 ·rw [List.getD_eq_getElem?_getD,List.getElem?_eq_none (by simpa using h)]
  decide
noncomputable def num_elt.P0 (k:Int)(w:World)(p:Program)(loose:List PySem.Str)(mean:ExcName->Option Value)(mg mb:PySem.Str->Option Value)(A:Around)(base h₀:Heap)(L fa:Addr)(cd:Value)(m:PySem.Str->Option Value)(I C D lb a:Addr) (oI oC c1 c2 oT:Obj)(ys:List Value)(m₂:PySem.Str->Option Value)(vs:List Value)(ns:List Int) (t t0 t1 t2 t3 t4 t5 t6 t7 t8 t9:Tok) (n0:Nat)(E:Value->Shared->Prop):Prop:=∀ {params:Arguments}{b:List Stmt}{sc:Scope}(hdef:RW.prog.theDef RW.name=some (params,b,sc)) {s0:Stmt}{nm:PySem.Str}{np:Pos}{elt it:Expr}{x:PySem.Str}{px pos ps:Pos} {sc1:Scope}{rest:List Stmt}(hb:b=s0::.Assign [.Name nm np] (.ListComp elt [⟨.Name x px,it,[],0⟩] sc1 pos) ps::rest)(hA:A.handled=none)(s:Shared)(X:(heapK w.params).In h₀)(T:Top p loose mean mg mb h₀) (hk0:0<=k) (hk1:k < 10)(hC:LCg.NsObj oC m₂)(hx:m₂ x=some (.int k t))(F:Fr h₀ L s.heap m) (hc1:c1.data = .cell (some (.ref a))) (hc2:c2.data = .cell (some (.ref lb)))(N:News h₀ L s.heap [(I,oI),(C,oC),(D,LCg.lst ys),(lb,listOf #[.int 10 t0,.int 3 t1,.int 5 t2,.int 3 t3,.int 12 t4,.int 7 t5,.int 6 t6,.int 14 t7,.int 0 t8,.int 74 t9] n0),(L + 1 + 1,c2),(L + 1,c1),(174,oT)])(off:LCg.Off3 I C D [(lb,listOf #[.int 10 t0,.int 3 t1,.int 5 t2,.int 3 t3,.int 12 t4,.int 7 t5,.int 6 t6,.int 14 t7,.int 0 t8,.int 74 t9] n0),(L + 1 + 1,c2),(L + 1,c1),(174,oT)])(ne:(@Ne Nat I C)/\(@Ne Nat I D)/\(@Ne Nat C D))(ha:h₀.IsList a vs.toArray)(hi:IntsAre vs ns)(hl:ns.length<=63),wpAny (model RW.prog w) A (eval elt (compEnvC sc1 [(PySem.Str.ofString "script",L + 1),(PySem.Str.ofString "base",L + 1 + 1)] C (envOfC (PySem.Str.ofString "law") sc L fa cd)))
   (LCg.CompEnd h₀ L m s I oI C oC D (LCg.lst ys) (fun _=>True) (IntEl [(lb,listOf #[.int 10 t0,.int 3 t1,.int 5 t2,.int 3 t3,.int 12 t4,.int 7 t5,.int 6 t6,.int 14 t7,.int 0 t8,.int 74 t9] n0),(L + 1 + 1,c2),(L + 1,c1),(174,oT)] 100000000)) E s
namespace num_elt
noncomputable def R0:=(s4 <| s4 <| s4 <| s4 <| s4 <| s4 <| s4 <| s4 <| s4 <| s4 <| id) P0
@[irreducible] noncomputable def z0:=zy R0 (by k_extra "N")
@[irreducible] noncomputable def k:=f1 z0
@[irreducible] noncomputable def z1:=f2 z0
theorem T0:(s4 <| s4 <| s4 <| s4 <| s4 <| s4 <| s4 <| s4 <| s4 <| st <| st <| st <| id) (P0 k) z1:=by
 intro params b sc hdef s0 nm np elt it x px pos ps sc1 rest hb hA s X T hk0 hk1 hC hx F hc1 hc2 N off ne ha hi hl
 have e:RW.prog.theDef RW.name=some (_,_,_):=rfl
 rw [e] at hdef
 cases hdef
 cases hb
 clear e
 revert X;k_fill;intro X
 w_on
 obtain ⟨hp,gens,dr,tk,os⟩:=s
 have hlen:=hi.length
 dsimp only at F N
 k_steps
 ·refine LCg.CompEnd.intro (by k_asm) (by k_asm) _ (fun q hq=>by repeat (first | exact hq | refine List.Mem.tail _ ?_)) (by assumption) ?_ ⟨rfl,_,_,rfl,?_,?_⟩
  ·exact .inr ⟨_,.head _,rfl,_,rfl⟩
  ·exact fmod_lo _ (n:=1000000) (by decide)
  ·have h9:=fmod_hi (by assumption) (n:=1000000) (by decide)
   lia
 ·have s9:=sum_bd (by assumption)
  have g9:=getD_bd k.toNat
  refine LCg.CompEnd.intro (by k_asm) (by k_asm) _ (fun q hq=>by repeat (first | exact hq | refine List.Mem.tail _ ?_)) (by assumption) True.intro ⟨rfl,_,_,rfl,?_,?_⟩ <;> lia
end num_elt
theorem num_elt (k) {w p loose mean mg mb} (A base h₀ L fa cd m I C D lb a oI oC c1 c2 oT ys m₂ vs ns t t0 t1 t2 t3 t4 t5 t6 t7 t8 t9 n0 E):num_elt.P0 k w p loose mean mg mb A base h₀ L fa cd m I C D lb a oI oC c1 c2 oT ys m₂ vs ns t t0 t1 t2 t3 t4 t5 t6 t7 t8 t9 n0 E:=by with_unfolding_all exact zy_all _ num_elt.R0 num_elt.T0 (k,w,p,loose,mean,mg,mb,A,base,h₀,L,fa,cd,m,I,C,D,lb,a,oI,oC,c1,c2,oT,ys,m₂,vs,ns,t,t0,t1,t2,t3,t4,t5,t6,t7,t8,t9,n0,E)
end Mine.N2
end XN2
open Mine.N2
section XN3
open PySem PySem.W PyProof.Rows PySem.Calls
namespace Mine
noncomputable def Bd (a:Int):Prop:=0<=a/\a<=100000000
theorem ints_cons {vs:List Value}{ns:List Int}{n:Nat}(h:IntsAre vs ns)(hl:ns.length=n + 1)(hb:∀ r∈ns,0<=r/\r<=100000000) :
  ∃ (a:Int)(t:Tok)(vs':List Value)(ns':List Int),vs = .int a t::vs'/\Bd a/\IntsAre vs' ns'/\ns'.length=n/\(∀ r∈ns',0<=r/\r<=100000000):=by
 cases h with
 | nil=>simp at hl
 | cons a t h'=>
  refine ⟨a,t,_,_,rfl,hb _ (.head _),h',by simpa using hl,fun r hr=>hb r (.tail _ hr)⟩
noncomputable def ints_ten.P0 (vs:List Value)(ns:List Int):Prop:=∀ (h:IntsAre vs ns)(hl:ns.length=10)(hb:∀ r∈ns,0<=r/\r<=100000000),∃ (a0 a1 a2 a3 a4 a5 a6 a7 a8 a9:Int) (t0 t1 t2 t3 t4 t5 t6 t7 t8 t9:Tok),vs=[.int a0 t0,.int a1 t1,.int a2 t2,.int a3 t3,.int a4 t4,.int a5 t5,.int a6 t6,.int a7 t7,.int a8 t8,.int a9 t9] /\
   (Bd a0/\Bd a1/\Bd a2/\Bd a3/\Bd a4)/\Bd a5/\Bd a6/\Bd a7/\Bd a8/\Bd a9
namespace ints_ten
noncomputable def R0:=(st <| id) P0
@[irreducible] noncomputable def z0:=zy R0 (by k_extra "N")
theorem T0:(st <| id) (P0) z0:=by
 intro h hl hb
 obtain ⟨a0,t0,v1,n1,e0,b0,h1,l1,k1⟩:=ints_cons h hl hb
 obtain ⟨a1,t1,v2,n2,e1,b1,h2,l2,k2⟩:=ints_cons h1 l1 k1
 obtain ⟨a2,t2,v3,n3,e2,b2,h3,l3,k3⟩:=ints_cons h2 l2 k2
 obtain ⟨a3,t3,v4,n4,e3,b3,h4,l4,k4⟩:=ints_cons h3 l3 k3
 obtain ⟨a4,t4,v5,n5,e4,b4,h5,l5,k5⟩:=ints_cons h4 l4 k4
 obtain ⟨a5,t5,v6,n6,e5,b5,h6,l6,k6⟩:=ints_cons h5 l5 k5
 obtain ⟨a6,t6,v7,n7,e6,b6,h7,l7,k7⟩:=ints_cons h6 l6 k6
 obtain ⟨a7,t7,v8,n8,e7,b7,h8,l8,k8⟩:=ints_cons h7 l7 k7
 obtain ⟨a8,t8,v9,n9,e8,b8,h9,l9,k9⟩:=ints_cons h8 l8 k8
 obtain ⟨a9,t9,v10,n10,e9,b9,h10,l10,k10⟩:=ints_cons h9 l9 k9
 have hv:v10=[]:=by cases h10 with
  | nil=>rfl
  | cons _ _ _=>simp at l10
 subst e9;subst e8;subst e7;subst e6;subst e5;subst e4;subst e3;subst e2;subst e1;subst hv
 exact ⟨a0,a1,a2,a3,a4,a5,a6,a7,a8,a9,t0,t1,t2,t3,t4,t5,t6,t7,t8,t9,e0,⟨b0,b1,b2,b3,b4⟩,b5,b6,b7,b8,b9⟩
end ints_ten
theorem ints_ten {vs ns}:ints_ten.P0 vs ns:=by with_unfolding_all exact zy_all _ ints_ten.R0 ints_ten.T0 (vs,ns)
theorem fin_ten {Fin:List Value->List (Addr×Obj)->Prop}{news:List (Addr×Obj)}
  (h:∀ (a0 a1 a2 a3 a4 a5 a6 a7 a8 a9:Int) (t0 t1 t2 t3 t4 t5 t6 t7 t8 t9:Tok),(Bd a0/\Bd a1/\Bd a2/\Bd a3/\Bd a4)->(Bd a5/\Bd a6/\Bd a7/\Bd a8/\Bd a9)->Fin [.int a0 t0,.int a1 t1,.int a2 t2,.int a3 t3,.int a4 t4,.int a5 t5,.int a6 t6,.int a7 t7,.int a8 t8,.int a9 t9] news)
  (ys:List Value)(rs:List Int)(hy:IntsAre ys rs)(hl:rs.length=10)(hb:∀ r∈rs,0<=r/\r<=100000000):Fin ys news:=by
 obtain ⟨a0,a1,a2,a3,a4,a5,a6,a7,a8,a9,t0,t1,t2,t3,t4,t5,t6,t7,t8,t9,e,b1,b2⟩:=ints_ten hy hl hb
 rw [e]
 exact h _ _ _ _ _ _ _ _ _ _ _ _ _ _ _ _ _ _ _ _ b1 b2
theorem range_ten (i:Nat)(v:Value)(hi:i < 10)(h:∃ t,v=Value.int ((0:Int) + (i:Int)) t):∃ k t,(0<=k/\k < 10)/\v = .int k t:=by
 obtain ⟨t,rfl⟩:=h
 exact ⟨_,t,⟨by omega,by omega⟩,rfl⟩
end Mine
end XN3
section XU9
open PySem PySem.W PyProof.Rows
namespace Mine
theorem wp_ifn {M:Model}{A:Around}{E:Value->Shared->Prop}{s:Shared} {α:Type}{c:Prop} [Decidable c] {a b:Sem α}{Q:α->Shared->Prop}(h:¬ c)(k:wpAny M A b Q E s):wpAny M A (if c then a else b) Q E s:=by rw [if_neg h];exact k
theorem wp_ifp {M:Model}{A:Around}{E:Value->Shared->Prop}{s:Shared} {α:Type}{c:Prop} [Decidable c] {a b:Sem α}{Q:α->Shared->Prop}(h:c)(k:wpAny M A a Q E s):wpAny M A (if c then a else b) Q E s:=by rw [if_pos h];exact k
end Mine
end XU9
section XG1
open PySem PySem.W PyProof.Rows PySem.Calls
namespace Mine
section
variable {M:Model}{A:Around}{R:GenEnd}{Y:Protocol}{n:Nat}{s₀:Shared}{c:Code}{fs:List PySem.Frame}{s:Shared}{env:Env}
 {K:Flow->Sem PySem.Fin}{H:Value->Sem PySem.Fin}{gd:Bool->Bool}{lv:List Value->List Value}
theorem seg_If {test:Expr}{body orelse:List Stmt}{pos:Pos}
  (h:wpAny M (A.over c fs) (isTrue test env (eval test env)) (fun b s'=>if b=true then Seg M A R Y n s₀ c ((execs body env).wrap K H gd lv) fs s' else Seg M A R Y n s₀ c ((execs orelse env).wrap K H gd lv) fs s')
   (fun x s'=>Seg M A R Y n s₀ c (H x) fs s') s):Seg M A R Y n s₀ c ((exec (.If test body orelse pos) env).wrap K H gd lv) fs s:=by
 show Seg M A R Y n s₀ c (.at pos fun _=>((isTrue test env (eval test env)) >>= fun b=>if b=true then execs body env else execs orelse env).wrap K H gd lv) fs s
 refine seg_at ?_
 rw [Sem.bind_eq_wrap',Sem.wrap_wrap]
 refine seg_wrap (wpAny_mono h (fun b s' h'=>?_) fun _ _ x=>x)
 cases b with
 | true=>rw [if_pos rfl] at h';exact h'
 | false=>rw [if_neg Bool.false_ne_true] at h';exact h'
theorem seg_For {target iter:Expr}{body:List Stmt}{pos:Pos}(hs:∀ x,foldedSetIterable iter env x=pure x)
  (h:wpAny M (A.over c fs) (eval iter env) (fun v s1=>wpAny M (A.over c fs) (pyIter v) (fun it s2=>∀ p (k:Result->Sem PySem.Fin),(∀ f,k (.ok f)=K f)->Seg M A R Y n s₀ (.forLoop target it body [] env) (M.den (.forLoop target it body [] env))
   (.ret k none (gd false) (lv []) c p []::fs) s2)
   (fun x s'=>Seg M A R Y n s₀ c (H x) fs s') s1) (fun x s'=>Seg M A R Y n s₀ c (H x) fs s') s) :
  Seg M A R Y n s₀ c ((exec (.For target iter body [] pos) env).wrap K H gd lv) fs s:=by
 show Seg M A R Y n s₀ c (.at pos fun _=>((eval iter env) >>= fun v=>foldedSetIterable iter env v >>= fun x=>standAt iter.pos >>= fun _=>holding [x] (pyIter x) >>= fun it=>runOwn (.forLoop target it body [] env) env).wrap K H gd lv) fs s
 refine seg_at ?_
 rw [Sem.bind_eq_wrap',Sem.wrap_wrap]
 refine seg_wrap (wpAny_mono h (fun v s1 h1=>?_) fun _ _ x=>x)
 rw [hs v]
 show Seg M A R Y n s₀ c (.at iter.pos fun _=>(holding [v] (pyIter v) >>= fun it=>runOwn (.forLoop target it body [] env) env).wrap K H gd lv) fs s1
 refine seg_at ?_
 rw [Sem.bind_eq_wrap',Sem.wrap_wrap]
 refine seg_wrap (wpAny_holding (wpAny_mono h1 (fun it s2 h2=>?_) fun _ _ x=>x))
 exact seg_call fun p=>h2 p _ fun f=>rfl
theorem seg_YieldFrom {e:Expr}{ypos pos:Pos}(hi:interactive env=false)
  (h:wpAny M (A.over c fs) (eval e env) (fun v s1=>wpAny M (A.over c fs) (typeOf v) (fun t s2=>(t == .type "coroutine")=false/\wpAny M (A.over c fs) (pyIter v)
   (fun it s3=>∀ p (k:Result->Sem PySem.Fin),k (.ok (.ret .none))=K .next->Seg M A R Y n s₀ (.builtin "proto.yield_from" ⟨[it,.bool false,.none],[]⟩) (M.den (.builtin "proto.yield_from" ⟨[it,.bool false,.none],[]⟩))
    (.ret k none (gd false) (lv []) c p []::fs) s3) (fun x s'=>Seg M A R Y n s₀ c (H x) fs s') s2) (fun x s'=>Seg M A R Y n s₀ c (H x) fs s') s1) (fun x s'=>Seg M A R Y n s₀ c (H x) fs s') s) :
  Seg M A R Y n s₀ c ((exec (.Expr (.YieldFrom e ypos) pos) env).wrap K H gd lv) fs s:=by
 rw [exec_Expr env _ pos hi rfl]
 show Seg M A R Y n s₀ c (.at pos fun _=>((eval e env >>= fun v=>(standAt ypos >>= fun _=>yieldFrom env v)) >>= fun x=>
  dropValue (.YieldFrom e ypos) pos x).wrap K H gd lv) fs s
 refine seg_at ?_
 rw [Sem.bind_eq_wrap',Sem.bind_eq_wrap',Sem.wrap_wrap,Sem.wrap_wrap]
 refine seg_wrap (wpAny_mono h (fun v s1 h1=>?_) fun _ _ x=>x)
 refine seg_at ?_
 unfold yieldFrom
 show Seg M A R Y n s₀ c ((typeOf v >>= _).wrap _ _ _ _) fs s1
 rw [Sem.bind_eq_wrap',Sem.wrap_wrap]
 refine seg_wrap (wpAny_mono h1 (fun t s2 h2=>?_) fun _ _ x=>x)
 obtain ⟨ht,h2⟩:=h2
 rw [ht,if_neg Bool.false_ne_true]
 rw [Sem.bind_eq_wrap',Sem.wrap_wrap]
 refine seg_wrap (wpAny_holding (wpAny_mono h2 (fun it s3 h3=>?_) fun _ _ x=>x))
 exact seg_call fun p=>h3 p _ rfl
end
section
variable {prog:Program}{w:World}{A:Around}{R:GenEnd}{Y:Protocol}{n:Nat}{s₀:Shared}{fs:List PySem.Frame}{s:Shared}{env:Env}
noncomputable abbrev HL (env:Env)(e:Value):Sem PySem.Fin:=(do noteFrame e env;theTreesLotGoes e:Sem Unit).wrap (fun _=>.raise e) .raise id id
noncomputable abbrev KL (target:Expr)(it:Value)(body:List Stmt)(env:Env)(f:Flow):Sem PySem.Fin:=match f with
 | .next | .cont=>.pure (.again (.forLoop target it body [] env))
 | .brk=>.pure (.done .next)
 | .ret v=>.pure (.done (.ret v))
noncomputable def SegTurn (prog:Program)(w:World)(A:Around)(R:GenEnd)(Y:Protocol)(n:Nat)(s₀:Shared)(fs:List PySem.Frame)(target:Expr)(it:Value)(body:List Stmt)(env:Env)(o:Option Value) (s1:Shared):Prop:=match o with
 | none=>Seg (model prog w) A R Y n s₀ (.block [] env) ((model prog w).den (.block [] env)) fs s1
 | some v=>wpAny (model prog w) (A.over (.forLoop target it body [] env) fs) (letOwnedTupleGo target it v) (fun _ s2=>wpAny (model prog w) (A.over (.forLoop target it body [] env) fs) (assign target env v)
   (fun _ s3=>Seg (model prog w) A R Y n s₀ (.forLoop target it body [] env) ((execs body env).wrap (KL target it body env) (HL env) id id) fs s3) (fun _ _=>False) s2) (fun _ _=>False) s1
theorem seg_forLoop {target:Expr}{it:Value}{body:List Stmt}
  (h:wpAny (model prog w) (A.over (.forLoop target it body [] env) fs) (pyNext it) (SegTurn prog w A R Y n s₀ fs target it body env) (fun _ _=>False) s) :
  Seg (model prog w) A R Y n s₀ (.forLoop target it body [] env) ((model prog w).den (.forLoop target it body [] env)) fs s:=by
 show Seg _ A R Y n s₀ _ ((forTurn target it body [] env).onRaise (fun x=>do noteFrame x env;theTreesLotGoes x)) fs s
 unfold forTurn
 rw [Sem.onRaise_eq_wrap,Sem.bind_eq_wrap',Sem.wrap_wrap]
 refine seg_wrap (wpAny_standAt ?_)
 rw [Sem.bind_eq_wrap',Sem.wrap_wrap]
 refine seg_wrap (wpAny_onRaise (wpAny_mono h (fun o s1 h1=>?_) fun _ _ x=>x.elim))
 cases o with
 | none=>exact seg_again rfl h1
 | some v=>
  have h1':wpAny (model prog w) (A.over (.forLoop target it body [] env) fs) (letOwnedTupleGo target it v) (fun _ s2=>wpAny (model prog w) (A.over (.forLoop target it body [] env) fs) (assign target env v)
   (fun _ s3=>Seg (model prog w) A R Y n s₀ (.forLoop target it body [] env) ((execs body env).wrap (KL target it body env) (HL env) id id) fs s3) (fun _ _=>False) s2) (fun _ _=>False) s1:=h1
  show Seg _ A R Y n s₀ _ ((letOwnedTupleGo target it v >>= fun _=>assign target env v >>= fun _=>execs body env >>= fun f=>match f with
   | .next | .cont=>again (.forLoop target it body [] env)
   | .brk=>pure (.done .next)
   | .ret v=>pure (.done (.ret v))).wrap _ _ _ _) fs s1
  rw [Sem.bind_eq_wrap',Sem.wrap_wrap]
  refine seg_wrap (wpAny_mono h1' (fun _ s2 h2=>?_) fun _ _ x=>x.elim)
  rw [Sem.bind_eq_wrap',Sem.wrap_wrap]
  refine seg_wrap (wpAny_mono h2 (fun _ s3 h3=>?_) fun _ _ x=>x.elim)
  rw [Sem.bind_eq_wrap',Sem.wrap_wrap]
  rw [Sem.wrap_congr (execs body env) _ _ (K':=KL target it body env) (H':=HL env)
    (fun f=>by cases f <;> rfl)
    (fun e=>by first | exact Sem.bind_eq_wrap _ _ | (show (do noteFrame e env;theTreesLotGoes e:Sem Unit).bind (fun _=>.raise e)=_;rw [Sem.bind_eq_wrap]))]
  exact h3
theorem seg_block_nil {k h g l c₁ p₁ kp}(hk:Seg (model prog w) A R Y n s₀ c₁ (k (.ok .next)) fs s) :
  Seg (model prog w) A R Y n s₀ (.block [] env) ((model prog w).den (.block [] env)) (.ret k h g l c₁ p₁ kp::fs) s:=
 seg_leaf (.ok .next) hk
end
end Mine
end XG1
section XG2
open PySem PySem.W PyProof.Rows PySem.Calls
namespace Mine
theorem plain_yf:plainId "proto.yield_from" = true:=by decide +kernel
theorem entry_yf:entryFor table "proto.yield_from" = some Builtin.«proto.yield_from»:=entryFor_of_tree (by kernel_rfl)
theorem no_close_li:typeLookup (.type "list_iterator") "close" = pure none:=by rw [typeLookup_type,builtinLookup_eq_fast];kernel_rfl
theorem stop_self:isSubtype (.type "StopIteration") (.type "StopIteration")=pure true:=by rw [isSubtype_type];kernel_rfl
section
variable {prog:Program}{w:World}{A:Around}{E:Value->Shared->Prop}{s:Shared}
theorem cs_next_item {it l:Addr}{i:Nat} {items}{x:Value}{Q:Option Value->Shared->Prop}(hit:s.heap.IsListIter it l i)
  (hl:s.heap.IsList l items)(hx:items[i]? = some x)
  (hQ:∀ h',h'.IsListIter it l (i + 1)->Heap.SameBut it s.heap h'->Q (some x) { s with heap:=h' }) :
  wpAny (model prog w) A (callSpecial? (.ref it) "__next__") Q E s:=by
 obtain ⟨o,ho,hc,hd⟩:=id hit
 obtain ⟨ol,hol,_,nl,hdl⟩:=hl
 refine (wpAny_callSpecial?_slot (name:=Str.ofString "__next__") hit.typeIs slot_listiter_next
  (wpAny_call_entry slot_listiter_next hit.typeIs entry_listiter_next ?_ (args_listiter_next _)))
 show wpAny _ _ (field (.ref it) 0 >>= _) _ _ s
 refine wpAny_bind (wpAny_field ho hd (x:=.ref l) rfl ?_)
 show wpAny _ _ (if (Value.ref l == Value.none)=true then _ else _) _ _ s
 rw [if_neg (show ¬ ((Value.ref l == Value.none)=true) from Bool.false_ne_true)]
 show wpAny _ _ (field (.ref it) 1 >>= _) _ _ s
 refine wpAny_bind (wpAny_field ho hd (x:=.int i 0) rfl ?_)
 show wpAny _ _ (seqItems? (.ref l) >>= _) _ _ s
 refine wpAny_bind (wpAny_seqItems hol hdl ?_)
 simp only [Int.toNat_natCast,hx]
 refine wpAny_bind (wpAny_setField ho hd (by simp) (wpAny_pure ⟨x,rfl,hQ _ ?_ (Heap.SameBut.update ..)⟩))
 exact ⟨_,Heap.get?_update_self _ ho (Obj.isFreed_of_fields (Obj.data_mapFields hd _)),(Obj.cls_mapFields ..).trans hc,by
  rw [Obj.data_mapFields hd];simp [rawInt]⟩
theorem cs_next_end {it l:Addr}{i:Nat} {items}{Q:Option Value->Shared->Prop}(hh:A.handled=none)
  (hit:s.heap.IsListIter it l i)(hl:s.heap.IsList l items)(hx:items[i]? = none)
  (hE:∀ x o h',Heap.ExtBut it s.heap h'->h'.get? x=some o->o.cls = .type "StopIteration" -> (∃ vs,o.data = .fields vs/\vs[5]? = some .none)->E (.ref x) { s with heap:=h' }) :
  wpAny (model prog w) A (callSpecial? (.ref it) "__next__") Q E s:=by
 obtain ⟨o,ho,hc,hd⟩:=id hit
 obtain ⟨ol,hol,_,nl,hdl⟩:=hl
 refine (wpAny_callSpecial?_slot (name:=Str.ofString "__next__") hit.typeIs slot_listiter_next
  (wpAny_call_entry slot_listiter_next hit.typeIs entry_listiter_next ?_ (args_listiter_next _)))
 show wpAny _ _ (field (.ref it) 0 >>= _) _ _ s
 refine wpAny_bind (wpAny_field ho hd (x:=.ref l) rfl ?_)
 show wpAny _ _ (if (Value.ref l == Value.none)=true then _ else _) _ _ s
 rw [if_neg (show ¬ ((Value.ref l == Value.none)=true) from Bool.false_ne_true)]
 show wpAny _ _ (field (.ref it) 1 >>= _) _ _ s
 refine wpAny_bind (wpAny_field ho hd (x:=.int i 0) rfl ?_)
 show wpAny _ _ (seqItems? (.ref l) >>= _) _ _ s
 refine wpAny_bind (wpAny_seqItems hol hdl ?_)
 simp only [Int.toNat_natCast,hx]
 refine wpAny_bind (wpAny_rule (wpAny_bind (wpAny_setField ho hd (by simp) ?_)))
 show wpAny _ _ (newExc (.type "StopIteration") [] >>= _) _ _ _
 refine wpAny_bind ?_
 simp only [newExc,newTuple]
 refine wpAny_bind (wpAny_newObj_type ?_ (by size_fits))
 refine wpAny_bind (m:=firstArgMember _ _) (wpAny_of_eq (a:=Value.none) (by first | rfl | (simp only [firstArgMember];rfl)) ?_)
 refine wpAny_newObj_type ?_ (by size_fits)
 dsimp only [raiseNew]
 refine wpAny_bind (wpAny_handled ?_)
 rw [show A.in1.handled=none from hh]
 refine wpAny_bind (wpAny_pure (wpAny_throw ?_))
 exact hE _ _ _ (((Heap.SameBut.update ..).extBut.push _).push _) (Heap.get?_push_size _ rfl) rfl ⟨_,rfl,rfl⟩
theorem wp_slept {J:Addr}{o:Obj}{b:Bool}{Q:Unit->Shared->Prop}(ho:s.heap.get? J=some o)(hc:o.cls = .type "list_iterator")(h:Q () s) :
  wpAny (model prog w) A (Builtin.Generator.sleptOver (.ref J) b) Q E s:=by
 try dsimp only
 refine wpAny_bind (wpAny_load ho ?_)
 rw [hc]
 refine wp_ifp ((by decide)) ?_
 exact wpAny_pure h
end
section
variable {prog:Program}{w:World}{A:Around}{R:GenEnd}{Y:Protocol}{n:Nat}{s₀:Shared}{fs:List PySem.Frame}{s:Shared}{env:Env}
noncomputable abbrev yfC (J:Addr):Code:=.builtin "proto.yield_from" ⟨[.ref J,.bool false,.none],[]⟩
theorem den_yf (J:Addr):(model prog w).den (yfC J)=Builtin.«proto.yield_from» ⟨[.ref J,.bool false,.none],[]⟩:=by
 have e:(model prog w).den=denote table:=rfl
 rw [e,denote]
 simp only [entry_yf]
theorem seg_yf_item {J l:Addr}{i:Nat}{items:Array Value}{x:Value}(hfs:splitAtGen fs=none)(hfg:fs.any Frame.guarded=false)
  (hit:s.heap.IsListIter J l i)(hl:s.heap.IsList l items)(hx:items[i]? = some x)
  (h:∀ h',h'.IsListIter J l (i + 1)->Heap.SameBut J s.heap h'->∀ kap:Resume->Shared->Prop,
   (∀ s'',s''.heap.IsListIter J l (i + 1)->Seg (model prog w) A R Y n s'' (yfC J) ((model prog w).den (yfC J)) fs s''->kap (.send .none) s'')->Y n s₀ x { s with heap:=h' } kap) :
  Seg (model prog w) A R Y (n + 1) s₀ (yfC J) ((model prog w).den (yfC J)) fs s:=by
 rw [den_yf]
 try dsimp only
 refine seg_bind (wpAny_pure ?_)
 refine seg_bind (wpAny_attempt (wpAny_holding ?_))
 rw [if_neg (by decide)]
 rw [if_pos (by decide)]
 refine wpAny_bind (wpAny_rule (wpAny_bind (cs_next_item hit hl hx fun h' hit' hsb=>wpAny_pure ?_)))
 dsimp only
 refine seg_bind (wpAny_typeOf hit'.typeIs ?_)
 refine seg_bind (wpAny_of_eq no_close_li ?_)
 refine seg_bind (wpAny_pure ?_)
 obtain ⟨o',ho',hc',hd'⟩:=id hit'
 refine seg_bind (wp_slept ho' hc' ?_)
 refine seg_yield (g:=false) hfs rfl hfg ?_
 refine h h' hit' hsb _ fun s'' hit'' hs=>?_
 obtain ⟨o2,ho2,hc2,hd2⟩:=id hit''
 refine seg_bind (wpAny_pure ?_)
 refine seg_bind (wp_slept ho2 hc2 ?_)
 refine seg_bind (wpAny_pure ?_)
 exact seg_again (plainId_quiet plain_yf _) hs
theorem seg_yf_end {J l:Addr}{i:Nat}{items:Array Value} {k h0 g l0 c₁ p₁ kp}(hh:(A.over (yfC J) (.ret k h0 g l0 c₁ p₁ kp::fs)).handled=none)
  (hit:s.heap.IsListIter J l i)(hl:s.heap.IsList l items)(hx:items[i]? = none)
  (h:∀ h',Heap.ExtBut J s.heap h'->Seg (model prog w) A R Y n s₀ c₁ (k (.ok (.ret .none))) fs { s with heap:=h' }) :
  Seg (model prog w) A R Y n s₀ (yfC J) ((model prog w).den (yfC J)) (.ret k h0 g l0 c₁ p₁ kp::fs) s:=by
 rw [den_yf]
 try dsimp only
 refine seg_bind (wpAny_pure ?_)
 refine seg_bind (wpAny_attempt (wpAny_holding ?_))
 rw [if_neg (by decide)]
 rw [if_pos (by decide)]
 refine wpAny_bind (wpAny_rule (wpAny_bind (cs_next_end hh hit hl hx fun x o h' hex hox hcx hfx=>?_)))
 obtain ⟨vs,hdx,h5⟩:=hfx
 refine seg_bind ?_
 ·delta Builtin.Generator.endsTheTurnAsAValue Builtin.Generator.isStopAndMetaclass
  refine wpAny_bind (wpAny_bind (wpAny_typeOf (T:="StopIteration") ⟨o,hox,hcx⟩ ?_))
  refine wpAny_bind (wpAny_of_eq stop_self ?_)
  refine wpAny_bind (wpAny_pure (wpAny_pure ?_))
  refine wp_ifn (Bool.false_ne_true) ?_
  refine wpAny_pure ?_
  rw [if_pos rfl,if_neg Bool.false_ne_true]
  refine seg_bind (wpAny_rule ?_)
  refine seg_bind (wpAny_field hox hdx h5 ?_)
  exact seg_leaf (.ok (.ret .none)) (h h' hex)
end
end Mine
end XG2
section XG3
open PySem PySem.W PyProof.Rows PySem.Calls
namespace Mine
noncomputable def genStmt (p0 pt pc pn1 pn2 pif pn3 pe py pn4:Pos):Stmt:=
 .For (.Name (Str.ofString "namespaces") pt) (.Call (.Name (Str.ofString "_reversed") pn1) [.Name (Str.ofString "ns_stack") pn2] [] pc)
  [.If (.Name (Str.ofString "namespaces") pn3) [.Expr (.YieldFrom (.Name (Str.ofString "namespaces") pn4) py) pe] [] pif] [] p0
structure GenFacts (h₀:Heap) (Lg Rv J C c1 c2:Addr)(v:Value)(m:PySem.Str->Option Value)(h:Heap):Prop where
 fr:Fr h₀ Lg h m
 rv:h.IsRevIter Rv C (-1)
 it:h.IsListIter J c1 1
 lc:h.IsList C #[.ref c1,.ref c2]
 l1:h.IsList c1 #[v]
 l2:h.IsList c2 #[]
noncomputable def Later (Lg:Addr)(s s':Shared):Prop:=∃ h' tk,s'={ s with heap:=h',toks:=tk }/\∀ b o,b < Lg->s.heap.get? b=some o->h'.get? b=some o
theorem Later.refl (Lg:Addr)(s:Shared):Later Lg s s:=⟨s.heap,s.toks,rfl,fun _ _ _ e=>e⟩
theorem Later.step {Lg:Addr}{s s':Shared}(x:Later Lg s s'){h':Heap}{tk:Nat}(hk:∀ b o,b < Lg->s'.heap.get? b=some o->h'.get? b=some o):Later Lg s { s' with heap:=h',toks:=tk }:=by
 obtain ⟨h1,t1,rfl,k1⟩:=x
 exact ⟨h',tk,rfl,fun b o hb e=>hk b o hb (k1 b o hb e)⟩
noncomputable def genR (Lg:Addr):GenEnd:=fun n s₀ r s₁=>r = .ok (.ret .none)/\(n=0/\Later Lg s₀ s₁)
noncomputable def genY (h₀:Heap) (Lg C c1 c2:Addr)(v:Value):Protocol:=fun _ s₀ x s₁ kap=>x=v/\(∃ h' tk,s₁={ s₀ with heap:=h',toks:=tk }/\∀ b o,b≠Lg->s₀.heap.get? b=some o->h'.get? b=some o)/\∃ Rv J m,@LE.le Nat _ s₀.heap.objs.size Rv/\@LT.lt Nat _ Rv J/\GenFacts h₀ Lg Rv J C c1 c2 v m s₁.heap/\∀ s'' m',GenFacts h₀ Lg Rv J C c1 c2 v m' s''.heap->kap (.send .none) s''
section
variable {prog:Program}{w:World}{A:Around}{R:GenEnd}{Y:Protocol}{n:Nat}{s₀:Shared}{fs:List PySem.Frame}{s:Shared}{scope:Scope}{qual:PySem.Str} {Lg f C c1 c2:Addr}{cd v:Value}{h₀:Heap}{m:PySem.Str->Option Value}
theorem over_none {c:Code} {k g l c1 p kp}(hf:(A.over c fs).handled=none)(c':Code):(A.over c' (.ret k none g l c1 p kp::fs)).handled=none:=hf
theorem rev_fr {h h':Heap}{it l:Addr}{i:Int}(x:h.IsRevIter it l i)(hs:Heap.SameBut Lg h h')(hne:it≠Lg):h'.IsRevIter it l i:=x.at fun o e=>(hs.2 it hne).trans e
theorem li_fr {h h':Heap}{it l:Addr}{i:Nat}(x:h.IsListIter it l i)(hs:Heap.SameBut Lg h h')(hne:it≠Lg):h'.IsListIter it l i:=x.extBut hs.extBut hne
theorem l_fr {h h':Heap}{l b:Addr}{xs:Array Value}(x:h.IsList l xs)(hs:Heap.SameBut b h h')(hne:l≠b):h'.IsList l xs:=x.extBut hs.extBut hne
theorem fr_but {h h':Heap}{b:Addr}(F:Fr h₀ Lg h m)(hs:Heap.ExtBut b h h')(hne:b≠Lg)(hb:h₀.get? b=none):Fr h₀ Lg h' m:=
 ⟨F.ns.at' fun o e=>hs Lg o hne.symm e,fun a o e=>hs a o (fun q=>by rw [q,hb] at e;cases e) (F.keep a o e),F.above⟩
variable {env:Env} {p0 pt pc pn1 pn2 pif pn3 pe py pn4:Pos}
end
noncomputable def gen_start.P0 (A:Around)(s:Shared) (C c1 c2:Addr)(v:Value)(h₀:Heap)(m:PySem.Str->Option Value)(env:Env) (p0 pt pc pn1 pn2 pif pn3 pe py pn4:Pos)(prog:Program)(w:World):Prop:=∀ {Lg:Addr}(hA:A.handled=none)(hlo:env.locals=Lg)(hk:env.scope.kind = .function)(hi:interactive env=false) (k1:env.kindOf (Str.ofString "namespaces")=some .local) (k2:env.kindOf (Str.ofString "_reversed")=some .local) (k3:env.kindOf (Str.ofString "ns_stack")=some .local)(F:Fr h₀ Lg s.heap m) (m1:m (Str.ofString "ns_stack")=some (.ref C)) (m2:m (Str.ofString "_reversed")=some (.type "reversed"))(lc:s.heap.IsList C #[.ref c1,.ref c2]) (l1:s.heap.IsList c1 #[v]) (l2:s.heap.IsList c2 #[]) (n1:C≠Lg) (n2:c1≠Lg) (n3:c2≠Lg),Seg (model prog w) A (genR Lg) (genY h₀ Lg C c1 c2 v) 1 s (.func [genStmt p0 pt pc pn1 pn2 pif pn3 pe py pn4] env) ((model prog w).den (.func [genStmt p0 pt pc pn1 pn2 pif pn3 pe py pn4] env)) [] s
namespace gen_start
noncomputable def R0:=(s4 <| s4 <| s4 <| s4 <| s4 <| id) P0
@[irreducible] noncomputable def z0:=zy R0 (by k_extra "N")
@[irreducible] noncomputable def A:=f1 z0
@[irreducible] noncomputable def s:=f1 (f2 z0)
@[irreducible] noncomputable def C:=f1 (f2 (f2 z0))
@[irreducible] noncomputable def c1:=f1 (f2 (f2 (f2 z0)))
@[irreducible] noncomputable def c2:=f1 (f2 (f2 (f2 (f2 z0))))
@[irreducible] noncomputable def v:=f1 (f2 (f2 (f2 (f2 (f2 z0)))))
@[irreducible] noncomputable def h₀:=f1 (f2 (f2 (f2 (f2 (f2 (f2 z0))))))
@[irreducible] noncomputable def m:=f1 (f2 (f2 (f2 (f2 (f2 (f2 (f2 z0)))))))
@[irreducible] noncomputable def env:=f1 (f2 (f2 (f2 (f2 (f2 (f2 (f2 (f2 z0))))))))
@[irreducible] noncomputable def p0:=f1 (f2 (f2 (f2 (f2 (f2 (f2 (f2 (f2 (f2 z0)))))))))
@[irreducible] noncomputable def pt:=f1 (f2 (f2 (f2 (f2 (f2 (f2 (f2 (f2 (f2 (f2 z0))))))))))
@[irreducible] noncomputable def pc:=f1 (f2 (f2 (f2 (f2 (f2 (f2 (f2 (f2 (f2 (f2 (f2 z0)))))))))))
@[irreducible] noncomputable def pn1:=f1 (f2 (f2 (f2 (f2 (f2 (f2 (f2 (f2 (f2 (f2 (f2 (f2 z0))))))))))))
@[irreducible] noncomputable def pn2:=f1 (f2 (f2 (f2 (f2 (f2 (f2 (f2 (f2 (f2 (f2 (f2 (f2 (f2 z0)))))))))))))
@[irreducible] noncomputable def pif:=f1 (f2 (f2 (f2 (f2 (f2 (f2 (f2 (f2 (f2 (f2 (f2 (f2 (f2 (f2 z0))))))))))))))
@[irreducible] noncomputable def pn3:=f1 (f2 (f2 (f2 (f2 (f2 (f2 (f2 (f2 (f2 (f2 (f2 (f2 (f2 (f2 (f2 z0)))))))))))))))
@[irreducible] noncomputable def pe:=f1 (f2 (f2 (f2 (f2 (f2 (f2 (f2 (f2 (f2 (f2 (f2 (f2 (f2 (f2 (f2 (f2 z0))))))))))))))))
@[irreducible] noncomputable def py:=f1 (f2 (f2 (f2 (f2 (f2 (f2 (f2 (f2 (f2 (f2 (f2 (f2 (f2 (f2 (f2 (f2 (f2 z0)))))))))))))))))
@[irreducible] noncomputable def pn4:=f1 (f2 (f2 (f2 (f2 (f2 (f2 (f2 (f2 (f2 (f2 (f2 (f2 (f2 (f2 (f2 (f2 (f2 (f2 z0))))))))))))))))))
@[irreducible] noncomputable def z1:=f2 (f2 (f2 (f2 (f2 (f2 (f2 (f2 (f2 (f2 (f2 (f2 (f2 (f2 (f2 (f2 (f2 (f2 (f2 z0))))))))))))))))))
theorem T0:(st <| id) (P0 A s C c1 c2 v h₀ m env p0 pt pc pn1 pn2 pif pn3 pe py pn4) z1:=by
 intro Lg hA hlo hk hi k1 k2 k3 F m1 m2 lc l1 l2 n1 n2 n3
 subst hlo
 have hlt:env.locals < s.heap.objs.size:=F.ns.lt
 have rvn:s.heap.objs.size≠env.locals:=Nat.ne_of_gt hlt
 have ltC:C < s.heap.objs.size:=let ⟨_,e,_⟩:=lc;Heap.lt_size e
 have ltc1:c1 < s.heap.objs.size:=let ⟨_,e,_⟩:=l1;Heap.lt_size e
 have ltc2:c2 < s.heap.objs.size:=let ⟨_,e,_⟩:=l2;Heap.lt_size e
 refine seg_func ?_
 refine seg_execs_cons ?_
 refine seg_For (fun _=>rfl) ?_
 refine Call_ (wpAny_Name (wpAny_loadName_local hk k2 F.ns m2 ?_))
 refine callWith_type1 (args_cons (wpAny_Name (wpAny_loadName_local hk k3 F.ns m1 (args_nil ?_))))
 refine call_reversed_list lc ?_
 have e0:((#[Value.ref c1,Value.ref c2].size:Nat):Int) - 1=((1:Nat):Int):=rfl
 rw [e0]
 have F1:=F.push (revObj C ((1:Nat):Int))
 have rv1:(s.heap.push (revObj C ((1:Nat):Int))).IsRevIter s.heap.objs.size C ((1:Nat):Int):=⟨_,Heap.get?_push_size _ rfl,rfl,rfl⟩
 refine wpAny_pyIter_revIter rv1 ?_
 intro p k hkf
 refine seg_forLoop ?_
 refine wpAny_pyNext_rev_item rv1 (lc.push _) (x:=.ref c2) rfl fun h1 rv2 sb1=>?_
 have F2:Fr h₀ env.locals h1 m:=fr_but F1 sb1.extBut rvn (Heap.get?_none_of_le (Nat.le_trans F.above (Nat.le_of_lt hlt)))
 refine wpAny_pure ?_
 refine wpAny_assign_Name (wpAny_storeName_local k1 F2.ns (fun h2 ns2 sb2=>?_) (by rw [hk];rfl))
 have F3:=F2.set ns2 sb2
 have rv3:=rev_fr rv2 sb2 rvn
 have lC3:h2.IsList C #[.ref c1,.ref c2]:=l_fr (l_fr (lc.push _) sb1 (Nat.ne_of_lt ltC)) sb2 n1
 have l13:h2.IsList c1 #[v]:=l_fr (l_fr (l1.push _) sb1 (Nat.ne_of_lt ltc1)) sb2 n2
 have l23:h2.IsList c2 #[]:=l_fr (l_fr (l2.push _) sb1 (Nat.ne_of_lt ltc2)) sb2 n3
 refine seg_execs_cons (seg_If (isTrue_plain (wpAny_Name (wpAny_loadName_local hk k1 F3.ns (if_pos rfl) ?_))))
 refine wpAny_truthy_list l23 (by decide) ?_
 rw [if_neg (by decide)]
 refine seg_execs_nil ?_
 refine seg_execs_nil ?_
 refine seg_again rfl ?_
 refine seg_forLoop ?_
 refine wpAny_pyNext_rev_item (i:=0) rv3 lC3 (x:=.ref c1) rfl fun h3 rv4 sb3=>?_
 have F4:=fr_but F3 sb3.extBut rvn (Heap.get?_none_of_le (Nat.le_trans F.above (Nat.le_of_lt hlt)))
 refine wpAny_pure ?_
 refine wpAny_assign_Name (wpAny_storeName_local k1 F4.ns (fun h4 ns4 sb4=>?_) (by rw [hk];rfl))
 have F5:=F4.set ns4 sb4
 have rv5:=rev_fr rv4 sb4 rvn
 have lC5:h4.IsList C #[.ref c1,.ref c2]:=l_fr (l_fr lC3 sb3 (Nat.ne_of_lt ltC)) sb4 n1
 have l15:h4.IsList c1 #[v]:=l_fr (l_fr l13 sb3 (Nat.ne_of_lt ltc1)) sb4 n2
 have l25:h4.IsList c2 #[]:=l_fr (l_fr l23 sb3 (Nat.ne_of_lt ltc2)) sb4 n3
 refine seg_execs_cons (seg_If (isTrue_plain (wpAny_Name (wpAny_loadName_local hk k1 F5.ns (if_pos rfl) ?_))))
 refine wpAny_truthy_list l15 (show ((1:Nat):Int) < 2 ^ 63 by decide) ?_
 rw [if_pos (by rfl)]
 refine seg_execs_cons (seg_YieldFrom hi (wpAny_Name (wpAny_loadName_local hk k1 F5.ns (if_pos rfl) ?_)))
 refine wpAny_typeOf l15.typeIs ⟨by decide,?_⟩
 refine wpAny_pyIter_list l15 ?_
 intro p2 k2' hk2
 have hsz4:h4.objs.size=s.heap.objs.size + 1:=by rw [sb4.1,sb3.1,sb2.1,sb1.1,Heap.size_push]
 have jL:h4.objs.size≠env.locals:=by rw [hsz4];exact Nat.ne_of_gt (Nat.lt_succ_of_lt hlt)
 have jr:s.heap.objs.size≠h4.objs.size:=by rw [hsz4];exact Nat.ne_of_lt (Nat.lt_succ_self _)
 have jC:C≠h4.objs.size:=by rw [hsz4];exact Nat.ne_of_lt (Nat.lt_succ_of_lt ltC)
 have j1:c1≠h4.objs.size:=by rw [hsz4];exact Nat.ne_of_lt (Nat.lt_succ_of_lt ltc1)
 have j2:c2≠h4.objs.size:=by rw [hsz4];exact Nat.ne_of_lt (Nat.lt_succ_of_lt ltc2)
 have j0:h₀.get? h4.objs.size=none:=Heap.get?_none_of_le (by rw [hsz4];exact Nat.le_succ_of_le (Nat.le_trans F.above (Nat.le_of_lt hlt)))
 have F6:=F5.push { cls:=.type "list_iterator",data:=.fields #[.ref c1,.int 0 0] }
 refine seg_yf_item rfl rfl ⟨_,Heap.get?_push_size _ rfl,rfl,rfl⟩ (l15.push _) (x:=v) rfl fun h5 it5 sb5 kap hkap=>?_
 have F7:Fr h₀ env.locals h5 _:=fr_but F6 sb5.extBut jL j0
 have rv7:h5.IsRevIter s.heap.objs.size C (-1):=by
  refine Heap.IsRevIter.at rv5 fun o e=>sb5.extBut _ _ jr (Heap.get?_push_of_some _ e)
 have lC7:h5.IsList C #[.ref c1,.ref c2]:=l_fr (lC5.push _) sb5 jC
 have l17:h5.IsList c1 #[v]:=l_fr (l15.push _) sb5 j1
 have l27:h5.IsList c2 #[]:=l_fr (l25.push _) sb5 j2
 refine ⟨rfl,?_,s.heap.objs.size,h4.objs.size,_,Nat.le_refl _,by rw [hsz4];exact Nat.lt_succ_self _,⟨F7,rv7,it5,lC7,l17,l27⟩,fun s'' m' G=>?_⟩
 ·refine ⟨h5,_,rfl,fun b o hb e=>?_⟩
  have hbs:b < s.heap.objs.size:=Heap.lt_size e
  have e1:=sb1.extBut b o (Nat.ne_of_lt hbs) (Heap.get?_push_of_some _ e)
  have e2:=sb2.extBut b o hb e1
  have e3:=sb3.extBut b o (Nat.ne_of_lt hbs) e2
  have e4:=sb4.extBut b o hb e3
  exact sb5.extBut b o (by rw [hsz4];exact Nat.ne_of_lt (Nat.lt_succ_of_lt hbs)) (Heap.get?_push_of_some _ e4)
 ·refine hkap s'' G.it ?_
  have hA2:(A.over (.forLoop (.Name (Str.ofString "namespaces") pt) (.ref s.heap.objs.size) [.If (.Name (Str.ofString "namespaces") pn3) [.Expr (.YieldFrom (.Name (Str.ofString "namespaces") pn4) py) pe] [] pif] [] env) [.ret k none (id false) (id []) (.func [genStmt p0 pt pc pn1 pn2 pif pn3 pe py pn4] env) p []]).handled=none:=hA
  refine seg_yf_end (over_none hA2 _) G.it G.l1 rfl fun h6 sb6=>?_
  rw [hk2]
  refine seg_execs_nil ?_
  refine seg_execs_nil ?_
  refine seg_again rfl ?_
  refine seg_forLoop ?_
  have rv8:h6.IsRevIter s.heap.objs.size C (-1):=Heap.IsRevIter.at G.rv fun o e=>sb6 _ _ jr e
  refine wpAny_pyNext_rev_end hA2 rv8 fun h8 sb8=>?_
  refine seg_block_nil ?_
  rw [hkf]
  refine seg_execs_nil ?_
  refine seg_end (.ok (.ret .none)) ⟨rfl,rfl,h8,_,rfl,fun b o hb e=>?_⟩
  exact sb8 b o (Nat.ne_of_lt (Nat.lt_trans hb hlt)) (sb6 b o (by rw [hsz4];exact Nat.ne_of_lt (Nat.lt_succ_of_lt (Nat.lt_trans hb hlt))) e)
end gen_start
theorem gen_start {A s C c1 c2 v h₀ m env p0 pt pc pn1 pn2 pif pn3 pe py pn4 prog w}:gen_start.P0 A s C c1 c2 v h₀ m env p0 pt pc pn1 pn2 pif pn3 pe py pn4 prog w:=by with_unfolding_all exact zy_all _ gen_start.R0 gen_start.T0 (A,s,C,c1,c2,v,h₀,m,env,p0,pt,pc,pn1,pn2,pif,pn3,pe,py,pn4,prog,w)
section
variable {prog:Program}{w:World}{A:Around}{R:GenEnd}{Y:Protocol}{n:Nat}{s₀:Shared}{fs:List PySem.Frame}{s:Shared}{scope:Scope}{qual:PySem.Str} {Lg f C c1 c2:Addr}{cd v:Value}{h₀:Heap}{m:PySem.Str->Option Value}
variable {env:Env} {p0 pt pc pn1 pn2 pif pn3 pe py pn4:Pos}
end
end Mine
end XG3
section XG4
open PySem PySem.W PyProof.Rows PySem.Calls
namespace Mine
section
variable {prog:Program}{w:World}{A:Around}{s:Shared}{env:Env}{R:Result->Shared->Prop}
noncomputable def LoopTurn (prog:Program)(w:World)(A:Around)(target:Expr)(it:Value)(body:List Stmt)(env:Env)(R:Result->Shared->Prop)(o:Option Value) (s1:Shared):Prop:=match o with
 | none=>R (.ok .next) s1
 | some v=>wpAny (model prog w) A (letOwnedTupleGo target it v) (fun _ s2=>wpAny (model prog w) A (assign target env v) (fun _ s3=>wpAny (model prog w) A (execs body env)
   (fun f s4=>f = .next/\codeAny (model prog w) A (.forLoop target it body [] env) R s4) (fun _ _=>False) s3) (fun _ _=>False) s2) (fun _ _=>False) s1
theorem forLoop_turn {target:Expr}{it:Value}{body:List Stmt}(h:wpAny (model prog w) A (pyNext it) (LoopTurn prog w A target it body env R) (fun _ _=>False) s) :
  codeAny (model prog w) A (.forLoop target it body [] env) R s:=by
 refine codeAny_of_tree ?_
 rw [Around.under_of_weight rfl]
 show wpAny _ _ ((forTurn target it body [] env).onRaise (fun x=>do noteFrame x env;theTreesLotGoes x)) _ _ s
 refine wpAny_noted ?_
 refine wpAny_mono (E:=fun _ _=>False) ?_ (fun _ _ q=>q) fun _ _ x=>x.elim
 dsimp only [forTurn]
 refine wpAny_bind (wpAny_standAt (wpAny_bind (wpAny_onRaise (wpAny_mono h (fun o s1 h1=>?_) fun _ _ x=>x.elim))))
 cases o with
 | none=>exact wpAny_pure ⟨rfl,codeAny_block (wpAny_pure h1)⟩
 | some v=>
  refine wpAny_bind (wpAny_mono h1 (fun _ s2 h2=>?_) fun _ _ x=>x.elim)
  refine wpAny_bind (wpAny_mono h2 (fun _ s3 h3=>?_) fun _ _ x=>x.elim)
  refine wpAny_bind (wpAny_mono h3 (fun f s4 h4=>?_) fun _ _ x=>x.elim)
  obtain ⟨rfl,h4⟩:=h4
  exact wpAny_pure ⟨rfl,h4⟩
end
noncomputable abbrev genO (g:Nat)(nm qn:PySem.Str) (t1 t2:Tok):Obj:={ cls:=.type "generator",data:=.fields #[.int g 0,.str nm t1,.str qn t2] }
section
variable {prog:Program}{w:World}{A:Around}{E:Value->Shared->Prop}{s:Shared}{env:Env}{h₀:Heap}{m:PySem.Str->Option Value}{news:List (Addr×Obj)}
noncomputable def GenTurn (h₀:Heap) (L J Rv G Lg C c1 c2:Addr)(oJ oR oG oL:Obj)(v:Value) (s₀ s2:Shared)(Q:Flow->Shared->Prop)(f:Flow) (s3:Shared):Prop:=
 f = .next/\∃ h3 tk3 m3 news3,s3={ s2 with heap:=h3,toks:=tk3 }/\Fr h₀ L h3 m3/\News h₀ L h3 ((J,oJ)::(Rv,oR)::(G,oG)::(Lg,oL)::news3)/\AllLt Lg news3 /\
  (h3.IsList C #[.ref c1,.ref c2]/\h3.IsList c1 #[v]/\h3.IsList c2 #[])/\∀ s4,s4.os=s₀.os->AllBare s4.gens->Fr h₀ L s4.heap m3->News h₀ L s4.heap news3->Q .next s4
theorem GenTurn.intro {L J Rv G Lg C c1 c2:Addr}{oJ oR oG oL:Obj}{v:Value} {s₀ s2:Shared}{Q:Flow->Shared->Prop} {h3:Heap} {tk3:Nat} {m3:PySem.Str->Option Value} {news3:List (Addr×Obj)} {e0 e1 e2:Nat}
  (F:Fr h₀ L h3 m3)(N:News h₀ L h3 ((J,oJ)::(Rv,oR)::(G,oG)::(Lg,oL)::news3))(hlt:AllLt Lg news3) (i0:(C,listOf #[.ref c1,.ref c2] e0)∈news3) (i1:(c1,listOf #[v] e1)∈news3) (i2:(c2,listOf #[] e2)∈news3)
  (h:∀ s4,s4.os=s₀.os->AllBare s4.gens->Fr h₀ L s4.heap m3->News h₀ L s4.heap news3->Q .next s4):GenTurn h₀ L J Rv G Lg C c1 c2 oJ oR oG oL v s₀ s2 Q .next { s2 with heap:=h3,toks:=tk3 }:=by
 have up:∀ q,q∈news3->q∈(J,oJ)::(Rv,oR)::(G,oG)::(Lg,oL)::news3:=fun q hq=>List.mem_cons_of_mem _ (List.mem_cons_of_mem _ (List.mem_cons_of_mem _ (List.mem_cons_of_mem _ hq)))
 exact ⟨rfl,h3,tk3,m3,news3,rfl,F,N,hlt,⟨N.isList (up _ i0),N.isList (up _ i1),N.isList (up _ i2)⟩,h⟩
theorem isTup_of {h:Heap}{L a:Addr}{items:Array Value}{n:Nat}(N:News h₀ L h news)(hm:(a,{ cls:=.type "tuple",data:=.seq items n })∈news):IsTup h a items:=by
 exact ⟨_,N.get hm,rfl,_,rfl⟩
end
end Mine
end XG4
section XG5
open PySem PySem.W PyProof.Rows PySem.Calls
namespace Mine
section
variable {prog:Program}{w:World}{A:Around}{E:Value->Shared->Prop}{s:Shared}{K:Frag}{h₀:Heap}{L:Addr}{m:PySem.Str->Option Value}{news:List (Addr×Obj)}
theorem gen_call {name qual:PySem.Str}{params:Arguments}{body:List Stmt}{scope:Scope}{dV kV doc pm cdv ct oc:Value}{an od:Option Addr}{osl:Array (Option Value)}{f:Addr}{args:List Value}{binds:List (PySem.Str×Value)}{Q:Value->Shared->Prop}
  {p:Program}{loose:List PySem.Str}{mean:ExcName->Option Value}{mg mb:PySem.Str->Option Value}
  (F:Fr h₀ L s.heap m)(X₀:K.In h₀)(N:News h₀ L s.heap news)(T:Top p loose mean mg mb h₀)
  (ho:K.lookup f=some ⟨oc,od,.func (fnOf name qual params body scope dV kV doc pm an cdv ct),osl⟩)(hcd:codeIn K cdv qual=true)(hroom:A.depth < recursionLimit)
  (hbind:BindsTo s (fnOf name qual params body scope dV kV doc pm an cdv ct) ⟨args,[]⟩ binds)(hloc:∀ y∈binds,scope.names.lookup y.1=some .local)
  (h:∀ Lg G oL t1 t2 s',@LT.lt Nat _ L Lg->@LT.lt Nat _ Lg G->AllLt Lg news->s'.os=s.os->s'.gens=s.gens.push (.fresh (.func body (envX qual scope Lg f cdv [])))->Fr h₀ Lg s'.heap (fun y=>binds.reverse.lookup y)->Fr h₀ L s'.heap m ->
   News h₀ L s'.heap ((G,genO s.gens.size name qual t1 t2)::(Lg,oL)::news)->Q (.ref G) s')
  (hco:scope.isCoroutine=false)(hgen:scope.isGenerator=true)(hk:scope.kind = .function)(hcell:∀ x∈scope.names,x.2≠.cell) :
  wpAny (model prog w) A (call (.ref f) args) Q E s:=by
 have X:=X₀.keeps F.keep
 refine wpAny_call (codeAny_call_generator (body:=body) hroom (X _ _ ho) rfl hco hgen rfl (codeRec_of X hcd) ?_)
 refine hbind _ _ _ _ ?_
 refine wpAny_newFunctionEnv hcell hloc (fun h₁ hns hsb=>?_) hk
 have hk₁:∀ b o,s.heap.get? b=some o->h₁.get? b=some o:=fun b o e=>hsb.extBut b o (Nat.ne_of_lt (Heap.lt_size e)) (Heap.get?_push_of_some _ e)
 have hsz:h₁.objs.size=s.heap.objs.size + 1:=by rw [hsb.1,Heap.size_push]
 refine ⟨(T.nolimit.keeps F.keep).keeps hk₁,?_⟩
 obtain ⟨oL,hoL⟩:∃ oL,h₁.get? s.heap.objs.size=some oL:=by
  obtain ⟨o,es,ep,ho,_⟩:=hns
  exact ⟨o,ho⟩
 have F1:Fr h₀ L h₁ m:=F.keeps hk₁
 have lp:∀ q∈news,q.1 < s.heap.objs.size:=fun q hq=>Heap.lt_size (N q hq).1
 have FL:Fr h₀ s.heap.objs.size h₁ (fun x=>binds.reverse.lookup x):=⟨hns,fun b o e=>hk₁ b o (F.keep b o e),Nat.le_trans F.above (Nat.le_of_lt F.ns.lt)⟩
 show Q (.ref h₁.objs.size) _
 refine h s.heap.objs.size h₁.objs.size oL (s.toks + binds.length) (s.toks + binds.length + 1) _ F.ns.lt (by rw [hsz];exact Nat.lt_succ_self _) (allLt_of lp) rfl rfl (FL.push _) (F1.push _) ?_
 refine News.push (h:=h₁) F1 (fun q hq=>?_) _
 rcases List.mem_cons.mp hq with rfl | hq
 ·exact ⟨hoL,Nat.ne_of_gt F.ns.lt,Heap.get?_none_of_le (Nat.le_trans F.above (Nat.le_of_lt F.ns.lt))⟩
 ·exact ⟨hk₁ _ _ (N q hq).1,(N q hq).2⟩
theorem lt_of_all {d:Nat}:∀ {l:List (Addr×Obj)},AllLt d l->∀ q∈l,@LT.lt Nat _ q.1 d
 | [],_,_,h=>nomatch h
 | p::r,h,q,hq=>by
  rcases List.mem_cons.mp hq with rfl | hq
  ·exact h.1
  ·exact lt_of_all h.2 q hq
theorem bare_but {a b:Array GenState}{g:Nat}(ha:AllBare a)(ho:∀ i,i≠g->b[i]? = a[i]?)(hg:∀ x,b[g]? = some x->x.bare=true):AllBare b:=by
 intro y hy
 obtain ⟨i,hi,rfl⟩:=Array.mem_iff_getElem.mp hy
 by_cases e:i=g
 ·subst e;exact hg _ (Array.getElem?_eq_getElem hi)
 ·have h1:=ho i e
  rw [Array.getElem?_eq_getElem hi] at h1
  obtain ⟨hi',e'⟩:=Array.getElem?_eq_some_iff.mp h1.symm
  exact e' ▸ ha _ (Array.getElem_mem hi')
theorem news_later {h h':Heap}{Lg:Addr}(N:News h₀ L h news)(hl:AllLt Lg news)(hk:∀ b o,@LT.lt Nat _ b Lg->h.get? b=some o->h'.get? b=some o):News h₀ L h' news:=
 fun q hq=>⟨hk _ _ (lt_of_all hl q hq) (N q hq).1,(N q hq).2⟩
theorem fr_later {h h':Heap}{Lg:Addr}(F:Fr h₀ L h m)(hl:@LT.lt Nat _ L Lg)(hk:∀ b o,@LT.lt Nat _ b Lg->h.get? b=some o->h'.get? b=some o):Fr h₀ L h' m:=
 ⟨F.ns.at' fun o e=>hk L o hl e,fun b o e=>hk b o (Nat.lt_trans (Nat.lt_of_lt_of_le (Heap.lt_size e) F.above) hl) (F.keep b o e),F.above⟩
theorem go_gen {elts:List Expr} {x1}{pos:Pos}{G:Addr}{g:Nat}{v:Value}{Q:Unit->Shared->Prop}(hg:s.heap.IsGen G g)(hQ:Q () s) :
  wpAny (model prog w) A (letOwnedTupleGo (.Tuple elts x1 pos) (.ref G) v) Q E s:=by
 obtain ⟨o,nm,qn,ho,hc,hd,_⟩:=hg
 unfold letOwnedTupleGo
 cases v with
 | ref T=>
  refine wpAny_bind (wpAny_load ho ?_)
  rw [hc,hd]
  show wpAny _ A (if (["enumerate","zip","dict_itemiterator","dict_reverseitemiterator","odict_iterator","itertools.zip_longest","itertools.pairwise"].contains "generator" && _)=true then _ else _) Q E s
  rw [if_neg (by
   intro h
   rw [show (["enumerate","zip","dict_itemiterator","dict_reverseitemiterator","odict_iterator","itertools.zip_longest","itertools.pairwise"].contains "generator")=false from by decide,Bool.false_and] at h
   cases h)]
  exact wpAny_pure hQ
 | _=>exact wpAny_pure hQ
variable {env env':Env} {p0 pt pc pn1 pn2 pif pn3 pe py pn4 pT pu pp:Pos}{kT:ExprCtx}{u q:PySem.Str}{body:List Stmt}{Q:Flow->Shared->Prop}
end
end Mine
end XG5
section XG6
open PySem PySem.W PyProof.Rows PySem.Calls
namespace Mine
section
variable {prog:Program}{w:World}{A:Around}{E:Value->Shared->Prop}{s:Shared}{h₀:Heap}{m:PySem.Str->Option Value}{news:List (Addr×Obj)}
variable {env env':Env} {p0 pt pc pn1 pn2 pif pn3 pe py pn4 pT pu pp:Pos}{kT:Nat}{u q:PySem.Str}{body:List Stmt}{Q:Flow->Shared->Prop}
end
noncomputable def gen_loop.P0 (prog:Program)(w:World)(A:Around)(s:Shared)(h₀:Heap)(m:PySem.Str->Option Value)(news:List (Addr×Obj))(env env':Env) (p0 pt pc pn1 pn2 pif pn3 pe py pn4:Pos) (gs0:Array GenState) (G Lg C c1 c2 T1:Addr)(oL:Obj) (t1 t2:Tok)(nm qn:PySem.Str) (v2:Value) (e2:Nat)(E:Value->Shared->Prop)(pT pu pp:Pos)(kT:Nat)(u q:PySem.Str)(body:List Stmt)(Q:Flow->Shared->Prop) (v1:Value) (nT eC e1:Nat)(mg:PySem.Str->Option Value):Prop:=∀ {L:Addr}(hLe:env.locals=L)(hh:A.handled=none)(hlim:h₀.NoLimit)(hroom:A.depth < recursionLimit) (G0:AllBare gs0)(hgens:s.gens=gs0.push (.fresh (.func [genStmt p0 pt pc pn1 pn2 pif pn3 pe py pn4] env')))(F:Fr h₀ L s.heap m)(FL:Fr h₀ Lg s.heap mg)(N:News h₀ L s.heap ((G,genO gs0.size nm qn t1 t2)::(Lg,oL)::news))(hLG:@LT.lt Nat _ Lg G)(hlt:AllLt Lg news)(hL:@LT.lt Nat _ L Lg)(iC:(C,listOf #[.ref c1,.ref c2] eC)∈news) (i1:(c1,listOf #[.ref T1] e1)∈news) (i2:(c2,listOf #[] e2)∈news)(iT:(T1,{ cls:=.type "tuple",data:=.seq #[v1,v2] nT })∈news)(hlo:env'.locals=Lg)(hk':env'.scope.kind = .function)(hi':interactive env'=false) (k1:env'.kindOf (Str.ofString "namespaces")=some .local) (k2:env'.kindOf (Str.ofString "_reversed")=some .local) (k3:env'.kindOf (Str.ofString "ns_stack")=some .local) (m1:mg (Str.ofString "ns_stack")=some (.ref C)) (m2:mg (Str.ofString "_reversed")=some (.type "reversed"))(hk:env.scope.kind = .function)(ku:env.kindOf u=some .local)(kq:env.kindOf q=some .local)(turn:∀ J oJ Rv oR oL' s2,s2.os=s.os->AllLt Lg news->@LT.lt Nat _ Lg G->@LT.lt Nat _ G Rv->@LT.lt Nat _ Rv J ->
   Fr h₀ L s2.heap (fun y=>if y=q then some v2 else if y=u then some v1 else m y)->News h₀ L s2.heap ((J,oJ)::(Rv,oR)::(G,genO gs0.size nm qn t1 t2)::(Lg,oL')::news) ->
   wpAny (model prog w) A (execs body env) (GenTurn h₀ L J Rv G Lg C c1 c2 oJ oR (genO gs0.size nm qn t1 t2) oL' (.ref T1) s s2 Q) (fun _ _=>False) s2),wpAny (model prog w) A (pyIter (.ref G)) (fun it s₂=>codeAny (model prog w) A (.forLoop (.Tuple [.Name u pu,.Name q pp] kT pT) it body [] env) (fun r s'=>match r with | .ok f=>Q f s' | .error e=>cameBackBy (model prog w) A env E e s') s₂) E s
namespace gen_loop
noncomputable def R0:=(s4 <| s4 <| s4 <| s4 <| s4 <| s4 <| s4 <| s4 <| s4 <| s4 <| s4 <| st <| st <| id) P0
@[irreducible] noncomputable def z0:=zy R0 (by k_extra "N")
@[irreducible] noncomputable def prog:=f1 z0
@[irreducible] noncomputable def w:=f1 (f2 z0)
@[irreducible] noncomputable def A:=f1 (f2 (f2 z0))
@[irreducible] noncomputable def s:=f1 (f2 (f2 (f2 z0)))
@[irreducible] noncomputable def h₀:=f1 (f2 (f2 (f2 (f2 z0))))
@[irreducible] noncomputable def m:=f1 (f2 (f2 (f2 (f2 (f2 z0)))))
@[irreducible] noncomputable def news:=f1 (f2 (f2 (f2 (f2 (f2 (f2 z0))))))
@[irreducible] noncomputable def env:=f1 (f2 (f2 (f2 (f2 (f2 (f2 (f2 z0)))))))
@[irreducible] noncomputable def env':=f1 (f2 (f2 (f2 (f2 (f2 (f2 (f2 (f2 z0))))))))
@[irreducible] noncomputable def p0:=f1 (f2 (f2 (f2 (f2 (f2 (f2 (f2 (f2 (f2 z0)))))))))
@[irreducible] noncomputable def pt:=f1 (f2 (f2 (f2 (f2 (f2 (f2 (f2 (f2 (f2 (f2 z0))))))))))
@[irreducible] noncomputable def pc:=f1 (f2 (f2 (f2 (f2 (f2 (f2 (f2 (f2 (f2 (f2 (f2 z0)))))))))))
@[irreducible] noncomputable def pn1:=f1 (f2 (f2 (f2 (f2 (f2 (f2 (f2 (f2 (f2 (f2 (f2 (f2 z0))))))))))))
@[irreducible] noncomputable def pn2:=f1 (f2 (f2 (f2 (f2 (f2 (f2 (f2 (f2 (f2 (f2 (f2 (f2 (f2 z0)))))))))))))
@[irreducible] noncomputable def pif:=f1 (f2 (f2 (f2 (f2 (f2 (f2 (f2 (f2 (f2 (f2 (f2 (f2 (f2 (f2 z0))))))))))))))
@[irreducible] noncomputable def pn3:=f1 (f2 (f2 (f2 (f2 (f2 (f2 (f2 (f2 (f2 (f2 (f2 (f2 (f2 (f2 (f2 z0)))))))))))))))
@[irreducible] noncomputable def pe:=f1 (f2 (f2 (f2 (f2 (f2 (f2 (f2 (f2 (f2 (f2 (f2 (f2 (f2 (f2 (f2 (f2 z0))))))))))))))))
@[irreducible] noncomputable def py:=f1 (f2 (f2 (f2 (f2 (f2 (f2 (f2 (f2 (f2 (f2 (f2 (f2 (f2 (f2 (f2 (f2 (f2 z0)))))))))))))))))
@[irreducible] noncomputable def pn4:=f1 (f2 (f2 (f2 (f2 (f2 (f2 (f2 (f2 (f2 (f2 (f2 (f2 (f2 (f2 (f2 (f2 (f2 (f2 z0))))))))))))))))))
@[irreducible] noncomputable def gs0:=f1 (f2 (f2 (f2 (f2 (f2 (f2 (f2 (f2 (f2 (f2 (f2 (f2 (f2 (f2 (f2 (f2 (f2 (f2 (f2 z0)))))))))))))))))))
@[irreducible] noncomputable def G:=f1 (f2 (f2 (f2 (f2 (f2 (f2 (f2 (f2 (f2 (f2 (f2 (f2 (f2 (f2 (f2 (f2 (f2 (f2 (f2 (f2 z0))))))))))))))))))))
@[irreducible] noncomputable def Lg:=f1 (f2 (f2 (f2 (f2 (f2 (f2 (f2 (f2 (f2 (f2 (f2 (f2 (f2 (f2 (f2 (f2 (f2 (f2 (f2 (f2 (f2 z0)))))))))))))))))))))
@[irreducible] noncomputable def C:=f1 (f2 (f2 (f2 (f2 (f2 (f2 (f2 (f2 (f2 (f2 (f2 (f2 (f2 (f2 (f2 (f2 (f2 (f2 (f2 (f2 (f2 (f2 z0))))))))))))))))))))))
@[irreducible] noncomputable def c1:=f1 (f2 (f2 (f2 (f2 (f2 (f2 (f2 (f2 (f2 (f2 (f2 (f2 (f2 (f2 (f2 (f2 (f2 (f2 (f2 (f2 (f2 (f2 (f2 z0)))))))))))))))))))))))
@[irreducible] noncomputable def c2:=f1 (f2 (f2 (f2 (f2 (f2 (f2 (f2 (f2 (f2 (f2 (f2 (f2 (f2 (f2 (f2 (f2 (f2 (f2 (f2 (f2 (f2 (f2 (f2 (f2 z0))))))))))))))))))))))))
@[irreducible] noncomputable def T1:=f1 (f2 (f2 (f2 (f2 (f2 (f2 (f2 (f2 (f2 (f2 (f2 (f2 (f2 (f2 (f2 (f2 (f2 (f2 (f2 (f2 (f2 (f2 (f2 (f2 (f2 z0)))))))))))))))))))))))))
@[irreducible] noncomputable def oL:=f1 (f2 (f2 (f2 (f2 (f2 (f2 (f2 (f2 (f2 (f2 (f2 (f2 (f2 (f2 (f2 (f2 (f2 (f2 (f2 (f2 (f2 (f2 (f2 (f2 (f2 (f2 z0))))))))))))))))))))))))))
@[irreducible] noncomputable def t1:=f1 (f2 (f2 (f2 (f2 (f2 (f2 (f2 (f2 (f2 (f2 (f2 (f2 (f2 (f2 (f2 (f2 (f2 (f2 (f2 (f2 (f2 (f2 (f2 (f2 (f2 (f2 (f2 z0)))))))))))))))))))))))))))
@[irreducible] noncomputable def t2:=f1 (f2 (f2 (f2 (f2 (f2 (f2 (f2 (f2 (f2 (f2 (f2 (f2 (f2 (f2 (f2 (f2 (f2 (f2 (f2 (f2 (f2 (f2 (f2 (f2 (f2 (f2 (f2 (f2 z0))))))))))))))))))))))))))))
@[irreducible] noncomputable def nm:=f1 (f2 (f2 (f2 (f2 (f2 (f2 (f2 (f2 (f2 (f2 (f2 (f2 (f2 (f2 (f2 (f2 (f2 (f2 (f2 (f2 (f2 (f2 (f2 (f2 (f2 (f2 (f2 (f2 (f2 z0)))))))))))))))))))))))))))))
@[irreducible] noncomputable def qn:=f1 (f2 (f2 (f2 (f2 (f2 (f2 (f2 (f2 (f2 (f2 (f2 (f2 (f2 (f2 (f2 (f2 (f2 (f2 (f2 (f2 (f2 (f2 (f2 (f2 (f2 (f2 (f2 (f2 (f2 (f2 z0))))))))))))))))))))))))))))))
@[irreducible] noncomputable def v2:=f1 (f2 (f2 (f2 (f2 (f2 (f2 (f2 (f2 (f2 (f2 (f2 (f2 (f2 (f2 (f2 (f2 (f2 (f2 (f2 (f2 (f2 (f2 (f2 (f2 (f2 (f2 (f2 (f2 (f2 (f2 (f2 z0)))))))))))))))))))))))))))))))
@[irreducible] noncomputable def e2:=f1 (f2 (f2 (f2 (f2 (f2 (f2 (f2 (f2 (f2 (f2 (f2 (f2 (f2 (f2 (f2 (f2 (f2 (f2 (f2 (f2 (f2 (f2 (f2 (f2 (f2 (f2 (f2 (f2 (f2 (f2 (f2 (f2 z0))))))))))))))))))))))))))))))))
@[irreducible] noncomputable def z1:=f2 (f2 (f2 (f2 (f2 (f2 (f2 (f2 (f2 (f2 (f2 (f2 (f2 (f2 (f2 (f2 (f2 (f2 (f2 (f2 (f2 (f2 (f2 (f2 (f2 (f2 (f2 (f2 (f2 (f2 (f2 (f2 (f2 z0))))))))))))))))))))))))))))))))
theorem T0:(s4 <| s4 <| s4 <| st <| id) (P0 prog w A s h₀ m news env env' p0 pt pc pn1 pn2 pif pn3 pe py pn4 gs0 G Lg C c1 c2 T1 oL t1 t2 nm qn v2 e2) z1:=by
 intro L hLe hh hlim hroom G0 hgens F FL N hLG hlt hL iC i1 i2 iT hlo hk' hi' k1 k2 k3 m1 m2 hk ku kq turn
 subst hLe
 have hgo:s.heap.IsGen G gs0.size:=⟨_,_,_,N.get (.head _),rfl,rfl,rfl⟩
 refine wpAny_pyIter_gen hgo ?_
 have hgs:s.gens[gs0.size]? = some (.fresh (.func [genStmt p0 pt pc pn1 pn2 pif pn3 pe py pn4] env')):=by rw [hgens];exact Array.getElem?_push_size ..
 have up:∀ x,x∈news->x∈(G,genO gs0.size nm qn t1 t2)::(Lg,oL)::news:=fun x hx=>List.mem_cons_of_mem _ (List.mem_cons_of_mem _ hx)
 have lC:=lt_of_all hlt _ iC
 have l1:=lt_of_all hlt _ i1
 have l2:=lt_of_all hlt _ i2
 refine forLoop_turn ?_
 refine wpAny_pyNext_gen (n:=1) (P:=fun n s₀ s₁=>n=0/\Later Lg s₀ s₁) (Y:=genY h₀ Lg C c1 c2 (.ref T1)) hh (hlim.keeps F.keep) hroom hgo hgs ?_ ?_ ?_
 ·refine ⟨rfl,?_⟩
  exact gen_start (s:=s.setGen gs0.size .running) hh hlo hk' hi' k1 k2 k3 FL m1 m2 (N.isList (up _ iC)) (N.isList (up _ i1)) (N.isList (up _ i2)) (Nat.ne_of_lt lC) (Nat.ne_of_lt l1) (Nat.ne_of_lt l2)
 ·rintro v s₁ gs' ⟨rfl,⟨h1,tk1,rfl,kp1⟩,Rv,J,m',hGR,hRJ,GF,kap⟩
  have kap':∀ s'' m',GenFacts h₀ Lg Rv J C c1 c2 (.ref T1) m' s''.heap->gs'.Goes (model prog w) A.in1 (genR Lg) (genY h₀ Lg C c1 c2 (.ref T1)) 0 (.send .none) s'':=kap
  have GF':GenFacts h₀ Lg Rv J C c1 c2 (.ref T1) m' h1:=GF
  have hG:@LT.lt Nat _ G s.heap.objs.size:=Heap.lt_size (N.get (.head _))
  have hGRv:@LT.lt Nat _ G Rv:=Nat.lt_of_lt_of_le hG hGR
  have hLg0:∀ b o,h₀.get? b=some o->b≠Lg:=fun b o e=>Nat.ne_of_lt (Nat.lt_of_lt_of_le (Heap.lt_size e) FL.above)
  have F1:Fr h₀ env.locals h1 m:=⟨F.ns.at' fun o e=>kp1 _ _ (Nat.ne_of_lt hL) e,fun b o e=>kp1 b o (hLg0 b o e) (F.keep b o e),F.above⟩
  obtain ⟨oJ,gJ,cJ,dJ⟩:=id GF'.it
  obtain ⟨oR,gR,cR,dR⟩:=id GF'.rv
  obtain ⟨oL',es',ep',gL',_⟩:=id GF'.fr.ns
  have nL:∀ x:Addr,@LT.lt Nat _ Lg x->x≠env.locals/\h₀.get? x=none:=fun x hx=>⟨Nat.ne_of_gt (Nat.lt_trans hL hx),Heap.get?_none_of_le (Nat.le_of_lt (Nat.lt_of_le_of_lt FL.above hx))⟩
  have N1:News h₀ env.locals h1 ((J,oJ)::(Rv,oR)::(G,genO gs0.size nm qn t1 t2)::(Lg,oL')::news):=by
   intro x hx
   rcases List.mem_cons.mp hx with rfl | hx
   ·exact ⟨gJ,nL _ (Nat.lt_trans hLG (Nat.lt_trans hGRv hRJ))⟩
   ·rcases List.mem_cons.mp hx with rfl | hx
    ·exact ⟨gR,nL _ (Nat.lt_trans hLG hGRv)⟩
    ·rcases List.mem_cons.mp hx with rfl | hx
     ·exact ⟨kp1 _ _ (Nat.ne_of_gt hLG) (N.get (.head _)),nL _ hLG⟩
     ·rcases List.mem_cons.mp hx with rfl | hx
      ·exact ⟨gL',Nat.ne_of_gt hL,Heap.get?_none_of_le FL.above⟩
      ·exact ⟨kp1 _ _ (Nat.ne_of_lt (lt_of_all hlt _ hx)) (N.get (up _ hx)),(N _ (up _ hx)).2⟩
  have hgen1:h1.IsGen G gs0.size:=⟨_,_,_,N1.get (.tail _ (.tail _ (.head _))),rfl,rfl,rfl⟩
  refine go_gen hgen1 ?_
  refine unpackN_ (h₀:=h₀) (L:=env.locals) (m:=m) F1 N1 (isTup_of N1 (List.mem_cons_of_mem _ (List.mem_cons_of_mem _ (List.mem_cons_of_mem _ (List.mem_cons_of_mem _ iT))))) hh rfl rfl fun h2 F2 N2=>?_
  refine assignInOrder_cons (wpAny_assign_Name (wpAny_storeName_local ku F2.ns (fun h3 ns3 sb3=>?_) (by rw [hk];rfl)))
  have F3:=F2.set ns3 sb3
  have N3:News h₀ env.locals h3 ((J,oJ)::(Rv,oR)::(G,genO gs0.size nm qn t1 t2)::(Lg,oL')::news):=fun x hx=>⟨(sb3.2 x.1 (N2 x hx).2.1).trans (N2 x hx).1,(N2 x hx).2⟩
  refine assignInOrder_cons (wpAny_assign_Name (wpAny_storeName_local kq F3.ns (fun h4 ns4 sb4=>?_) (by rw [hk];rfl)))
  have F4:=F3.set ns4 sb4
  have N4:News h₀ env.locals h4 ((J,oJ)::(Rv,oR)::(G,genO gs0.size nm qn t1 t2)::(Lg,oL')::news):=fun x hx=>⟨(sb4.2 x.1 (N3 x hx).2.1).trans (N3 x hx).1,(N3 x hx).2⟩
  refine assignInOrder_nil ?_
  refine wpAny_mono (turn J oJ Rv oR oL' _ rfl hlt hLG hGRv hRJ F4 N4) (fun f s3 hT=>?_) fun _ _ x=>x
  obtain ⟨rfl,h5,tk5,m5,news5,rfl,F5,N5,hlt5,⟨jC,j1,j2⟩,done⟩:=hT
  refine ⟨rfl,forLoop_turn ?_⟩
  have n5:∀ x,x∈news5->x∈(J,oJ)::(Rv,oR)::(G,genO gs0.size nm qn t1 t2)::(Lg,oL')::news5:=fun x hx=>List.mem_cons_of_mem _ (List.mem_cons_of_mem _ (List.mem_cons_of_mem _ (List.mem_cons_of_mem _ hx)))
  have GF5:GenFacts h₀ Lg Rv J C c1 c2 (.ref T1) m' h5:=by
   refine ⟨⟨GF'.fr.ns.at' fun o e=>?_,F5.keep,FL.above⟩,GF'.rv.at fun o e=>?_,GF'.it.at fun o e=>?_,jC,j1,j2⟩
   ·rw [gL'] at e;cases e;exact N5.get (.tail _ (.tail _ (.tail _ (.head _))))
   ·rw [gR] at e;cases e;exact N5.get (.tail _ (.head _))
   ·rw [gJ] at e;cases e;exact N5.get (.head _)
  have hgen5:h5.IsGen G gs0.size:=⟨_,_,_,N5.get (.tail _ (.tail _ (.head _))),rfl,rfl,rfl⟩
  refine wpAny_pyNext_gen (n:=0) (P:=fun n s₀ s₁=>n=0/\Later Lg s₀ s₁) (Y:=genY h₀ Lg C c1 c2 (.ref T1)) hh (hlim.keeps F5.keep) hroom hgen5 (setGen_self (gs:=.running) (setGen_self hgs)) (kap' _ m' GF5) ?_ ?_
  ·rintro v2 s₂ gs2 ⟨_,_,Rv2,J2,m2',_,_,GF2,kap2⟩
   exact (kap2 _ _ GF2).elim
  ·rintro s₂ ⟨_,h6,tk6,rfl,kp6⟩ h7 kp7
   have kp:∀ b o,@LT.lt Nat _ b Lg->h5.get? b=some o->h7.get? b=some o:=fun b o hb e=>kp7 b o (kp6 b o hb e)
   refine done _ rfl ?_ (fr_later F5 hL kp) (news_later (fun x hx=>N5 x (n5 x hx)) hlt5 kp)
   refine bare_but (a:=s.gens) (g:=gs0.size) (by rw [hgens];exact G0.push rfl) (fun i hi=>?_) (fun x hx=>?_)
   ·exact (((((GenOnly.setGen s gs0.size .running).trans (GenOnly.setGen _ gs0.size gs')).trans (GenOnly.setGen _ gs0.size .running)).trans (GenOnly.setGen _ gs0.size .finished))).2 i hi
   ·have e:=setGen_self (x:=GenState.finished) (setGen_self (x:=.running) (setGen_self (x:=gs') (setGen_self (x:=.running) hgs)))
    have e2:=e.symm.trans hx
    cases e2
    rfl
 ·rintro s₁ ⟨h0,_⟩
  exact absurd h0 (Nat.succ_ne_zero _)
end gen_loop
theorem gen_loop {prog w A s h₀ m news env env' p0 pt pc pn1 pn2 pif pn3 pe py pn4 gs0 G Lg C c1 c2 T1 oL t1 t2 nm qn v2 e2 E pT pu pp kT u q body Q v1 nT eC e1 mg}:gen_loop.P0 prog w A s h₀ m news env env' p0 pt pc pn1 pn2 pif pn3 pe py pn4 gs0 G Lg C c1 c2 T1 oL t1 t2 nm qn v2 e2 E pT pu pp kT u q body Q v1 nT eC e1 mg:=by with_unfolding_all exact zy_all _ gen_loop.R0 gen_loop.T0 (prog,w,A,s,h₀,m,news,env,env',p0,pt,pc,pn1,pn2,pif,pn3,pe,py,pn4,gs0,G,Lg,C,c1,c2,T1,oL,t1,t2,nm,qn,v2,e2,E,pT,pu,pp,kT,u,q,body,Q,v1,nT,eC,e1,mg)
section
variable {prog:Program}{w:World}{A:Around}{E:Value->Shared->Prop}{s:Shared}{h₀:Heap}{m:PySem.Str->Option Value}{news:List (Addr×Obj)}
variable {env env':Env} {p0 pt pc pn1 pn2 pif pn3 pe py pn4 pT pu pp:Pos}{kT:Nat}{u q:PySem.Str}{body:List Stmt}{Q:Flow->Shared->Prop}
theorem news_dup {h:Heap}{L:Addr}{full l:List (Addr×Obj)}{p:Addr×Obj}(N:News h₀ L h full)(i:p∈full)(M:News h₀ L h l):News h₀ L h (p::l):=fun q hq=>by
 rcases List.mem_cons.mp hq with rfl | hq
 ·exact N _ i
 ·exact M q hq
theorem news_pick {h:Heap}{L:Addr}{full l:List (Addr×Obj)}{p:Addr×Obj}(N:News h₀ L h (p::full))(i:∀ q∈l,q∈full):News h₀ L h (p::l):=fun q hq=>by
 rcases List.mem_cons.mp hq with rfl | hq
 ·exact N _ (List.mem_cons_self ..)
 ·exact N q (List.mem_cons_of_mem _ (i q hq))
theorem all_ne {a b:Nat}:∀ {l:List (Addr×Obj)},AllLt a l->a<=b->∀ p∈l,p.1≠b
 | [],_,_=>fun _ h=>nomatch h
 | q::r,h,hab=>fun p hp=>by
  rcases List.mem_cons.mp hp with rfl | hp
  ·exact Nat.ne_of_lt (Nat.lt_of_lt_of_le h.1 hab)
  ·exact all_ne h.2 hab p hp
theorem all_up {a b:Nat}:∀ {l:List (Addr×Obj)},AllLt a l->a<=b->AllLt b l
 | [],_,_=>trivial
 | _::_,h,hab=>⟨Nat.lt_of_lt_of_le h.1 hab,all_up h.2 hab⟩
end
end Mine
end XG6
section XL1
open PySem PySem.W PyProof.Rows PySem.Calls
namespace Mine
inductive DelF (d:Addr)(o:Obj):List (Addr×Obj)->List (Addr×Obj)->Prop
 | head {r}:(∀ p∈r,p.1≠d)->DelF d o ((d,o)::r) r
 | tail {p r r'}:p.1≠d->DelF d o r r'->DelF d o (p::r) (p::r')
theorem DelF.sub {d:Addr}{o:Obj}:∀ {l r:List (Addr×Obj)},DelF d o l r->(d,o)∈l/\∀ q∈r,q∈l/\q.1≠d:=by
 intro l r hd
 induction hd with
 | head h=>exact ⟨List.mem_cons_self ..,fun q hq=>⟨List.mem_cons_of_mem _ hq,h q hq⟩⟩
 | tail h r ih=>
  obtain ⟨a,b⟩:=ih
  refine ⟨List.mem_cons_of_mem _ a,fun q hq=>?_⟩
  rcases List.mem_cons.mp hq with rfl | hq
  ·exact ⟨List.mem_cons_self ..,h⟩
  ·exact ⟨List.mem_cons_of_mem _ (b q hq).1,(b q hq).2⟩
noncomputable def IterIs (o:Obj)(B:Addr)(i:Nat):Prop:=o.cls = .type "list_iterator" /\ o.data = .fields #[.ref B,.int i 0]
section
variable {prog:Program}{w:World}{A:Around}{E:Value->Shared->Prop}{s:Shared}{h₀:Heap}{L:Addr}{m:PySem.Str->Option Value}{news rest:List (Addr×Obj)}{g:Obj->List (Addr×Obj)}{env:Env}
theorem go_list {elts:List Expr} {x1}{pos:Pos}{G B:Addr}{oG:Obj}{i:Nat}{v:Value}{Q:Unit->Shared->Prop}(hg:s.heap.get? G=some oG)(hi:IterIs oG B i)(hQ:Q () s) :
  wpAny (model prog w) A (letOwnedTupleGo (.Tuple elts x1 pos) (.ref G) v) Q E s:=by
 unfold letOwnedTupleGo
 cases v with
 | ref T=>
  refine wpAny_bind (wpAny_load hg ?_)
  rw [hi.1,hi.2]
  show wpAny _ A (if (["enumerate","zip","dict_itemiterator","dict_reverseitemiterator","odict_iterator","itertools.zip_longest","itertools.pairwise"].contains "list_iterator" && _)=true then _ else _) Q E s
  rw [if_neg (by
   intro h
   rw [show (["enumerate","zip","dict_itemiterator","dict_reverseitemiterator","odict_iterator","itertools.zip_longest","itertools.pairwise"].contains "list_iterator")=false from by decide,Bool.false_and] at h
   cases h)]
  exact wpAny_pure hQ
 | _=>exact wpAny_pure hQ
noncomputable def LoopAt (prog:Program)(w:World)(A:Around)(target:Expr)(I:Addr)(body:List Stmt)(env:Env)(R:Result->Shared->Prop)(s:Shared):Prop:=codeAny (model prog w) A (.forLoop target (.ref I) body [] env) R s
theorem loop_go {target:Expr}{body:List Stmt}{R:Result->Shared->Prop}{B:Addr}{its:Array Value}{n:Nat}(F:Fr h₀ L s.heap m)(N:News h₀ L s.heap news)(iB:(B,listOf its n)∈news)
  (h:∀ I oI h',IterIs oI B 0->Fr h₀ L h' m->News h₀ L h' ((I,oI)::news)->(∀ q∈news,q.1 < I)->LoopAt prog w A target I body env R { s with heap:=h' }) :
  wpAny (model prog w) A (pyIter (.ref B)) (fun it s₂=>codeAny (model prog w) A (.forLoop target it body [] env) R s₂) E s:=by
 refine wpAny_pyIter_list (N.isList iB) ?_
 exact h _ _ _ ⟨rfl,rfl⟩ (F.push _) (News.push F N _) fun q hq=>Heap.lt_size (N q hq).1
theorem loop_item2 {body:List Stmt}{R:Result->Shared->Prop}{I B T:Addr}{oI:Obj}{its:Array Value}{n i nT:Nat} {v1 v2:Value}{u q:PySem.Str}{pu pp pT:Pos}{kT:Nat}(hLe:env.locals=L)(hh:A.handled=none)(F:Fr h₀ L s.heap m)(N:News h₀ L s.heap news)(U:UpdF I oI news g)(hi:IterIs oI B i)(iB:(B,listOf its n)∈news)
  (hx:its[i]? = some (.ref T))(iT:∀ o,(T,{ cls:=.type "tuple",data:=.seq #[v1,v2] nT })∈g o)(hk:env.scope.kind = .function)(ku:env.kindOf u=some .local)(kq:env.kindOf q=some .local)
  (h:∀ h' tk oI',IterIs oI' B (i + 1)->Fr h₀ L h' (fun y=>if y=q then some v2 else if y=u then some v1 else m y)->News h₀ L h' (g oI') ->
   wpAny (model prog w) A (execs body env) (fun f s4=>f = .next/\LoopAt prog w A (.Tuple [.Name u pu,.Name q pp] kT pT) I body env R s4) (fun _ _=>False) { s with heap:=h',toks:=tk }) :
  LoopAt prog w A (.Tuple [.Name u pu,.Name q pp] kT pT) I body env R s:=by
 subst hLe
 obtain ⟨pre,post,e1,e2,n1,n2⟩:=U.split
 subst e1
 have hI:=N (I,oI) (List.mem_append_right _ (List.mem_cons_self ..))
 refine forLoop_turn ?_
 refine wpAny_pyNext_list_item (i:=i) ⟨_,hI.1,hi.1,hi.2⟩ (N.isList iB) hx fun h1 it1 sb1=>?_
 obtain ⟨oI',gI,cI,dI⟩:=id it1
 have F1:Fr h₀ env.locals h1 m:=⟨F.ns.at' fun o e=>(sb1.2 _ hI.2.1.symm).trans e,fun b o e=>(sb1.2 b (fun q=>by rw [q,hI.2.2] at e;cases e)).trans (F.keep b o e),F.above⟩
 have N1:News h₀ env.locals h1 (g oI'):=by
  rw [e2]
  intro p hp
  rcases List.mem_append.mp hp with hp | hp
  ·exact ⟨(sb1.2 _ (n1 p hp)).trans (N p (List.mem_append_left _ hp)).1,(N p (List.mem_append_left _ hp)).2⟩
  ·rcases List.mem_cons.mp hp with rfl | hp
   ·exact ⟨gI,hI.2⟩
   ·exact ⟨(sb1.2 _ (n2 p hp)).trans (N p (List.mem_append_right _ (List.mem_cons_of_mem _ hp))).1,(N p (List.mem_append_right _ (List.mem_cons_of_mem _ hp))).2⟩
 show wpAny _ _ (letOwnedTupleGo _ _ _) _ _ _
 refine go_list gI ⟨cI,dI⟩ ?_
 refine unpackN_ (h₀:=h₀) (L:=env.locals) (m:=m) F1 N1 (isTup_of N1 (iT _)) hh rfl rfl fun h2 F2 N2=>?_
 refine assignInOrder_cons (wpAny_assign_Name (wpAny_storeName_local ku F2.ns (fun h3 ns3 sb3=>?_) (by rw [hk];rfl)))
 have F3:=F2.set ns3 sb3
 have N3:News h₀ env.locals h3 (g oI'):=fun x hx=>⟨(sb3.2 x.1 (N2 x hx).2.1).trans (N2 x hx).1,(N2 x hx).2⟩
 refine assignInOrder_cons (wpAny_assign_Name (wpAny_storeName_local kq F3.ns (fun h4 ns4 sb4=>?_) (by rw [hk];rfl)))
 have F4:=F3.set ns4 sb4
 have N4:News h₀ env.locals h4 (g oI'):=fun x hx=>⟨(sb4.2 x.1 (N3 x hx).2.1).trans (N3 x hx).1,(N3 x hx).2⟩
 refine assignInOrder_nil ?_
 exact h h4 _ oI' ⟨cI,dI⟩ F4 N4
theorem loop_end {target:Expr}{body:List Stmt}{R:Result->Shared->Prop}{I B:Addr}{oI:Obj}{its:Array Value}{n i:Nat}(hh:A.handled=none)(F:Fr h₀ L s.heap m)(N:News h₀ L s.heap news)(U:DelF I oI news rest)(hi:IterIs oI B i)(iB:(B,listOf its n)∈news)
  (hx:its[i]? = none)(h:∀ h',Fr h₀ L h' m->News h₀ L h' rest->R (.ok .next) { s with heap:=h' }):LoopAt prog w A target I body env R s:=by
 obtain ⟨iI,sub⟩:=U.sub
 have hI:=N _ iI
 refine forLoop_turn ?_
 refine wpAny_pyNext_list_end hh ⟨_,hI.1,hi.1,hi.2⟩ (N.isList iB) hx fun h1 eb=>?_
 exact h h1 ⟨F.ns.at' fun o e=>eb _ _ hI.2.1.symm e,fun b o e=>eb b o (fun q=>by rw [q,hI.2.2] at e;cases e) (F.keep b o e),F.above⟩ fun q hq=>⟨eb _ _ (sub q hq).2 (N q (sub q hq).1).1,(N q (sub q hq).1).2⟩
end
end Mine
end XL1
section XU2
open PySem PySem.W PyProof.Rows PySem.Calls
namespace Mine
noncomputable def addrs (l:List (Addr×Obj)):List Addr:=l.map Prod.fst
noncomputable def Ap (as rs:List Addr):Prop:=as.Nodup/\∀ a∈as,a ∉ rs
inductive UpdS (d:Addr)(o o':Obj):Nat->List (Addr×Obj)->List (Addr×Obj)->Prop
 | head {r}:UpdS d o o' 0 ((d,o)::r) ((d,o')::r)
 | tail {n p r r'}:UpdS d o o' n r r'->UpdS d o o' (n + 1) (p::r) (p::r')
inductive UpdFS (d:Addr)(o:Obj):Nat->List (Addr×Obj)->(Obj->List (Addr×Obj))->Prop
 | head {r}:UpdFS d o 0 ((d,o)::r) (fun o'=>(d,o')::r)
 | tail {n p r g}:UpdFS d o n r g->UpdFS d o (n + 1) (p::r) (fun o'=>p::g o')
inductive DelFS (d:Addr)(o:Obj):Nat->List (Addr×Obj)->List (Addr×Obj)->Prop
 | head {r}:DelFS d o 0 ((d,o)::r) r
 | tail {n p r r'}:DelFS d o n r r'->DelFS d o (n + 1) (p::r) (p::r')
theorem UpdS.at {d:Addr}{o o':Obj}{n:Nat}{l l':List (Addr×Obj)}(U:UpdS d o o' n l l'):(addrs l)[n]? = some d:=by
 induction U with
 | head=>rfl
 | tail _ ih=>exact ih
theorem UpdFS.at {d:Addr}{o:Obj}{n:Nat}{l:List (Addr×Obj)}{g:Obj->List (Addr×Obj)}(U:UpdFS d o n l g):(addrs l)[n]? = some d:=by
 induction U with
 | head=>rfl
 | tail _ ih=>exact ih
theorem DelFS.at {d:Addr}{o:Obj}{n:Nat}{l l':List (Addr×Obj)}(U:DelFS d o n l l'):(addrs l)[n]? = some d:=by
 induction U with
 | head=>rfl
 | tail _ ih=>exact ih
theorem ap_head {a:Addr}{as rs:List Addr}{r:List (Addr×Obj)}(H:Ap (a::as) rs)(e:addrs r=as++rs):∀ p∈r,p.1≠a:=by
 intro p hp hd
 have h1:p.1∈addrs r:=List.mem_map.mpr ⟨p,hp,rfl⟩
 rw [e,hd] at h1
 rcases List.mem_append.mp h1 with h | h
 ·exact (List.nodup_cons.mp H.1).1 h
 ·exact H.2 a (List.mem_cons_self ..) h
theorem ap_rest {a:Addr}{as rs:List Addr}(H:Ap (a::as) rs):Ap as rs:=⟨(List.nodup_cons.mp H.1).2,fun x hx=>H.2 x (List.mem_cons_of_mem _ hx)⟩
theorem ap_ne {a d:Addr}{n:Nat}{as rs:List Addr}{r:List (Addr×Obj)}(H:Ap (a::as) rs)(e:addrs r=as++rs)(hn:n < as.length)(hd:(addrs r)[n]? = some d):a≠d:=by
 intro h
 rw [e,List.getElem?_append_left hn] at hd
 exact (List.nodup_cons.mp H.1).1 (h ▸ List.mem_of_getElem? hd)
theorem upd_ap0 {d:Addr}{o o':Obj}{n:Nat}{l l':List (Addr×Obj)}(U:UpdS d o o' n l l'):∀ {as rs:List Addr},Ap as rs->addrs l=as++rs->n < as.length->Upd d o o' l l':=by
 induction U with
 | head=>
  intro as rs H e hn
  cases as with
  | nil=>exact absurd hn (Nat.not_lt_zero _)
  | cons a as=>
   obtain ⟨e1,e2⟩:=List.cons.inj e
   dsimp only at e1
   subst e1
   exact .head (ap_head H e2)
 | tail u ih=>
  intro as rs H e hn
  cases as with
  | nil=>exact absurd hn (Nat.not_lt_zero _)
  | cons a as=>
   obtain ⟨e1,e2⟩:=List.cons.inj e
   have hn':=Nat.lt_of_succ_lt_succ hn
   refine .tail ?_ (ih (ap_rest H) e2 hn')
   rw [e1]
   exact ap_ne H e2 hn' u.at
theorem updF_ap0 {d:Addr}{o:Obj}{n:Nat}{l:List (Addr×Obj)}{g:Obj->List (Addr×Obj)}(U:UpdFS d o n l g):∀ {as rs:List Addr},Ap as rs->addrs l=as++rs->n < as.length->UpdF d o l g:=by
 induction U with
 | head=>
  intro as rs H e hn
  cases as with
  | nil=>exact absurd hn (Nat.not_lt_zero _)
  | cons a as=>
   obtain ⟨e1,e2⟩:=List.cons.inj e
   dsimp only at e1
   subst e1
   exact .head (ap_head H e2)
 | tail u ih=>
  intro as rs H e hn
  cases as with
  | nil=>exact absurd hn (Nat.not_lt_zero _)
  | cons a as=>
   obtain ⟨e1,e2⟩:=List.cons.inj e
   have hn':=Nat.lt_of_succ_lt_succ hn
   refine .tail ?_ (ih (ap_rest H) e2 hn')
   rw [e1]
   exact ap_ne H e2 hn' u.at
theorem delF_ap0 {d:Addr}{o:Obj}{n:Nat}{l l':List (Addr×Obj)}(U:DelFS d o n l l'):∀ {as rs:List Addr},Ap as rs->addrs l=as++rs->n < as.length->DelF d o l l':=by
 induction U with
 | head=>
  intro as rs H e hn
  cases as with
  | nil=>exact absurd hn (Nat.not_lt_zero _)
  | cons a as=>
   obtain ⟨e1,e2⟩:=List.cons.inj e
   dsimp only at e1
   subst e1
   exact .head (ap_head H e2)
 | tail u ih=>
  intro as rs H e hn
  cases as with
  | nil=>exact absurd hn (Nat.not_lt_zero _)
  | cons a as=>
   obtain ⟨e1,e2⟩:=List.cons.inj e
   have hn':=Nat.lt_of_succ_lt_succ hn
   refine .tail ?_ (ih (ap_rest H) e2 hn')
   rw [e1]
   exact ap_ne H e2 hn' u.at
theorem upd_ap {d:Addr}{o o':Obj}{n:Nat}{l l':List (Addr×Obj)}{as rs:List Addr}(H:Ap as rs)(e:addrs l=as++rs)(U:UpdS d o o' n l l')(hn:Nat.ble (n + 1) as.length=true):Upd d o o' l l':=upd_ap0 U H e (Nat.le_of_ble_eq_true hn)
theorem updF_ap {d:Addr}{o:Obj}{n:Nat}{l:List (Addr×Obj)}{g:Obj->List (Addr×Obj)}{as rs:List Addr}(H:Ap as rs)(e:addrs l=as++rs)(U:UpdFS d o n l g)(hn:Nat.ble (n + 1) as.length=true):UpdF d o l g:=updF_ap0 U H e (Nat.le_of_ble_eq_true hn)
theorem delF_ap {d:Addr}{o:Obj}{n:Nat}{l l':List (Addr×Obj)}{as rs:List Addr}(H:Ap as rs)(e:addrs l=as++rs)(U:DelFS d o n l l')(hn:Nat.ble (n + 1) as.length=true):DelF d o l l':=delF_ap0 U H e (Nat.le_of_ble_eq_true hn)
theorem ap_cons {q:Addr}{as rs:List Addr}{l:List (Addr×Obj)}(H:Ap as rs)(h:∀ p∈l,p.1 < q)(e:addrs l=as++rs):Ap (q::as) rs:=by
 have k:∀ b∈as++rs,b≠q:=by
  intro b hb hq
  rw [<- e] at hb
  obtain ⟨p,hp,rfl⟩:=List.mem_map.mp hb
  exact Nat.lt_irrefl _ (hq ▸ h p hp)
 refine ⟨List.nodup_cons.mpr ⟨fun hq=>k q (List.mem_append_left _ hq) rfl,H.1⟩,fun a ha hr=>?_⟩
 rcases List.mem_cons.mp ha with rfl | ha
 ·exact k a (List.mem_append_right _ hr) rfl
 ·exact H.2 a ha hr
theorem ap_sub {as rs as' rs':List Addr}(H:Ap as rs) (h1:as'.Sublist as) (h2:∀ a∈rs',a∈rs):Ap as' rs':=⟨H.1.sublist h1,fun a ha hr=>H.2 a (h1.subset ha) (h2 a hr)⟩
theorem allLt_all {d:Addr}{l:List (Addr×Obj)}(h:AllLt d l):∀ p∈l,p.1 < d:=by
 induction l with
 | nil=>intro p hp;cases hp
 | cons a l ih=>
  intro p hp
  rcases List.mem_cons.mp hp with rfl | hp
  ·exact h.1
  ·exact ih h.2 p hp
theorem ap_last {as rs:List Addr}{x:Addr}(H:Ap (as++[x]) rs):Ap as (x::rs):=by
 obtain ⟨h1,h2⟩:=H
 obtain ⟨n1,_,n3⟩:=List.nodup_append.mp h1
 refine ⟨n1,fun a ha hr=>?_⟩
 rcases List.mem_cons.mp hr with rfl | hr
 ·exact n3 a ha a (List.mem_singleton.mpr rfl) rfl
 ·exact h2 a (List.mem_append_left _ ha) hr
theorem ap_mid {as rs:List Addr}{l:List (Addr×Obj)}{c':Addr}(H:Ap as rs)(e:addrs l=as++rs)(hc:c'∈rs\/AllLt c' l):Ap as (c'::rs):=by
 refine ⟨H.1,fun a ha hr=>?_⟩
 rcases List.mem_cons.mp hr with rfl | hr
 ·rcases hc with h | h
  ·exact H.2 a ha h
  ·have hb:a∈addrs l:=by rw [e];exact List.mem_append_left _ ha
   obtain ⟨p,hp,hp2⟩:=List.mem_map.mp hb
   exact Nat.lt_irrefl _ (hp2 ▸ allLt_all h p hp)
 ·exact H.2 a ha hr
theorem ap_gt {as rs:List Addr}{q:Addr}(H:Ap as rs)(k:∀ b∈as++rs,@LT.lt Nat _ b q):Ap (q::as) rs:=by
 refine ⟨List.nodup_cons.mpr ⟨fun hq=>Nat.lt_irrefl _ (k q (List.mem_append_left _ hq)),H.1⟩,fun a ha hr=>?_⟩
 rcases List.mem_cons.mp ha with rfl | ha
 ·exact Nat.lt_irrefl _ (k a (List.mem_append_right _ hr))
 ·exact H.2 a ha hr
theorem gt_next {as rs:List Addr}{q r:Addr}(k:∀ b∈as++rs,@LT.lt Nat _ b q)(h:@LT.lt Nat _ q r):∀ b∈(q::as)++rs,@LT.lt Nat _ b r:=by
 intro b hb
 rcases List.mem_cons.mp hb with rfl | hb
 ·exact h
 ·exact Nat.lt_trans (k b hb) h
theorem gt_of {as rs:List Addr}{l l':List (Addr×Obj)}{oc:Obj}{c' D:Addr}(e:addrs l=as++rs)(e':addrs l'=addrs l)(hD:AllLt D ((c',oc)::l')):∀ b∈as++(c'::rs),@LT.lt Nat _ b D:=by
 intro b hb
 have hd:=allLt_all hD
 rcases List.mem_append.mp hb with h | h
 ·have h2:b∈addrs l':=by rw [e',e];exact List.mem_append_left _ h
  obtain ⟨p,hp,rfl⟩:=List.mem_map.mp h2
  exact hd p (List.mem_cons_of_mem _ hp)
 ·rcases List.mem_cons.mp h with rfl | h
  ·exact hd _ (List.mem_cons_self ..)
  ·have h2:b∈addrs l':=by rw [e',e];exact List.mem_append_right _ h
   obtain ⟨p,hp,rfl⟩:=List.mem_map.mp h2
   exact hd p (List.mem_cons_of_mem _ hp)
theorem ap_dict2 {as rs:List Addr}{l l':List (Addr×Obj)}{oc:Obj} {c' D R1 R2:Addr}(H:Ap as rs)(e:addrs l=as++rs)(e':addrs l'=addrs l)(hD:AllLt D ((c',oc)::l')) (r1:@LT.lt Nat _ D R1) (r2:@LT.lt Nat _ R1 R2)(hc:c'∈rs\/AllLt c' l) :
  Ap (R2::R1::D::as) (c'::rs):=
 have k0:=gt_of e e' hD
 have k1:=gt_next k0 r1
 ap_gt (ap_gt (ap_gt (ap_mid H e hc) k0) k1) (gt_next k1 r2)
theorem ap_dict3 {as rs:List Addr}{l l':List (Addr×Obj)}{oc:Obj} {c' D R1 R2 R3:Addr}(H:Ap as rs)(e:addrs l=as++rs)(e':addrs l'=addrs l)(hD:AllLt D ((c',oc)::l')) (r1:@LT.lt Nat _ D R1) (r2:@LT.lt Nat _ R1 R2) (r3:@LT.lt Nat _ R2 R3)(hc:c'∈rs\/AllLt c' l) :
  Ap (R3::R2::R1::D::as) (c'::rs):=
 have k0:=gt_of e e' hD
 have k1:=gt_next k0 r1
 have k2:=gt_next k1 r2
 ap_gt (ap_gt (ap_gt (ap_gt (ap_mid H e hc) k0) k1) k2) (gt_next k2 r3)
end Mine
end XU2
section XU3
open PySem PySem.W PyProof.Rows PySem.Calls
namespace Mine
@[reducible] noncomputable def ide (w:World)(k:String)(t:Tok)(v:Value):DictEntry:=⟨PyData.keyHash w.params (Str.ofString k),.str (Str.ofString k) t,v⟩
noncomputable def idc (w:World)(q:Nat->Tok)(A D C Nn Pm Ps:Addr)(zt:Tok)(sn dn:Bool):List DictEntry:=[ide w "_write" (q 0) (.ref A),ide w "_data" (q 1) (.ref D),ide w "_with_comments" (q 2) (.bool true),ide w "_strip_text" (q 3) (.bool false),ide w "_exclude_attrs" (q 4) (.none),ide w "_exclude_tags" (q 5) (.none),ide w "_rewrite_prefixes" (q 6) (.bool false),ide w "_qname_aware_tags" (q 7) (.none),ide w "_find_qname_aware_attrs" (q 8) (.none),ide w "_declared_ns_stack" (q 9) (.ref C),ide w "_ns_stack" (q 10) (.ref Nn),ide w "_prefix_map" (q 11) (.ref Pm),ide w "_preserve_space" (q 12) (.ref Ps),ide w "_pending_start" (q 13) (.none),ide w "_root_seen" (q 14) (.bool sn),ide w "_root_done" (q 15) (.bool dn),ide w "_ignored_depth" (q 16) (.int 0 zt)]
noncomputable def xT (u1 u2:Tok):Obj:={ cls:=.type "tuple",data:=.seq #[.str (Str.ofString "http://www.w3.org/XML/1998/namespace") u1,.str (Str.ofString "xml") u2] }
noncomputable def tks (l:List Tok)(i:Nat):Tok:=l.getD i 0
noncomputable def SB (a b:Shared):Prop:=b.os=a.os/\AllBare b.gens
theorem SB.trans {a b c:Shared}(h:SB a b)(h':SB b c):SB a c:=⟨h'.1.trans h.1,h'.2⟩
theorem SB.next {a b c:Shared}(h:SB a b)(o:c.os=b.os)(g:AllBare c.gens):SB a c:=⟨o.trans h.1,g⟩
theorem storeB {M:Model}{A:Around}{E:Value->Shared->Prop}{s s₀:Shared}{h₀:Heap}{L a:Addr}{m:Str->Option Value}{cn:Str}{cs:Scope}{ccd:Value}{cl:List (Str×Addr)}{x:Str}{v:Value}{Q:Unit->Shared->Prop}{news:List (Addr×Obj)}
  (F:Fr h₀ L s.heap m)(N:News h₀ L s.heap news)(S:SB s₀ s)(h:∀ s',Fr h₀ L s'.heap (upd m x v)->News h₀ L s'.heap news->SB s₀ s'->Q () s')
  (hk:cs.kind = .function)(hx:(envX cn cs L a ccd cl).kindOf x=some .local):wpAny M A (storeName (envX cn cs L a ccd cl) x v) Q E s:=
 storeX_L F N (fun _ F' N'=>h _ F' N' S) hk hx
theorem ap_consA {q:Addr}{as rs:List Addr}{l:List (Addr×Obj)}(H:Ap as rs)(h:AllLt q l)(e:addrs l=as++rs):Ap (q::as) rs:=ap_cons H (allLt_all h) e
theorem ap_cell {q:Addr}{as rs:List Addr}{l:List (Addr×Obj)}(H:Ap as rs)(h:∀ p∈l,p.1 < q)(e:addrs l=as++rs):Ap ((q + 1)::as) rs:=ap_cons H (fun p hp=>Nat.lt_succ_of_lt (h p hp)) e
theorem lt_app0 {q:Addr}{as rs:List Addr}{l:List (Addr×Obj)}(h:∀ p∈l,p.1 < q)(e:addrs l=as++rs):∀ b∈as++rs,@LT.lt Nat _ b q:=by
 intro b hb
 rw [<- e] at hb
 obtain ⟨p,hp,rfl⟩:=List.mem_map.mp hb
 exact h p hp
theorem lt_app {q:Addr}{as rs:List Addr}{l:List (Addr×Obj)}(h:AllLt q l)(e:addrs l=as++rs):∀ b∈as++rs,@LT.lt Nat _ b q:=by
 intro b hb
 rw [<- e] at hb
 obtain ⟨p,hp,rfl⟩:=List.mem_map.mp hb
 exact allLt_all h p hp
theorem ap_two {q r:Addr}{as rs:List Addr}{l:List (Addr×Obj)}(H:Ap as rs)(h:AllLt q l)(e:addrs l=as++rs) (r1:@LT.lt Nat _ q r):Ap (r::q::as) rs:=
 have k:=lt_app h e
 ap_gt (ap_gt H k) (gt_next k r1)
theorem ap_three {q r t:Addr}{as rs:List Addr}{l:List (Addr×Obj)}(H:Ap as rs)(h:AllLt q l)(e:addrs l=as++rs) (r1:@LT.lt Nat _ q r) (r2:@LT.lt Nat _ r t):Ap (t::r::q::as) rs:=
 have k:=lt_app h e
 have k1:=gt_next k r1
 ap_gt (ap_gt (ap_gt H k) k1) (gt_next k1 r2)
theorem ap_del {n:Nat}{as rs:List Addr}(H:Ap as rs):Ap (as.eraseIdx n) rs:=ap_sub H (List.eraseIdx_sublist as n) fun _ h=>h
theorem news_mv {h₀ h:Heap}{L:Addr}{a b c d e:Addr×Obj}(pre:List (Addr×Obj)){rest:List (Addr×Obj)}(N:News h₀ L h (a::b::c::d::e::(pre++rest))):News h₀ L h (b::c::d::a::(pre++e::rest)):=by
 intro q hq
 apply N
 simp only [List.mem_cons,List.mem_append] at hq ⊢
 rcases hq with h | h | h | h | h | h | h <;> simp [h]
theorem news_mv2 {h₀ h:Heap}{L:Addr}{a b c e:Addr×Obj}(pre:List (Addr×Obj)){rest:List (Addr×Obj)}(N:News h₀ L h (a::b::c::e::(pre++rest))):News h₀ L h (b::c::a::(pre++e::rest)):=by
 intro q hq
 apply N
 simp only [List.mem_cons,List.mem_append] at hq ⊢
 rcases hq with h | h | h | h | h | h <;> simp [h]
end Mine
end XU3
section XP1
namespace Mine
open PySem PySem.Builtin PySem.Builtin.Str
noncomputable def mapS (f:Nat->List Nat)(x:PySem.Str):PySem.Str:=⟨(x.cps.toList.flatMap f).toArray⟩
noncomputable def one (c:Nat)(z:List Nat)(d:Nat):List Nat:=if d=c then z else [d]
theorem flatMap_free (c:Nat)(z:List Nat):∀ l:List Nat,c ∉ l->l.flatMap (one c z)=l
 | [],_=>rfl
 | k::r,h=>by
  have h1:¬ k=c:=fun e=>h (e ▸ List.mem_cons_self ..)
  have h2:c ∉ r:=fun m=>h (List.mem_cons_of_mem _ m)
  rw [List.flatMap_cons,flatMap_free c z r h2];simp [one,h1]
theorem flatMap_join (c:Nat)(z:PySem.Str):∀ parts:List PySem.Str,(∀ p∈parts,c ∉ p.cps.toList)->(Str.join ⟨#[c]⟩ parts).cps.toList.flatMap (one c z.cps.toList)=(Str.join z parts).cps.toList
 | [],_=>rfl
 | [p],h=>flatMap_free c _ _ (h p (List.mem_singleton.mpr rfl))
 | p::q::r,h=>by
  have ih:=flatMap_join c z (q::r) fun a ha=>h a (List.mem_cons_of_mem _ ha)
  show (p++⟨#[c]⟩++Str.join ⟨#[c]⟩ (q::r)).cps.toList.flatMap _=(p++z++Str.join z (q::r)).cps.toList
  simp only [Str.cps_append,Array.toList_append,List.flatMap_append]
  rw [ih,flatMap_free c _ _ (h p (List.mem_cons_self ..))]
  simp [one]
theorem repl_one (x z:PySem.Str)(c:Nat):Txt.replace x ⟨#[c]⟩ z=mapS (one c z.cps.toList) x:=by
 apply PySem.Str.ext'
 apply Array.ext'
 show _=x.cps.toList.flatMap _
 rw [StrLaws.replace_one,<- flatMap_join c _ _ (StrLaws.split_free x c),StrLaws.join_split]
theorem mapS_mapS (f g:Nat->List Nat)(x:PySem.Str):mapS g (mapS f x)=mapS (fun c=>(f c).flatMap g) x:=by
 unfold mapS;simp [List.flatMap_assoc]
theorem mapS_congr {f g:Nat->List Nat}(h:∀ c,f c=g c)(x:PySem.Str):mapS f x=mapS g x:=by rw [funext h]
theorem mapS_length (f:Nat->List Nat)(n:Nat)(h:∀ c,(f c).length<=n)(x:PySem.Str):(mapS f x).length<=n * x.length:=by
 show (x.cps.toList.flatMap f).toArray.size<=n * x.cps.size
 rw [<- Array.length_toList (xs:=x.cps)]
 simp only [List.size_toArray]
 induction x.cps.toList with
 | nil=>simp
 | cons a r ih=>simp only [List.flatMap_cons,List.length_append,List.length_cons,Nat.mul_succ];have:=h a;omega
theorem mapS_free (c:Nat)(z:List Nat)(x:PySem.Str)(h:c ∉ x.cps.toList):mapS (one c z) x=x:=by
 apply PySem.Str.ext';apply Array.ext';show x.cps.toList.flatMap _=_;rw [flatMap_free c z _ h]
noncomputable def tabF (tab:List (Nat×List Nat))(c:Nat):List Nat:=(tab.lookup c).getD [c]
noncomputable def tabOk (k:Nat)(z:List Nat)(tab:List (Nat×List Nat)):Bool:=tab.all (fun p=>p.1 != k && !(p.2.contains k) && decide (p.2.length<=6)) && decide (1<=z.length) && decide (z.length<=6)
theorem flatMap_one_free (k:Nat)(z o:List Nat)(h:k ∉ o):o.flatMap (one k z)=o:=flatMap_free k z o h
theorem tab_lookup_free {k:Nat}:∀ {tab:List (Nat×List Nat)},tab.all (fun p=>p.1 != k && !(p.2.contains k) && decide (p.2.length<=6))=true->tab.lookup k=none
 | [],_=>rfl
 | p::r,h=>by
  rw [List.all_cons,Bool.and_eq_true] at h
  obtain ⟨h1,h2⟩:=h
  simp only [Bool.and_eq_true,bne_iff_ne,decide_eq_true_eq] at h1
  have:(k == p.1)=false:=by simpa using (Ne.symm h1.1.1)
  rw [List.lookup_cons,this]
  exact tab_lookup_free h2
theorem tab_lookup_out {k:Nat}{c:Nat}{o:List Nat}:∀ {tab:List (Nat×List Nat)},tab.all (fun p=>p.1 != k && !(p.2.contains k) && decide (p.2.length<=6))=true->tab.lookup c=some o->k ∉ o/\o.length<=6
 | [],_,h=>by cases h
 | p::r,h,e=>by
  rw [List.all_cons,Bool.and_eq_true] at h
  obtain ⟨h1,h2⟩:=h
  rw [List.lookup_cons] at e
  cases hc:(c == p.1) with
  | true=>
   rw [hc] at e
   simp only [Option.some.injEq] at e
   subst e
   simp only [Bool.and_eq_true,decide_eq_true_eq,Bool.not_eq_true',List.contains_eq_mem,decide_eq_false_iff_not] at h1
   exact ⟨h1.1.2,h1.2⟩
  | false=>rw [hc] at e;exact tab_lookup_out h2 e
theorem tab_step (k:Nat)(z:List Nat)(tab:List (Nat×List Nat))(h:tabOk k z tab=true)(x:PySem.Str):mapS (one k z) (mapS (tabF tab) x)=mapS (tabF ((k,z)::tab)) x:=by
 rw [mapS_mapS]
 simp only [tabOk,Bool.and_eq_true] at h
 obtain ⟨⟨h1,_⟩,_⟩:=h
 refine mapS_congr (fun c=>?_) x
 show ((tab.lookup c).getD [c]).flatMap (one k z)=(((k,z)::tab).lookup c).getD [c]
 rw [List.lookup_cons]
 by_cases hc:c=k
 ·subst hc
  rw [tab_lookup_free h1]
  simp [one]
 ·have:(c == k)=false:=by simpa using hc
  rw [this]
  cases hl:tab.lookup c with
  | none=>simp [one,hc]
  | some o=>exact flatMap_free k z o (tab_lookup_out h1 hl).1
theorem tab_len (k:Nat)(z:List Nat)(tab:List (Nat×List Nat))(h:tabOk k z tab=true)(x:PySem.Str):(mapS (tabF ((k,z)::tab)) x).length<=6 * x.length:=by
 simp only [tabOk,Bool.and_eq_true,decide_eq_true_eq] at h
 obtain ⟨⟨h1,_⟩,h3⟩:=h
 refine mapS_length _ 6 (fun c=>?_) x
 show ((((k,z)::tab).lookup c).getD [c]).length<=6
 rw [List.lookup_cons]
 cases hc:(c == k) with
 | true=>exact h3
 | false=>
  show ((tab.lookup c).getD [c]).length<=6
  cases hl:tab.lookup c with
  | none=>exact Nat.le_of_ble_eq_true rfl
  | some o=>exact (tab_lookup_out h1 hl).2
noncomputable def tabC:List (Nat×List Nat):=[(13,[38,35,120,68,59]),(62,[38,103,116,59]),(60,[38,108,116,59]),(38,[38,97,109,112,59])]
noncomputable def tabA:List (Nat×List Nat):=[(13,[38,35,120,68,59]),(10,[38,35,120,65,59]),(9,[38,35,120,57,59]),(34,[38,113,117,111,116,59]),(60,[38,108,116,59]),(38,[38,97,109,112,59])]
noncomputable def tabV:List (Nat×List Nat):=[(38,[38,97,109,112,59]),(60,[38,108,116,59]),(34,[38,113,117,111,116,59]),(9,[38,35,120,57,59]),(10,[38,35,120,65,59]),(13,[38,35,120,68,59])]
noncomputable def tabT:List (Nat×List Nat):=[(38,[38,97,109,112,59]),(60,[38,108,116,59]),(62,[38,103,116,59]),(13,[38,35,120,68,59])]
theorem tabF_len (tab:List (Nat×List Nat))(h:tab.all (fun p=>decide (p.2.length<=6))=true)(c:Nat):(tabF tab c).length<=6:=by
 unfold tabF
 cases hl:tab.lookup c with
 | none=>exact Nat.le_of_ble_eq_true rfl
 | some o=>
  induction tab with
  | nil=>cases hl
  | cons p r ih=>
   rw [List.all_cons,Bool.and_eq_true,decide_eq_true_eq] at h
   rw [List.lookup_cons] at hl
   split at hl
   ·rw [<- Option.some.inj hl];exact h.1
   ·exact ih h.2 hl
theorem tabV_len (c:Nat):(tabF tabV c).length<=6:=tabF_len tabV (by decide) c
theorem tabT_len (c:Nat):(tabF tabT c).length<=6:=tabF_len tabT (by decide) c
theorem tabVA (c:Nat):tabF tabA c=tabF tabV c:=by
 unfold tabF tabA tabV
 simp only [List.lookup_cons,List.lookup_nil]
 by_cases h1:c=38;·subst h1;rfl
 by_cases h2:c=60;·subst h2;rfl
 by_cases h3:c=34;·subst h3;rfl
 by_cases h4:c=9;·subst h4;rfl
 by_cases h5:c=10;·subst h5;rfl
 by_cases h6:c=13;·subst h6;rfl
 simp [h1,h2,h3,h4,h5,h6,beq_false_of_ne]
theorem tabTC (c:Nat):tabF tabC c=tabF tabT c:=by
 unfold tabF tabC tabT
 simp only [List.lookup_cons,List.lookup_nil]
 by_cases h1:c=38;·subst h1;rfl
 by_cases h2:c=60;·subst h2;rfl
 by_cases h3:c=62;·subst h3;rfl
 by_cases h4:c=13;·subst h4;rfl
 simp [h1,h2,h3,h4,beq_false_of_ne]
noncomputable def escV (x:PySem.Str):PySem.Str:=mapS (tabF tabV) x
noncomputable def escT (x:PySem.Str):PySem.Str:=mapS (tabF tabT) x
theorem escV_length (x:PySem.Str):(escV x).length<=6 * x.length:=mapS_length _ 6 tabV_len x
theorem escT_length (x:PySem.Str):(escT x).length<=6 * x.length:=mapS_length _ 6 tabT_len x
theorem escA_eq (x:PySem.Str):mapS (tabF tabA) x=escV x:=mapS_congr tabVA x
theorem escC_eq (x:PySem.Str):mapS (tabF tabC) x=escT x:=mapS_congr tabTC x
noncomputable def docA (v:PySem.Str):PySem.Str:=PySem.Str.ofString "<n v=\"" ++ escV v++PySem.Str.ofString "\""
noncomputable def docB (pl:Int)(v ml:PySem.Str):PySem.Str:=
 if pl=0 then docA v++PySem.Str.ofString " w=\"" ++ escV ml++PySem.Str.ofString "\">"
 else if pl=1 then docA v++PySem.Str.ofString ">" ++ escT ml
 else if pl=2 then docA v++PySem.Str.ofString "><!--" ++ escT ml++PySem.Str.ofString "-->"
 else if (ml == PySem.Str.ofString "")=true then docA v++PySem.Str.ofString "><?p?>"
 else docA v++PySem.Str.ofString "><?p " ++ escT ml++PySem.Str.ofString "?>"
noncomputable def docS (pl:Int)(v ml tx:PySem.Str):PySem.Str:=docB pl v ml++escT tx++PySem.Str.ofString "</n>"
theorem mapS_nil (x:PySem.Str):x=mapS (tabF []) x:=by
 apply PySem.Str.ext';apply Array.ext'
 show x.cps.toList=x.cps.toList.flatMap (fun c=>[c])
 simp
end Mine
end XP1
section XS2
open PySem PySem.W PyProof.Rows PySem.Calls
namespace Mine
theorem str_walks {prog:Program}{w:World}{A:Around}(hh:A.handled=none)(I:Addr)(x:PySem.Str)(t:Tok) :
  Walks prog w A I [I] [I] x.cps.size (SignAt x) (fun i h=>h.IsStrIter I (strIterType x) x t i):=by
 unfold strIterType
 cases x.cps.all (·< 128)
 ·exact Walks.strWide hh I x t
 ·exact Walks.strAscii hh I x t
section
variable {prog:Program}{w:World}{A:Around}{E:Value->Shared->Prop}{s:Shared}{h₀:Heap}{L:Addr}{m:PySem.Str->Option Value}{env:Env}
noncomputable def SrcT (prog:Program)(w:World)(A:Around)(h₀:Heap)(L:Addr)(m:PySem.Str->Option Value)(env:Env)(elt:Expr)(x:PySem.Str)(scope:Scope)(cl:List (PySem.Str×Addr))(Fin:Shared->List Value->List (Addr×Obj)->Prop)(xv:Value)(s₁:Shared):Prop:=
 ∃ a t news,xv = .str a t/\A.handled=none/\Fr h₀ L s₁.heap m/\News h₀ L s₁.heap news/\a.cps.size<=sizeLine /\
  ∀ s₂:Shared,(∃ h,s₂={ s₁ with heap:=h })->LCg.CompRest prog w A h₀ L m env elt x scope cl s₂ (fun _=>True) (SignAt a) (Fin s₂) a.cps.size 0 [] news
theorem SrcT.intro {elt:Expr}{x:PySem.Str}{scope:Scope}{cl:List (PySem.Str×Addr)}{Fin:Shared->List Value->List (Addr×Obj)->Prop}{a:PySem.Str}{t:Tok}{news:List (Addr×Obj)}{s₁:Shared}
  (hh:A.handled=none)(F:Fr h₀ L s₁.heap m)(N:News h₀ L s₁.heap news)(hsz:a.cps.size<=sizeLine)
  (h:∀ g,LCg.CompRest prog w A h₀ L m env elt x scope cl { s₁ with heap:=g } (fun _=>True) (SignAt a) (Fin { s₁ with heap:=g }) a.cps.size 0 [] news) :
  SrcT prog w A h₀ L m env elt x scope cl Fin (.str a t) s₁:=⟨a,t,news,rfl,hh,F,N,hsz,fun _ ⟨g,e⟩=>e ▸ h g⟩
theorem str_st {ty:String}{I:Addr}{a:PySem.Str}{t:Tok}:∀ i (h h':Heap)(o:Obj)(nw:List (Addr×Obj)),h.IsStrIter I ty a t i->h.get? I=some o->h'.get? I=some o->(∀ b o,h₀.get? b=some o->h'.get? b=some o)->News h₀ L h' nw->True->h'.IsStrIter I ty a t i:=
 fun i h h' o nw st e e' k N S=>by obtain ⟨o',q,r⟩:=st;rw [e] at q;cases q;exact ⟨o,e',r⟩
theorem ListComp_T2 {elt iter:Expr}{x:PySem.Str}{px:Pos}{scope:Scope}{cl:List (PySem.Str×Addr)}{pos:Pos}{Q:Value->Shared->Prop}(F₀:Fr h₀ L s.heap m)
  (hclos:closureFor scope env=pure cl)(hcell:∀ y∈scope.names,y.2≠.cell)(hkind:scope.kind = .function)
  (hnames:∀ y∈scope.names,y.2 = .local->scope.names.lookup y.1=some .local)(hx:scope.names.lookup x=some .local)
  (h:wpAny (model prog w) A (eval iter env) (SrcT prog w A h₀ L m env elt x scope cl (fun s₂=>LCg.FinE h₀ L m s₂ Q)) E s)
  (hs:∀ x,foldedSetIterable iter env x=pure x) :
  wpAny (model prog w) A (eval (.ListComp elt [⟨.Name x px,iter,[],0⟩] scope pos) env) Q E s:=by
 rw [eval_ListComp]
 refine wpAny_comprehension_free (use:=none) rfl hs hclos hkind hnames (wpAny_mono h (fun xv s₁ h₁=>?_) fun _ _ e=>e)
 obtain ⟨a,t,news,rfl,hh,F,N,hsz,R⟩:=h₁
 refine wpAny_pyIter_strU ?_
 refine LCg.block_U (str_walks hh s₁.heap.objs.size a t) hsz (fun i h st=>let ⟨o,e,_⟩:=st;⟨o,e⟩) str_st hcell hkind hx ⟨_,Heap.get?_push_size _ rfl,rfl,rfl⟩ (fun b hb=>?_)
   (F.keeps fun _ _ e=>Heap.get?_push_of_some _ e) (N.grown fun _ _ e=>Heap.get?_push_of_some _ e) (Nat.ne_of_lt F.ns.lt) (next_is_new F) (fun p hp=>Nat.ne_of_lt (Heap.lt_size (N p hp).1)) trivial (R _ ⟨_,rfl⟩) ?_
 ·rw [List.mem_singleton.mp hb]
  show s₁.heap.objs.size < (s₁.heap.push _).objs.size
  rw [Heap.size_push];exact Nat.lt_succ_self _
 ·intro D C h tk m' ys news' F' N' o1 hn hC₀ hD₀ hCL hDL hCD offC fin
  refine ⟨m',hn,fun h'' hs''=>fin D h'' tk (F'.change hs'' hCL hC₀) (fun p hp=>?_) o1⟩
  refine ⟨hs''.extBut _ _ ?_ (N' p hp).1,(N' p hp).2⟩
  rcases List.mem_cons.mp hp with rfl | hp
  ·exact Ne.symm hCD
  ·exact offC p hp
theorem Assign_ListComp_T2 {elt iter:Expr}{x y:PySem.Str}{px py:Pos}{scope:Scope}{cl:List (PySem.Str×Addr)}{pos spos:Pos}{Q:Flow->Shared->Prop}(F₀:Fr h₀ L s.heap m)(hLe:env.locals=L)
  (hsw:swapsWith (.ListComp elt [⟨.Name x px,iter,[],0⟩] scope pos) (some (.Name y py)) spos.line env=pure true)
  (hclos:closureFor scope env=pure cl)(hcell:∀ z∈scope.names,z.2≠.cell)(hkind:scope.kind = .function)
  (hnames:∀ z∈scope.names,z.2 = .local->scope.names.lookup z.1=some .local)(hx:scope.names.lookup x=some .local)
  (hy:env.kindOf y=some .local)(hp:(env.scope.kind == .class || (env.scope.kind == .module && env.locals != env.globals))=false)
  (h:wpAny (model prog w) A (eval iter env) (SrcT prog w A h₀ L m env elt x scope cl (fun s₂=>LCg.FinA h₀ L m s₂ y Q)) E s)
  (hs:∀ x,foldedSetIterable iter env x=pure x) :
  wpAny (model prog w) A (exec (.Assign [.Name y py] (.ListComp elt [⟨.Name x px,iter,[],0⟩] scope pos) spos) env) Q E s:=by
 subst hLe
 rw [exec_Assign_Name_used _ _ _ _ hsw]
 refine wpAny_bind (wpAny_standAt (wpAny_bind ?_))
 show wpAny _ A (do let _ <- comprehension (.ListComp elt [⟨.Name x px,iter,[],0⟩] scope pos) scope env _ (newList []) false (eval iter env) (some (assign (.Name y py) env))) _ _ s
 refine wpAny_bind (wpAny_mono (wpAny_comprehension_free (use:=some (assign (.Name y py) env)) (Q:=fun _ s'=>Q .next s') rfl hs hclos hkind hnames
  (wpAny_mono h (fun xv s₁ h₁=>?_) fun _ _ e=>e)) (fun _ s' hq=>wpAny_pure (wpAny_pure hq)) fun _ _ e=>e)
 obtain ⟨a,t,news,rfl,hh,F,N,hsz,R⟩:=h₁
 refine wpAny_pyIter_strU ?_
 refine LCg.block_U (str_walks hh s₁.heap.objs.size a t) hsz (fun i h st=>let ⟨o,e,_⟩:=st;⟨o,e⟩) str_st hcell hkind hx ⟨_,Heap.get?_push_size _ rfl,rfl,rfl⟩ (fun b hb=>?_)
   (F.keeps fun _ _ e=>Heap.get?_push_of_some _ e) (N.grown fun _ _ e=>Heap.get?_push_of_some _ e) (Nat.ne_of_lt F.ns.lt) (next_is_new F) (fun p hp=>Nat.ne_of_lt (Heap.lt_size (N p hp).1)) trivial (R _ ⟨_,rfl⟩) ?_
 ·rw [List.mem_singleton.mp hb]
  show s₁.heap.objs.size < (s₁.heap.push _).objs.size
  rw [Heap.size_push];exact Nat.lt_succ_self _
 ·intro D C h' tk m' ys news' F' N' o1 hn hC₀ hD₀ hCL hDL hCD offC fin
  show wpAny _ A (assign (.Name y py) env (.ref D)) _ _ _
  refine wpAny_assign_Name (wpAny_storeName_local hy F'.ns (fun h₂ hn₂ hs₂=>?_) hp)
  have hL₀:h₀.get? env.locals=none:=Heap.get?_none_of_le F'.above
  have F₂:Fr h₀ env.locals h₂ (fun z=>if z=y then some (.ref D) else m z):=⟨hn₂,fun b o e=>hs₂.extBut b o (fun q=>by rw [q,hL₀] at e;cases e) (F'.keep b o e),F'.above⟩
  refine ⟨m',hn.sameBut hs₂ hCL,fun h'' hs''=>fin D h'' _ (F₂.change hs'' hCL hC₀) (fun p hp=>?_) o1⟩
  have z:h₂.get? p.1=some p.2:=hs₂.extBut _ _ (N' p hp).2.1 (N' p hp).1
  refine ⟨hs''.extBut _ _ ?_ z,(N' p hp).2⟩
  rcases List.mem_cons.mp hp with rfl | hp
  ·exact Ne.symm hCD
  ·exact offC p hp
inductive All2 {α:Type}(R:α->Value->Prop):List α->List Value->Prop
 | nil:All2 R [] []
 | cons {a:α}{v:Value}{as:List α}{vs:List Value}(h:R a v)(t:All2 R as vs):All2 R (a::as) (v::vs)
theorem comp_all {α:Type}{xs:List α}{n:Nat}{elt:Expr}{x:PySem.Str}{scope:Scope}{cl:List (PySem.Str×Addr)}{s:Shared}{S:List (Addr×Obj)->Prop}{P:Nat->Value->Prop}{Fin:List Value->List (Addr×Obj)->Prop}{news:List (Addr×Obj)}
  (hn:xs.length=n)(In Out:α->Value->Prop)(hP:∀ i v,i < n->P i v->∃ a,xs[i]? = some a/\In a v)
  (turn:∀ a v I oI C oC D m₂ ys h tk (E':Value->Shared->Prop),a∈xs->In a v->LCg.NsObj oC m₂->m₂ x=some v->Fr h₀ L h m->News h₀ L h ((I,oI)::(C,oC)::(D,LCg.lst ys)::news)->LCg.Off3 I C D news->((@Ne Nat I C)/\(@Ne Nat I D)/\(@Ne Nat C D)) ->
   wpAny (model prog w) A (eval elt (compEnvC scope cl C env)) (LCg.CompEnd h₀ L m { s with heap:=h,toks:=tk } I oI C oC D (LCg.lst ys) S (fun y news'=>news'=news/\Out a y)) E' { s with heap:=h,toks:=tk })
  (fin:∀ ys,All2 Out xs ys->Fin ys news):LCg.CompRest prog w A h₀ L m env elt x scope cl s S P Fin n 0 [] news:=by
 have snoc:∀ {as:List α}{vs:List Value}{a:α}{v:Value},All2 Out as vs->Out a v->All2 Out (as++[a]) (vs++[v]):=by
  intro as vs a v h
  induction h with
  | nil=>intro h;exact .cons h .nil
  | cons h1 _ ih=>intro h;exact .cons h1 (ih h)
 have key:∀ (j i:Nat)(ys:List Value),i + j=n->All2 Out (xs.take i) ys->LCg.CompRest prog w A h₀ L m env elt x scope cl s S P Fin j i ys news:=by
  intro j
  induction j with
  | zero=>
   intro i ys hi hy
   have e:i=xs.length:=by lia
   subst e
   rw [List.take_length] at hy
   exact LCg.CompRest.zero (fin ys hy)
  | succ j ih=>
   intro i ys hi hy
   refine LCg.CompRest.succ ?_
   intro v I oI C oC D m₂ h tk E' hv hC hx F N off ne
   obtain ⟨a,hk,hv'⟩:=hP i v (by lia) hv
   refine wpAny_mono (turn a v I oI C oC D m₂ ys h tk E' (List.mem_of_getElem? hk) hv' hC hx F N off ne) (fun y s₂ hq=>?_) fun _ _ e=>e
   obtain ⟨h',tk',nw,e,F',N',off',hS,hn,hy'⟩:=hq
   rw [hn] at N' off' hS
   refine ⟨h',tk',news,e,F',N',off',hS,?_⟩
   refine ih (i + 1) _ (by lia) ?_
   rw [List.take_add_one,hk]
   exact snoc hy hy'
 exact key n 0 [] (by lia) (by rw [List.take_zero];exact .nil)
noncomputable abbrev isSign (c:Nat)(v:Value):Prop:=∃ u,v = .str ⟨#[c]⟩ u
theorem sign_in (a:PySem.Str)(i:Nat)(v:Value)(h:SignAt a i v):∃ c,a.cps.toList[i]? = some c/\isSign c v:=by
 obtain ⟨c,u,h1,h2⟩:=h
 exact ⟨c,by simpa using h1,u,h2⟩
end
end Mine
end XS2
section XS3
open PySem PySem.W PyProof.Rows PySem.Calls
namespace Mine
noncomputable def tabD (tab:List (Nat×List Nat)):List (PyData×PyData):=tab.map fun p=>(PyData.str ⟨#[p.1]⟩,PyData.str ⟨p.2.toArray⟩)
noncomputable def IsTab (prog:Program)(w:World)(d:Addr)(o:Obj)(tab:List (Nat×List Nat)):Prop:=(d == sysModules)=false/\∃ kvs,o.IsDictOf (PySem.strKind prog w) kvs/\PyProof.V.FlatPairs PyData.str kvs (tabD tab)
theorem isTab_of {prog:Program}{w:World}{d:Addr}{o:Obj}{tab:List (Nat×List Nat)}{kvs:List (PySem.Str×Value)} (h1:(d == sysModules)=false) (h2:o.IsDictOf (PySem.strKind prog w) kvs) (h3:PyProof.V.FlatPairs PyData.str kvs (tabD tab)):IsTab prog w d o tab:=⟨h1,kvs,h2,h3⟩
theorem tabD_lookup (c:Nat):∀ tab:List (Nat×List Nat),(PySem.Spec.lookup (.str ⟨#[c]⟩) (tabD tab)).getD (.str ⟨#[c]⟩)=PyData.str ⟨(tabF tab c).toArray⟩
 | []=>rfl
 | p::r=>by
  have ih:=tabD_lookup c r
  have e:PySem.Spec.same (PyData.str ⟨#[p.1]⟩) (PyData.str ⟨#[c]⟩)=decide (p.1=c):=by
   rw [PyProof.V.same_str]
   by_cases h:p.1=c
   ·subst h;simp
   ·simp only [h,decide_false,decide_eq_false_iff_not];intro q;injection q with q;simp at q;exact h q
  show (PySem.Spec.lookup (.str ⟨#[c]⟩) ((PyData.str ⟨#[p.1]⟩,PyData.str ⟨p.2.toArray⟩)::tabD r)).getD _=_
  unfold tabF at ih ⊢
  rw [List.lookup_cons]
  by_cases h:p.1=c
  ·subst h
   simp [PySem.Spec.lookup,e]
  ·have h':(c == p.1)=false:=by simpa using (Ne.symm h)
   rw [h']
   simp [PySem.Spec.lookup,e,h] at ih ⊢
   exact ih
section
variable {prog:Program}{w:World}{A:Around}{E:Value->Shared->Prop}{s:Shared}{h₀:Heap}{L d:Addr}{m:PySem.Str->Option Value}{news:List (Addr×Obj)}{o:Obj}
theorem IsTab.tab {tab:List (Nat×List Nat)}(T:IsTab prog w d o tab)(N:News h₀ L s.heap news)(hm:(d,o)∈news):StrTab prog w s.heap d (tabD tab):=by
 obtain ⟨h1,kvs,h2,h3⟩:=T
 exact ⟨h1,kvs,Heap.dictOf_iff.mpr ⟨o,N.get hm,h2⟩,h3⟩
theorem tab_get {tab:List (Nat×List Nat)}{c:Nat}{t u:Tok}{Q:Value->Shared->Prop}(N:News h₀ L s.heap news)(hm:(d,o)∈news)(T:IsTab prog w d o tab)
  (h:∀ t',Q (.str ⟨(tabF tab c).toArray⟩ t') { s with toks:=s.toks + 1 }):wpAny (model prog w) A (call (.builtin "dict.get") [.ref d,.str ⟨#[c]⟩ t,.str ⟨#[c]⟩ u]) Q E s:=by
 refine call_get2_strTab (T.tab N hm) (.str _ _) fun v hv=>?_
 rw [tabD_lookup] at hv
 obtain ⟨t',rfl⟩:=PyProof.V.Flat.str_inv hv
 exact h t'
theorem tab_method {tab:List (Nat×List Nat)}{pl:Sem Bool}{Q:Value×List Value->Shared->Prop}(N:News h₀ L s.heap news)(hm:(d,o)∈news)(T:IsTab prog w d o tab)(h:Q (.builtin "dict.get",[.ref d]) s) :
  wpAny (model prog w) A (getMethod (.ref d) "get" pl) Q E s:=getMethod_strTab_get (T.tab N hm) h
theorem comp_tab {env:Env}{a:PySem.Str}{elt:Expr}{x:PySem.Str}{scope:Scope}{cl:List (PySem.Str×Addr)}{s:Shared}{S:List (Addr×Obj)->Prop}{Fin:List Value->List (Addr×Obj)->Prop}{news:List (Addr×Obj)}{tab:List (Nat×List Nat)}(_hT:IsTab prog w d o tab)
  (turn:∀ a' v I oI C oC D m₂ ys h tk (E':Value->Shared->Prop),a'∈a.cps.toList->isSign a' v->LCg.NsObj oC m₂->m₂ x=some v->Fr h₀ L h m->News h₀ L h ((I,oI)::(C,oC)::(D,LCg.lst ys)::news)->LCg.Off3 I C D news->((@Ne Nat I C)/\(@Ne Nat I D)/\(@Ne Nat C D)) ->
   wpAny (model prog w) A (eval elt (compEnvC scope cl C env)) (LCg.CompEnd h₀ L m { s with heap:=h,toks:=tk } I oI C oC D (LCg.lst ys) S (fun y news'=>news'=news/\∃ t,y = .str ⟨(tabF tab a').toArray⟩ t)) E' { s with heap:=h,toks:=tk })
  (fin:∀ ys,All2 (fun c y=>∃ t,y = .str ⟨(tabF tab c).toArray⟩ t) a.cps.toList ys->Fin ys news):LCg.CompRest prog w A h₀ L m env elt x scope cl s S (SignAt a) Fin a.cps.size 0 [] news:=
 comp_all (xs:=a.cps.toList) Array.length_toList isSign (fun c y=>∃ t,y = .str ⟨(tabF tab c).toArray⟩ t) (fun i v _ h=>sign_in _ i v h) turn fin
theorem join_empty (f:Nat->List Nat):∀ cs:List Nat,(Txt.join (PySem.Str.ofString "") (cs.map fun c=>⟨(f c).toArray⟩)).cps.toList=cs.flatMap f:=by
 intro cs
 unfold Txt.join
 rw [StrLaws.glued_eq_join]
 induction cs with
 | nil=>rfl
 | cons c r ih=>
  cases r with
  | nil=>simp [PySem.Str.join]
  | cons c' r'=>
   show ((⟨(f c).toArray⟩:PySem.Str)++PySem.Str.ofString "" ++ PySem.Str.join (PySem.Str.ofString "") (((c'::r').map fun c=>(⟨(f c).toArray⟩:PySem.Str)))).cps.toList=_
   simp only [PySem.Str.cps_append,Array.toList_append,List.flatMap_cons]
   rw [ih]
   have e:(PySem.Str.ofString "").cps.toList=[]:=by rfl
   rw [e]
   simp
theorem strs_of_all2 {f:Nat->List Nat}{cs:List Nat}{ys:List Value}(h:All2 (fun c y=>∃ t,y = .str ⟨(f c).toArray⟩ t) cs ys):StrsAre ys (cs.map fun c=>(⟨(f c).toArray⟩:PySem.Str)):=by
 induction h with
 | nil=>exact .nil
 | cons h _ ih=>obtain ⟨t,rfl⟩:=h;exact .cons _ _ ih
theorem sum_map_le {α:Type}(f:α->Nat)(n:Nat)(h:∀ a,f a<=n):∀ l:List α,(l.map f).sum<=n * l.length
 | []=>by simp
 | a::r=>by have:=sum_map_le f n h r;have:=h a;simp only [List.map_cons,List.sum_cons,List.length_cons,Nat.mul_succ];omega
theorem join_map {D:Addr}{ys:List Value}{cs:List Nat}{f:Nat->List Nat}{t:Tok}{Q:Value->Shared->Prop}(hl:s.heap.IsList D ys.toArray)(hy:All2 (fun c y=>∃ t,y = .str ⟨(f c).toArray⟩ t) cs ys)(hf:∀ c,(f c).length<=6)(hn:cs.length<=10000)
  (h:∀ t' k,Q (.str (mapS f ⟨cs.toArray⟩) t') { s with toks:=k }):wpAny (model prog w) A (call (.builtin "str.join") [.str (PySem.Str.ofString "") t,.ref D]) Q E s:=by
 have e:Txt.join (PySem.Str.ofString "") (cs.map fun c=>(⟨(f c).toArray⟩:PySem.Str))=mapS f ⟨cs.toArray⟩:=by
  apply PySem.Str.ext';apply Array.ext';rw [join_empty];unfold mapS;simp
 have hsum:((cs.map fun c=>(⟨(f c).toArray⟩:PySem.Str)).map (·.length)).sum<=6 * cs.length:=by
  rw [List.map_map]
  exact sum_map_le _ 6 (fun c=>by show (f c).toArray.size<=6;rw [List.size_toArray];exact hf c) cs
 refine join_listW (ys:=cs.map fun c=>(⟨(f c).toArray⟩:PySem.Str)) hl (strs_of_all2 hy) (by decide) (by rw [List.length_map];omega) ?_
 rw [e]
 exact h
end
end Mine
end XS3
section XD1
open PySem PySem.W PyProof.Rows PySem.Calls
namespace Mine
section
variable {prog:Program}{w:World}{A:Around}{s:Shared}{cenv:Env}{R:Result->Shared->Prop}
noncomputable def DcTurn (prog:Program)(w:World)(A:Around)(kx vx iter:Expr)(x:PySem.Str)(px:Pos)(scope:Scope)(pos:Pos)(it:Value)(Dd:Addr)(cenv:Env)(R:Result->Shared->Prop)(o:Option Value) (s1:Shared):Prop:=match o with
 | none=>R (.ok .next) s1
 | some v=>wpAny (model prog w) A (assign (.Name x px) cenv v) (fun _ s2=>wpAny (model prog w) A (eval kx cenv) (fun kv s3=>wpAny (model prog w) A (eval vx cenv) (fun vv s4=>wpAny (model prog w) A (dictSet Dd kv vv)
   (fun _ s5=>codeAny (model prog w) A (.compLoop (.DictComp kx vx [⟨.Name x px,iter,[],0⟩] scope pos) 0 it (.ref Dd) cenv) R s5) (fun _ _=>False) s4) (fun _ _=>False) s3) (fun _ _=>False) s2) (fun _ _=>False) s1
theorem dc_turn {kx vx iter:Expr}{x:PySem.Str}{px:Pos}{scope:Scope}{pos:Pos}{it:Value}{Dd:Addr}
  (h:wpAny (model prog w) A (pyNext it) (DcTurn prog w A kx vx iter x px scope pos it Dd cenv R) (fun _ _=>False) s) :
  codeAny (model prog w) A (.compLoop (.DictComp kx vx [⟨.Name x px,iter,[],0⟩] scope pos) 0 it (.ref Dd) cenv) R s:=by
 refine codeAny_of_tree ?_
 rw [Around.under_of_weight rfl]
 show wpAny _ _ ((compTurn (.DictComp kx vx [⟨.Name x px,iter,[],0⟩] scope pos) 0 it (.ref Dd) cenv).onRaise (fun x=>do noteFrame x cenv;theTreesLotGoes x)) _ _ s
 refine wpAny_noted ?_
 refine wpAny_mono (E:=fun _ _=>False) ?_ (fun _ _ q=>q) fun _ _ x=>x.elim
 unfold compTurn
 dsimp only
 refine wpAny_bind (wpAny_standAt ?_)
 refine wp_ifn ((show ¬ ((⟨.Name x px,iter,[],0⟩:Comprehension).is_async != 0)=true from by show ¬ (((0:Int) != 0)=true);decide)) ?_
 refine wpAny_bind (wpAny_mono h (fun o s1 h1=>?_) fun _ _ x=>x.elim)
 cases o with
 | none=>exact wpAny_pure h1
 | some v=>
  refine wpAny_bind (wpAny_pure ?_)
  refine wpAny_bind (wpAny_mono h1 (fun _ s2 h2=>?_) fun _ _ x=>x.elim)
  rw [List.forIn_nil]
  refine wpAny_bind (wpAny_pure ?_)
  refine wp_ifp (rfl) ?_
  refine wpAny_bind (wpAny_bind (wpAny_mono h2 (fun kv s3 h3=>?_) fun _ _ x=>x.elim))
  refine wpAny_bind (wpAny_holding (wpAny_mono h3 (fun vv s4 h4=>?_) fun _ _ x=>x.elim))
  refine wpAny_bind (wpAny_standAt (wpAny_holding (wpAny_mono h4 (fun _ s5 h5=>?_) fun _ _ x=>x.elim)))
  exact wpAny_pure ⟨rfl,h5⟩
variable {h₀:Heap}{L:Addr}{m:PySem.Str->Option Value}{K:Frag}
structure DcS (prog:Program)(w:World)(h₀:Heap)(L:Addr)(m:PySem.Str->Option Value)(I Cv Dd Dl:Addr)(items:Array Value)(i:Nat)(kvs:List (PySem.Str×Value))(led:List (Addr×Obj))(h:Heap):Prop where
 fr:Fr h₀ L h m
 nw:News h₀ L h led
 it:h.IsListIter I Dl i
 ls:h.IsList Dl items
 ns:∃ mc,h.Ns Cv mc
 dd:h.DictOf (strKind prog w) Dd kvs
structure DcA (h₀:Heap)(L I Cv Dd Dl:Addr)(led:List (Addr×Obj)):Prop where
 a1:I≠Cv
 a2:I≠Dd
 a3:Cv≠Dd
 b1:Dl≠I
 b2:Dl≠Cv
 b3:Dl≠Dd
 l1:I≠L
 l2:Cv≠L
 l3:Dd≠L
 g1:h₀.get? I=none
 g2:h₀.get? Cv=none
 g3:h₀.get? Dd=none
 n1:∀ q∈led,q.1≠I
 n2:∀ q∈led,q.1≠Cv
 n3:∀ q∈led,q.1≠Dd
theorem fr_same {h h':Heap}{a:Addr}(F:Fr h₀ L h m)(hs:Heap.SameBut a h h') (h1:a≠L) (h2:h₀.get? a=none):Fr h₀ L h' m:=
 ⟨F.ns.at' fun o e=>(hs.2 _ h1.symm).trans e,fun b o e=>(hs.2 b (fun q=>by rw [q,h2] at e;cases e)).trans (F.keep b o e),F.above⟩
theorem nw_same {h h':Heap}{a:Addr}{led:List (Addr×Obj)}(N:News h₀ L h led)(hs:Heap.SameBut a h h')(hn:∀ q∈led,q.1≠a):News h₀ L h' led:=
 fun q hq=>⟨(hs.2 _ (hn q hq)).trans (N q hq).1,(N q hq).2⟩
theorem ns_same {h h':Heap}{a c:Addr}(N:∃ mc,h.Ns c mc)(hs:Heap.SameBut a h h')(hn:c≠a):∃ mc,h'.Ns c mc:=let ⟨mc,n⟩:=N;⟨mc,n.sameBut hs hn⟩
theorem dd_same {h h':Heap}{a d:Addr}{kvs:List (PySem.Str×Value)}(D:h.DictOf (strKind prog w) d kvs)(hs:Heap.SameBut a h h')(hn:d≠a):h'.DictOf (strKind prog w) d kvs:=by
 obtain ⟨o,es,ep,ho,r⟩:=D
 exact ⟨o,es,ep,(hs.2 d hn).trans ho,r⟩
theorem stored_new {kvs:List (PySem.Str×Value)}{k:PySem.Str}{v:Value}(h:∀ p∈kvs,p.1≠k):stored kvs k v=kvs++[(k,v)]:=by
 unfold stored
 rw [if_neg]
 intro hc
 rw [List.any_eq_true] at hc
 obtain ⟨p,hp,he⟩:=hc
 exact h p hp (by simpa using he)
noncomputable abbrev tup3 (n:PySem.Str) (t t6:Tok):Obj:={ cls:=.type "tuple",data:=.seq #[.str n t,.str n t,.str (Str.ofString "") t6] }
end
noncomputable def dc_step.P0 (prog:Program)(w:World)(s:Shared)(cenv:Env)(h₀:Heap)(L I Dd Dl:Addr)(items:Array Value)(i:Nat)(kvs:List (PySem.Str×Value))(led:List (Addr×Obj))(n:PySem.Str)(t:Tok)(oc:Obj)(A:Around)(R:Result->Shared->Prop)(m:PySem.Str->Option Value)(K:Frag)(q xs c:Addr)(x f:PySem.Str)(iter:Expr) (px p1 p2 p3 p4:Pos)(scope:Scope)(pos:Pos)(g:Addr)(eL:Nat) (os0:OsState):Prop:=∀ {Cv:Addr}(S:DcS prog w h₀ L m I Cv Dd Dl items i kvs led s.heap)(D:DcA h₀ L I Cv Dd Dl led)(hx:items[i]? = some (.str n t))(hnew:∀ p∈kvs,p.1≠n)(hsz:kvs.length<=100)(X₀:K.In h₀)(hG:AllBare s.gens)(hos:s.os=os0)(hlo:cenv.locals=Cv)(hkf:cenv.scope.kind = .function)(kx:cenv.kindOf x=some .local)(kf:cenv.kindOf f=some .cell)(kc:cenv.cells.lookup f=some c)(nx:(x == ("__debug__" : PySem.Str))=false)(nf:(f == ("__debug__" : PySem.Str))=false)(iL:(Dl,listOf items eL)∈led)(iC:(c,oc)∈led)(hoc:oc.data = .cell (some (.ref q)))(iq:(q,methodObj (.ref g) (.ref xs))∈led)(hfn:fnIn K g=true)(elem:∀ (s1:Shared) led1,AllBare s1.gens->(∀ p∈led,p∈led1)->Fr h₀ L s1.heap m->News h₀ L s1.heap led1 ->
   codeAny (model prog w) A (.call (.ref g) ⟨[.ref xs,.str n t],[]⟩) (fun r s2=>∃ Rr t6,r = .ok (.ret (.ref Rr))/\s2.os=s1.os/\AllBare s2.gens/\Fr h₀ L s2.heap m/\News h₀ L s2.heap ((Rr,tup3 n t t6)::led1)/\AllLt Rr led1) s1)(cont:∀ (s':Shared) Rr t6,AllBare s'.gens->s'.os=os0->DcS prog w h₀ L m I Cv Dd Dl items (i + 1) (kvs++[(n,.ref Rr)]) ((Rr,tup3 n t t6)::led) s'.heap->DcA h₀ L I Cv Dd Dl ((Rr,tup3 n t t6)::led)->AllLt Rr led->@LT.lt Nat _ Dd Rr ->
   codeAny (model prog w) A (.compLoop (.DictComp (.Name x p1) (.Call (.Name f p2) [.Name x p3] [] p4) [⟨.Name x px,iter,[],0⟩] scope pos) 0 (.ref I) (.ref Dd) cenv) R s'),codeAny (model prog w) A (.compLoop (.DictComp (.Name x p1) (.Call (.Name f p2) [.Name x p3] [] p4) [⟨.Name x px,iter,[],0⟩] scope pos) 0 (.ref I) (.ref Dd) cenv) R s
namespace dc_step
noncomputable def R0:=(s4 <| s4 <| s4 <| s4 <| s4 <| s4 <| s4 <| s4 <| st <| st <| st <| id) P0
@[irreducible] noncomputable def z0:=zy R0 (by k_extra "N")
@[irreducible] noncomputable def prog:=f1 z0
@[irreducible] noncomputable def w:=f1 (f2 z0)
@[irreducible] noncomputable def s:=f1 (f2 (f2 z0))
@[irreducible] noncomputable def cenv:=f1 (f2 (f2 (f2 z0)))
@[irreducible] noncomputable def h₀:=f1 (f2 (f2 (f2 (f2 z0))))
@[irreducible] noncomputable def L:=f1 (f2 (f2 (f2 (f2 (f2 z0)))))
@[irreducible] noncomputable def I:=f1 (f2 (f2 (f2 (f2 (f2 (f2 z0))))))
@[irreducible] noncomputable def Dd:=f1 (f2 (f2 (f2 (f2 (f2 (f2 (f2 z0)))))))
@[irreducible] noncomputable def Dl:=f1 (f2 (f2 (f2 (f2 (f2 (f2 (f2 (f2 z0))))))))
@[irreducible] noncomputable def items:=f1 (f2 (f2 (f2 (f2 (f2 (f2 (f2 (f2 (f2 z0)))))))))
@[irreducible] noncomputable def i:=f1 (f2 (f2 (f2 (f2 (f2 (f2 (f2 (f2 (f2 (f2 z0))))))))))
@[irreducible] noncomputable def kvs:=f1 (f2 (f2 (f2 (f2 (f2 (f2 (f2 (f2 (f2 (f2 (f2 z0)))))))))))
@[irreducible] noncomputable def led:=f1 (f2 (f2 (f2 (f2 (f2 (f2 (f2 (f2 (f2 (f2 (f2 (f2 z0))))))))))))
@[irreducible] noncomputable def n:=f1 (f2 (f2 (f2 (f2 (f2 (f2 (f2 (f2 (f2 (f2 (f2 (f2 (f2 z0)))))))))))))
@[irreducible] noncomputable def t:=f1 (f2 (f2 (f2 (f2 (f2 (f2 (f2 (f2 (f2 (f2 (f2 (f2 (f2 (f2 z0))))))))))))))
@[irreducible] noncomputable def oc:=f1 (f2 (f2 (f2 (f2 (f2 (f2 (f2 (f2 (f2 (f2 (f2 (f2 (f2 (f2 (f2 z0)))))))))))))))
@[irreducible] noncomputable def z1:=f2 (f2 (f2 (f2 (f2 (f2 (f2 (f2 (f2 (f2 (f2 (f2 (f2 (f2 (f2 (f2 z0)))))))))))))))
theorem T0:(s4 <| s4 <| s4 <| s4 <| st <| st <| st <| id) (P0 prog w s cenv h₀ L I Dd Dl items i kvs led n t oc) z1:=by
 intro Cv S D hx hnew hsz X₀ hG hos hlo hkf kx kf kc nx nf iL iC hoc iq hfn elem cont
 subst hlo
 refine dc_turn ?_
 refine wpAny_pyNext_list_item S.it S.ls hx fun h1 it1 sb1=>?_
 obtain ⟨mc1,ns1⟩:=ns_same S.ns sb1 D.a1.symm
 refine wpAny_assign_Name (wpAny_storeName_local kx ns1 (fun h2 ns2 sb2=>?_) (by rw [hkf];rfl))
 refine wpAny_Name (wpAny_loadName_local hkf kx ns2 (if_pos rfl) ?_) nx
 have F2:=fr_same (fr_same S.fr sb1 D.l1 D.g1) sb2 D.l2 D.g2
 have N2:=nw_same (nw_same S.nw sb1 D.n1) sb2 D.n2
 have it2:h2.IsListIter I Dl (i + 1):=it1.extBut sb2.extBut D.a1
 have ls2:h2.IsList Dl items:=(S.ls.extBut sb1.extBut D.b1).extBut sb2.extBut D.b2
 have dd2:=dd_same (dd_same S.dd sb1 D.a2.symm) sb2 D.a3.symm
 refine Call_ (wpAny_Name (wpAny_loadName_cell hkf kf kc ⟨oc,N2.get iC,hoc⟩ ?_) nf)
 refine callWith_M X₀ N2 iq hfn (args_cons (wpAny_Name (wpAny_loadName_local hkf kx ns2 (if_pos rfl) (args_nil ?_)) nx))
 obtain ⟨oI,gI,cI,dI⟩:=id it2
 obtain ⟨oC,esC,epC,gC,rC⟩:=id ns2
 obtain ⟨oD,esD,epD,gD,rD⟩:=id dd2
 have N3:News h₀ L h2 ((I,oI)::(cenv.locals,oC)::(Dd,oD)::led):=by
  intro p hp
  rcases List.mem_cons.mp hp with rfl | hp
  ·exact ⟨gI,D.l1,D.g1⟩
  ·rcases List.mem_cons.mp hp with rfl | hp
   ·exact ⟨gC,D.l2,D.g2⟩
   ·rcases List.mem_cons.mp hp with rfl | hp
    ·exact ⟨gD,D.l3,D.g3⟩
    ·exact N2 p hp
 refine ⟨methP N2 iq (X₀.keeps F2.keep),call_meth (s:={ s with heap:=h2,toks:=_ }) N2 iq ?_⟩
 refine codeAny_mono (elem { s with heap:=h2,toks:=_ } _ hG (fun p hp=>List.mem_cons_of_mem _ (List.mem_cons_of_mem _ (List.mem_cons_of_mem _ hp))) F2 N3) fun r s3 hr=>?_
 obtain ⟨Rr,t6,rfl,ho3,hG3,F3,N3',lt3⟩:=hr
 obtain ⟨jI,jC,jD,lt3⟩:=lt3
 have gI3:=(N3' (I,oI) (.tail _ (.head _))).1
 have gC3:=(N3' (cenv.locals,oC) (.tail _ (.tail _ (.head _)))).1
 have gD3:=(N3' (Dd,oD) (.tail _ (.tail _ (.tail _ (.head _))))).1
 refine wpAny_dictSet_pairs (knd:=strKind prog w) (kvs:=kvs) (strKind_is _ _ _ _) ⟨oD,esD,epD,gD3,rD⟩ (fun h4 dd4 sb4=>?_) (by rw [sizeLine_eq];omega)
 rw [stored_new hnew] at dd4
 have nR1:I≠Rr:=Nat.ne_of_lt jI
 have nR2:cenv.locals≠Rr:=Nat.ne_of_lt jC
 have nR3:Dd≠Rr:=Nat.ne_of_lt jD
 have Dn:DcA h₀ L I cenv.locals Dd Dl ((Rr,tup3 n t t6)::led):={ D with
  n1:=fun p hp=>by rcases List.mem_cons.mp hp with rfl | hp;exact nR1.symm;exact D.n1 p hp
  n2:=fun p hp=>by rcases List.mem_cons.mp hp with rfl | hp;exact nR2.symm;exact D.n2 p hp
  n3:=fun p hp=>by rcases List.mem_cons.mp hp with rfl | hp;exact nR3.symm;exact D.n3 p hp }
 have ls3:s3.heap.IsList Dl items:=N3'.isList (.tail _ (.tail _ (.tail _ (.tail _ iL))))
 refine cont { s3 with heap:=h4,toks:=_ } Rr t6 hG3 (ho3.trans hos) ⟨fr_same F3 sb4 D.l3 D.g3,nw_same (fun p hp=>?_) sb4 Dn.n3,?_,ls3.extBut sb4.extBut D.b3,ns_same ⟨_,oC,esC,epC,gC3,rC⟩ sb4 D.a3,dd4⟩ Dn lt3 jD
 ·rcases List.mem_cons.mp hp with rfl | hp
  ·exact N3' _ (.head _)
  ·exact N3' p (.tail _ (.tail _ (.tail _ (.tail _ hp))))
 ·exact Heap.IsListIter.extBut (h:=s3.heap) ⟨oI,gI3,cI,dI⟩ sb4.extBut D.a2
end dc_step
theorem dc_step {prog w s cenv h₀ L I Dd Dl items i kvs led n t oc A R m K q xs c x f iter px p1 p2 p3 p4 scope pos g eL os0}:dc_step.P0 prog w s cenv h₀ L I Dd Dl items i kvs led n t oc A R m K q xs c x f iter px p1 p2 p3 p4 scope pos g eL os0:=by with_unfolding_all exact zy_all _ dc_step.R0 dc_step.T0 (prog,w,s,cenv,h₀,L,I,Dd,Dl,items,i,kvs,led,n,t,oc,A,R,m,K,q,xs,c,x,f,iter,px,p1,p2,p3,p4,scope,pos,g,eL,os0)
section
variable {prog:Program}{w:World}{A:Around}{s:Shared}{cenv:Env}{R:Result->Shared->Prop}
variable {h₀:Heap}{L:Addr}{m:PySem.Str->Option Value}{K:Frag}
end
end Mine
end XD1
section XD2
open PySem PySem.W PyProof.Rows PySem.Calls
namespace Mine
section
variable {prog:Program}{w:World}{A:Around}{E:Value->Shared->Prop}{s:Shared}{env:Env}{h₀:Heap}{L:Addr}{m:PySem.Str->Option Value}{K:Frag}{news:List (Addr×Obj)}
noncomputable abbrev dcE (x f:PySem.Str) (p1 p2 p3 p4 px:Pos)(iter:Expr)(scope:Scope)(pos:Pos):Expr:=.DictComp (.Name x p1) (.Call (.Name f p2) [.Name x p3] [] p4) [⟨.Name x px,iter,[],0⟩] scope pos
theorem dict_comp {x f y:PySem.Str} {p1 p2 p3 p4 px py pos spos:Pos}{iter:Expr}{scope:Scope}{cl:List (PySem.Str×Addr)}{Q:Flow->Shared->Prop}
  (hsw:swapsWith (dcE x f p1 p2 p3 p4 px iter scope pos) (some (.Name y py)) spos.line env=pure true)(hs:∀ x,foldedSetIterable iter env x=pure x)(hclos:closureFor scope env=pure cl)
  (hkind:scope.kind = .function)(hnames:∀ z∈scope.names,z.2 = .local->scope.names.lookup z.1=some .local)
  (h:wpAny (model prog w) A (eval iter env) (fun v s₁=>wpAny (model prog w) A (pyIter v) (fun it s₂=>wpAny (model prog w) A newDict (fun acc s₃=>
   wpAny (model prog w) A (newFunctionEnv scope env.globals cl [] env.qual none .none (some env)) (fun cenv s₄=>
    codeAny (model prog w) A (.compStart (dcE x f p1 p2 p3 p4 px iter scope pos) 0 it acc { cenv with scope:=relabel scope env }) (compPost (model prog w) A E (some (assign (.Name y py) env)) (fun _ s'=>Q .next s') acc cenv.locals) s₄) E s₃) E s₂) E s₁) E s) :
  wpAny (model prog w) A (exec (.Assign [.Name y py] (dcE x f p1 p2 p3 p4 px iter scope pos) spos) env) Q E s:=by
 rw [exec_Assign_Name_used _ _ _ _ hsw]
 refine wpAny_bind (wpAny_standAt (wpAny_bind ?_))
 show wpAny _ A (do let _ <- comprehension (dcE x f p1 p2 p3 p4 px iter scope pos) scope env _ newDict false (eval iter env) (some (assign (.Name y py) env))) _ _ s
 exact wpAny_bind (wpAny_mono (wpAny_comprehension_free (use:=some (assign (.Name y py) env)) (Q:=fun _ s'=>Q .next s') rfl hs hclos hkind hnames h) (fun _ s' hq=>wpAny_pure (wpAny_pure hq)) fun _ _ e=>e)
theorem ofDict_nil {h:Heap}{d:Addr}(ho:h.get? d=some { cls:=.type "dict",data:=.dict #[] }):h.DictOf (strKind prog w) d []:=
 ⟨_,#[],0,ho,⟨rfl,rfl,rfl⟩,rfl,fun e he=>by simp at he,.nil,.nil⟩
theorem dict_open {x f y:PySem.Str} {p1 p2 p3 p4 px py pos:Pos}{iter:Expr}{scope:Scope}{cl:List (PySem.Str×Addr)}{Q:Flow->Shared->Prop}{Dl:Addr}{items:Array Value}{eL:Nat}
  (hLe:env.locals=L)(hh:A.handled=none)(F:Fr h₀ L s.heap m)(N:News h₀ L s.heap news)(iL:(Dl,listOf items eL)∈news)
  (hcell:∀ z∈scope.names,z.2≠.cell)(hkind:scope.kind = .function)
  (h:∀ I Cv Dd (s4:Shared),s4.os=s.os->s4.gens=s.gens->DcS prog w h₀ L m I Cv Dd Dl items 0 [] news s4.heap->DcA h₀ L I Cv Dd Dl news->AllLt Dd news ->
   codeAny (model prog w) A (.compLoop (dcE x f p1 p2 p3 p4 px iter scope pos) 0 (.ref I) (.ref Dd) (compEnvC scope cl Cv env)) (compPost (model prog w) A E (some (assign (.Name y py) env)) (fun _ s'=>Q .next s') (.ref Dd) Cv) s4) :
  wpAny (model prog w) A (pyIter (.ref Dl)) (fun it s₂=>wpAny (model prog w) A newDict (fun acc s₃=>
   wpAny (model prog w) A (newFunctionEnv scope env.globals cl [] env.qual none .none (some env)) (fun cenv s₄=>
    codeAny (model prog w) A (.compStart (dcE x f p1 p2 p3 p4 px iter scope pos) 0 it acc { cenv with scope:=relabel scope env }) (compPost (model prog w) A E (some (assign (.Name y py) env)) (fun _ s'=>Q .next s') acc cenv.locals) s₄) E s₃) E s₂) E s:=by
 subst hLe
 have hlt:env.locals < s.heap.objs.size:=F.ns.lt
 have hDl:=N _ iL
 have ls0:s.heap.IsList Dl items:=N.isList iL
 have lDl:Dl < s.heap.objs.size:=Heap.lt_size hDl.1
 refine wpAny_pyIter_list ls0 ?_
 unfold newDict
 refine wpAny_newObj_type ?_
 refine wpAny_newFunctionEnv hcell (fun _ hx=>nomatch hx) (fun h' hns hsb=>?_) hkind
 have sz1:(s.heap.push { cls:=.type "list_iterator",data:=.fields #[.ref Dl,.int 0 0] }).objs.size=s.heap.objs.size + 1:=Heap.size_push ..
 have sz2:((s.heap.push { cls:=.type "list_iterator",data:=.fields #[.ref Dl,.int 0 0] }).push { cls:=.type "dict",data:=.dict #[] }).objs.size=s.heap.objs.size + 1 + 1:=by rw [Heap.size_push,sz1]
 have keep:∀ b o,s.heap.get? b=some o->h'.get? b=some o:=fun b o e=>by
  have hb:=Heap.lt_size e
  refine (hsb.2 b ?_).trans (Heap.get?_push_of_some _ (Heap.get?_push_of_some _ (Heap.get?_push_of_some _ e)))
  show b≠((s.heap.push _).push _).objs.size
  rw [sz2]
  exact Nat.ne_of_lt (Nat.lt_succ_of_lt (Nat.lt_succ_of_lt hb))
 have gI:h'.get? s.heap.objs.size=some { cls:=.type "list_iterator",data:=.fields #[.ref Dl,.int 0 0] }:=by
  refine (hsb.2 _ ?_).trans (Heap.get?_push_of_some _ (Heap.get?_push_of_some _ (Heap.get?_push_size _ rfl)))
  show s.heap.objs.size≠((s.heap.push _).push _).objs.size
  rw [sz2]
  exact Nat.ne_of_lt (Nat.lt_succ_of_lt (Nat.lt_succ_self _))
 have gD:h'.get? (s.heap.objs.size + 1)=some { cls:=.type "dict",data:=.dict #[] }:=by
  refine (hsb.2 _ ?_).trans (Heap.get?_push_of_some _ ?_)
  ·show s.heap.objs.size + 1≠((s.heap.push _).push _).objs.size
   rw [sz2]
   exact Nat.ne_of_lt (Nat.lt_succ_self _)
  ·have e:((s.heap.push { cls:=.type "list_iterator",data:=.fields #[.ref Dl,.int 0 0] }).push { cls:=.type "dict",data:=.dict #[] }).get? (s.heap.push { cls:=.type "list_iterator",data:=.fields #[.ref Dl,.int 0 0] }).objs.size=some { cls:=.type "dict",data:=.dict #[] }:=Heap.get?_push_size _ rfl
   rw [sz1] at e
   exact e
 have hle:∀ k,@LE.le Nat _ s.heap.objs.size k->h₀.get? k=none:=fun k hk=>Heap.get?_none_of_le (Nat.le_trans F.above (Nat.le_trans (Nat.le_of_lt hlt) hk))
 have hne:∀ q∈news,∀ k,@LE.le Nat _ s.heap.objs.size k->q.1≠k:=fun q hq k hk=>Nat.ne_of_lt (Nat.lt_of_lt_of_le (Heap.lt_size (N q hq).1) hk)
 have q1:s.heap.objs.size<=s.heap.objs.size + 1:=Nat.le_succ _
 have q2:s.heap.objs.size<=s.heap.objs.size + 1 + 1:=Nat.le_succ_of_le (Nat.le_succ _)
 have S4:DcS prog w h₀ env.locals m s.heap.objs.size (s.heap.objs.size + 1 + 1) (s.heap.objs.size + 1) Dl items 0 [] news h':=by
  refine ⟨F.keeps keep,fun q hq=>⟨keep _ _ (N q hq).1,(N q hq).2⟩,⟨_,gI,rfl,rfl⟩,⟨_,keep _ _ hDl.1,rfl,_,rfl⟩,⟨fun x=>([]:List (PySem.Str×Value)).reverse.lookup x,?_⟩,ofDict_nil gD⟩
  have hns':h'.Ns ((s.heap.push { cls:=.type "list_iterator",data:=.fields #[.ref Dl,.int 0 0] }).push { cls:=.type "dict",data:=.dict #[] }).objs.size (fun x=>([]:List (PySem.Str×Value)).reverse.lookup x):=hns
  rw [sz2] at hns'
  exact hns'
 have D4:DcA h₀ env.locals s.heap.objs.size (s.heap.objs.size + 1 + 1) (s.heap.objs.size + 1) Dl news:=
  ⟨Nat.ne_of_lt (Nat.lt_succ_of_lt (Nat.lt_succ_self _)),Nat.ne_of_lt (Nat.lt_succ_self _),Nat.ne_of_gt (Nat.lt_succ_self _),Nat.ne_of_lt lDl,Nat.ne_of_lt (Nat.lt_of_lt_of_le lDl q2),Nat.ne_of_lt (Nat.lt_of_lt_of_le lDl q1),
   Nat.ne_of_gt hlt,Nat.ne_of_gt (Nat.lt_of_lt_of_le hlt q2),Nat.ne_of_gt (Nat.lt_of_lt_of_le hlt q1),hle _ (Nat.le_refl _),hle _ q2,hle _ q1,fun q hq=>hne q hq _ (Nat.le_refl _),fun q hq=>hne q hq _ q2,fun q hq=>hne q hq _ q1⟩
 have go:=h s.heap.objs.size (s.heap.objs.size + 1 + 1) (s.heap.objs.size + 1) { s with heap:=h',toks:=s.toks + ([]:List (PySem.Str×Value)).length } rfl rfl S4 D4 (allLt_of fun q hq=>Nat.lt_succ_of_lt (Heap.lt_size (N q hq).1))
 show codeAny (model prog w) A (.compStart (dcE x f p1 p2 p3 p4 px iter scope pos) 0 (.ref s.heap.objs.size) (.ref (s.heap.push _).objs.size) { newEnv scope ((s.heap.push _).push _).objs.size env.globals cl env.qual none .none (some env) builtinsNs with scope:=relabel scope env }) (compPost (model prog w) A E (some (assign (.Name y py) env)) (fun _ s'=>Q .next s') (.ref (s.heap.push _).objs.size) ((s.heap.push _).push _).objs.size) _
 rw [sz2,sz1]
 refine codeAny_compStart_dict go ?_
 exact (Walks.list (prog:=prog) (w:=w) hh s.heap.objs.size Dl (Nat.ne_of_lt lDl) items).self 0 _ _ _ ⟨S4.it,S4.ls⟩ go
theorem dict_close {y:PySem.Str}{py:Pos}{Q:Flow->Shared->Prop}{I Cv Dd Dl:Addr}{items:Array Value}{i:Nat}{kvs:List (PySem.Str×Value)}{led:List (Addr×Obj)}{x f:PySem.Str} {p1 p2 p3 p4 px pos:Pos}{iter:Expr}{scope:Scope}{cenv:Env}
  (hLe:env.locals=L)(hh:A.handled=none)(S:DcS prog w h₀ L m I Cv Dd Dl items i kvs led s.heap)(D:DcA h₀ L I Cv Dd Dl led)(hx:items[i]? = none)(hk:env.scope.kind = .function)(ky:env.kindOf y=some .local)
  (h:∀ (s5:Shared) oD,s5.os=s.os->s5.gens=s.gens->Fr h₀ L s5.heap (fun z=>if z=y then some (.ref Dd) else m z)->News h₀ L s5.heap ((Dd,oD)::led)->oD.IsDictOf (strKind prog w) kvs->Q .next s5) :
  codeAny (model prog w) A (.compLoop (dcE x f p1 p2 p3 p4 px iter scope pos) 0 (.ref I) (.ref Dd) cenv) (compPost (model prog w) A E (some (assign (.Name y py) env)) (fun _ s'=>Q .next s') (.ref Dd) Cv) s:=by
 subst hLe
 refine dc_turn ?_
 refine wpAny_pyNext_list_end hh S.it S.ls hx fun h1 eb1=>?_
 show wpAny _ _ (assign (.Name y py) env (.ref Dd)) _ _ _
 have F1:Fr h₀ env.locals h1 m:=⟨S.fr.ns.at' fun o e=>eb1 _ _ D.l1.symm e,fun b o e=>eb1 b o (fun q=>by rw [q,D.g1] at e;cases e) (S.fr.keep b o e),S.fr.above⟩
 have N1:News h₀ env.locals h1 led:=fun q hq=>⟨eb1 _ _ (D.n1 q hq) (S.nw q hq).1,(S.nw q hq).2⟩
 obtain ⟨mc,ns0⟩:=S.ns
 have ns1:h1.Ns Cv mc:=ns0.at' fun o e=>eb1 _ _ D.a1.symm e
 obtain ⟨oD,es,ep,hoD,rD⟩:=S.dd
 have hD1:=eb1 _ _ D.a2.symm hoD
 refine wpAny_assign_Name (wpAny_storeName_local ky F1.ns (fun h2 ns2 sb2=>?_) (by rw [hk];rfl))
 have F2:=F1.set ns2 sb2
 refine ⟨mc,ns1.sameBut sb2 D.l2,fun h3 sb3=>?_⟩
 have F3:=fr_same F2 sb3 D.l2 D.g2
 have N2:News h₀ env.locals h2 led:=fun q hq=>⟨(sb2.2 _ (N1 q hq).2.1).trans (N1 q hq).1,(N1 q hq).2⟩
 have N3:=nw_same N2 sb3 D.n2
 refine h _ oD rfl rfl F3 (fun q hq=>?_) ⟨es,ep,rD⟩
 rcases List.mem_cons.mp hq with rfl | hq
 ·exact ⟨(sb3.2 _ D.a3.symm).trans ((sb2.2 _ D.l3).trans hD1),D.l3,D.g3⟩
 ·exact N3 q hq
end
end Mine
end XD2
section XL3
open PySem PySem.W PyProof.Rows PySem.Calls
namespace Mine
section
variable {prog:Program}{w:World}{A:Around}{s:Shared}{cenv env:Env}{R:Result->Shared->Prop}{E:Value->Shared->Prop}
noncomputable abbrev lcE (elt target iter:Expr)(scope:Scope)(pos:Pos):Expr:=.ListComp elt [⟨target,iter,[],0⟩] scope pos
noncomputable def LcTurn (prog:Program)(w:World)(A:Around)(elt target iter:Expr)(scope:Scope)(pos:Pos)(it acc:Value)(cenv:Env)(R:Result->Shared->Prop)(o:Option Value) (s1:Shared):Prop:=match o with
 | none=>R (.ok .next) s1
 | some v=>wpAny (model prog w) A (letOwnedTupleGo target it v) (fun _ s2=>wpAny (model prog w) A (assign target cenv v) (fun _ s3=>wpAny (model prog w) A (eval elt cenv) (fun ev s4=>wpAny (model prog w) A (call (.builtin "list.append") [acc,ev])
   (fun _ s5=>codeAny (model prog w) A (.compLoop (lcE elt target iter scope pos) 0 it acc cenv) R s5) (fun _ _=>False) s4) (fun _ _=>False) s3) (fun _ _=>False) s2) (fun _ _=>False) s1
theorem lc_turn {elt target iter:Expr}{scope:Scope}{pos:Pos}{it acc:Value}(h:wpAny (model prog w) A (pyNext it) (LcTurn prog w A elt target iter scope pos it acc cenv R) (fun _ _=>False) s) :
  codeAny (model prog w) A (.compLoop (lcE elt target iter scope pos) 0 it acc cenv) R s:=by
 refine codeAny_of_tree ?_
 rw [Around.under_of_weight rfl]
 show wpAny _ _ ((compTurn (lcE elt target iter scope pos) 0 it acc cenv).onRaise (fun x=>do noteFrame x cenv;theTreesLotGoes x)) _ _ s
 refine wpAny_noted ?_
 refine wpAny_mono (E:=fun _ _=>False) ?_ (fun _ _ q=>q) fun _ _ x=>x.elim
 unfold compTurn
 dsimp only
 refine wpAny_bind (wpAny_standAt ?_)
 refine wp_ifn ((show ¬ ((⟨target,iter,[],0⟩:Comprehension).is_async != 0)=true from by show ¬ (((0:Int) != 0)=true);decide)) ?_
 refine wpAny_bind (wpAny_mono h (fun o s1 h1=>?_) fun _ _ x=>x.elim)
 cases o with
 | none=>exact wpAny_pure h1
 | some v=>
  refine wpAny_bind (wpAny_mono h1 (fun _ s2 h2=>?_) fun _ _ x=>x.elim)
  refine wpAny_bind (wpAny_mono h2 (fun _ s3 h3=>?_) fun _ _ x=>x.elim)
  rw [List.forIn_nil]
  refine wpAny_bind (wpAny_pure ?_)
  refine wp_ifp (rfl) ?_
  refine wpAny_bind (wpAny_bind (wpAny_mono h3 (fun ev s4 h4=>?_) fun _ _ x=>x.elim))
  refine wpAny_bind (wpAny_mono h4 (fun _ s5 h5=>?_) fun _ _ x=>x.elim)
  exact wpAny_pure (wpAny_pure ⟨rfl,h5⟩)
variable {h₀:Heap}{L:Addr}{m:PySem.Str->Option Value}{K:Frag}{news:List (Addr×Obj)}
structure LcS (h₀:Heap)(L:Addr)(m:PySem.Str->Option Value)(I Cv X B:Addr)(items:Array Value)(i:Nat)(acc:List Value)(led:List (Addr×Obj))(h:Heap):Prop where
 fr:Fr h₀ L h m
 nw:News h₀ L h led
 it:h.IsListIter I B i
 ls:h.IsList B items
 ns:∃ mc,h.Ns Cv mc
 ac:∃ c,h.get? X=some (listOf acc.toArray c)
noncomputable def attrS (k e:PySem.Str):PySem.Str:=Str.empty++Str.ofString " " ++ k++Str.ofString "=\"" ++ e++Str.ofString "\""
noncomputable abbrev attrE (kn vn fn:PySem.Str) (a1 a2 a3 a4 a5 a6 a7 a8 a9 a10:Pos) (n1 n2 n3:Nat):Expr:=
 .JoinedStr [.Constant (.str (Str.ofString " ")) n1 a1,.FormattedValue (.Name kn a2) (-1) none a3,.Constant (.str (Str.ofString "=\"")) n2 a4,.FormattedValue (.Call (.Name fn a5) [.Name vn a6] [] a7) (-1) none a8,.Constant (.str (Str.ofString "\"")) n3 a9] a10
noncomputable def EscCall (prog:Program)(w:World)(A:Around)(h₀:Heap)(L:Addr)(m:PySem.Str->Option Value)(f:Addr)(v e:PySem.Str):Prop:=
 ∀ (s:Shared)(led:List (Addr×Obj))(tv:Tok)(Q:Value->Shared->Prop),Fr h₀ L s.heap m->News h₀ L s.heap led->(∀ t h' tk',Fr h₀ L h' m->News h₀ L h' led->Q (.str e t) { s with heap:=h',toks:=tk' })->wpAny (model prog w) A (call (.ref f) [.str v tv]) Q (fun _ _=>False) s
end
noncomputable def lc_step.P0 (s:Shared)(cenv:Env)(h₀:Heap)(L:Addr)(m:PySem.Str->Option Value)(news:List (Addr×Obj))(I X:Addr)(acc:List Value)(kk e:PySem.Str) (tv1:Tok)(prog:Program)(w:World)(A:Around)(R:Result->Shared->Prop)(K:Frag)(B T f:Addr)(items:Array Value)(i nT eB:Nat)(v:PySem.Str) (tk1:Tok)(kn vn fn:PySem.Str) (a1 a2 a3 a4 a5 a6 a7 a8 a9 a10 pk pv pT pos:Pos) (n1 n2 n3:Nat)(iter:Expr)(scope:Scope)(kT:Nat)(p:Program)(loose:List PySem.Str)(mean:ExcName->Option Value)(mg mb:PySem.Str->Option Value):Prop:=∀ {Cv:Addr}(S:LcS h₀ L m I Cv X B items i acc news s.heap)(D:DcA h₀ L I Cv X B news)(hh:A.handled=none)(hx:items[i]? = some (.ref T))(iT:(T,{ cls:=.type "tuple",data:=.seq #[.str kk tk1,.str v tv1] nT })∈news)(iB:(B,listOf items eB)∈news)(X₀:K.In h₀)(TT:Top p loose mean mg mb h₀)(eK:nsIn K mainGlobals fn=some (some (.ref f)))(hkeep:keepIn K (.ref f)=true)(hlo:cenv.locals=Cv)(hgl:cenv.globals=mainGlobals)(hkf:cenv.scope.kind = .function)(ck:cenv.kindOf kn=some .local)(cv:cenv.kindOf vn=some .local)(cf:cenv.kindOf fn=some .globalImplicit)(hkv:kn≠vn)(nk:(kn == ("__debug__" : PySem.Str))=false)(nv:(vn == ("__debug__" : PySem.Str))=false)(nf:(fn == ("__debug__" : PySem.Str))=false) (hz1:kk.length<=100) (hz2:e.length<=100000)(hacc:acc.length<=100)(hesc:EscCall prog w A h₀ L m f v e)(cont:∀ h' tk t,LcS h₀ L m I Cv X B items (i + 1) (acc++[.str (attrS kk e) t]) news h' ->
   codeAny (model prog w) A (.compLoop (lcE (attrE kn vn fn a1 a2 a3 a4 a5 a6 a7 a8 a9 a10 n1 n2 n3) (.Tuple [.Name kn pk,.Name vn pv] kT pT) iter scope pos) 0 (.ref I) (.ref X) cenv) R { s with heap:=h',toks:=tk }),codeAny (model prog w) A (.compLoop (lcE (attrE kn vn fn a1 a2 a3 a4 a5 a6 a7 a8 a9 a10 n1 n2 n3) (.Tuple [.Name kn pk,.Name vn pv] kT pT) iter scope pos) 0 (.ref I) (.ref X) cenv) R s
namespace lc_step
noncomputable def R0:=(s4 <| s4 <| s4 <| s4 <| s4 <| s4 <| s4 <| s4 <| s4 <| s4 <| s4 <| s4 <| s4 <| st <| id) P0
@[irreducible] noncomputable def z0:=zy R0 (by k_extra "N")
@[irreducible] noncomputable def s:=f1 z0
@[irreducible] noncomputable def cenv:=f1 (f2 z0)
@[irreducible] noncomputable def h₀:=f1 (f2 (f2 z0))
@[irreducible] noncomputable def L:=f1 (f2 (f2 (f2 z0)))
@[irreducible] noncomputable def m:=f1 (f2 (f2 (f2 (f2 z0))))
@[irreducible] noncomputable def news:=f1 (f2 (f2 (f2 (f2 (f2 z0)))))
@[irreducible] noncomputable def I:=f1 (f2 (f2 (f2 (f2 (f2 (f2 z0))))))
@[irreducible] noncomputable def X:=f1 (f2 (f2 (f2 (f2 (f2 (f2 (f2 z0)))))))
@[irreducible] noncomputable def acc:=f1 (f2 (f2 (f2 (f2 (f2 (f2 (f2 (f2 z0))))))))
@[irreducible] noncomputable def kk:=f1 (f2 (f2 (f2 (f2 (f2 (f2 (f2 (f2 (f2 z0)))))))))
@[irreducible] noncomputable def e:=f1 (f2 (f2 (f2 (f2 (f2 (f2 (f2 (f2 (f2 (f2 z0))))))))))
@[irreducible] noncomputable def tv1:=f1 (f2 (f2 (f2 (f2 (f2 (f2 (f2 (f2 (f2 (f2 (f2 z0)))))))))))
@[irreducible] noncomputable def z1:=f2 (f2 (f2 (f2 (f2 (f2 (f2 (f2 (f2 (f2 (f2 (f2 z0)))))))))))
theorem T0:(s4 <| s4 <| s4 <| s4 <| s4 <| s4 <| s4 <| s4 <| s4 <| s4 <| st <| id) (P0 s cenv h₀ L m news I X acc kk e tv1) z1:=by
 intro Cv S D hh hx iT iB X₀ TT eK hkeep hlo hgl hkf ck cv cf hkv nk nv nf hz1 hz2 hacc hesc cont
 subst hlo
 refine lc_turn ?_
 refine wpAny_pyNext_list_item S.it S.ls hx fun h1 it1 sb1=>?_
 obtain ⟨oI,gI,cI,dI⟩:=id it1
 refine go_list gI ⟨cI,dI⟩ ?_
 obtain ⟨mc,ns1⟩:=ns_same S.ns sb1 D.a1.symm
 obtain ⟨c0,gX0⟩:=S.ac
 have gX1:h1.get? X=some (listOf acc.toArray c0):=(sb1.2 _ D.a2.symm).trans gX0
 have F1:=fr_same S.fr sb1 D.l1 D.g1
 have N1:=nw_same S.nw sb1 D.n1
 obtain ⟨oC,esC,epC,gC,rC⟩:=id ns1
 have M1:News h₀ L h1 ((X,listOf acc.toArray c0)::(I,oI)::(cenv.locals,oC)::news):=by
  intro q hq
  simp only [List.mem_cons] at hq
  rcases hq with rfl | rfl | rfl | hq
  ·exact ⟨gX1,D.l3,D.g3⟩
  ·exact ⟨gI,D.l1,D.g1⟩
  ·exact ⟨gC,D.l2,D.g2⟩
  ·exact N1 q hq
 refine unpackN_ (h₀:=h₀) (L:=L) (m:=m) F1 M1 (isTup_of N1 iT) hh rfl rfl fun h2 F2 M2=>?_
 have ns2:h2.Ns cenv.locals mc:=⟨oC,esC,epC,(M2 (cenv.locals,oC) (by simp)).1,rC⟩
 refine assignInOrder_cons (wpAny_assign_Name (wpAny_storeName_local ck ns2 (fun h3 ns3 sb3=>?_) (by rw [hkf];rfl)))
 refine assignInOrder_cons (wpAny_assign_Name (wpAny_storeName_local cv ns3 (fun h4 ns4 sb4=>?_) (by rw [hkf];rfl)))
 refine assignInOrder_nil ?_
 have F4:=fr_same (fr_same F2 sb3 D.l2 D.g2) sb4 D.l2 D.g2
 have gX4:h4.get? X=some (listOf acc.toArray c0):=(sb4.2 _ D.a3.symm).trans ((sb3.2 _ D.a3.symm).trans (M2 (X,_) (by simp)).1)
 have gI4:h4.get? I=some oI:=(sb4.2 _ D.a1).trans ((sb3.2 _ D.a1).trans (M2 (I,oI) (by simp)).1)
 have N4:News h₀ L h4 news:=nw_same (nw_same (fun q hq=>M2 q (by simp [hq])) sb3 D.n2) sb4 D.n2
 obtain ⟨oC4,esC4,epC4,gC4,rC4⟩:=id ns4
 have M4:News h₀ L h4 ((X,listOf acc.toArray c0)::(I,oI)::(cenv.locals,oC4)::news):=by
  intro q hq
  simp only [List.mem_cons] at hq
  rcases hq with rfl | rfl | rfl | hq
  ·exact ⟨gX4,D.l3,D.g3⟩
  ·exact ⟨gI4,D.l1,D.g1⟩
  ·exact ⟨gC4,D.l2,D.g2⟩
  ·exact N4 q hq
 have z1:∀ a b:PySem.Str,(a++b).length=a.length + b.length:=fun a b=>strLen_append a b
 have q1:(Str.empty:PySem.Str).length=0:=rfl
 have q2:(Str.ofString " ").length=1:=by decide
 have q3:(Str.ofString "=\"").length=2:=by decide
 have q4:(Str.ofString "\"").length=1:=by decide
 refine JoinedStr_many (joinParts_cons (wpAny_Constant_str ⟨by rw [z1,sizeLine_eq];lia,joinParts_cons (FormattedValue_plain (wpAny_Name (wpAny_loadName_local hkf ck ns4 (by rw [if_neg hkv,if_pos rfl]) (formatField_str (fun t1 k1=>?_) (by rw [sizeLine_eq];lia))) nk))⟩))
 refine ⟨by rw [z1,z1,sizeLine_eq];lia,joinParts_cons (wpAny_Constant_str ⟨by rw [z1,z1,z1,sizeLine_eq];lia,joinParts_cons (FormattedValue_plain (Call_ ?_))⟩)⟩
 refine Name_function_global hkf cf ?_ nf
 refine loadGlobal_global (hgl ▸ TT.g.keeps F4.keep) (mg_of X₀ TT.g eK) ?_
 refine callWith_K X₀ hkeep (spliced_cons (wpAny_Name (wpAny_loadName_local hkf cv ns4 (if_pos rfl) (spliced_nil ⟨X₀.keeps F4.keep,?_⟩)) nv))
 refine hesc { s with heap:=h4,toks:=_ } _ tv1 _ F4 M4 fun t h5 tk5 F5 M5=>?_
 refine formatField_str (fun t2 k2=>?_) (by rw [sizeLine_eq];lia)
 refine ⟨by rw [z1,z1,z1,z1,sizeLine_eq];lia,joinParts_cons (wpAny_Constant_str ⟨by rw [z1,z1,z1,z1,z1,sizeLine_eq];lia,joinParts_nil ?_ (by rw [z1,z1,z1,z1,z1,sizeLine_eq];lia)⟩)⟩
 have U:Upd X (listOf acc.toArray c0) (listOf (acc.toArray.push (.str (attrS kk e) (k2 + 1))) (c0 + 1)) ((X,listOf acc.toArray c0)::(I,oI)::(cenv.locals,oC4)::news) ((X,listOf (acc.toArray.push (.str (attrS kk e) (k2 + 1))) (c0 + 1))::(I,oI)::(cenv.locals,oC4)::news):=.head fun q hq=>by
  simp only [List.mem_cons] at hq
  rcases hq with rfl | rfl | hq
  ·exact D.a2
  ·exact D.a3
  ·exact D.n3 q hq
 refine append_K (s:={ s with heap:=h5,toks:=_ }) F5 M5 U (fun h6 F6 M6=>?_) (by simp only [List.size_toArray,sizeLine_eq];lia)
 refine cont h6 _ (k2 + 1) ⟨F6,fun q hq=>M6 q (by simp [hq]),⟨oI,(M6 (I,oI) (by simp)).1,cI,dI⟩,?_,⟨_,oC4,esC4,epC4,(M6 (cenv.locals,oC4) (by simp)).1,rC4⟩,c0 + 1,?_⟩
 ·exact News.isList (news:=news) (fun q hq=>M6 q (by simp [hq])) iB
 ·rw [(M6 (X,listOf (acc.toArray.push (.str (attrS kk e) (k2 + 1))) (c0 + 1)) (by simp)).1]
  rw [List.push_toArray]
end lc_step
theorem lc_step {s cenv h₀ L m news I X acc kk e tv1 prog w A R K B T f items i nT eB v tk1 kn vn fn a1 a2 a3 a4 a5 a6 a7 a8 a9 a10 pk pv pT pos n1 n2 n3 iter scope kT p loose mean mg mb}:lc_step.P0 s cenv h₀ L m news I X acc kk e tv1 prog w A R K B T f items i nT eB v tk1 kn vn fn a1 a2 a3 a4 a5 a6 a7 a8 a9 a10 pk pv pT pos n1 n2 n3 iter scope kT p loose mean mg mb:=by with_unfolding_all exact zy_all _ lc_step.R0 lc_step.T0 (s,cenv,h₀,L,m,news,I,X,acc,kk,e,tv1,prog,w,A,R,K,B,T,f,items,i,nT,eB,v,tk1,kn,vn,fn,a1,a2,a3,a4,a5,a6,a7,a8,a9,a10,pk,pv,pT,pos,n1,n2,n3,iter,scope,kT,p,loose,mean,mg,mb)
section
variable {prog:Program}{w:World}{A:Around}{s:Shared}{cenv env:Env}{R:Result->Shared->Prop}{E:Value->Shared->Prop}
variable {h₀:Heap}{L:Addr}{m:PySem.Str->Option Value}{K:Frag}{news:List (Addr×Obj)}
theorem attr_list1 {B T1 f:Addr} {nT1 eB:Nat} {kk1 v1 e1:PySem.Str} {tk1 tv1:Tok}{kn vn fn an:PySem.Str} {a1 a2 a3 a4 a5 a6 a7 a8 a9 a10 pk pv pT pa pos:Pos} {n1 n2 n3:Nat}{scope:Scope}{kT:Nat}{p:Program}{loose:List PySem.Str}{mean:ExcName->Option Value}{mg mb:PySem.Str->Option Value}{cl:List (PySem.Str×Addr)}{Q:Value->Shared->Prop}
  (hLe:env.locals=L)(hg:env.globals=mainGlobals)(hh:A.handled=none)(F:Fr h₀ L s.heap m)(N:News h₀ L s.heap news)(X₀:K.In h₀)(TT:Top p loose mean mg mb h₀)(eK:nsIn K mainGlobals fn=some (some (.ref f)))(hkeep:keepIn K (.ref f)=true)
  (hka:env.scope.kind = .function)(ka:env.kindOf an=some .local)(na:(an == ("__debug__" : PySem.Str))=false)(ma:m an=some (.ref B))(iB:(B,listOf #[.ref T1] eB)∈news) (iT1:(T1,{ cls:=.type "tuple",data:=.seq #[.str kk1 tk1,.str v1 tv1] nT1 })∈news)
  (hclos:closureFor scope env=pure cl)(hkind:scope.kind = .function)(hnames:∀ z∈scope.names,z.2 = .local->scope.names.lookup z.1=some .local)(hcell:∀ z∈scope.names,z.2≠.cell)
  (ckn:∀ Cv,(compEnvC scope cl Cv env).kindOf kn=some .local)(cvn:∀ Cv,(compEnvC scope cl Cv env).kindOf vn=some .local)(cfn:∀ Cv,(compEnvC scope cl Cv env).kindOf fn=some .globalImplicit)(hck:∀ Cv,(compEnvC scope cl Cv env).scope.kind = .function)(hkv:kn≠vn)
  (nk:(kn == ("__debug__" : PySem.Str))=false)(nv:(vn == ("__debug__" : PySem.Str))=false)(nf:(fn == ("__debug__" : PySem.Str))=false) (hz1:kk1.length<=100) (hy1:e1.length<=100000) (hesc1:EscCall prog w A h₀ L m f v1 e1)
  (h:∀ X u1 c h' tk,Fr h₀ L h' m->News h₀ L h' ((X,listOf #[.str (attrS kk1 e1) u1] c)::news)->AllLt X news->Q (.ref X) { s with heap:=h',toks:=tk }) :
  wpAny (model prog w) A (eval (lcE (attrE kn vn fn a1 a2 a3 a4 a5 a6 a7 a8 a9 a10 n1 n2 n3) (.Tuple [.Name kn pk,.Name vn pv] kT pT) (.Name an pa) scope pos) env) Q E s:=by
 subst hLe
 rw [eval_ListComp]
 refine wpAny_comprehension_free (use:=none) rfl (fun _=>rfl) hclos hkind hnames (wpAny_Name (wpAny_loadName_local hka ka F.ns ma ?_) na)
 have hlt:env.locals < s.heap.objs.size:=F.ns.lt
 have hDl:=N _ iB
 have ls0:s.heap.IsList B #[.ref T1]:=N.isList iB
 have lDl:B < s.heap.objs.size:=Heap.lt_size hDl.1
 refine wpAny_pyIter_list ls0 ?_
 unfold newList
 refine wpAny_newObj_type ?_
 refine wpAny_newFunctionEnv hcell (fun _ hx=>nomatch hx) (fun h4 hns hsb=>?_) hkind
 have sz1:(s.heap.push { cls:=.type "list_iterator",data:=.fields #[.ref B,.int 0 0] }).objs.size=s.heap.objs.size + 1:=Heap.size_push ..
 have sz2:((s.heap.push { cls:=.type "list_iterator",data:=.fields #[.ref B,.int 0 0] }).push { cls:=.type "list",data:=.seq ([]:List Value).toArray }).objs.size=s.heap.objs.size + 1 + 1:=by rw [Heap.size_push,sz1]
 have keep:∀ b o,s.heap.get? b=some o->h4.get? b=some o:=fun b o e=>by
  have hb:=Heap.lt_size e
  refine (hsb.2 b ?_).trans (Heap.get?_push_of_some _ (Heap.get?_push_of_some _ (Heap.get?_push_of_some _ e)))
  show b≠((s.heap.push _).push _).objs.size
  rw [sz2]
  exact Nat.ne_of_lt (Nat.lt_succ_of_lt (Nat.lt_succ_of_lt hb))
 have gI:h4.get? s.heap.objs.size=some { cls:=.type "list_iterator",data:=.fields #[.ref B,.int 0 0] }:=by
  refine (hsb.2 _ ?_).trans (Heap.get?_push_of_some _ (Heap.get?_push_of_some _ (Heap.get?_push_size _ rfl)))
  show s.heap.objs.size≠((s.heap.push _).push _).objs.size
  rw [sz2]
  exact Nat.ne_of_lt (Nat.lt_succ_of_lt (Nat.lt_succ_self _))
 have gX:h4.get? (s.heap.objs.size + 1)=some (listOf ([]:List Value).toArray 0):=by
  refine (hsb.2 _ ?_).trans (Heap.get?_push_of_some _ ?_)
  ·show s.heap.objs.size + 1≠((s.heap.push _).push _).objs.size
   rw [sz2]
   exact Nat.ne_of_lt (Nat.lt_succ_self _)
  ·have e:((s.heap.push { cls:=.type "list_iterator",data:=.fields #[.ref B,.int 0 0] }).push { cls:=.type "list",data:=.seq ([]:List Value).toArray }).get? (s.heap.push { cls:=.type "list_iterator",data:=.fields #[.ref B,.int 0 0] }).objs.size=some { cls:=.type "list",data:=.seq ([]:List Value).toArray }:=Heap.get?_push_size _ rfl
   rw [sz1] at e
   exact e
 have hle:∀ k,@LE.le Nat _ s.heap.objs.size k->h₀.get? k=none:=fun k hk=>Heap.get?_none_of_le (Nat.le_trans F.above (Nat.le_trans (Nat.le_of_lt hlt) hk))
 have hne:∀ q∈news,∀ k,@LE.le Nat _ s.heap.objs.size k->q.1≠k:=fun q hq k hk=>Nat.ne_of_lt (Nat.lt_of_lt_of_le (Heap.lt_size (N q hq).1) hk)
 have q1:s.heap.objs.size<=s.heap.objs.size + 1:=Nat.le_succ _
 have q2:s.heap.objs.size<=s.heap.objs.size + 1 + 1:=Nat.le_succ_of_le (Nat.le_succ _)
 have S4:LcS h₀ env.locals m s.heap.objs.size (s.heap.objs.size + 1 + 1) (s.heap.objs.size + 1) B #[.ref T1] 0 [] news h4:=by
  refine ⟨F.keeps keep,fun q hq=>⟨keep _ _ (N q hq).1,(N q hq).2⟩,⟨_,gI,rfl,rfl⟩,⟨_,keep _ _ hDl.1,rfl,_,rfl⟩,⟨fun x=>([]:List (PySem.Str×Value)).reverse.lookup x,?_⟩,0,gX⟩
  have hns':h4.Ns ((s.heap.push { cls:=.type "list_iterator",data:=.fields #[.ref B,.int 0 0] }).push { cls:=.type "list",data:=.seq ([]:List Value).toArray }).objs.size (fun x=>([]:List (PySem.Str×Value)).reverse.lookup x):=hns
  rw [sz2] at hns'
  exact hns'
 have D4:DcA h₀ env.locals s.heap.objs.size (s.heap.objs.size + 1 + 1) (s.heap.objs.size + 1) B news:=
  ⟨Nat.ne_of_lt (Nat.lt_succ_of_lt (Nat.lt_succ_self _)),Nat.ne_of_lt (Nat.lt_succ_self _),Nat.ne_of_gt (Nat.lt_succ_self _),Nat.ne_of_lt lDl,Nat.ne_of_lt (Nat.lt_of_lt_of_le lDl q2),Nat.ne_of_lt (Nat.lt_of_lt_of_le lDl q1),
   Nat.ne_of_gt hlt,Nat.ne_of_gt (Nat.lt_of_lt_of_le hlt q2),Nat.ne_of_gt (Nat.lt_of_lt_of_le hlt q1),hle _ (Nat.le_refl _),hle _ q2,hle _ q1,fun q hq=>hne q hq _ (Nat.le_refl _),fun q hq=>hne q hq _ q2,fun q hq=>hne q hq _ q1⟩
 have go:codeAny (model prog w) A (.compLoop (lcE (attrE kn vn fn a1 a2 a3 a4 a5 a6 a7 a8 a9 a10 n1 n2 n3) (.Tuple [.Name kn pk,.Name vn pv] kT pT) (.Name an pa) scope pos) 0 (.ref s.heap.objs.size) (.ref (s.heap.objs.size + 1)) (compEnvC scope cl (s.heap.objs.size + 1 + 1) env)) (compPost (model prog w) A E none Q (.ref (s.heap.objs.size + 1)) (s.heap.objs.size + 1 + 1)) { s with heap:=h4,toks:=s.toks + 0 }:=by
  have hg':(compEnvC scope cl (s.heap.objs.size + 1 + 1) env).globals=mainGlobals:=hg
  refine lc_step (s:={ s with heap:=h4,toks:=s.toks + 0 }) S4 D4 hh rfl iT1 iB X₀ TT eK hkeep rfl hg' (hck _) (ckn _) (cvn _) (cfn _) hkv nk nv nf hz1 hy1 (by simp) hesc1 fun h2x k2x u1 S2x=>?_
  refine lc_turn ?_
  refine wpAny_pyNext_list_end hh S2x.it S2x.ls rfl fun h5 eb=>?_
  obtain ⟨mc,ns0⟩:=S2x.ns
  obtain ⟨c,gX5⟩:=S2x.ac
  refine ⟨mc,ns0.at' fun o e=>eb _ _ D4.a1.symm e,fun h6 sb6=>?_⟩
  have F5:Fr h₀ env.locals h5 m:=⟨S2x.fr.ns.at' fun o e=>eb _ _ D4.l1.symm e,fun b o e=>eb b o (fun q=>by rw [q,D4.g1] at e;cases e) (S2x.fr.keep b o e),S2x.fr.above⟩
  refine h _ u1 c h6 _ (fr_same F5 sb6 D4.l2 D4.g2) (fun q hq=>?_) (allLt_of fun q hq=>Nat.lt_succ_of_lt (Heap.lt_size (N q hq).1))
  rcases List.mem_cons.mp hq with rfl | hq
  ·exact ⟨(sb6.2 _ D4.a3.symm).trans (eb _ _ D4.a2.symm gX5),D4.l3,D4.g3⟩
  ·exact ⟨(sb6.2 _ (D4.n2 q hq)).trans (eb _ _ (D4.n1 q hq) (S2x.nw q hq).1),(N q hq).2⟩
 refine (?_:codeAny (model prog w) A (.compStart (lcE (attrE kn vn fn a1 a2 a3 a4 a5 a6 a7 a8 a9 a10 n1 n2 n3) (.Tuple [.Name kn pk,.Name vn pv] kT pT) (.Name an pa) scope pos) 0 (.ref s.heap.objs.size) (.ref (s.heap.push _).objs.size) { newEnv scope ((s.heap.push _).push _).objs.size env.globals cl env.qual none .none (some env) builtinsNs with scope:=relabel scope env }) (compPost (model prog w) A E none Q (.ref (s.heap.push _).objs.size) ((s.heap.push _).push _).objs.size) _)
 rw [sz2,sz1]
 refine codeAny_compStart_list go ?_
 exact (Walks.list (prog:=prog) (w:=w) hh s.heap.objs.size B (Nat.ne_of_lt lDl) #[.ref T1]).self 0 _ _ _ ⟨S4.it,S4.ls⟩ go
theorem attr_list2 {B T1 T2 f:Addr} {nT1 nT2 eB:Nat} {kk1 v1 e1 kk2 v2 e2:PySem.Str} {tk1 tv1 tk2 tv2:Tok}{kn vn fn an:PySem.Str} {a1 a2 a3 a4 a5 a6 a7 a8 a9 a10 pk pv pT pa pos:Pos} {n1 n2 n3:Nat}{scope:Scope}{kT:Nat}{p:Program}{loose:List PySem.Str}{mean:ExcName->Option Value}{mg mb:PySem.Str->Option Value}{cl:List (PySem.Str×Addr)}{Q:Value->Shared->Prop}
  (hLe:env.locals=L)(hg:env.globals=mainGlobals)(hh:A.handled=none)(F:Fr h₀ L s.heap m)(N:News h₀ L s.heap news)(X₀:K.In h₀)(TT:Top p loose mean mg mb h₀)(eK:nsIn K mainGlobals fn=some (some (.ref f)))(hkeep:keepIn K (.ref f)=true)
  (hka:env.scope.kind = .function)(ka:env.kindOf an=some .local)(na:(an == ("__debug__" : PySem.Str))=false)(ma:m an=some (.ref B))(iB:(B,listOf #[.ref T1,.ref T2] eB)∈news) (iT1:(T1,{ cls:=.type "tuple",data:=.seq #[.str kk1 tk1,.str v1 tv1] nT1 })∈news) (iT2:(T2,{ cls:=.type "tuple",data:=.seq #[.str kk2 tk2,.str v2 tv2] nT2 })∈news)
  (hclos:closureFor scope env=pure cl)(hkind:scope.kind = .function)(hnames:∀ z∈scope.names,z.2 = .local->scope.names.lookup z.1=some .local)(hcell:∀ z∈scope.names,z.2≠.cell)
  (ckn:∀ Cv,(compEnvC scope cl Cv env).kindOf kn=some .local)(cvn:∀ Cv,(compEnvC scope cl Cv env).kindOf vn=some .local)(cfn:∀ Cv,(compEnvC scope cl Cv env).kindOf fn=some .globalImplicit)(hck:∀ Cv,(compEnvC scope cl Cv env).scope.kind = .function)(hkv:kn≠vn)
  (nk:(kn == ("__debug__" : PySem.Str))=false)(nv:(vn == ("__debug__" : PySem.Str))=false)(nf:(fn == ("__debug__" : PySem.Str))=false) (hz1:kk1.length<=100) (hy1:e1.length<=100000) (hesc1:EscCall prog w A h₀ L m f v1 e1) (hz2:kk2.length<=100) (hy2:e2.length<=100000) (hesc2:EscCall prog w A h₀ L m f v2 e2)
  (h:∀ X u1 u2 c h' tk,Fr h₀ L h' m->News h₀ L h' ((X,listOf #[.str (attrS kk1 e1) u1,.str (attrS kk2 e2) u2] c)::news)->AllLt X news->Q (.ref X) { s with heap:=h',toks:=tk }) :
  wpAny (model prog w) A (eval (lcE (attrE kn vn fn a1 a2 a3 a4 a5 a6 a7 a8 a9 a10 n1 n2 n3) (.Tuple [.Name kn pk,.Name vn pv] kT pT) (.Name an pa) scope pos) env) Q E s:=by
 subst hLe
 rw [eval_ListComp]
 refine wpAny_comprehension_free (use:=none) rfl (fun _=>rfl) hclos hkind hnames (wpAny_Name (wpAny_loadName_local hka ka F.ns ma ?_) na)
 have hlt:env.locals < s.heap.objs.size:=F.ns.lt
 have hDl:=N _ iB
 have ls0:s.heap.IsList B #[.ref T1,.ref T2]:=N.isList iB
 have lDl:B < s.heap.objs.size:=Heap.lt_size hDl.1
 refine wpAny_pyIter_list ls0 ?_
 unfold newList
 refine wpAny_newObj_type ?_
 refine wpAny_newFunctionEnv hcell (fun _ hx=>nomatch hx) (fun h4 hns hsb=>?_) hkind
 have sz1:(s.heap.push { cls:=.type "list_iterator",data:=.fields #[.ref B,.int 0 0] }).objs.size=s.heap.objs.size + 1:=Heap.size_push ..
 have sz2:((s.heap.push { cls:=.type "list_iterator",data:=.fields #[.ref B,.int 0 0] }).push { cls:=.type "list",data:=.seq ([]:List Value).toArray }).objs.size=s.heap.objs.size + 1 + 1:=by rw [Heap.size_push,sz1]
 have keep:∀ b o,s.heap.get? b=some o->h4.get? b=some o:=fun b o e=>by
  have hb:=Heap.lt_size e
  refine (hsb.2 b ?_).trans (Heap.get?_push_of_some _ (Heap.get?_push_of_some _ (Heap.get?_push_of_some _ e)))
  show b≠((s.heap.push _).push _).objs.size
  rw [sz2]
  exact Nat.ne_of_lt (Nat.lt_succ_of_lt (Nat.lt_succ_of_lt hb))
 have gI:h4.get? s.heap.objs.size=some { cls:=.type "list_iterator",data:=.fields #[.ref B,.int 0 0] }:=by
  refine (hsb.2 _ ?_).trans (Heap.get?_push_of_some _ (Heap.get?_push_of_some _ (Heap.get?_push_size _ rfl)))
  show s.heap.objs.size≠((s.heap.push _).push _).objs.size
  rw [sz2]
  exact Nat.ne_of_lt (Nat.lt_succ_of_lt (Nat.lt_succ_self _))
 have gX:h4.get? (s.heap.objs.size + 1)=some (listOf ([]:List Value).toArray 0):=by
  refine (hsb.2 _ ?_).trans (Heap.get?_push_of_some _ ?_)
  ·show s.heap.objs.size + 1≠((s.heap.push _).push _).objs.size
   rw [sz2]
   exact Nat.ne_of_lt (Nat.lt_succ_self _)
  ·have e:((s.heap.push { cls:=.type "list_iterator",data:=.fields #[.ref B,.int 0 0] }).push { cls:=.type "list",data:=.seq ([]:List Value).toArray }).get? (s.heap.push { cls:=.type "list_iterator",data:=.fields #[.ref B,.int 0 0] }).objs.size=some { cls:=.type "list",data:=.seq ([]:List Value).toArray }:=Heap.get?_push_size _ rfl
   rw [sz1] at e
   exact e
 have hle:∀ k,@LE.le Nat _ s.heap.objs.size k->h₀.get? k=none:=fun k hk=>Heap.get?_none_of_le (Nat.le_trans F.above (Nat.le_trans (Nat.le_of_lt hlt) hk))
 have hne:∀ q∈news,∀ k,@LE.le Nat _ s.heap.objs.size k->q.1≠k:=fun q hq k hk=>Nat.ne_of_lt (Nat.lt_of_lt_of_le (Heap.lt_size (N q hq).1) hk)
 have q1:s.heap.objs.size<=s.heap.objs.size + 1:=Nat.le_succ _
 have q2:s.heap.objs.size<=s.heap.objs.size + 1 + 1:=Nat.le_succ_of_le (Nat.le_succ _)
 have S4:LcS h₀ env.locals m s.heap.objs.size (s.heap.objs.size + 1 + 1) (s.heap.objs.size + 1) B #[.ref T1,.ref T2] 0 [] news h4:=by
  refine ⟨F.keeps keep,fun q hq=>⟨keep _ _ (N q hq).1,(N q hq).2⟩,⟨_,gI,rfl,rfl⟩,⟨_,keep _ _ hDl.1,rfl,_,rfl⟩,⟨fun x=>([]:List (PySem.Str×Value)).reverse.lookup x,?_⟩,0,gX⟩
  have hns':h4.Ns ((s.heap.push { cls:=.type "list_iterator",data:=.fields #[.ref B,.int 0 0] }).push { cls:=.type "list",data:=.seq ([]:List Value).toArray }).objs.size (fun x=>([]:List (PySem.Str×Value)).reverse.lookup x):=hns
  rw [sz2] at hns'
  exact hns'
 have D4:DcA h₀ env.locals s.heap.objs.size (s.heap.objs.size + 1 + 1) (s.heap.objs.size + 1) B news:=
  ⟨Nat.ne_of_lt (Nat.lt_succ_of_lt (Nat.lt_succ_self _)),Nat.ne_of_lt (Nat.lt_succ_self _),Nat.ne_of_gt (Nat.lt_succ_self _),Nat.ne_of_lt lDl,Nat.ne_of_lt (Nat.lt_of_lt_of_le lDl q2),Nat.ne_of_lt (Nat.lt_of_lt_of_le lDl q1),
   Nat.ne_of_gt hlt,Nat.ne_of_gt (Nat.lt_of_lt_of_le hlt q2),Nat.ne_of_gt (Nat.lt_of_lt_of_le hlt q1),hle _ (Nat.le_refl _),hle _ q2,hle _ q1,fun q hq=>hne q hq _ (Nat.le_refl _),fun q hq=>hne q hq _ q2,fun q hq=>hne q hq _ q1⟩
 have go:codeAny (model prog w) A (.compLoop (lcE (attrE kn vn fn a1 a2 a3 a4 a5 a6 a7 a8 a9 a10 n1 n2 n3) (.Tuple [.Name kn pk,.Name vn pv] kT pT) (.Name an pa) scope pos) 0 (.ref s.heap.objs.size) (.ref (s.heap.objs.size + 1)) (compEnvC scope cl (s.heap.objs.size + 1 + 1) env)) (compPost (model prog w) A E none Q (.ref (s.heap.objs.size + 1)) (s.heap.objs.size + 1 + 1)) { s with heap:=h4,toks:=s.toks + 0 }:=by
  have hg':(compEnvC scope cl (s.heap.objs.size + 1 + 1) env).globals=mainGlobals:=hg
  refine lc_step (s:={ s with heap:=h4,toks:=s.toks + 0 }) S4 D4 hh rfl iT1 iB X₀ TT eK hkeep rfl hg' (hck _) (ckn _) (cvn _) (cfn _) hkv nk nv nf hz1 hy1 (by simp) hesc1 fun h2x k2x u1 S2x=>?_
  refine lc_step (s:={ s with heap:=h2x,toks:=k2x }) S2x D4 hh rfl iT2 iB X₀ TT eK hkeep rfl hg' (hck _) (ckn _) (cvn _) (cfn _) hkv nk nv nf hz2 hy2 (by simp) hesc2 fun h3x k3x u2 S3x=>?_
  refine lc_turn ?_
  refine wpAny_pyNext_list_end hh S3x.it S3x.ls rfl fun h5 eb=>?_
  obtain ⟨mc,ns0⟩:=S3x.ns
  obtain ⟨c,gX5⟩:=S3x.ac
  refine ⟨mc,ns0.at' fun o e=>eb _ _ D4.a1.symm e,fun h6 sb6=>?_⟩
  have F5:Fr h₀ env.locals h5 m:=⟨S3x.fr.ns.at' fun o e=>eb _ _ D4.l1.symm e,fun b o e=>eb b o (fun q=>by rw [q,D4.g1] at e;cases e) (S3x.fr.keep b o e),S3x.fr.above⟩
  refine h _ u1 u2 c h6 _ (fr_same F5 sb6 D4.l2 D4.g2) (fun q hq=>?_) (allLt_of fun q hq=>Nat.lt_succ_of_lt (Heap.lt_size (N q hq).1))
  rcases List.mem_cons.mp hq with rfl | hq
  ·exact ⟨(sb6.2 _ D4.a3.symm).trans (eb _ _ D4.a2.symm gX5),D4.l3,D4.g3⟩
  ·exact ⟨(sb6.2 _ (D4.n2 q hq)).trans (eb _ _ (D4.n1 q hq) (S3x.nw q hq).1),(N q hq).2⟩
 refine (?_:codeAny (model prog w) A (.compStart (lcE (attrE kn vn fn a1 a2 a3 a4 a5 a6 a7 a8 a9 a10 n1 n2 n3) (.Tuple [.Name kn pk,.Name vn pv] kT pT) (.Name an pa) scope pos) 0 (.ref s.heap.objs.size) (.ref (s.heap.push _).objs.size) { newEnv scope ((s.heap.push _).push _).objs.size env.globals cl env.qual none .none (some env) builtinsNs with scope:=relabel scope env }) (compPost (model prog w) A E none Q (.ref (s.heap.push _).objs.size) ((s.heap.push _).push _).objs.size) _)
 rw [sz2,sz1]
 refine codeAny_compStart_list go ?_
 exact (Walks.list (prog:=prog) (w:=w) hh s.heap.objs.size B (Nat.ne_of_lt lDl) #[.ref T1,.ref T2]).self 0 _ _ _ ⟨S4.it,S4.ls⟩ go
end
end Mine
end XL3
section XR1
open PySem PySem.W PyProof.Rows PySem.Calls
namespace Mine
noncomputable def appObj (l:Addr):Obj:={ cls:=.type "builtin_function_or_method",data:=.fields #[.builtin "list.append",.ref l] }
theorem la_find:typeLookup (.type "list") (Str.ofString "append")=pure (some (.builtin "list.append")):=by rw [typeLookup_type,builtinLookup_eq_fast];kernel_rfl
theorem la_get:typeLookup (.type "method_descriptor") (Str.ofString "__get__")=pure (some (.builtin "method_descriptor.__get__")):=by rw [typeLookup_type,builtinLookup_eq_fast];kernel_rfl
theorem la_set:typeLookup (.type "method_descriptor") (Str.ofString "__set__")=pure none:=by rw [typeLookup_type,builtinLookup_eq_fast];kernel_rfl
theorem la_del:typeLookup (.type "method_descriptor") (Str.ofString "__delete__")=pure none:=by rw [typeLookup_type,builtinLookup_eq_fast];kernel_rfl
theorem la_slot:Slot "method_descriptor" "__get__" "method_descriptor.__get__" :=
 .of (owner:="method_descriptor") (n:="__get__") (by rw [typeLookup_type,builtinLookup_eq_fast];kernel_rfl) (by decide +kernel) (by decide +kernel) (by decide +kernel)
  (by first | exact .inl (by decide +kernel) | exact .inr (by decide +kernel)) (by rw [isSubtype_type];kernel_rfl)
theorem la_entry:entryFor table "method_descriptor.__get__" = some Builtin.«method_descriptor.__get__»:=entryFor_of_tree (by kernel_rfl)
theorem la_args (a b c:Value):argsOk "method_descriptor.__get__" ⟨[a,b,c],[]⟩:=by unfold argsOk;kernel_rfl
theorem la_told:Manifest.toldItsClass.contains "list.append" = false:=by decide +kernel
theorem la_sub:isSubtype (.type "list") (.type "list")=pure true:=by rw [isSubtype_type];kernel_rfl
theorem la_own : ".".intercalate ("list.append".cutAt '.').dropLast = "list" := by decide +kernel
theorem meets_get_append (a:Addr)(xs:Array Value)(k:Nat)(sl:Array (Option Value)) :
  Meets (Builtin.«method_descriptor.__get__» ⟨[.builtin "list.append",.ref a,.type "list"],[]⟩) (fun A R s=>s.heap.get? a=some { cls:=.type "list",dict:=none,data:=.seq xs k,slots:=sl }/\R (.ok (.ret (.ref s.heap.objs.size))) { s with heap:=s.heap.push (appObj a) }):=
 Meets.of_wp fun prog w A R s hs=>by
  obtain ⟨hp,g,d,tk,os⟩:=s
  obtain ⟨hx,hs⟩:=hs
  have hT:(⟨hp,g,d,tk,os⟩:Shared).TypeIs (.ref a) "list" := ⟨_,hx,rfl⟩
  have f1:=la_told
  have f2:isSubtype (.type "list") (.type (".".intercalate ("list.append".cutAt '.').dropLast))=pure true:=by rw [la_own];exact la_sub
  unfold Builtin.«method_descriptor.__get__»
  repeat (any_goals (first | assumption | wp_step))
  exact ⟨_,rfl,hs⟩
theorem meets_getattribute_append (a:Addr)(xs:Array Value)(k:Nat)(sl:Array (Option Value))(u:Tok) :
  Meets (Builtin.«object.__getattribute__» ⟨[.ref a,.str (Str.ofString "append") u],[]⟩) (fun A R s=>s.heap.get? a=some { cls:=.type "list",dict:=none,data:=.seq xs k,slots:=sl }/\R (.ok (.ret (.ref s.heap.objs.size))) { s with heap:=s.heap.push (appObj a) }):=
 Meets.of_wp fun prog w A R s hs=>by
  obtain ⟨hp,g,d,tk,os⟩:=s
  obtain ⟨hx,hs⟩:=hs
  have hT:(⟨hp,g,d,tk,os⟩:Shared).TypeIs (.ref a) "list" := ⟨_,hx,rfl⟩
  have f1:=la_find
  have f2:=la_get
  have f3:=F.type_list_append
  have f4:=la_set
  have f5:=la_del
  have f6:=la_slot.lookup
  unfold Builtin.«object.__getattribute__»
  repeat (any_goals (first | assumption | (refine call_meets la_slot f3 la_entry (la_args _ _ _) (meets_get_append a xs k sl) ⟨hx,?_⟩) | wp_step))
  show wpAny _ _ (ret _) _ _ _
  repeat (any_goals (first | assumption | wp_step))
  exact ⟨_,rfl,hs⟩
theorem getAttr_append {prog:Program}{w:World}{A:Around}{E:Value->Shared->Prop}{s:Shared}{a:Addr}{o:Obj}{xs:Array Value}{k:Nat}{Q:Value->Shared->Prop}
  (hx:s.heap.get? a=some o)(hc:o.cls = .type "list")(hdat:o.data = .seq xs k)(hd:o.dict=none)
  (h:Q (.ref s.heap.objs.size) { s with heap:=s.heap.push (appObj a),toks:=s.toks + 1 }) :
  wpAny (model prog w) A (getAttr (.ref a) (Str.ofString "append") true) Q E s:=by
 obtain ⟨c,dct,dat,sl⟩:=o
 simp only at hc hdat hd
 subst hc hdat hd
 obtain ⟨hp,g,d,tk,os⟩:=s
 have hT:∀ tk',(⟨hp,g,d,tk',os⟩:Shared).TypeIs (.ref a) "list" := fun _=>⟨_,hx,rfl⟩
 have f3:=F.slot_list_getattribute.lookup
 have f4:=F.slot_list_getattribute.bind (.ref a)
 have f5:=am_list_getattr_none
 repeat (any_goals (first | assumption | exact hT _ | ((with_reducible show wpAny _ _ (call (Value.builtin "list.__getattribute__") _ _) _ _ _);refine call_meets F.slot_list_getattribute (hT _) am_entry_list_getattribute (F.args_list_getattribute_2 _ _) (meets_getattribute_append a xs k sl _) ⟨hx,?_⟩) | wp_step))
 show wpAny _ _ (pure (Value.ref hp.objs.size)) _ _ _
 exact wpAny_pure h
section
variable {prog:Program}{w:World}{M:Model}{A:Around}{E:Value->Shared->Prop}{s:Shared}{K:Frag}{h₀:Heap}{L:Addr}{m:PySem.Str->Option Value}{news:List (Addr×Obj)}
noncomputable def AppAt (x l:Addr)(h:Heap):Prop:=h.get? x=some (appObj l)
theorem app_callWith {pos:Pos}{u l:Addr}{first:List Value}{args:List (Bool×Sem Value)}{Q:Value->Shared->Prop}(hplain:args.any (·.1)=false)
  (h:wpAny M A (evalArgs (.ref u) true args []) (fun x s₁=>AppAt u l s₁.heap/\wpAny M A (call (.ref u) (first++x.pos) x.kw) Q E s₁) E s):wpAny M A (callWith pos (.ref u) first args []) Q E s:=by
 unfold callWith
 refine wpAny_bind (wpAny_holding (wpAny_mono h (fun x s₁ h₁=>wpAny_bind (wpAny_standAt ?_)) fun _ _ x=>x))
 obtain ⟨ho,hcall⟩:=h₁
 simp only [hplain,List.any_nil,Bool.or_false]
 refine wpAny_bind (m:=keeperOf (.ref u)) ?_
 unfold keeperOf
 refine wpAny_bind (wpAny_load ho ?_)
 dsimp only [appObj,show (Value.type "builtin_function_or_method" != Value.type "method")=true by decide,show (Value.type "builtin_function_or_method" == Value.type "builtin_function_or_method" || Value.type "builtin_function_or_method" == Value.type "method-wrapper")=true by decide,if_true]
 refine wpAny_pure ?_
 exact wpAny_bind (wpAny_mono hcall (fun r s₂ hr=>wpAny_bind (wpAny_holding (wpAny_point (wpAny_pure hr)))) fun _ _ x=>x)
theorem app_call {x l:Addr}{v:Value}{Q:Value->Shared->Prop}(ho:AppAt x l s.heap)(hck:∀ {A':Around}{Q':Unit->Shared->Prop}{E':Value->Shared->Prop},Q' () s->wpAny (model prog w) A' (checkBoundCall "list.append" ⟨[.ref l,v],[]⟩) Q' E' s)
  (h:codeAny (model prog w) A (.builtin "list.append" ⟨[.ref l,v],[]⟩) (wants Q E) s):wpAny (model prog w) A (call (.ref x) [v]) Q E s:=by
 refine wpAny_call (codeAny_of_tree ?_)
 dsimp only [callAny]
 refine wpAny_bind (wpAny_load ho ?_)
 dsimp only [appObj,show (Value.type "builtin_function_or_method" == Value.type "method" || Value.type "builtin_function_or_method" == Value.type "builtin_function_or_method" || Value.type "builtin_function_or_method" == Value.type "method-wrapper")=true by decide,if_true]
 refine KFB.if_so (by decide) ?_
 refine wpAny_bind (hck ?_)
 refine wpAny_bind (wpAny_pure (wpAny_pure ?_))
 exact ⟨Code.quiet_builtin _ (by decide +kernel),h⟩
end
end Mine
end XR1
section XR2
open PySem PySem.W PyProof.Rows PySem.Calls
namespace Mine
section
variable {prog:Program}{w:World}{M:Model}{A:Around}{E:Value->Shared->Prop}{s:Shared}{K:Frag}{h₀:Heap}{L:Addr}{m:PySem.Str->Option Value}{news news':List (Addr×Obj)}
theorem kapp_get {l:Addr}{xs:Array Value}{k:Nat}{Q:Value->Shared->Prop}(F:Fr h₀ L s.heap m)(N:News h₀ L s.heap news)(hl:(l,listOf xs k)∈news)
  (h:∀ q h',Fr h₀ L h' m->News h₀ L h' ((q,appObj l)::news)->(∀ p∈news,p.1 < q)->Q (.ref q) { s with heap:=h',toks:=s.toks + 1 }) :
  wpAny (model prog w) A (getAttr (.ref l) (Str.ofString "append") true) Q E s:=
 getAttr_append (N.get hl) rfl rfl rfl (h s.heap.objs.size _ (F.push _) (News.push F N _) fun p hp=>Heap.lt_size (N p hp).1)
theorem app_check {l:Addr}{its:Array Value}{n:Nat}{v:Value}{Q:Unit->Shared->Prop}(ho:s.heap.get? l=some (listOf its n))(hQ:Q () s):wpAny M A (checkBoundCall "list.append" ⟨[.ref l,v],[]⟩) Q E s:=by
 have hT:s.TypeIs (.ref l) "list" := ⟨_,ho,rfl⟩
 have f1:isSubtype (.type "list") (.type "module")=pure false:=by rw [isSubtype_type];kernel_rfl
 have f2:isSubtype (.type "list") (.type "type")=pure false:=by rw [isSubtype_type];kernel_rfl
 have f3:builtinKind "list.append" = some .method:=by decide +kernel
 have f4:Manifest.varargsMethods.contains "list.append" = false:=by decide +kernel
 unfold checkBoundCall
 rw [signature?_of (id:="list.append") (n:=['d','n','e','p','p','a']) (o:=['t','s','i','l']) (by kernel_rfl) F.owner_list]
 dsimp only [f3,f4]
 repeat (any_goals (first | assumption | wp_step))
theorem kapp_call {x D:Addr}{its:Array Value}{n:Nat}{v:Value}{Q:Value->Shared->Prop}(F:Fr h₀ L s.heap m)(N:News h₀ L s.heap news)(hx:(x,appObj D)∈news)(U:Upd D (listOf its n) (listOf (its.push v) (n + 1)) news news')
  (h:∀ h',Fr h₀ L h' m->News h₀ L h' news'->Q .none { s with heap:=h' })(hsz:its.size<=sizeLine):wpAny (model prog w) A (call (.ref x) [v]) Q E s:=by
 have hx':=N.get hx
 obtain ⟨pre,post,rfl,rfl,a,b⟩:=U.split
 have z:=N (D,listOf its n) (List.mem_append.mpr (.inr (.head _)))
 refine app_call hx' (fun h=>app_check z.1 h) (codeAny_builtin entry_list_append ?_)
 show wpAny _ _ (updateSeq D (·.push v) >>= fun _=>ret .none) _ _ s
 refine wpAny_bind ?_
 refine wpAny_updateSeq z.1 rfl ?_
 refine wpAny_pure (show Q .none _ from h _ (F.change (Heap.SameBut.update ..) z.2.1 z.2.2) (news_set N a b (Heap.SameBut.update ..) ?_))
 rw [Heap.get?_update_self _ z.1 (by rw [mapSeq_push];rfl),mapSeq_push]
theorem kapp_callWith {pos:Pos}{u l:Addr}{first:List Value}{env:Env}{e:Expr}{rest:List Expr}{Q:Value->Shared->Prop}(_N:News h₀ L s.heap news)(_hm:(u,appObj l)∈news)
  (h:wpAny M A (spliced (backTo pos (starEach (e::rest) env))) (fun vs s₁=>AppAt u l s₁.heap/\wpAny M A (call (.ref u) (first++vs)) Q E s₁) E s)
  (he:starEach (e::rest) env=(false,eval e env)::starEach rest env)(hplain:(backTo pos (starEach rest env)).any (·.1)=false) :
  wpAny M A (callWith pos (.ref u) first (backTo pos (starEach (e::rest) env)) []) Q E s:=by
 rw [he] at h ⊢
 refine app_callWith (l:=l) (by show (false || (backTo pos (starEach rest env)).any (·.1))=false;rw [hplain];rfl) ?_
 exact evalArgs_plain h
theorem app_of {x l:Addr}{h:Heap}(N:News h₀ L h news)(hm:(x,appObj l)∈news):AppAt x l h:=N.get hm
end
end Mine
end XR2
section XS13
open PySem PySem.W PyProof.Rows PySem.Calls
namespace Mine
section
theorem rep_st {prog:Program}{w:World}{A:Around}{E:Value->Shared->Prop}{s s₀:Shared}{h₀:Heap}{L:Addr}{m:Str->Option Value}{news:List (Addr×Obj)}{cn:Str}{cs:Scope}{a:Addr}{ccd:Value}{cl:List (Str×Addr)}
  {y z b v0:Str}{k:Nat}{tab:List (Nat×List Nat)} {t₀ t1 t2 t3:Tok} {p1 p2 p3 p4 p5 p6 p7 p8 p9 p10 p11:Pos}{Q:Flow->Shared->Prop}
  (F:Fr h₀ L s.heap m)(N:News h₀ L s.heap news)(S:Same s₀ s)(hx:m (Str.ofString "text")=some (.str b t₀))(hb:b=mapS (tabF tab) v0)(hl:b.length<=60000)(hy:y=⟨#[k]⟩)(hyz:(y == z)=false)(hz:z.length<=14)(hok:tabOk k z.cps.toList tab=true)
  (hp:(p6.endLine == p9.line)=true)(hk:cs.kind = .function)(hloc:(envX cn cs L a ccd cl).kindOf (Str.ofString "text")=some .local)
  (hQ:∀ r t s',r=mapS (tabF ((k,z.cps.toList)::tab)) v0->r.length<=6 * v0.length->Fr h₀ L s'.heap (upd m (Str.ofString "text") (.str r t))->News h₀ L s'.heap news->Same s₀ s'->Q .next s') :
  wpAny (model prog w) A (exec (.If (.Compare (.Constant (.str y) t1 p1) [.In] [.Name (Str.ofString "text") p2] p3) [.Assign [.Name (Str.ofString "text") p4] (.Call (.Attribute (.Name (Str.ofString "text") p5) (Str.ofString "replace") p6) [.Constant (.str y) t2 p7,.Constant (.str z) t3 p8] [] p9) p10] [] p11) (envX cn cs L a ccd cl)) Q E s:=by
 have hQ':∀ r t s',(r=mapS (one k z.cps.toList) b)->Fr h₀ L s'.heap (upd m (Str.ofString "text") (.str r t))->News h₀ L s'.heap news->Same s₀ s'->Q .next s':=by
  intro r t s' e F' N' S'
  rw [hb,tab_step _ _ _ hok] at e
  exact hQ r t s' e (by rw [e];exact tab_len _ _ _ hok _) F' N' S'
 clear hQ
 refine wpAny_If ?_
 k_steps
 refine nameX_L F hx ?_ hk hloc
 k_steps
 ·subst hy
  rename _=true=>h0
  refine hQ' b t₀ _ ?_ ?_ N (S.trans ⟨rfl,rfl,rfl⟩)
  ·rw [mapS_free];have e:=StrLaws.found_one b k;rw [h0] at e;simpa using e
  ·have e:upd m (Str.ofString "text") (.str b t₀)=m:=by
    funext y;unfold upd;by_cases hy:y=Str.ofString "text"
    ·rw [if_pos hy,hy,hx]
    ·rw [if_neg hy]
   rw [e];exact F
 ·have e:=fun few=>show methodCallPos few (.Name (Str.ofString "text") p5) (envX cn cs L a ccd cl) p6 p9=pure p9 by unfold methodCallPos;rw [hp,Bool.or_true,if_pos rfl]
  refine methodCall_KW (pl:=do return (<- importBound (.Name (Str.ofString "text") p5) (envX cn cs L a ccd cl)).getD true) ?_ (by
   show (do let ov <- eval (.Name (Str.ofString "text") p5) _;standAt p6.atName;methodCall _ _ _ _ _ ov _ _ _)=_
   unfold methodCall;simp only [e];rfl)
  refine nameX_L F hx ?_ hk hloc
  k_steps
  refine storeU F N (S.trans ⟨rfl,rfl,rfl⟩) ?_ hk hloc
  intro s' F' N' S'
  subst hy
  exact wpAny_execs_nil (hQ' _ _ s' (repl_one _ _ _) F' N' S')
theorem rep_cons {prog:Program}{w:World}{A:Around}{E:Value->Shared->Prop}{s s₀:Shared}{h₀:Heap}{L:Addr}{m:Str->Option Value}{news:List (Addr×Obj)}{cn:Str}{cs:Scope}{a:Addr}{ccd:Value}{cl:List (Str×Addr)}
  {y z b v0:Str}{k:Nat}{tab:List (Nat×List Nat)} {t₀ t1 t2 t3:Tok}{rest:List Stmt} {p1 p2 p3 p4 p5 p6 p7 p8 p9 p10 p11:Pos}{Q:Flow->Shared->Prop}
  (F:Fr h₀ L s.heap m)(N:News h₀ L s.heap news)(S:Same s₀ s)(hx:m (Str.ofString "text")=some (.str b t₀))(hb:b=mapS (tabF tab) v0)(hl:b.length<=60000)(hy:y=⟨#[k]⟩)(hyz:(y == z)=false)(hz:z.length<=14)(hok:tabOk k z.cps.toList tab=true)
  (hp:(p6.endLine == p9.line)=true)(hk:cs.kind = .function)(hloc:(envX cn cs L a ccd cl).kindOf (Str.ofString "text")=some .local)
  (hQ:∀ r t s',r=mapS (tabF ((k,z.cps.toList)::tab)) v0->r.length<=6 * v0.length->Fr h₀ L s'.heap (upd m (Str.ofString "text") (.str r t))->News h₀ L s'.heap news->Same s₀ s'->wpAny (model prog w) A (execs rest (envX cn cs L a ccd cl)) Q E s') :
  wpAny (model prog w) A (execs (.If (.Compare (.Constant (.str y) t1 p1) [.In] [.Name (Str.ofString "text") p2] p3) [.Assign [.Name (Str.ofString "text") p4] (.Call (.Attribute (.Name (Str.ofString "text") p5) (Str.ofString "replace") p6) [.Constant (.str y) t2 p7,.Constant (.str z) t3 p8] [] p9) p10] [] p11::rest) (envX cn cs L a ccd cl)) Q E s:=
 wpAny_execs_cons (rep_st F N S hx hb hl hy hyz hz hok hp hk hloc hQ)
end
end Mine
end XS13
section XW1
open PySem PySem.W PyProof.Rows PySem.Calls
namespace Mine.W1
open Mine.Hd
theorem wt4:True:=by
 k_with "W1 cell_enter" => k_extra "A5"
 k_with "W1 k_steps" => k_extra "A6"
 k_with "W1 execs cons" => k_extra "A7"
 k_with "W1 execs nil" => k_extra "A8"
 k_with "W1 eval Name" => k_extra "A9"
 k_with "W1 storeName" => k_extra "A10"
 k_with "W1 execs cons" => k_extra "A11"
 exact True.intro
noncomputable def escc_ct.P (v:Str) (k1:Tok) (p news)(s:Shared) (m L)(dp un:Nat)(w:World) (loose mean mg mb gd cn)(cs:Scope) (a ccd cl outer A₀ base h₀)(Q E:Value->Shared->Prop):=∀ (B:Below A₀ base outer h₀)(F:Fr h₀ L s.heap m)(X:(heapK w.params).In h₀)(N:News h₀ L s.heap news)(T:Top p loose mean mg mb h₀)(hk:cs.kind = .function)(hd:dp + 20 < recursionLimit)(hu:un + 200 < cLine)(hv:v.length<=10000)(hret:∀ t h' tk',Fr h₀ L h' m->News h₀ L h' news->Q (.str (mapS (tabF tabC) v) t) { s with heap:=h',toks:=tk' }),wpAny (model rw_re0182_01.row.prog w) (ktrTop dp un gd cn cs L a ccd cl outer) (call (.ref 212) [.str v k1]) Q E s
namespace escc_ct
noncomputable def R:=(s4 <| s4 <| s4 <| s4 <| s4 <| s4 <| st <| id) P
@[irreducible] noncomputable def z:=zy R (by k_extra "N")
@[irreducible] noncomputable def v:=f1 z
@[irreducible] noncomputable def k1:=f1 (f2 z)
@[irreducible] noncomputable def zr:=f2 (f2 z)
theorem T:(s4 <| s4 <| s4 <| s4 <| s4 <| st <| st <| st <| id) (P v k1) zr:=by
 intro B F X N T hk hd hu hv hret
 revert X;k_fill;intro X
 w_on
 refine wpAny_call ?_
 k_dflt (refine' enterZ [(Str.ofString "text",.str v k1)] ?k1 ?k2 ?k3 ?k4 ?k5 ?kA ?kF ?kK ?k6 ?k7 ?k8 ?k9 ?kB ?_ ?c2 ?c3 ?c4 ?c5;cell_enter)
 have h0:=mapS_nil v
 k_steps
 all_goals (rename _=mapS (tabF (_::_::_::_::_)) _=>hz;k_dflt (refine ret_same (by assumption) ?_;refine cb_retS hret hz (by assumption) (by assumption)))
end escc_ct
theorem escc_ct (v k1) {p} (news s m L dp un) {w loose mean mg mb} (gd cn cs a ccd cl outer A₀ base h₀ Q E):escc_ct.P v k1 p news s m L dp un w loose mean mg mb gd cn cs a ccd cl outer A₀ base h₀ Q E:=by with_unfolding_all exact zy_all _ escc_ct.R escc_ct.T (v,k1,p,news,s,m,L,dp,un,w,loose,mean,mg,mb,gd,cn,cs,a,ccd,cl,outer,A₀,base,h₀,Q,E)
noncomputable def esca_ct.P (v:Str) (k1:Tok) (p news)(s:Shared) (m L)(dp un:Nat)(w:World) (loose mean mg mb gd cn)(cs:Scope) (a ccd cl outer A₀ base h₀)(Q E:Value->Shared->Prop):=∀ (B:Below A₀ base outer h₀)(F:Fr h₀ L s.heap m)(X:(heapK w.params).In h₀)(N:News h₀ L s.heap news)(T:Top p loose mean mg mb h₀)(hk:cs.kind = .function)(hd:dp + 20 < recursionLimit)(hu:un + 200 < cLine)(hv:v.length<=10000)(hret:∀ t h' tk',Fr h₀ L h' m->News h₀ L h' news->Q (.str (mapS (tabF tabA) v) t) { s with heap:=h',toks:=tk' }),wpAny (model rw_re0182_01.row.prog w) (ktrTop dp un gd cn cs L a ccd cl outer) (call (.ref 219) [.str v k1]) Q E s
namespace esca_ct
noncomputable def R:=(s4 <| s4 <| s4 <| s4 <| s4 <| s4 <| st <| id) P
@[irreducible] noncomputable def z:=zy R (by k_extra "N")
@[irreducible] noncomputable def v:=f1 z
@[irreducible] noncomputable def k1:=f1 (f2 z)
@[irreducible] noncomputable def zr:=f2 (f2 z)
theorem T:(s4 <| s4 <| s4 <| s4 <| s4 <| st <| st <| st <| id) (P v k1) zr:=by
 intro B F X N T hk hd hu hv hret
 revert X;k_fill;intro X
 w_on
 refine wpAny_call ?_
 k_dflt (refine' enterZ [(Str.ofString "text",.str v k1)] ?k1 ?k2 ?k3 ?k4 ?k5 ?kA ?kF ?kK ?k6 ?k7 ?k8 ?k9 ?kB ?_ ?c2 ?c3 ?c4 ?c5;cell_enter)
 have h0:=mapS_nil v
 k_steps
 all_goals (rename _=mapS (tabF (_::_::_::_::_)) _=>hz;k_dflt (refine ret_same (by assumption) ?_;refine cb_retS hret hz (by assumption) (by assumption)))
end esca_ct
theorem esca_ct (v k1) {p} (news s m L dp un) {w loose mean mg mb} (gd cn cs a ccd cl outer A₀ base h₀ Q E):esca_ct.P v k1 p news s m L dp un w loose mean mg mb gd cn cs a ccd cl outer A₀ base h₀ Q E:=by with_unfolding_all exact zy_all _ esca_ct.R esca_ct.T (v,k1,p,news,s,m,L,dp,un,w,loose,mean,mg,mb,gd,cn,cs,a,ccd,cl,outer,A₀,base,h₀,Q,E)
end Mine.W1
end XW1
open Mine.W1
section XS4
open PySem PySem.W PyProof.Rows PySem.Calls
namespace Mine
theorem All2.length {α:Type}{R:α->Value->Prop}{xs:List α}{vs:List Value}(h:All2 R xs vs):xs.length=vs.length:=by
 induction h with
 | nil=>rfl
 | cons _ _ ih=>simp [ih]
theorem All2.get {α:Type}{R:α->Value->Prop}{xs:List α}{vs:List Value}(h:All2 R xs vs):∀ {i:Nat}{a:α}{v:Value},xs[i]? = some a->vs[i]? = some v->R a v:=by
 induction h with
 | nil=>intro i a v h;simp at h
 | cons h1 _ ih=>
  intro i a v ha hv
  cases i with
  | zero=>simp at ha hv;subst ha hv;exact h1
  | succ i=>simp at ha hv;exact ih ha hv
noncomputable def GSt {α σ:Type}(Led:σ->List (Addr×Obj))(ps:σ->List (PySem.Str×Value))(x:PySem.Str)(stored:List PySem.Str)(m₀:PySem.Str->Option Value)(P:List α->σ->Prop)(pre:List α)(m:PySem.Str->Option Value)(nx:List (Addr×Obj)):Prop:=
 ∃ c:σ,nx=Led c/\(∀ p∈ps c,m p.1=some p.2)/\(∀ z,z≠x->(∀ p∈ps c,z≠p.1)->stored.contains z=false->m z=m₀ z)/\P pre c
section
variable {prog:Program}{w:World}{A:Around}{E:Value->Shared->Prop}{s:Shared}{env:Env}{h₀:Heap}{x:PySem.Str}{body:List Stmt}{Q:Flow->Shared->Prop}
theorem gst_end {α σ:Type}{Led:σ->List (Addr×Obj)}{ps:σ->List (PySem.Str×Value)}{stored:List PySem.Str}{m₀:PySem.Str->Option Value}{P:List α->σ->Prop}{pre:List α}(c:σ){L:Addr}{m':PySem.Str->Option Value}{own news':List (Addr×Obj)}{adr:List Addr}{s₁:Shared}{h':Heap}{tk:Nat}
  (F:Fr h₀ L h' m')(N:News h₀ L h' news')(hn:∀ p∈Led c,p∈news')(ho:∀ p∈own,p∈news')(ha:(Led c).map (·.1)=adr)(hk:∀ p∈ps c,m' p.1=some p.2)(hr:∀ z,z≠x->(∀ p∈ps c,z≠p.1)->stored.contains z=false->m' z=m₀ z)(hp:P pre c) :
  InvEndN h₀ L (GSt Led ps x stored m₀ P pre) own adr s₁ { s₁ with heap:=h',toks:=tk }:=
 InvEndN.intro F N ⟨c,rfl,hk,hr,hp⟩ ha hn ho
theorem iter_genL {α:Type}{l:Addr}{vs:List Value}{xs:List α}{nn:Nat}{m₀:PySem.Str->Option Value}{news:List (Addr×Obj)}(In:α->Value->Prop)(J:Nat->(PySem.Str->Option Value)->List (Addr×Obj)->Prop)
  (hh:A.handled=none)(hl:(l,listOf vs.toArray nn)∈news)(hi:All2 In xs vs)(F:Fr h₀ env.locals s.heap m₀)(N:News h₀ env.locals s.heap news)(hj:J 0 m₀ news)
  (turn:∀ i a v m₁ news₁ h tk own,xs[i]? = some a->In a v->news₁.map (·.1)=news.map (·.1)->OwnOff own (news.map (·.1))->(l,listOf vs.toArray nn)∈news₁->J i m₁ news₁->Fr h₀ env.locals h (fun y=>if y=x then some v else m₁ y)->News h₀ env.locals h (news₁++own) ->
   wpAny (model prog w) A (execs body env) (InvPostN h₀ env.locals (fun m' nx=>(l,listOf vs.toArray nn)∈nx/\J (i + 1) m' nx) own (news.map (·.1)) { s with heap:=h,toks:=tk } Q) E { s with heap:=h,toks:=tk })
  (done:∀ m₁ news₁ h tk,(l,listOf vs.toArray nn)∈news₁->J xs.length m₁ news₁->Fr h₀ env.locals h m₁->News h₀ env.locals h news₁->Q .next { s with heap:=h,toks:=tk }) :
  wpAny (model prog w) A (pyIter (.ref l)) (fun it s₂=>LoopAtV prog w A h₀ env x body Q E it s₂) E s:=by
 have hol:s.heap.get? l=some (listOf vs.toArray nn):=(N _ hl).1
 have hls:s.heap.IsList l vs.toArray:=⟨_,hol,rfl,nn,rfl⟩
 have hne:l≠s.heap.objs.size:=Nat.ne_of_lt (Heap.lt_size hol)
 refine wpAny_pyIter_list hls ?_
 have W:=Walks.list (prog:=prog) (w:=w) hh s.heap.objs.size l hne vs.toArray
 have hlen:vs.toArray.size=xs.length:=by simp [hi.length]
 rw [hlen] at W
 refine ⟨_,_,_,xs.length,_,_,m₀,news,(fun i m nx=>nx.map (·.1)=news.map (·.1)/\(l,listOf vs.toArray nn)∈nx/\J i m nx),rfl,W,?_,?_,?_,⟨⟨_,Heap.get?_push_size _ rfl,rfl,rfl⟩,hls.at fun o e=>Heap.get?_push_of_some _ e⟩,F.push _,(fun p hp=>⟨Heap.get?_push_of_some _ (N p hp).1,(N p hp).2⟩),⟨rfl,hl,hj⟩,?_,?_⟩
 ·intro hm
  rcases List.mem_cons.mp hm with e | hm
  ·exact absurd F.ns.lt (e ▸ Nat.lt_irrefl _)
  ·exact (N _ hl).2.1 ((List.mem_singleton.mp hm).symm)
 ·intro b hb
  rw [List.mem_singleton.mp hb]
  exact next_is_new F
 ·intro p hp hI
  exact absurd (Heap.lt_size (N p hp).1) ((List.mem_singleton.mp hI) ▸ Nat.lt_irrefl _)
 ·rintro i v m₁ news₁ s₁ own ⟨hh',tk',rfl⟩ hin hP ⟨hadr,hl₁,hJ⟩ hoff hown hget hfp _ F₁ N₁
  have hsep:OwnOff (own.filter fun p=>decide (p.1=s.heap.objs.size)) (news.map (·.1)):=by
   intro p hp b hb e
   obtain ⟨q,hq,rfl⟩:=List.mem_map.mp hb
   have h1:p.1=s.heap.objs.size:=by simpa using (List.mem_filter.mp hp).2
   exact absurd (Heap.lt_size (N q hq).1) (by rw [<- e,h1];exact Nat.lt_irrefl _)
  have hlt':i < xs.length:=hin
  have hP':vs[i]? = some v:=by simpa using hP
  have hxa:xs[i]? = some xs[i]:=by simp [hlt']
  have N₂:News h₀ env.locals hh' (news₁++own.filter fun p=>decide (p.1=s.heap.objs.size)):=fun p hp=>N₁ p ((List.mem_append.mp hp).elim (fun h=>List.mem_append.mpr (.inr h)) fun h=>List.mem_append.mpr (.inl ((List.mem_filter.mp h).1)))
  have hlo:hh'.get? l=some (listOf vs.toArray nn):=(N₁ _ (List.mem_append.mpr (.inr hl₁))).1
  refine wpAny_mono (turn i xs[i] v m₁ news₁ hh' tk' _ hxa (hi.get hxa hP') hadr hsep hl₁ hJ F₁ N₂) (fun f s₂ p=>?_) fun _ _ e=>e
  have fin:InvEndN h₀ env.locals (fun m' nx=>(l,listOf vs.toArray nn)∈nx/\J (i + 1) m' nx) (own.filter fun p=>decide (p.1=s.heap.objs.size)) (news.map (·.1)) { s with heap:=hh',toks:=tk' } s₂ ->
    LoopStepU h₀ env.locals [s.heap.objs.size] own (fun m nx=>nx.map (·.1)=news.map (·.1)/\(l,listOf vs.toArray nn)∈nx/\J (i + 1) m nx) { s with heap:=hh',toks:=tk' } .next s₂:=by
   rintro ⟨h',tk,m',news',nx,e,F',N',hn,ho,ha,hm⟩
   refine ⟨rfl,h',tk,m',nx,e,F',fun p hp=>?_,fun p hp=>?_,ha,hm⟩
   ·rcases List.mem_append.mp hp with h | h
    ·by_cases hI:p.1=s.heap.objs.size
     ·exact N' p (ho p (List.mem_filter.mpr ⟨h,by simpa using hI⟩))
     ·have h1:p.1=l:=by
       rcases List.mem_cons.mp (hown p h) with h2 | h2
       ·exact absurd h2 hI
       ·exact List.mem_singleton.mp h2
      have h2:hh'.get? p.1=some p.2:=hget p h
      rw [h1,hlo] at h2
      have h3:p=(l,listOf vs.toArray nn):=Prod.ext h1 (Option.some.inj h2).symm
      rw [h3]
      exact N' _ (hn _ hm.1)
    ·exact N' p (hn p h)
   ·have h1:p.1∈nx.map (·.1):=List.mem_map.mpr ⟨p,hp,rfl⟩
    rw [ha] at h1
    obtain ⟨q,hq,e⟩:=List.mem_map.mp h1
    intro hI
    exact absurd (Heap.lt_size (N q hq).1) (by rw [e,List.mem_singleton.mp hI];exact Nat.lt_irrefl _)
  cases f with
  | ret v=>exact .ret p
  | brk=>exact .brk p
  | next=>exact .next (fin p)
  | cont=>exact .cont (fin p)
 ·rintro h' tk m' news' F' N' _ ⟨_,hl',hJ⟩
  exact done m' news' h' tk hl' hJ F' N'
theorem kg_listL {α σ:Type}{l:Addr}{vs:List Value}{xs:List α}{nn:Nat}{m₀:PySem.Str->Option Value}(In:α->Value->Prop)(Led:σ->List (Addr×Obj))(ps:σ->List (PySem.Str×Value))(stored:List PySem.Str)(P:List α->σ->Prop)(c₀:σ)
  (hh:A.handled=none)(hl:∀ c:σ,(l,listOf vs.toArray nn)∈Led c)(hi:All2 In xs vs)(F:Fr h₀ env.locals s.heap m₀)(N:News h₀ env.locals s.heap (Led c₀))(hk:∀ p∈ps c₀,m₀ p.1=some p.2)(hp:P [] c₀)
  (turn:∀ (c:σ) pre post a v (u:PySem.Str->Option Value) h tk own,xs=pre++a::post->In a v->OwnOff own ((Led c₀).map (·.1))->P pre c ->
   Fr h₀ env.locals h (upd (kstB (hid stored u m₀) (ps c)) x v)->News h₀ env.locals h (Led c++own) ->
   wpAny (model prog w) A (execs body env) (InvPostN h₀ env.locals (GSt Led ps x stored m₀ P (pre++[a])) own ((Led c₀).map (·.1)) { s with heap:=h,toks:=tk } Q) E { s with heap:=h,toks:=tk })
  (done:∀ (c:σ)(u:PySem.Str->Option Value) h tk,P xs c->Fr h₀ env.locals h (updO (kstB (hid stored u m₀) (ps c)) x u)->News h₀ env.locals h (Led c)->Q .next { s with heap:=h,toks:=tk }) :
  wpAny (model prog w) A (pyIter (.ref l)) (fun it s₂=>LoopAtV prog w A h₀ env x body Q E it s₂) E s:=by
 refine iter_genL In (fun i m nx=>GSt Led ps x stored m₀ P (xs.take i) m nx) hh (hl c₀) hi F N ⟨c₀,rfl,hk,fun _ _ _ _=>rfl,by rw [List.take_zero];exact hp⟩ ?_ ?_
 ·rintro i n v m₁ nx h tk own hn hv _ hoff _ ⟨c,rfl,h1,h2,hp'⟩ F₁ N₁
  have hs:xs.take (i + 1)=xs.take i++[n]:=by simp [List.take_add_one,hn]
  have e:xs=xs.take i++n::xs.drop (i + 1):=by
   have ht:=List.take_append_drop (i + 1) xs
   rw [hs,List.append_assoc] at ht
   exact ht.symm
  rw [hs]
  refine wpAny_mono (turn c _ _ n v m₁ h tk own e hv hoff hp' (kst_fr h1 h2 F₁) N₁) (fun f s₂ p=>?_) fun _ _ x=>x
  have up:InvEndN h₀ env.locals (GSt Led ps x stored m₀ P (xs.take i++[n])) own ((Led c₀).map (·.1)) { s with heap:=h,toks:=tk } s₂ ->
    InvEndN h₀ env.locals (fun m' nx=>(l,listOf vs.toArray nn)∈nx/\GSt Led ps x stored m₀ P (xs.take i++[n]) m' nx) own ((Led c₀).map (·.1)) { s with heap:=h,toks:=tk } s₂:=by
   rintro ⟨h',tk',m',news',nx',e',F',N',hn',ho',ha,hS⟩
   refine ⟨h',tk',m',news',nx',e',F',N',hn',ho',ha,?_,hS⟩
   obtain ⟨c',rfl,_⟩:=hS
   exact hl c'
  cases f with
  | ret v=>exact p
  | brk=>exact p
  | next=>exact up p
  | cont=>exact up p
 ·rintro m₁ nx h tk _ ⟨c,rfl,h1,h2,hp'⟩ F₁ N₁
  rw [List.take_length] at hp'
  exact done c m₁ h tk hp' (kst_frOut h1 h2 F₁) N₁
noncomputable def WhB (b:Bool)(T F:Prop):Prop:=(b=true->T)/\(b=false->F)
noncomputable def WhNext {σ:Type}(h₀:Heap)(L:Addr)(Led:σ->List (Addr×Obj))(ps:σ->List (PySem.Str×Value))(stored:List PySem.Str)(m₀:PySem.Str->Option Value)(P:σ->Prop) (μ:σ->Nat)(n:Nat)(s₁ s₂:Shared):Prop:=
 ∃ (c:σ)(h':Heap)(tk:Nat)(m':PySem.Str->Option Value)(news':List (Addr×Obj)),s₂={ s₁ with heap:=h',toks:=tk }/\Fr h₀ L h' m'/\News h₀ L h' news'/\(∀ p∈Led c,p∈news') /\
  (∀ p∈ps c,m' p.1=some p.2)/\(∀ z,(∀ p∈ps c,z≠p.1)->stored.contains z=false->m' z=m₀ z)/\P c/\μ c < n
noncomputable def WhEnd {σ:Type}(h₀:Heap)(L:Addr)(Led:σ->List (Addr×Obj))(ps:σ->List (PySem.Str×Value))(stored:List PySem.Str)(m₀:PySem.Str->Option Value)(P:σ->Prop) (μ:σ->Nat)(n:Nat)(s₁:Shared)(Q:Flow->Shared->Prop)(f:Flow)(s₂:Shared):Prop:=
 match f with
 | .ret v=>Q (.ret v) s₂
 | .brk=>Q .next s₂
 | _=>WhNext h₀ L Led ps stored m₀ P μ n s₁ s₂
theorem kstB_off {ps:List (PySem.Str×Value)}{stored:List PySem.Str}{m₀ m₁:PySem.Str->Option Value} (h1:∀ p∈ps,m₁ p.1=some p.2) (h2:∀ z,(∀ p∈ps,z≠p.1)->stored.contains z=false->m₁ z=m₀ z) :
  kstB (hid stored m₁ m₀) ps=m₁:=by
 funext y
 refine kstB_eq h1 fun hn=>?_
 show (if stored.contains y=true then m₁ y else m₀ y)=m₁ y
 cases h3:stored.contains y with
 | true=>simp
 | false=>simp only [Bool.false_eq_true,if_false];exact (h2 y hn h3).symm
theorem wh_loop {σ:Type}{test:Expr}{m₀:PySem.Str->Option Value}(Led:σ->List (Addr×Obj))(ps:σ->List (PySem.Str×Value))(stored:List PySem.Str)(P:σ->Prop) (μ:σ->Nat)(c₀:σ){pos:Pos}
  (hE:PassesOwn (model prog w) A env E)(F:Fr h₀ env.locals s.heap m₀)(N:News h₀ env.locals s.heap (Led c₀))(hk:∀ p∈ps c₀,m₀ p.1=some p.2)(hp:P c₀)
  (turn:∀ (c:σ)(u:PySem.Str->Option Value) h tk,P c->Fr h₀ env.locals h (kstB (hid stored u m₀) (ps c))->News h₀ env.locals h (Led c) ->
   wpAny (model prog w) A (isTrue test env (eval test env)) (fun b s₂=>WhB b (wpAny (model prog w) A (execs body env) (WhEnd h₀ env.locals Led ps stored m₀ P μ (μ c) { s with heap:=h,toks:=tk } Q) E s₂) (Q .next s₂)) E { s with heap:=h,toks:=tk }) :
  wpAny (model prog w) A (exec (.While test body [] pos) env) Q E s:=by
 refine whl_start 0 ?_
 have key:∀ (n:Nat)(c:σ)(u:PySem.Str->Option Value) h tk,μ c < n->P c->Fr h₀ env.locals h (kstB (hid stored u m₀) (ps c))->News h₀ env.locals h (Led c) ->
   WhlRest prog w A E env test body [] Q 0 { s with heap:=h,toks:=tk }:=by
  intro n
  induction n with
  | zero=>intro c u h tk hn;exact absurd hn (Nat.not_lt_zero _)
  | succ n ih=>
   intro c u h tk hn hP F₁ N₁
   refine whl_turn (k:=0) hE (wpAny_mono (turn c u h tk hP F₁ N₁) (fun b s₂ hb=>?_) fun _ _ e=>e)
   obtain ⟨ht,hf⟩:=hb
   cases b with
   | false=>exact WhlIf.no rfl (wpAny_execs_nil (hf rfl))
   | true=>
    refine WhlIf.yes rfl (wpAny_mono (ht rfl) (fun f s₃ h₃=>?_) fun _ _ e=>e)
    have nx:WhNext h₀ env.locals Led ps stored m₀ P μ (μ c) { s with heap:=h,toks:=tk } s₃->WhlRest prog w A E env test body [] Q 0 s₃:=by
     rintro ⟨c',h',tk',m',news',rfl,F',N',hn',hk',hz',hP',hlt⟩
     refine ih c' m' h' tk' (by omega) hP' ?_ (fun p hp=>N' p (hn' p hp))
     rw [kstB_off hk' hz']
     exact F'
    cases f with
    | ret v=>exact h₃
    | brk=>exact h₃
    | next=>exact nx h₃
    | cont=>exact nx h₃
 have e:s={ s with heap:=s.heap,toks:=s.toks }:=rfl
 rw [e]
 refine key (μ c₀ + 1) c₀ m₀ s.heap s.toks (Nat.lt_succ_self _) hp ?_ N
 rw [kstB_off hk (fun _ _ _=>rfl)]
 exact F
theorem wh_end {σ:Type}{Led:σ->List (Addr×Obj)}{ps:σ->List (PySem.Str×Value)}{stored:List PySem.Str}{m₀:PySem.Str->Option Value}{P:σ->Prop} {μ:σ->Nat}{n:Nat}(c:σ){L:Addr}{m':PySem.Str->Option Value}{news':List (Addr×Obj)}{s₁:Shared}{h':Heap}{tk:Nat}
  (F:Fr h₀ L h' m')(N:News h₀ L h' news')(hn:∀ p∈Led c,p∈news')(hk:∀ p∈ps c,m' p.1=some p.2)(hr:∀ z,(∀ p∈ps c,z≠p.1)->stored.contains z=false->m' z=m₀ z)(hp:P c)(hlt:μ c < n) :
  WhNext h₀ L Led ps stored m₀ P μ n s₁ { s₁ with heap:=h',toks:=tk }:=⟨c,h',tk,m',news',rfl,F,N,hn,hk,hr,hp,hlt⟩
theorem wh_endS {σ:Type}{Led:σ->List (Addr×Obj)}{ps:σ->List (PySem.Str×Value)}{stored:List PySem.Str}{m₀:PySem.Str->Option Value}{P:σ->Prop} {μ:σ->Nat}{n:Nat}(c:σ){L:Addr}{m':PySem.Str->Option Value}{news':List (Addr×Obj)}{s₁ s₂:Shared}(S:Same s₁ s₂)
  (F:Fr h₀ L s₂.heap m')(N:News h₀ L s₂.heap news')(hn:∀ p∈Led c,p∈news')(hk:∀ p∈ps c,m' p.1=some p.2)(hr:∀ z,(∀ p∈ps c,z≠p.1)->stored.contains z=false->m' z=m₀ z)(hp:P c)(hlt:μ c < n) :
  WhNext h₀ L Led ps stored m₀ P μ n s₁ s₂:=⟨c,_,_,m',news',S.eq,F,N,hn,hk,hr,hp,hlt⟩
theorem gst_endS {α σ:Type}{Led:σ->List (Addr×Obj)}{ps:σ->List (PySem.Str×Value)}{stored:List PySem.Str}{m₀:PySem.Str->Option Value}{P:List α->σ->Prop}{pre:List α}(c:σ){L:Addr}{m':PySem.Str->Option Value}{own news':List (Addr×Obj)}{adr:List Addr}{s₁ s₂:Shared}(S:Same s₁ s₂)
  (F:Fr h₀ L s₂.heap m')(N:News h₀ L s₂.heap news')(hn:∀ p∈Led c,p∈news')(ho:∀ p∈own,p∈news')(ha:(Led c).map (·.1)=adr)(hk:∀ p∈ps c,m' p.1=some p.2)(hr:∀ z,z≠x->(∀ p∈ps c,z≠p.1)->stored.contains z=false->m' z=m₀ z)(hp:P pre c) :
  InvEndN h₀ L (GSt Led ps x stored m₀ P pre) own adr s₁ s₂:=by
 rw [S.eq]
 exact gst_end c F N hn ho ha hk hr hp
end
end Mine
end XS4
section XP2
namespace Mine
open PySem PySem.Builtin PySem.Builtin.Str
noncomputable def hexd (d:Nat):Nat:=if d < 10 then 48 + d else 55 + d
noncomputable def unitL (c:Nat):List Nat:=if c=9\/(32<=c/\c<=126/\c≠61) then [c] else [61,hexd (c / 16),hexd (c % 16)]
noncomputable def unitS (c:Nat):PySem.Str:=⟨(unitL c).toArray⟩
theorem unit_a:∀ c < 256,((⟨#[c]⟩:PySem.Str) == PySem.Str.ofString "\t")=true->(⟨#[c]⟩:PySem.Str)=unitS c:=by decide +kernel
theorem lt_one (a b:Nat):([a] < [b])↔a < b:=by simp [List.cons_lt_cons_iff]
theorem unit_b0:∀ c < 256,32<=c->c<=126->((⟨#[c]⟩:PySem.Str) != PySem.Str.ofString "=")=true->(⟨#[c]⟩:PySem.Str)=unitS c:=by decide +kernel
theorem unit_b (c:Nat)(hc:c < 256) (h1:¬ ((⟨#[c]⟩:PySem.Str).cps.toList < (PySem.Str.ofString " ").cps.toList)) (h2:¬ ((PySem.Str.ofString "~").cps.toList < (⟨#[c]⟩:PySem.Str).cps.toList)) (h3:((⟨#[c]⟩:PySem.Str) != PySem.Str.ofString "=")=true):(⟨#[c]⟩:PySem.Str)=unitS c:=by
 have h1':¬ ([c] < [32]):=h1
 have h2':¬ ([126] < [c]):=h2
 rw [lt_one] at h1' h2'
 exact unit_b0 c hc (Nat.not_lt.mp h1') (Nat.not_lt.mp h2') h3
theorem unit_c:∀ c < 256,((⟨#[c]⟩:PySem.Str) == PySem.Str.ofString "\t")=false->(⟨#[c]⟩:PySem.Str).cps.toList < (PySem.Str.ofString " ").cps.toList->PySem.Str.ofString "=" ++ Txt.item (PySem.Str.ofString "0123456789ABCDEF") (Int.fdiv c 16)++Txt.item (PySem.Str.ofString "0123456789ABCDEF") (Int.fmod c 16)=unitS c:=by decide +kernel
theorem unit_d:∀ c < 256,((⟨#[c]⟩:PySem.Str) == PySem.Str.ofString "\t")=false->(PySem.Str.ofString "~").cps.toList < (⟨#[c]⟩:PySem.Str).cps.toList->PySem.Str.ofString "=" ++ Txt.item (PySem.Str.ofString "0123456789ABCDEF") (Int.fdiv c 16)++Txt.item (PySem.Str.ofString "0123456789ABCDEF") (Int.fmod c 16)=unitS c:=by decide +kernel
theorem unit_e:∀ c < 256,((⟨#[c]⟩:PySem.Str) != PySem.Str.ofString "=")=false->PySem.Str.ofString "=" ++ Txt.item (PySem.Str.ofString "0123456789ABCDEF") (Int.fdiv c 16)++Txt.item (PySem.Str.ofString "0123456789ABCDEF") (Int.fmod c 16)=unitS c:=by decide +kernel
theorem unit_pos (c:Nat):1<=(unitS c).length/\(unitS c).length<=3:=by
 show 1<=(unitL c).toArray.size/\(unitL c).toArray.size<=3
 rw [List.size_toArray]
 unfold unitL
 split <;> simp
end Mine
namespace Mine
open PySem
noncomputable def lensum (us:List PySem.Str):Int:=(us.map fun u=>((u.length:Nat):Int)).sum
structure MSt where
 rows:List PySem.Str
 row:PySem.Str
 left:Int
 rest:Bool
noncomputable def mStep (wd:Int)(q:MSt)(u:PySem.Str):MSt:=
 if q.rest=false/\wd<=((q.row.length:Nat):Int) + ((u.length:Nat):Int) then ⟨q.rows++[q.row++PySem.Str.ofString "="],PySem.Str.ofString "" ++ u,q.left - ((u.length:Nat):Int),decide (q.left<=wd)⟩
 else ⟨q.rows,q.row++u,q.left - ((u.length:Nat):Int),q.rest⟩
noncomputable def wsum (rows:List PySem.Str):Nat:=(rows.map (·.length)).sum
theorem wsum_snoc (rows:List PySem.Str)(r:PySem.Str):wsum (rows++[r])=wsum rows + r.length:=by simp [wsum]
theorem len_app (a b:PySem.Str):(a++b).length=a.length + b.length:=PySem.Str.length_append a b
theorem mStep_bounds (wd:Int)(q:MSt)(u:PySem.Str)(hu:u.length<=3):(mStep wd q u).row.length<=q.row.length + 3/\(mStep wd q u).rows.length<=q.rows.length + 1/\wsum (mStep wd q u).rows + (mStep wd q u).row.length<=wsum q.rows + q.row.length + 4:=by
 have e0:(PySem.Str.ofString "").length=0:=rfl
 have e1:(PySem.Str.ofString "=").length=1:=rfl
 unfold mStep
 split
 ·have k:(PySem.Str.ofString "" ++ u).length<=3:=by rw [len_app,e0,Nat.zero_add];exact hu
  exact ⟨Nat.le_trans k (Nat.le_add_left 3 _),Nat.le_of_eq List.length_append,by rw [wsum_snoc,len_app q.row,e1];exact Nat.add_le_add_left k (wsum q.rows + (q.row.length + 1))⟩
 ·exact ⟨by rw [len_app];exact Nat.add_le_add_left hu _,Nat.le_succ _,by rw [len_app,<- Nat.add_assoc];exact Nat.add_le_add_left (Nat.le_succ_of_le hu) _⟩
theorem st1 {a b c k m:Nat} (h1:b<=a + k) (h2:c<=b + m):c<=a + (m + k):=Nat.le_trans h2 (Nat.le_trans (Nat.add_le_add_right h1 m) (Nat.le_of_eq (by rw [Nat.add_assoc,Nat.add_comm k])))
theorem lbk {A B r l w n k:Nat} (h2:B<=A + w + n) (h1:A<=r + l + k):B<=r + (l + w) + (n + k):=by
 rw [<- Nat.add_assoc r]
 exact st1 (k:=k) (by rw [Nat.add_right_comm];exact Nat.add_le_add_right h1 w) h2
theorem mFold_bounds (wd:Int):∀ (us:List PySem.Str)(q:MSt),(∀ u∈us,u.length<=3)->(us.foldl (mStep wd) q).row.length<=q.row.length + 3 * us.length/\(us.foldl (mStep wd) q).rows.length<=q.rows.length + us.length/\wsum (us.foldl (mStep wd) q).rows + (us.foldl (mStep wd) q).row.length<=wsum q.rows + q.row.length + 4 * us.length
 | [],q,_=>⟨Nat.le_refl _,Nat.le_refl _,Nat.le_refl _⟩
 | u::us,q,h=>by
  have h1:=mStep_bounds wd q u (h u (List.Mem.head _))
  have h2:=mFold_bounds wd us (mStep wd q u) fun x hx=>h x (List.Mem.tail _ hx)
  exact ⟨st1 h1.1 h2.1,st1 h1.2.1 h2.2.1,st1 h1.2.2 h2.2.2⟩
end Mine
namespace Mine
open PySem
theorem slice_pos {x y z:PySem.Str}(h:(y == z)=true)(hl:y.length<=x.length)(hz:z.length=1):1<=x.length:=by
 have e:=eq_of_beq h
 subst e
 exact hz ▸ hl
noncomputable def mTail (wd:Int)(rows:List PySem.Str)(row:PySem.Str):List PySem.Str:=
 if (Txt.slice row (some (-1)) none == PySem.Str.ofString " ")=true\/(Txt.slice row (some (-1)) none == PySem.Str.ofString "\t")=true then
  if ((row.length:Nat):Int) + 2<=wd then rows++[Txt.slice row none (some (-1))++(if (Txt.item row (-1) == PySem.Str.ofString " ")=true then PySem.Str.ofString "=20" else PySem.Str.ofString "=09")]
  else if ((row.length:Nat):Int) < wd then rows++[row++PySem.Str.ofString "="]++[PySem.Str.ofString ""]
  else rows++[Txt.slice row none (some (-1))++PySem.Str.ofString "="]++[if (Txt.item row (-1) == PySem.Str.ofString " ")=true then PySem.Str.ofString "=20" else PySem.Str.ofString "=09"]
 else rows++[row]
noncomputable def mInit (wd:Int)(rows:List PySem.Str)(us:List PySem.Str):MSt:=⟨rows,PySem.Str.ofString "",lensum us,decide (lensum us<=wd)⟩
noncomputable def mLine (wd:Int)(rows:List PySem.Str)(line:PySem.Str):List PySem.Str:=
 mTail wd ((line.cps.toList.map unitS).foldl (mStep wd) (mInit wd rows (line.cps.toList.map unitS))).rows ((line.cps.toList.map unitS).foldl (mStep wd) (mInit wd rows (line.cps.toList.map unitS))).row
noncomputable def mRows (v:PySem.Str)(wd:Int):List PySem.Str:=(Txt.split v (PySem.Str.ofString "\n")).foldl (mLine wd) []
noncomputable def mailS (v:PySem.Str)(wd:Int)(e:PySem.Str):PySem.Str:=Txt.join e (mRows v wd)
end Mine
namespace Mine
open PySem
theorem mTail_bounds (wd:Int)(rows:List PySem.Str)(row:PySem.Str):(mTail wd rows row).length<=rows.length + 2/\wsum (mTail wd rows row)<=wsum rows + row.length + 4:=by
 have e1:(PySem.Str.ofString "=").length=1:=rfl
 have e2:(PySem.Str.ofString "=20").length=3:=rfl
 have e3:(PySem.Str.ofString "=09").length=3:=rfl
 have e4:(PySem.Str.ofString "").length=0:=rfl
 have h:=Txt.slice_le row none (some (-1))
 have ho:(if (Txt.item row (-1) == PySem.Str.ofString " ")=true then PySem.Str.ofString "=20" else PySem.Str.ofString "=09").length=3:=by split <;> rfl
 unfold mTail
 split
 ·split
  ·exact ⟨Nat.le_trans (Nat.le_of_eq List.length_append) (Nat.le_succ _),by rw [wsum_snoc,len_app,ho,<- Nat.add_assoc];exact Nat.add_le_add (Nat.add_le_add_left h _) (by decide)⟩
  ·split
   ·exact ⟨Nat.le_of_eq (by rw [List.length_append,List.length_append];rfl),by rw [wsum_snoc,wsum_snoc,len_app,e1,e4];exact Nat.add_le_add_left (by decide:1<=4) (wsum rows + row.length)⟩
   ·exact ⟨Nat.le_of_eq (by rw [List.length_append,List.length_append];rfl),by rw [wsum_snoc,wsum_snoc,len_app,ho,e1];exact Nat.add_le_add_right (Nat.add_le_add_left h (wsum rows)) 4⟩
 ·exact ⟨Nat.le_trans (Nat.le_of_eq List.length_append) (Nat.le_succ _),by rw [wsum_snoc];exact Nat.le_add_right _ 4⟩
theorem units_short (line:PySem.Str):∀ u∈line.cps.toList.map unitS,u.length<=3:=fun u hu=>by obtain ⟨c,_,rfl⟩:=List.mem_map.mp hu;exact (unit_pos c).2
theorem mLine_bounds (wd:Int)(rows:List PySem.Str)(line:PySem.Str):(mLine wd rows line).length<=rows.length + line.length + 2/\wsum (mLine wd rows line)<=wsum rows + 4 * line.length + 4:=by
 unfold mLine
 have h1:=mFold_bounds wd (line.cps.toList.map unitS) (mInit wd rows (line.cps.toList.map unitS)) (units_short line)
 have h2:=mTail_bounds wd ((line.cps.toList.map unitS).foldl (mStep wd) (mInit wd rows (line.cps.toList.map unitS))).rows ((line.cps.toList.map unitS).foldl (mStep wd) (mInit wd rows (line.cps.toList.map unitS))).row
 have e:(line.cps.toList.map unitS).length=line.length:=by rw [List.length_map,Array.length_toList];rfl
 have e0:(PySem.Str.ofString "").length=0:=rfl
 rw [e] at h1
 simp only [mInit] at h1 h2 ⊢
 rw [e0] at h1
 exact ⟨Nat.le_trans h2.1 (Nat.add_le_add_right h1.2.1 2),Nat.le_trans h2.2 (Nat.add_le_add_right h1.2.2 4)⟩
theorem mLines_bounds (wd:Int):∀ (ls rows:List PySem.Str),(ls.foldl (mLine wd) rows).length<=rows.length + wsum ls + 2 * ls.length/\wsum (ls.foldl (mLine wd) rows)<=wsum rows + 4 * (wsum ls + ls.length)
 | [],rows=>by simp
 | l::ls,rows=>by
  have h1:=mLine_bounds wd rows l
  have h2:=mLines_bounds wd ls (mLine wd rows l)
  have e:wsum (l::ls)=l.length + wsum ls:=by simp [wsum]
  have e4:4 * (l.length + wsum ls + ls.length)=4 * l.length + 4 * (wsum ls + ls.length):=by rw [Nat.add_assoc,Nat.mul_add]
  rw [e]
  refine ⟨lbk h2.1 h1.1,?_⟩
  show _<=wsum rows + 4 * (l.length + wsum ls + ls.length) + 4
  rw [e4]
  exact lbk (n:=0) h2.2 h1.2
theorem wsum_app (a b:List PySem.Str):wsum (a++b)=wsum a + wsum b:=by simp [wsum]
end Mine
end XP2
section XS5
open PySem PySem.W PyProof.Rows PySem.Calls
namespace Mine
noncomputable abbrev isText (a:PySem.Str)(v:Value):Prop:=∃ t,v = .str a t
theorem all2_of_strValues:∀ l:List (PySem.Str×Tok),All2 isText (l.map (·.1)) (strValues l)
 | []=>.nil
 | (a,t)::r=>.cons ⟨t,rfl⟩ (all2_of_strValues r)
theorem All2.strs {xs:List PySem.Str}{vs:List Value}(h:All2 isText xs vs):StrsAre vs xs:=by
 induction h with
 | nil=>exact .nil
 | cons h _ ih=>obtain ⟨t,rfl⟩:=h;exact .cons _ _ ih
theorem lst_push (xs:List Value)(v:Value):listOf (xs.toArray.push v) (xs.length + 1)=listOf (xs++[v]).toArray (xs++[v]).length:=by rw [List.push_toArray,List.length_append];rfl
theorem all2_map {cs:List Nat}{vs:List Value}(h:All2 (fun c y=>isText (unitS c) y) cs vs):All2 isText (cs.map unitS) vs:=by
 induction h with
 | nil=>exact .nil
 | cons h _ ih=>exact .cons h ih
theorem all2_item {α:Type}{R:α->Value->Prop}{xs:List α}{vs:List Value}(h:All2 R xs vs)(i:Nat)(v:Value)(e:vs.toArray[i]? = some v):∃ a,xs[i]? = some a/\R a v:=by
 have e':vs[i]? = some v:=by simpa using e
 have hi:i < vs.length:=(List.getElem?_eq_some_iff.mp e').1
 have hx:xs[i]? = some (xs[i]'(by rw [h.length];exact hi)):=by simp [h.length,hi]
 exact ⟨_,hx,h.get hx e'⟩
theorem All2.snoc {α:Type}{R:α->Value->Prop}{as:List α}{vs:List Value}{a:α}{v:Value}(h:All2 R as vs) (h2:R a v):All2 R (as++[a]) (vs++[v]):=by
 induction h with
 | nil=>exact .cons h2 .nil
 | cons h1 _ ih=>exact .cons h1 ih
theorem All2.ints {xs:List PySem.Str}{vs:List Value}(h:All2 (fun u y=>∃ t,y = .int ((PySem.Str.length u:Nat):Int) t) xs vs):IntsAre vs (xs.map fun u=>((u.length:Nat):Int)):=by
 induction h with
 | nil=>exact .nil
 | cons h _ ih=>obtain ⟨t,rfl⟩:=h;exact .cons _ _ ih
theorem sub_chars (x:PySem.Str)(i j:Nat):∀ c∈(Builtin.Str.strSub x i j).cps.toList,c∈x.cps.toList:=by
 intro c hc
 rw [StrLaws.strSub_toList] at hc
 exact List.mem_of_mem_drop (List.mem_of_mem_take hc)
theorem partsFrom_chars (x:PySem.Str)(w:Nat):∀ (cuts:List Nat)(a:Nat),∀ p∈StrLaws.partsFrom x w a cuts,∀ c∈p.cps.toList,c∈x.cps.toList
 | [],a,p,hp=>by rw [List.mem_singleton.mp hp];exact sub_chars x _ _
 | c::r,a,p,hp=>by
  rcases List.mem_cons.mp hp with rfl | hp'
  ·exact sub_chars x _ _
  ·exact partsFrom_chars x w r _ p hp'
theorem split_chars {x y a:PySem.Str}(h:a∈Txt.split x y):∀ c∈a.cps.toList,c∈x.cps.toList:=by
 unfold Txt.split at h
 split at h
 ·rw [List.mem_singleton.mp h];exact fun _ h=>h
 ·split at h
  ·rw [List.mem_singleton.mp h];exact fun _ h=>h
  ·rw [StrLaws.partsBetween_eq] at h
   exact partsFrom_chars x _ _ _ a h
section
variable {prog:Program}{w:World}{A:Around}{E:Value->Shared->Prop}{s:Shared}{x y:PySem.Str}{t u:Tok}{h₀:Heap}{L:Addr}{m:PySem.Str->Option Value}{news:List (Addr×Obj)}{Q:Value->Shared->Prop}
theorem k_split (F:Fr h₀ L s.heap m)(N:News h₀ L s.heap news)(hy:(y.length == 0)=false)(hx:x.length<=100000)
  (h:∀ l vs h' k,All2 isText (Txt.split x y) vs->(∀ p∈news,p.1 < l)->Fr h₀ L h' m->News h₀ L h' ((l,listOf vs.toArray 0)::news)->Q (.ref l) { s with heap:=h',toks:=k }) :
  wpAny (model prog w) A (call (.builtin "str.split") [.str x t,.str y u]) Q E s:=
 splitN1 F N hy (fun l h' k e F' N'=>h _ _ h' k (e ▸ all2_of_strValues l) (fun p hp=>Heap.lt_size (N p hp).1) F' N') (by rw [sizeLine_eq];omega)
theorem k_splitlines (F:Fr h₀ L s.heap m)(N:News h₀ L s.heap news)(hx:x.length<=100000)
  (h:∀ l vs h' k,All2 isText (Txt.lines x) vs->(∀ p∈news,p.1 < l)->Fr h₀ L h' m->News h₀ L h' ((l,listOf vs.toArray 0)::news)->Q (.ref l) { s with heap:=h',toks:=k }) :
  wpAny (model prog w) A (call (.builtin "str.splitlines") [.str x t]) Q E s:=
 splitlinesN F N (fun l h' k e F' N'=>h _ _ h' k (e ▸ all2_of_strValues l) (fun p hp=>Heap.lt_size (N p hp).1) F' N') (by rw [sizeLine_eq];omega) (by have e:=lineCuts_le x;rw [sizeLine_eq];omega)
theorem k_join {D:Addr}{vs:List Value}{k:Nat}{ys:List PySem.Str}(N:News h₀ L s.heap news)(hm:(D,listOf vs.toArray k)∈news)(hy:All2 isText ys vs)(hsep:x.length<=16)(hw:(ys.map (·.length)).sum + ys.length<=1048576)
  (h:∀ t' k,Q (.str (Txt.join x ys) t') { s with toks:=k }):wpAny (model prog w) A (call (.builtin "str.join") [.str x t,.ref D]) Q E s:=
 join_listW (News.isList N hm) hy.strs hsep hw h
end
end Mine
end XS5
section XL4
open PySem PySem.W PyProof.Rows PySem.Calls
namespace Mine
open Mine.Hd
theorem esc_call {w:World}{p:Program}{loose:List Str}{mean:ExcName->Option Value}{mg mb:Str->Option Value}
  {dp un:Nat}{gd:Option (List Code)}{cn:Str}{cs:Scope}{a:Addr}{ccd:Value}{cl:List (Str×Addr)}{outer:List Env}{A₀:Around}{base h₀:Heap}{L:Addr}{m:Str->Option Value}{v:Str}
  (B:Below A₀ base outer h₀)(X:(heapK w.params).In h₀)(T:Top p loose mean mg mb h₀)(hk:cs.kind = .function)(hd:dp + 20 < recursionLimit)(hu:un + 200 < cLine)(hv:v.length<=10000) :
  EscCall rw_re0182_01.row.prog w (ktrTop dp un gd cn cs L a ccd cl outer) h₀ L m 219 v (mapS (tabF tabA) v):=
 fun s led tv Q F N h=>esca_ct v tv led s m L dp un gd cn cs a ccd cl outer A₀ base h₀ Q _ B F X N T hk hd hu hv h
theorem escA_len {v:Str}{n:Nat}(hv:v.length<=n)(hn:6 * n<=100000):(mapS (tabF tabA) v).length<=100000:=
 Nat.le_trans (mapS_length _ 6 (fun c=>tabF_len tabA (by decide) c) v) (by omega)
theorem attrS_le {k e:Str}(hk:k.length<=100)(he:e.length<=100000):(attrS k e).length<=200000:=by
 have z1:∀ a b:Str,(a++b).length=a.length + b.length:=fun a b=>strLen_append a b
 have q1:(Str.empty:Str).length=0:=rfl
 have q2:(Str.ofString " ").length=1:=by decide
 have q3:(Str.ofString "=\"").length=2:=by decide
 have q4:(Str.ofString "\"").length=1:=by decide
 unfold attrS
 rw [z1,z1,z1,z1,z1]
 omega
section
variable {prog:Program}{w:World}{A:Around}{E:Value->Shared->Prop}{s:Shared}{h₀:Heap}{L:Addr}{news:List (Addr×Obj)}
theorem join1 {D:Addr}{a:Str}{u t:Tok}{k:Nat}{Q:Value->Shared->Prop}(N:News h₀ L s.heap news)(hm:(D,listOf #[.str a u] k)∈news)(hw:a.length<=200000)(h:∀ t' k,Q (.str a t') { s with toks:=k }) :
  wpAny (model prog w) A (call (.builtin "str.join") [.str (Str.ofString "") t,.ref D]) Q E s:=by
 refine k_join (vs:=[.str a u]) (ys:=[a]) N hm (.cons ⟨u,rfl⟩ .nil) (by decide) (by simp;omega) fun t' k=>?_
 have e:Txt.join (Str.ofString "") [a]=a:=by unfold Txt.join;rw [StrLaws.glued_eq_join];rfl
 rw [e]
 exact h t' k
theorem join2 {D:Addr}{a b:Str}{u v t:Tok}{k:Nat}{Q:Value->Shared->Prop}(N:News h₀ L s.heap news)(hm:(D,listOf #[.str a u,.str b v] k)∈news)(hw:a.length<=200000) (hw2:b.length<=200000)(h:∀ t' k,Q (.str (a++b) t') { s with toks:=k }) :
  wpAny (model prog w) A (call (.builtin "str.join") [.str (Str.ofString "") t,.ref D]) Q E s:=by
 refine k_join (vs:=[.str a u,.str b v]) (ys:=[a,b]) N hm (.cons ⟨u,rfl⟩ (.cons ⟨v,rfl⟩ .nil)) (by decide) (by simp;omega) fun t' k=>?_
 have e:Txt.join (Str.ofString "") [a,b]=a++b:=by
  unfold Txt.join
  rw [StrLaws.glued_eq_join]
  show a++Str.ofString "" ++ b=a++b
  apply PySem.Str.ext'
  apply Array.ext'
  show ((a.cps++#[])++b.cps).toList=(a.cps++b.cps).toList
  simp
 rw [e]
 exact h t' k
end
end Mine
end XL4
section XL5
open PySem PySem.W PyProof.Rows PySem.Calls
namespace Mine
noncomputable abbrev joinObj (sep:PySem.Str)(t:Tok):Obj:=⟨.type "builtin_function_or_method",none,.fields #[.builtin "str.join",.str sep t],#[]⟩
section
variable {prog:Program}{w:World}{M:Model}{A:Around}{E:Value->Shared->Prop}{s:Shared}{K:Frag}{h₀:Heap}{L:Addr}{m:PySem.Str->Option Value}{news:List (Addr×Obj)}
theorem jn_callWith {pos:Pos}{u:Addr}{sep:PySem.Str}{t:Tok}{env:Env}{e:Expr}{Q:Value->Shared->Prop}
  (h:wpAny M A (eval e env) (fun v s₁=>s₁.heap.get? u=some (joinObj sep t)/\wpAny M A (call (.ref u) [v]) Q E s₁) E s)
  (he:starEach [e] env=[(false,eval e env)]):wpAny M A (callWith pos (.ref u) [] (backTo pos (starEach [e] env)) []) Q E s:=by
 rw [he]
 unfold callWith
 refine wpAny_bind (wpAny_holding ?_)
 refine evalArgs_plain (spliced_cons (wpAny_mono h (fun v s₁ h₁=>spliced_nil ?_) fun _ _ x=>x))
 obtain ⟨ho,hcall⟩:=h₁
 refine wpAny_bind (wpAny_standAt ?_)
 refine wpAny_bind (m:=keeperOf (.ref u)) ?_
 unfold keeperOf
 refine wpAny_bind (wpAny_load ho ?_)
 dsimp only [show (Value.type "builtin_function_or_method" != Value.type "method")=true by decide,show (Value.type "builtin_function_or_method" == Value.type "builtin_function_or_method" || Value.type "builtin_function_or_method" == Value.type "method-wrapper")=true by decide,if_true]
 refine wpAny_pure ?_
 exact wpAny_bind (wpAny_mono hcall (fun r s₂ hr=>wpAny_bind (wpAny_holding (wpAny_point (wpAny_pure hr)))) fun _ _ x=>x)
theorem jn_check {sep:PySem.Str}{t:Tok}{v:Value}{Q:Unit->Shared->Prop}(hQ:Q () s):wpAny M A (checkBoundCall "str.join" ⟨[.str sep t,v],[]⟩) Q E s:=by
 have hT:s.TypeIs (.str sep t) "str" := typeIs_str _ _ _
 have f1:isSubtype (.type "str") (.type "module")=pure false:=by rw [isSubtype_type];kernel_rfl
 have f2:isSubtype (.type "str") (.type "type")=pure false:=by rw [isSubtype_type];kernel_rfl
 have f3:builtinKind "str.join" = some .method:=by decide +kernel
 have f4:Manifest.varargsMethods.contains "str.join" = false:=by decide +kernel
 unfold checkBoundCall
 rw [signature?_of (id:="str.join") (n:=['n','i','o','j']) (o:=['r','t','s']) (by kernel_rfl) PySem.F.owner_str]
 dsimp only [f3,f4]
 repeat (any_goals (first | assumption | wp_step))
theorem jn_call {x:Addr}{sep:PySem.Str}{t:Tok}{v:Value}{Q:Value->Shared->Prop}(ho:s.heap.get? x=some (joinObj sep t))
  (h:codeAny (model prog w) A (.builtin "str.join" ⟨[.str sep t,v],[]⟩) (wants Q E) s):wpAny (model prog w) A (call (.ref x) [v]) Q E s:=by
 refine wpAny_call (codeAny_of_tree ?_)
 dsimp only [callAny]
 refine wpAny_bind (wpAny_load ho ?_)
 dsimp only [show (Value.type "builtin_function_or_method" == Value.type "method" || Value.type "builtin_function_or_method" == Value.type "builtin_function_or_method" || Value.type "builtin_function_or_method" == Value.type "method-wrapper")=true by decide,if_true]
 refine KFB.if_so (by decide) ?_
 refine wpAny_bind (jn_check ?_)
 refine wpAny_bind (wpAny_pure (wpAny_pure ?_))
 exact ⟨Code.quiet_builtin _ (by decide +kernel),h⟩
theorem jn_plain:plainId "str.join" = true:=by decide +kernel
theorem jn_list {x D:Addr}{sep:PySem.Str}{t:Tok}{l:List (PySem.Str×Tok)}{n:Nat}{Q:Value->Shared->Prop}(ho:s.heap.get? x=some (joinObj sep t))(N:News h₀ L s.heap news)(hm:(D,listOf (strValues l).toArray n)∈news)
  (hsep:sep.length<=16)(hw:((l.map (·.1)).map (·.length)).sum + (l.map (·.1)).length<=1048576)(hq:∀ t' k,Q (.str (Txt.join sep (l.map (·.1))) t') { s with toks:=k }) :
  wpAny (model prog w) A (call (.ref x) [.ref D]) Q E s:=by
 refine jn_call ho (codeAny_builtin PySem.F.entry_str_join ?_)
 rw [Around.under_plainId jn_plain _]
 have hok:=PyProof.Rows.joinOk_of (PyProof.Rows.total_of_weight hw hsep)
 unfold JoinOk at hok
 rw [Bool.not_eq_true'] at hok
 exact (meets_str_join_list sep t D l hok) prog w A _ s ⟨N.isList hm,post_join l ⟨joinFit_length hok,hq⟩⟩
end
end Mine
end XL5
section XL6
open PySem PySem.W PyProof.Rows PySem.Calls
namespace Mine
section
variable {prog:Program}{w:World}{A:Around}{E:Value->Shared->Prop}{s:Shared}{h₀:Heap}{L:Addr}{m:PySem.Str->Option Value}{news news':List (Addr×Obj)}
theorem upd_empty {M:Model}{a:Addr}{xs:Array Value}{n:Nat}{f:Array Value->Array Value}{Q:Unit->Shared->Prop}(ho:s.heap.get? a=some (listOf xs n))(hz:xs.size<=sizeLine)(he:f xs=#[])
  (h:∀ f:Array Value->Array Value,f xs=#[]->Q () { s with heap:=s.heap.update a (Obj.mapSeq f) }):wpAny M A (updateSeq a f) Q E s:=
 wpAny_updateSeq ho rfl (h f he) hz (by rw [he];exact Nat.zero_le _)
theorem del_all {l sl:Addr}{items:Array Value}{n:Nat}{Q:Unit->Shared->Prop}(ho:s.heap.get? l=some (listOf items n))(hs:s.heap.IsSliceOf sl .none .none .none)
  (hit:(∃ x,items=#[x])\/∃ x y,items=#[x,y])
  (h:∀ f:Array Value->Array Value,f items=#[]->Q () { s with heap:=s.heap.update l (Obj.mapSeq f) }):wpAny (model prog w) A (delItem (.ref l) (.ref sl)) Q E s:=by
 obtain ⟨os,hos,hcs,hds⟩:=id hs
 have hT:s.TypeIs (.ref l) "list" := ⟨_,ho,rfl⟩
 have hTs:s.TypeIs (.ref sl) "slice" := ⟨os,hos,hcs⟩
 have hsz:items.size<=sizeLine:=by rcases hit with ⟨x,rfl⟩ | ⟨x,y,rfl⟩ <;> (rw [sizeLine_eq];show _<=_;simp)
 refine wpAny_delItem_slot hT (by decide) F.slot_list_delitem ?_
 refine wpAny_call_entry F.slot_list_delitem hT F.entry_list_delitem ?_ (F.args_list_delitem_2 _ _)
 refine (?_:wpAny _ _ (Builtin.List.listSubscript? (.ref sl) >>= _) _ _ s)
 refine wpAny_bind ?_
 unfold Builtin.List.listSubscript?
 refine wpAny_bind (wpAny_specialOf hTs slice_no_index ?_)
 dsimp only [Option.isNone_none,if_true]
 refine wpAny_pure ?_
 refine wpAny_bind (wpAny_typeOf hTs ?_)
 refine wp_ifn ((by decide)) ?_
 rw [listSliceParts_eq]
 refine wpAny_bind (wpAny_bind (wpAny_field hos hds (x:=.none) rfl (wpAny_bind (wpAny_listPart .none ?_))))
 refine wp_ifn ((show ¬ ((rawPart none == rawInt 0)=true) from Bool.false_ne_true)) ?_
 refine wpAny_bind (wpAny_field hos hds (x:=.none) rfl (wpAny_bind (wpAny_listPart .none ?_)))
 refine wpAny_bind (wpAny_field hos hds (x:=.none) rfl (wpAny_bind (wpAny_listPart .none (wpAny_pure ?_))))
 refine wpAny_bind (m:=Builtin.List.listItems (.ref l)) ?_
 unfold Builtin.List.listItems
 refine wpAny_bind (wpAny_seqItems ho rfl (wpAny_pure ?_))
 refine wpAny_bind (wpAny_of_eq (sliceIndices_raw none none none items.size (by decide)) ?_)
 refine wpAny_bind (wpAny_rule ?_)
 refine wpAny_bind ?_
 refine upd_empty ho hsz ?_ fun f hf=>?_
 ·rcases hit with ⟨x,rfl⟩ | ⟨x,y,rfl⟩ <;> kernel_rfl
 ·refine wpAny_bind (wpAny_letGo ?_)
  exact wpAny_pure ⟨_,rfl,h _ hf⟩
theorem kdel_all {p:Pos}{D:Addr}{items:Array Value}{n:Nat}{env:Env}{g:Obj->List (Addr×Obj)}{Q:Unit->Shared->Prop}(F:Fr h₀ L s.heap m)(N:News h₀ L s.heap news)(U:UpdF D (listOf items n) news g)
  (hit:(∃ x,items=#[x])\/∃ x y,items=#[x,y])
  (h:∀ h',Fr h₀ L h' m->News h₀ L h' (g (listOf #[] (n + 1)))->Q () { s with heap:=h' }) :
  wpAny (model prog w) A (eval (.Slice none none none p) env) (fun iv s₂=>wpAny (model prog w) A (delItem (.ref D) iv) Q E s₂) E s:=by
 refine wpAny_Slice (evalPart_none_step (evalPart_none_step (evalPart_none_step ?_)))
 have N1:News h₀ L (s.heap.push { cls:=.type "slice",data:=.fields #[.none,.none,.none] }) news:=N.grown fun b x e=>Heap.get?_push_of_some _ e
 have F1:Fr h₀ L (s.heap.push { cls:=.type "slice",data:=.fields #[.none,.none,.none] }) m:=F.push _
 obtain ⟨pre,post,rfl,hg,a,b⟩:=U.split
 have z:=N1 (D,listOf items n) (List.mem_append.mpr (.inr (.head _)))
 refine del_all z.1 (Heap.IsSliceOf.new _ _ _ _) hit fun f hf=>?_
 refine h _ (F1.change (Heap.SameBut.update ..) z.2.1 z.2.2) ?_
 rw [hg]
 refine news_set N1 a b (Heap.SameBut.update ..) ?_
 have hn:((0:Nat) == items.size)=false:=by rcases hit with ⟨x,rfl⟩ | ⟨x,y,rfl⟩ <;> rfl
 have hm:Obj.mapSeq f (listOf items n)=listOf #[] (n + 1):=by
  show (⟨_,_,.seq (f items) (if (f items).size == items.size then n else n + 1),_⟩:Obj)=_
  rw [hf]
  show (⟨_,_,.seq #[] (if ((0:Nat) == items.size)=true then n else n + 1),_⟩:Obj)=_
  rw [hn];rfl
 rw [Heap.get?_update_self _ z.1 (by rw [hm];rfl),hm]
end
end Mine
end XL6
section XS12
open PySem PySem.W PyProof.Rows PySem.Calls PySem.Spec
namespace Mine
open Mine.Hd
noncomputable def dRows:Obj->List (PySem.Str×Value)
 | ⟨_,_,.dict es _,_⟩=>es.toList.filterMap fun e=>match e.key with | .str x _=>some (x,e.val) | _=>none
 | _=>[]
noncomputable def dEnts (P:Params)(l:List (PySem.Str×Tok×Value)):List DictEntry:=l.map fun p=>⟨PyData.keyHash P p.1,.str p.1 p.2.1,p.2.2⟩
theorem str_is (prog:Program)(w:World)(x:PySem.Str)(t:Tok):(PySem.strKind prog w).is x (.str x t)=true:=beq_self_eq_true x
theorem dEnts_pairs (prog:Program)(w:World):∀ l:List (PySem.Str×Tok×Value),Pairs (PySem.strKind prog w) (dEnts w.params l) (l.map fun p=>(p.1,p.2.2))
 | []=>.nil
 | p::r=>.cons (str_is _ _ _ _) rfl (dEnts_pairs prog w r)
theorem dEnts_is (prog:Program)(w:World)(l:List (PySem.Str×Tok×Value))(n:Nat)(h:(l.map (·.1)).Nodup) :
  (⟨.type "dict",none,.dict (dEnts w.params l).toArray n,#[]⟩:Obj).IsDictOf (PySem.strKind prog w) (l.map fun p=>(p.1,p.2.2)):=by
 refine ⟨_,_,⟨rfl,rfl,rfl⟩,rfl,?_,by simpa using dEnts_pairs prog w l,by rw [List.map_map];exact h⟩
 intro e he
 have he:e∈dEnts w.params l:=by simpa using he
 obtain ⟨p,_,rfl⟩:=List.mem_map.mp he
 exact ⟨p.1,str_is _ _ _ _,rfl⟩
noncomputable def nsl:List (PySem.Str×Tok×Value):=[(Str.ofString "http://www.w3.org/XML/1998/namespace",1930,(.str (Str.ofString "xml") 1931)),(Str.ofString "http://www.w3.org/1999/xhtml",1932,(.str (Str.ofString "html") 1933)),(Str.ofString "http://www.w3.org/1999/02/22-rdf-syntax-ns#",1934,(.str (Str.ofString "rdf") 1935)),(Str.ofString "http://schemas.xmlsoap.org/wsdl/",1936,(.str (Str.ofString "wsdl") 1937)),(Str.ofString "http://www.w3.org/2001/XMLSchema",1938,(.str (Str.ofString "xs") 1939)),(Str.ofString "http://www.w3.org/2001/XMLSchema-in\x73tance",1940,(.str (Str.ofString "xsi") 1941)),(Str.ofString "http://purl.org/dc/elements/1.1/",1942,(.str (Str.ofString "dc") 1943))]
theorem o95_is (prog:Program)(w:World):(o95 w.params).IsDictOf (PySem.strKind prog w) (nsl.map fun p=>(p.1,p.2.2)):=dEnts_is prog w nsl 7 (by decide +kernel)
theorem K95 (P:Params):(heapK P).lookup 95=some (o95 P):=by kernel_rfl
section
variable {prog:Program}{w:World}{A:Around}{E:Value->Shared->Prop}{s:Shared}{h₀:Heap}{L:Addr}{m:Str->Option Value}{news:List (Addr×Obj)}
theorem ns_at {h:Heap}(X:(heapK w.params).In h):h.DictOf (PySem.strKind prog w) 95 (nsl.map fun p=>(p.1,p.2.2)):=Heap.dictOf_iff.mpr ⟨_,X _ _ (K95 _),o95_is prog w⟩
theorem ns_method {pl:Sem Bool}{Q:Value×List Value->Shared->Prop}(X₀:(heapK w.params).In h₀)(F:Fr h₀ L s.heap m)(h:Q (.builtin "dict.items",[.ref 95]) s) :
  wpAny (model prog w) A (getMethod (.ref 95) "items" pl) Q E s:=
 have X:=X₀.keeps F.keep
 getMethod_builtin (ns_at (prog:=prog) X).typeIs PySem.F.plainAttrs_dict PySem.F.slot_dict_items PySem.F.type_dict_items (ns_at (prog:=prog) X).mapOf.noDict h
theorem ns_view {Q:Value->Shared->Prop}(X₀:(heapK w.params).In h₀)(F:Fr h₀ L s.heap m)(N:News h₀ L s.heap news)
  (h:∀ (D:Addr) h',Fr h₀ L h' m->News h₀ L h' ((D,{ cls:=.type "dict_items",data:=.fields #[.ref 95] })::news)->(∀ q∈news,q.1 < D)->Q (.ref D) { s with heap:=h' }) :
  wpAny (model prog w) A (call (.builtin "dict.items") [.ref 95]) Q E s:=
 have X:=X₀.keeps F.keep
 have hD:=ns_at (prog:=prog) X
 call_meetsIn PySem.F.slot_dict_items hD.typeIs PySem.F.entry_dict_items (PySem.F.args_dict_items_1 _) (meets_dict_items (PySem.strKind prog w) 95 (by decide)) ⟨⟨_,hD⟩,h _ _ (F.push _) (News.push F N _) fun q hq=>Heap.lt_size (N q hq).1⟩
theorem ns_list {v:Addr}{Q:Value->Shared->Prop}(hh:A.handled=none)(X₀:(heapK w.params).In h₀)(F:Fr h₀ L s.heap m)(N:News h₀ L s.heap news)(hvw:(v,{ cls:=.type "dict_items",data:=.fields #[.ref 95] })∈news)
  (h:∀ (B:Addr) h' tk vs c,Fr h₀ L h' m->News h₀ L h' ((B,listOf vs c)::news)->(∀ q∈news,q.1 < B)->Q (.ref B) { s with heap:=h',toks:=tk }) :
  wpAny (model prog w) A (call (.type "list") [.ref v]) Q E s:=by
 have X:=X₀.keeps F.keep
 obtain ⟨ep,hat⟩:=KdkAt.of (o95_is prog w)
 refine kdx_call (knd:=PySem.strKind prog w) (kvs:=nsl.map fun p=>(p.1,p.2.2)) (ep:=ep) hh ⟨_,(N _ hvw).1,rfl,rfl⟩ (hat.dictAt (X _ _ (K95 _))) (Nat.le_of_ble_eq_true rfl) fun h' tk acc c as hk hS hl hG hacc=>?_
 refine h _ h' tk acc c (F.keeps hk) (fun q hq=>?_) fun q hq=>Heap.lt_size (N q hq).1
 rcases List.mem_cons.mp hq with rfl | hq
 ·exact ⟨hS,kdx_fresh F (Nat.le_refl _)⟩
 ·exact ⟨hk _ _ (N q hq).1,(N q hq).2⟩
end
end Mine
end XS12
section XL7
open PySem PySem.W PyProof.Rows PySem.Calls
namespace Mine
open Mine.Hd
theorem K149 (P:Params):(heapK P).lookup 149=some (o149 P):=by kernel_rfl
noncomputable def JnAt (h:Heap):Prop:=h.get? 149=some (joinObj (Str.ofString "") 2038)
section
variable {prog:Program}{w:World}{A:Around}{E:Value->Shared->Prop}{s:Shared}{h₀:Heap}{L:Addr}{m:PySem.Str->Option Value}{news:List (Addr×Obj)}
theorem jn_at {h:Heap}(X:(heapK w.params).In h₀)(F:Fr h₀ L h m):JnAt h:=X.keeps F.keep _ _ (K149 _)
theorem jn149_callWith {pos:Pos}{env:Env}{e:Expr}{Q:Value->Shared->Prop}
  (h:wpAny (model prog w) A (eval e env) (fun v s₁=>JnAt s₁.heap/\wpAny (model prog w) A (call (.ref 149) [v]) Q E s₁) E s)
  (he:starEach [e] env=[(false,eval e env)]):wpAny (model prog w) A (callWith pos (.ref 149) [] (backTo pos (starEach [e] env)) []) Q E s:=
 jn_callWith h he
theorem jn_eq1 (a:PySem.Str):Txt.join (Str.ofString "") [a]=a:=rfl
theorem jn_eq2 (a b:PySem.Str):Txt.join (Str.ofString "") [a,b]=a++b:=by
 show (⟨a.cps++(Str.ofString "").cps++b.cps⟩:PySem.Str)=⟨a.cps++b.cps⟩
 rw [show (Str.ofString "").cps=#[] from rfl,Array.append_empty]
theorem jn149_one {D:Addr}{a:PySem.Str}{ta:Tok}{n:Nat}{Q:Value->Shared->Prop}(X:(heapK w.params).In h₀)(F:Fr h₀ L s.heap m)(N:News h₀ L s.heap news)(hm:(D,listOf #[.str a ta] n)∈news)
  (ha:a.length<=500000)(h:∀ t' k,Q (.str a t') { s with toks:=k }):wpAny (model prog w) A (call (.ref 149) [.ref D]) Q E s:=
 jn_list (l:=[(a,ta)]) (jn_at X F) N hm (by decide) (by simp;omega) (by show ∀ t' k,Q (.str (Txt.join (Str.ofString "") [a]) t') _;rw [jn_eq1];exact h)
theorem jn149_two {D:Addr}{a b:PySem.Str}{ta tb:Tok}{n:Nat}{Q:Value->Shared->Prop}(X:(heapK w.params).In h₀)(F:Fr h₀ L s.heap m)(N:News h₀ L s.heap news)(hm:(D,listOf #[.str a ta,.str b tb] n)∈news)
  (ha:a.length<=500000)(hb:b.length<=500000)(h:∀ t' k,Q (.str (a++b) t') { s with toks:=k }):wpAny (model prog w) A (call (.ref 149) [.ref D]) Q E s:=
 jn_list (l:=[(a,ta),(b,tb)]) (jn_at X F) N hm (by decide) (by simp;omega) (by show ∀ t' k,Q (.str (Txt.join (Str.ofString "") [a,b]) t') _;rw [jn_eq2];exact h)
end
end Mine
end XL7
section XL8
open PySem PySem.W PyProof.Rows PySem.Calls
namespace Mine
noncomputable def glue (l:List PySem.Str):PySem.Str:=l.foldr (·++·) PySem.Str.empty
theorem app_empty (a:PySem.Str):a++PySem.Str.empty=a:=by
 show (⟨a.cps++#[]⟩:PySem.Str)=a
 rw [Array.append_empty]
theorem empty_app (a:PySem.Str):PySem.Str.empty++a=a:=by
 show (⟨#[]++a.cps⟩:PySem.Str)=a
 rw [Array.empty_append]
theorem app_assoc (a b c:PySem.Str):a++b++c=a++(b++c):=by
 show (⟨a.cps++b.cps++c.cps⟩:PySem.Str)=⟨a.cps++(b.cps++c.cps)⟩
 rw [Array.append_assoc]
theorem glue_append (l k:List PySem.Str):glue (l++k)=glue l++glue k:=by
 induction l with
 | nil=>exact (empty_app _).symm
 | cons a l ih=>show a++glue (l++k)=a++glue l++glue k;rw [ih,app_assoc]
theorem glue_fold (l:List PySem.Str):∀ acc:Array Nat,(⟨l.foldl (fun acc p=>acc++(Str.ofString "").cps++p.cps) acc⟩:PySem.Str)=⟨acc++(glue l).cps⟩:=by
 induction l with
 | nil=>intro acc;show (⟨acc⟩:PySem.Str)=⟨acc++#[]⟩;rw [Array.append_empty]
 | cons a l ih=>
  intro acc
  show (⟨l.foldl (fun acc p=>acc++(Str.ofString "").cps++p.cps) (acc++#[]++a.cps)⟩:PySem.Str)=_
  rw [ih,Array.append_empty]
  show (⟨acc++a.cps++(glue l).cps⟩:PySem.Str)=⟨acc++(a.cps++(glue l).cps)⟩
  rw [Array.append_assoc]
theorem join_glue (l:List PySem.Str):Txt.join (Str.ofString "") l=glue l:=by
 cases l with
 | nil=>rfl
 | cons a l=>exact glue_fold l a.cps
theorem glue_sum (l:List PySem.Str):(l.map (·.length)).sum=(glue l).length:=by
 induction l with
 | nil=>rfl
 | cons a l ih=>
  rw [List.map_cons,List.sum_cons,ih]
  show a.cps.size + (glue l).cps.size=(a.cps++(glue l).cps).size
  rw [Array.size_append]
noncomputable def OutIs (its:Array Value)(txt:PySem.Str)(k:Nat):Prop:=∃ l:List (PySem.Str×Tok),its=(strValues l).toArray/\glue (l.map (·.1))=txt/\l.length<=k
theorem OutIs.size {its:Array Value}{txt:PySem.Str}{k:Nat}(h:OutIs its txt k):its.size<=k:=by
 obtain ⟨l,rfl,_,hk⟩:=h
 simpa [strValues] using hk
theorem OutIs.nil:OutIs #[] PySem.Str.empty 0:=⟨[],rfl,rfl,Nat.le_refl _⟩
theorem OutIs.push {its:Array Value}{txt a:PySem.Str}{t:Tok}{k:Nat}(h:OutIs its txt k):OutIs (its.push (.str a t)) (txt++a) (k + 1):=by
 obtain ⟨l,rfl,rfl,hk⟩:=h
 refine ⟨l++[(a,t)],by simp [strValues],?_,by simp;omega⟩
 rw [List.map_append,glue_append]
 show glue _++(a++PySem.Str.empty)=_
 rw [app_empty]
theorem OutIs.grow {its:Array Value}{txt:PySem.Str}{k k':Nat}(h:OutIs its txt k)(hk:k<=k'):OutIs its txt k':=by
 obtain ⟨l,h1,h2,h3⟩:=h
 exact ⟨l,h1,h2,Nat.le_trans h3 hk⟩
section
variable {prog:Program}{w:World}{A:Around}{E:Value->Shared->Prop}{s:Shared}{h₀:Heap}{L:Addr}{m:PySem.Str->Option Value}{news:List (Addr×Obj)}
theorem jn_out {D:Addr}{its:Array Value}{txt:PySem.Str}{k n:Nat}{t:Tok}{Q:Value->Shared->Prop}(N:News h₀ L s.heap news)(hm:(D,listOf its n)∈news)(ho:OutIs its txt k)
  (hk:k<=1000)(hl:txt.length<=500000)(h:∀ t' k,Q (.str txt t') { s with toks:=k }):wpAny (model prog w) A (call (.builtin "str.join") [.str (Str.ofString "") t,.ref D]) Q E s:=by
 obtain ⟨l,rfl,rfl,h3⟩:=ho
 have hok:=joinOk_of (total_of_weight (x:=Str.ofString "") (ys:=l.map (·.1)) (by rw [glue_sum,List.length_map];omega) (by decide))
 unfold JoinOk at hok
 rw [Bool.not_eq_true'] at hok
 exact call_meets F.slot_str_join (typeIs_str _ _ _) F.entry_str_join (F.args_str_join_2 _ _) (meets_str_join_list _ t D l hok) ⟨N.isList hm,post_join l ⟨joinFit_length hok,by rw [join_glue];exact h⟩⟩
end
end Mine
end XL8
section XU4
open PySem PySem.W PyProof.Rows PySem.Calls
namespace Mine
noncomputable def updL:List (Str×Value)->(Str->Option Value)->Str->Option Value
 | [],m=>m
 | (n,v)::r,m=>updL r (upd m n v)
theorem szL {its:Array Value}(h:Nat.ble its.size 100000=true):its.size<=sizeLine:=by
 have:=Nat.le_of_ble_eq_true h
 rw [sizeLine_eq];omega
section
variable {prog:Program}{w:World}{A:Around}{E:Value->Shared->Prop}{s s₀:Shared}{h₀:Heap}{L:Addr}{m:PySem.Str->Option Value}{news news':List (Addr×Obj)}{D:Addr}{its:Array Value}{n k:Nat}{as rs:List Addr}{Q:Value->Shared->Prop}
theorem append_B {x:Value}(F:Fr h₀ L s.heap m)(N:News h₀ L s.heap news)(S:SB s₀ s)(H:Ap as rs)(e:addrs news=as++rs)(U:UpdS D (listOf its n) (listOf (its.push x) (n + 1)) k news news')(hn:Nat.ble (k + 1) as.length=true)(hsz:its.size<=sizeLine)
  (h:∀ s',Fr h₀ L s'.heap m->News h₀ L s'.heap news'->SB s₀ s'->Q .none s'):wpAny (model prog w) A (call (.builtin "list.append") [.ref D,x]) Q E s:=
 append_K F N (upd_ap H e U hn) (fun _ F' N'=>h _ F' N' S) hsz
theorem kapp_B {x:Addr}{v:Value}(F:Fr h₀ L s.heap m)(N:News h₀ L s.heap news)(S:SB s₀ s)(hx:(x,appObj D)∈news)(H:Ap as rs)(e:addrs news=as++rs)(U:UpdS D (listOf its n) (listOf (its.push v) (n + 1)) k news news')(hn:Nat.ble (k + 1) as.length=true)(hsz:its.size<=sizeLine)
  (h:∀ s',Fr h₀ L s'.heap m->News h₀ L s'.heap news'->SB s₀ s'->Q .none s'):wpAny (model prog w) A (call (.ref x) [v]) Q E s:=
 kapp_call F N hx (upd_ap H e U hn) (fun _ F' N'=>h _ F' N' S) hsz
theorem pop_B {p:List Value}{y:Value}(F:Fr h₀ L s.heap m)(N:News h₀ L s.heap news)(S:SB s₀ s)(hl:kl_last its.toList=some (p,y))(H:Ap as rs)(e:addrs news=as++rs)(U:UpdS D (listOf its n) (listOf p.toArray (n + 1)) k news news')(hn:Nat.ble (k + 1) as.length=true)
  (hz:its.toList.length<=sizeLine)(h:∀ s',Fr h₀ L s'.heap m->News h₀ L s'.heap news'->SB s₀ s'->Q y s'):wpAny (model prog w) A (call (.builtin "list.pop") [.ref D]) Q E s:=
 kl_pop F N hl (upd_ap H e U hn) hz (fun _ F' N'=>h _ F' N' S)
theorem set_B {K:Frag}{x C dx:Addr}{ox:Obj}{es es':List DictEntry}{n':Nat}{name:PySem.Str}{v:Value}{Q:Unit->Shared->Prop}(F:Fr h₀ L s.heap m)(X₀:K.In h₀)(N:News h₀ L s.heap news)(S:SB s₀ s)(I:InstAt s.heap x ox C (some (dictOf es n)))(hd:ox.dict=some dx)
  (hs:findIn K (.ref C) "__setattr__" = some (some (.builtin "object.__setattr__")))(hp:plainOver K C=true)(ht:takerIn K C name=some none)(hh:hasDictIn K C=true)(hl:(getL name es).isSome=true)
  (e:(putL name (PyData.keyHash w.params name) (.str name (s.toks + 1)) v es,putN name es n)=(es',n'))(H:Ap as rs)(eA:addrs news=as++rs)(U:UpdS dx (dictOf es n) (dictOf es' n') k news news')(hn:Nat.ble (k + 1) as.length=true)(hz:es'.length<=1000)
  (h:∀ s',Fr h₀ L s'.heap m->News h₀ L s'.heap news'->SB s₀ s'->Q () s'):wpAny (model prog w) A (setAttr (.ref x) name v) Q E s:=
 set_dict F X₀ N I hd hs hp ht hh hl e (upd_ap H eA U hn) hz (fun _ F' N'=>h _ F' N' S)
end
theorem enterB {prog:Program}{w:World}{A A₀:Around}{s:Shared}{K:Frag}{L:Addr}{h₀ base:Heap}{m mg mb:Str->Option Value}{news:List (Addr×Obj)}{p:Program}{loose:List Str}{mean:ExcName->Option Value}{env:Env}{outer:List Env}{R:Result->Shared->Prop}{name qual:Str}{params:Arguments}{body:List Stmt}{scope:Scope}{dV kV doc pm cdv ct oc:Value}{an od:Option Addr}{osl:Array (Option Value)}{f:Addr}{args:Args}(binds:List (Str×Value)){s₀:Shared}(S:SB s₀ s)
  (B:Below A₀ base outer h₀)(F:Fr h₀ L s.heap m)(X₀:K.In h₀)(N:News h₀ L s.heap news)(T:Top p loose mean mg mb h₀)(hA:A.frames=some (env::outer))(hf:env.frame=some L)(hke:env.scope.kind = .function)
  (ho:K.lookup f=some ⟨oc,od,.func (fnOf name qual params body scope dV kV doc pm an cdv ct),osl⟩)(hcd:codeIn K cdv qual=true)(hroom:A.depth < recursionLimit)
  (hbind:BindsTo s (fnOf name qual params body scope dV kV doc pm an cdv ct) args binds)(hloc:∀ y∈binds,scope.names.lookup y.1=some .local)
  (h:∀ g L' s',Fr h₀ L g m->Fr g L' s'.heap (lk binds.reverse)->News g L' s'.heap news->Below A base (env::outer) g->K.In g->Top p loose mean mg mb g->SB s₀ s' ->
   wpAny (model prog w) (A.deeper (envOf qual scope L' f cdv)) (execs body (envOf qual scope L' f cdv))
    (fun fl s'=>LeaveK h₀ L m g R (match fl with | .ret v=>v | _=>.none) s')
    (fun e s'=>wpAny (model prog w) (A.deeper (envOf qual scope L' f cdv)) (leaving (envOf qual scope L' f cdv) e) (fun _ s''=>R (.error e) s'') (fun e' s''=>R (.error e') s'') s') s')
  (hco:scope.isCoroutine=false)(hgen:scope.isGenerator=false)(hk:scope.kind = .function)
  (hcell:∀ x∈scope.names,x.2≠.cell):codeAny (model prog w) A (.call (.ref f) args) R s:=
 code_def B F X₀ N T hA hf hke ho hcd hroom hbind hloc (fun g L' _ FG F' N' B' X' T'=>h g L' _ FG F' N' B' X' T' S) hco hgen hk hcell
theorem enterC {prog:Program}{w:World}{A A₀:Around}{s:Shared}{K:Frag}{L:Addr}{h₀ base:Heap}{m mg mb:Str->Option Value}{news:List (Addr×Obj)}{p:Program}{loose:List Str}{mean:ExcName->Option Value}{env:Env}{outer:List Env}{R:Result->Shared->Prop}{name qual:Str}{params:Arguments}{body:List Stmt}{scope:Scope}{dV kV doc pm cdv ct oc:Value}{an od:Option Addr}{osl:Array (Option Value)}{f:Addr} {a1 a2 a3 a4:Value}{s₀:Shared}(S:SB s₀ s){as rs:List Addr}{cx cy:Str}{vx:Value}(H:Ap as rs)(eA:addrs news=as++rs)
  (B:Below A₀ base outer h₀)(F:Fr h₀ L s.heap m)(X₀:K.In h₀)(N:News h₀ L s.heap news)(T:Top p loose mean mg mb h₀)(hA:A.frames=some (env::outer))(hf:env.frame=some L)(hke:env.scope.kind = .function)
  (ho:K.lookup f=some ⟨oc,od,.func (fnOf name qual params body scope dV kV doc pm an cdv ct),osl⟩)(hcd:codeIn K cdv qual=true)(hroom:A.depth < recursionLimit)
  (hbind:BindsTo s (fnOf name qual params body scope dV kV doc pm an cdv ct) ⟨[a1,a2,a3,a4],[]⟩ [(Str.ofString "self",a1),(Str.ofString "tag",a2),(Str.ofString "attrs",a3),(Str.ofString "new_namespaces",a4),(Str.ofString "qname_text",.none)])(hkind:([(Str.ofString "self",a1),(Str.ofString "tag",a2),(Str.ofString "attrs",a3),(Str.ofString "new_namespaces",a4),(Str.ofString "qname_text",.none)].all fun y=>scope.names.lookup y.1 == some .local || scope.names.lookup y.1 == some .cell)=true)
  (hcells:∀ n,cellsFrom n scope.names []=[(cy,n + 1),(cx,n)])(hcx:∀ (L':Addr),bindC (envOfC qual scope L' f cdv).kindOf [(Str.ofString "self",a1),(Str.ofString "tag",a2),(Str.ofString "attrs",a3),(Str.ofString "new_namespaces",a4),(Str.ofString "qname_text",.none)] (fun _=>none) cx=some vx)(hcy:∀ (L':Addr),bindC (envOfC qual scope L' f cdv).kindOf [(Str.ofString "self",a1),(Str.ofString "tag",a2),(Str.ofString "attrs",a3),(Str.ofString "new_namespaces",a4),(Str.ofString "qname_text",.none)] (fun _=>none) cy=none)(hlk:∀ (L':Addr),bindL (envOfC qual scope L' f cdv).kindOf [(Str.ofString "self",a1),(Str.ofString "tag",a2),(Str.ofString "attrs",a3),(Str.ofString "new_namespaces",a4),(Str.ofString "qname_text",.none)] (fun _=>none)=updL [(Str.ofString "tag",a2),(Str.ofString "attrs",a3),(Str.ofString "new_namespaces",a4),(Str.ofString "qname_text",.none)] fun _=>none)
  (h:∀ g L' s' oy ox,oy.data = .cell none->ox.data = .cell (some vx)->Fr h₀ L g m->Fr g L' s'.heap (updL [(Str.ofString "tag",a2),(Str.ofString "attrs",a3),(Str.ofString "new_namespaces",a4),(Str.ofString "qname_text",.none)] fun _=>none)->News g L' s'.heap ((L' + 1 + 1,oy)::(L' + 1,ox)::news)->Below A base (env::outer) g->K.In g->Top p loose mean mg mb g->SB s₀ s'->Ap ((L' + 1 + 1)::(L' + 1)::as) rs ->
   wpAny (model prog w) (A.deeper (envOfC qual scope L' f cdv)) (execs body (envOfC qual scope L' f cdv))
    (fun fl s'=>LeaveK h₀ L m g R (match fl with | .ret v=>v | _=>.none) s')
    (fun e s'=>wpAny (model prog w) (A.deeper (envOfC qual scope L' f cdv)) (leaving (envOfC qual scope L' f cdv) e) (fun _ s''=>R (.error e) s'') (fun e' s''=>R (.error e') s'') s') s')
  (hco:scope.isCoroutine=false)(hgen:scope.isGenerator=false)(hk:scope.kind = .function):codeAny (model prog w) A (.call (.ref f) ⟨[a1,a2,a3,a4],[]⟩) R s:=by
 have hne:cy≠cx:=fun e=>by have h1:=hcx 0;rw [<- e,hcy] at h1;cases h1
 refine code_defC B F X₀ N T hA hf hke ho hcd hroom hbind hkind (by rw [hcells];exact List.nodup_cons.mpr ⟨fun h=>hne (List.mem_singleton.mp h),List.nodup_cons.mpr ⟨List.not_mem_nil,List.nodup_nil⟩⟩) (fun g L' h₁ tk cells FG F' N' Y B' X' T' l=>?_) hco hgen hk
 rw [hcells] at Y
 obtain ⟨oy,ox,rfl,ho',ho''⟩:=CellsAre.two Y
 rw [hcy] at ho'
 rw [hcx] at ho''
 rw [hlk] at F'
 have k:∀ b∈as++rs,@LT.lt Nat _ b (L' + 1):=lt_app0 (fun p hp=>Nat.lt_succ_of_lt (l p hp)) eA
 exact h g L' { s with heap:=h₁,toks:=tk } oy ox ho' ho'' FG F' N' B' X' T' S (ap_gt (ap_gt H k) (gt_next k (Nat.lt_succ_self _)))
theorem truthyL {prog:Program}{w:World}{A:Around}{E:Value->Shared->Prop}{s:Shared}{h₀:Heap}{L D:Addr}{news:List (Addr×Obj)}{its:Array Value}{n:Nat}{b:Bool}{Q:Bool->Shared->Prop}(N:News h₀ L s.heap news)(hm:(D,listOf its n)∈news)(hz:Nat.ble its.size 100000=true)(hb:(!its.isEmpty)=b)
  (h:Q b { s with toks:=s.toks + 1 + 1 }):wpAny (model prog w) A (truthy (.ref D)) Q E s:=by
 subst hb
 have:=Nat.le_of_ble_eq_true hz
 exact wpAny_truthy_list (N.isList hm) (by omega) h
theorem loop_endA {prog:Program}{w:World}{A:Around}{s:Shared}{h₀:Heap}{L I B:Addr}{env:Env}{m:PySem.Str->Option Value}{news rest:List (Addr×Obj)}{target:Expr}{body:List Stmt}{R:Result->Shared->Prop}{oI:Obj}{its:Array Value}{n i k:Nat}{as rs:List Addr}(H:Ap as rs)(eA:addrs news=as++rs)(U:DelFS I oI k news rest)(hn:Nat.ble (k + 1) as.length=true)
  (hh:A.handled=none)(F:Fr h₀ L s.heap m)(N:News h₀ L s.heap news)(hi:IterIs oI B i)(iB:(B,listOf its n)∈news)
  (hx:its[i]? = none)(h:∀ h',Fr h₀ L h' m->News h₀ L h' rest->Ap (as.eraseIdx k) rs->R (.ok .next) { s with heap:=h' }):LoopAt prog w A target I body env R s:=
 loop_end hh F N (delF_ap H eA U hn) hi iB hx fun h' F' N'=>h h' F' N' (ap_del H)
theorem idc_seen {w:World}{q:Nat->Tok}{A D C Nn Pm Ps:Addr}{zt:Tok}{sn dn:Bool}{h:Int}{k:Value}:(putL (Str.ofString "_root_seen") h k (.bool true) (idc w q A D C Nn Pm Ps zt sn dn),putN (Str.ofString "_root_seen") (idc w q A D C Nn Pm Ps zt sn dn) 17)=(idc w q A D C Nn Pm Ps zt true dn,17):=by kernel_rfl
theorem idc_done {w:World}{q:Nat->Tok}{A D C Nn Pm Ps:Addr}{zt:Tok}{sn dn b:Bool}{h:Int}{k:Value}:(putL (Str.ofString "_root_done") h k (.bool b) (idc w q A D C Nn Pm Ps zt sn dn),putN (Str.ofString "_root_done") (idc w q A D C Nn Pm Ps zt sn dn) 17)=(idc w q A D C Nn Pm Ps zt sn b,17):=by kernel_rfl
end Mine
end XU4
section XU10
open PySem PySem.W PyProof.Rows PySem.Calls
namespace Mine
noncomputable def EPB (prog:Program)(w:World)(A:Around)(K:Frag)(L:Addr)(h₀ base:Heap)(m mg mb:Str->Option Value)(news:List (Addr×Obj))(p:Program)(loose:List Str)(mean:ExcName->Option Value)(env:Env)(outer:List Env)(R:Result->Shared->Prop)(qual:Str)(f:Addr)(cdv:Value)(body:List Stmt)(scope:Scope)(binds:List (Str×Value))(s₀:Shared)(g:Heap)(L':Addr)(s':Shared):Prop:=∀ (_:Fr h₀ L g m)(_:Fr g L' s'.heap (lk binds.reverse))(_:News g L' s'.heap news)(_:Below A base (env::outer) g)(_:K.In g)(_:Top p loose mean mg mb g)(_:SB s₀ s'),
   wpAny (model prog w) (A.deeper (envOf qual scope L' f cdv)) (execs body (envOf qual scope L' f cdv))
    (fun fl s'=>LeaveK h₀ L m g R (match fl with | .ret v=>v | _=>.none) s')
    (fun e s'=>wpAny (model prog w) (A.deeper (envOf qual scope L' f cdv)) (leaving (envOf qual scope L' f cdv) e) (fun _ s''=>R (.error e) s'') (fun e' s''=>R (.error e') s'') s') s'
theorem enterBZ {prog:Program}{w:World}{A A₀:Around}{s:Shared}{K:Frag}{L:Addr}{h₀ base:Heap}{m mg mb:Str->Option Value}{news:List (Addr×Obj)}{p:Program}{loose:List Str}{mean:ExcName->Option Value}{env:Env}{outer:List Env}{R:Result->Shared->Prop}{name qual:Str}{params:Arguments}{body:List Stmt}{scope:Scope}{dV kV doc pm cdv ct oc:Value}{an od:Option Addr}{osl:Array (Option Value)}{f:Addr}{args:Args}(binds:List (Str×Value)){s₀:Shared}(S:SB s₀ s)
  (B:Below A₀ base outer h₀)(F:Fr h₀ L s.heap m)(X₀:K.In h₀)(N:News h₀ L s.heap news)(T:Top p loose mean mg mb h₀)(hA:A.frames=some (env::outer))(hf:env.frame=some L)(hke:env.scope.kind = .function)
  (ho:K.lookup f=some ⟨oc,od,.func (fnOf name qual params body scope dV kV doc pm an cdv ct),osl⟩)(hcd:codeIn K cdv qual=true)(hroom:A.depth < recursionLimit)
  (hbind:BindsTo s (fnOf name qual params body scope dV kV doc pm an cdv ct) args binds)(hloc:∀ y∈binds,scope.names.lookup y.1=some .local)
  (h:EPB prog w A K L h₀ base m mg mb news p loose mean env outer R qual f cdv body scope binds s₀ (zH (EPB prog w A K L h₀ base m mg mb news p loose mean env outer R qual f cdv body scope binds s₀)) (zL (EPB prog w A K L h₀ base m mg mb news p loose mean env outer R qual f cdv body scope binds s₀)) (zS (EPB prog w A K L h₀ base m mg mb news p loose mean env outer R qual f cdv body scope binds s₀)))
  (hco:scope.isCoroutine=false)(hgen:scope.isGenerator=false)(hk:scope.kind = .function)
  (hcell:∀ x∈scope.names,x.2≠.cell):codeAny (model prog w) A (.call (.ref f) args) R s:=
 enterB binds S B F X₀ N T hA hf hke ho hcd hroom hbind hloc (zz3 _ h) hco hgen hk hcell
end Mine
end XU10
section XU12
namespace Mine
theorem ar1 {u a b c C:Nat}(h:u + a < C)(e:Nat.ble (b + c) a=true):u + b + c < C:=Nat.lt_of_le_of_lt (by rw [Nat.add_assoc];exact Nat.add_le_add_left (Nat.le_of_ble_eq_true e) u) h
theorem ar2 {u a b C:Nat}(h:u + a < C)(e:Nat.ble b a=true):u + b < C:=Nat.lt_of_le_of_lt (Nat.add_le_add_left (Nat.le_of_ble_eq_true e) u) h
theorem ar3 {u a C:Nat}(h:u + a < C):u < C:=Nat.lt_of_le_of_lt (Nat.le_add_right _ _) h
theorem ib1 {i:Int}{a b n:Nat}(h:i < (a:Int)) (h1:a<=b) (h2:b<=n)(e:Nat.ble n 1000000000=true):i < 9223372036854775808:=Int.lt_trans h (Int.lt_of_le_of_lt (Int.ofNat_le.mpr (Nat.le_trans h1 (Nat.le_trans h2 (Nat.le_of_ble_eq_true e)))) (by decide))
theorem ib2 {a b n:Nat} (h1:a<=b) (h2:b<=n)(e:Nat.ble n 1000000000=true):(a:Int) < 9223372036854775808:=Int.lt_of_le_of_lt (Int.ofNat_le.mpr (Nat.le_trans h1 (Nat.le_trans h2 (Nat.le_of_ble_eq_true e)))) (by decide)
theorem ib3 {b n:Nat} (h2:b<=n)(e:Nat.ble n 1000000000=true):(b:Int) < 9223372036854775808:=ib2 (Nat.le_refl _) h2 e
theorem ib4 {i:Int}{b n:Nat}(h:i < (b:Int)) (h2:b<=n)(e:Nat.ble n 1000000000=true):i < 9223372036854775808:=ib1 h (Nat.le_refl _) h2 e
theorem il0 {i:Int}(h:0<=i):-9223372036854775808 < i:=Int.lt_of_lt_of_le (by decide) h
theorem il1 {i:Int}{n:Nat}(h:0<=i):-9223372036854775808 < i + (n:Int):=il0 (Int.add_nonneg h (Int.natCast_nonneg n))
theorem in1 {i:Int}(h:0<=i):0<=i + 1:=Int.add_nonneg h (by decide)
theorem in2 {i:Int}(h:0<=i):0<=i + 2:=Int.add_nonneg h (by decide)
theorem in3 {i:Int}(h:0<=i):0<=i + 3:=Int.add_nonneg h (by decide)
theorem is1 {i L:Int}(h:i + 2 < L):i + 1 < L:=Int.lt_trans (Int.add_lt_add_left (by decide) i) h
theorem is2 {i L:Int}(h:i + 3=L):i + 2 < L:=h ▸ Int.add_lt_add_left (by decide) i
theorem is3 {i L:Int}(h:i + 3=L):i + 3<=L:=Int.le_of_eq h
theorem is4 {i L:Int}(h:i < L):i + 1<=L:=h
theorem is5 {i L:Int}(h:¬ i + 2 < L) (h1:i + 2 < L){P:Prop}:P:=absurd h1 h
theorem bd0 {a b l r:Nat}{i:Int} (h1:l<=100000) (h2:r<=l) (h3:b<=400000) (h4:i<=(r:Int))(h:a<=b + 2 * i.toNat):a<=600000:=Nat.le_trans h (Nat.add_le_add h3 (Nat.mul_le_mul_left 2 (Nat.le_trans (Int.toNat_le.mpr h4) (Nat.le_trans h2 h1))))
theorem bd1 {a b l r x:Nat}{i:Int} (h1:l<=100000) (h2:r<=l) (h3:b<=400000) (h4:i<=(r:Int))(h:a<=b + 2 * i.toNat)(hx:1<=x/\x<=1):a + x<=16777216:=Nat.le_trans (Nat.add_le_add (bd0 h1 h2 h3 h4 h) hx.2) (by decide)
theorem bd2 {a b l r x:Nat}{i:Int} (h1:l<=100000) (h2:r<=l) (h3:b<=400000) (h4:i<=(r:Int))(h:a<=b + 2 * i.toNat)(hx:x=1):a + x<=16777216:=Nat.le_trans (Nat.add_le_add (bd0 h1 h2 h3 h4 h) (Nat.le_of_eq hx)) (by decide)
theorem bd3 {a b l r x y c:Nat}{i:Int} (h1:l<=100000) (h2:r<=l) (h3:b<=400000) (h4:i<=(r:Int))(h:a<=b + 2 * i.toNat)(hx:1<=x/\x<=1)(hy:a + x<=y/\y<=a + x)(hc:c=1):y + c<=16777216:=Nat.le_trans (Nat.add_le_add (Nat.le_trans hy.2 (Nat.add_le_add (bd0 h1 h2 h3 h4 h) hx.2)) (Nat.le_of_eq hc)) (by decide)
theorem bd4 {a b l r x y c:Nat}{i:Int} (h1:l<=100000) (h2:r<=l) (h3:b<=400000) (h4:i<=(r:Int))(h:a<=b + 2 * i.toNat)(hx:x=1)(hy:a + x<=y/\y<=a + x)(hc:c=1):y + c<=16777216:=bd3 h1 h2 h3 h4 h ⟨Nat.le_of_eq hx.symm,Nat.le_of_eq hx⟩ hy hc
theorem fm1 {a b:Nat}{i:Int} (h0:0<=i)(h:a<=b + 2 * i.toNat):a + 1 + 1<=b + 2 * (i + 1).toNat:=by
 rw [Int.toNat_add h0 (by decide),Nat.mul_add,<- Nat.add_assoc];show a + 2<=_;exact Nat.add_le_add h (Nat.le_refl 2)
theorem fm2 {a b:Nat}{i:Int} (h0:0<=i)(h:a<=b + 2 * i.toNat):a + 1<=b + 2 * (i + 1).toNat:=Nat.le_of_succ_le (fm1 h0 h)
theorem fm3 {a b:Nat}{i:Int} (h0:0<=i)(h:a<=b + 2 * i.toNat):a<=b + 2 * (i + 1).toNat:=Nat.le_of_succ_le (fm2 h0 h)
theorem fm4 {a b:Nat}{i:Int} (h0:0<=i)(h:a<=b + 2 * i.toNat):a + 1 + 1<=b + 2 * (i + 3).toNat:=by
 rw [Int.toNat_add h0 (by decide),Nat.mul_add,<- Nat.add_assoc];show a + 2<=_;exact Nat.add_le_add h (by decide:2<=2 * (3:Int).toNat)
theorem fm5 {a b:Nat}{i:Int} (h0:0<=i)(h:a<=b + 2 * i.toNat):a + 1<=b + 2 * (i + 3).toNat:=Nat.le_of_succ_le (fm4 h0 h)
theorem bw1 {a c b n:Nat}{i:Int} (h1:n<=30000) (h2:b<=40000) (h3:i<=(n:Int)) (h4:a<=b + i.toNat) (h5:a=c):c<=16777216:=h5 ▸ Nat.le_trans h4 (Nat.le_trans (Nat.add_le_add h2 (Nat.le_trans (Int.toNat_le.mpr h3) h1)) (by decide))
end Mine
end XU12
section XL12
open PySem
namespace Mine
theorem orz {c o q a:Nat}(h:c < o\/q < c) (h1:o < a) (h2:a < q):c≠a:=by omega
theorem orz1 {c o q:Nat}(h:c < o\/q < c) (h2:o < q):c≠o:=by omega
theorem orz2 {c o q:Nat}(h:c < o\/q < c) (h2:o < q):c≠q:=by omega
theorem lt2z {a b:Nat}(h:a + 1 + 1 < b):a < b:=by omega
theorem lt1y {a b:Nat}(h:a + 1 + 1 < b):a + 1 < b:=by omega
theorem lt3z {a l b:Nat} (_h0:l < b)(h:a < b):a < b + 1:=by omega
theorem lt4z {a l b:Nat} (_h0:l < b)(h:a < b):a < b + 1 + 1:=by omega
end Mine
end XL12
section XT1
open PySem PySem.W PyProof.Rows PySem.Calls
namespace Mine
theorem entry_eqloop:entryFor table "list.__eq__.loop" = some Builtin.«list.__eq__.loop»:=entryFor_of_tree (by kernel_rfl)
theorem plain_eqloop:plainId "list.__eq__.loop" = true:=by decide +kernel
section
variable {prog:Program}{w:World}{A:Around}{E:Value->Shared->Prop}{s:Shared}
theorem rc_lt_str {x y:PySem.Str}{t u:Tok}{Q:Value->Shared->Prop}(h:Q (.bool (x.cps.toList < y.cps.toList)) s):wpAny (model prog w) A (richCompare .Lt (.str x t) (.str y u)) Q E s:=
 richCompare_gives (op:=.Lt) (typeIs_str s x t) (typeIs_str s y u) F.slot_str_lt F.entry_str_lt (F.args_str_lt_2 _ _) (PySem.gives_str_lt x y t u) (fun e=>nomatch e) h
theorem sub_ll:isSubtype (.type "list") (.type "list")=pure true:=by rw [isSubtype_type];kernel_rfl
theorem lt_ones {a b:Addr}{x y:PySem.Str}{t u:Tok}{Q:Value->Shared->Prop}(hxy:x≠y)(ha:s.heap.IsList a #[.str x t])(hb:s.heap.IsList b #[.str y u])
  (h:Q (.bool (x.cps.toList < y.cps.toList)) s):wpAny (model prog w) A (call (.builtin "list.__lt__") [.ref a,.ref b]) Q E s:=by
 obtain ⟨oa,hoa,hca,na,hda⟩:=id ha
 obtain ⟨ob,hob,hcb,nb,hdb⟩:=id hb
 refine wpAny_call (codeAny_call_builtin F.slot_list_lt.plain F.entry_list_lt (F.slot_list_lt.check _ _ _ _ _ _ _ _ ha.typeIs (F.args_list_lt_2 _ _) ?_))
 unfold Builtin.«list.__lt__»
 refine wpAny_bind (wpAny_of_eq (a:=(Value.ref a,[Value.ref b])) rfl ?_)
 try dsimp only
 refine wpAny_bind (wpAny_isInstance (T:="list") (b:=true) hb.typeIs sub_ll ?_)
 rw [if_neg (by decide),if_neg (by decide)]
 refine wpAny_pure ⟨plainId_quiet plain_eqloop _,codeAny_builtin entry_eqloop ?_⟩
 rw [Around.under_plainId plain_eqloop _]
 unfold Builtin.«list.__eq__.loop»
 try dsimp only
 refine wpAny_bind (wpAny_listItems hoa hda ?_)
 refine wpAny_bind (wpAny_listItems hob hdb ?_)
 try dsimp only
 refine wpAny_bind (wpAny_eqBool_str ?_)
 rw [decide_eq_false hxy,if_neg Bool.false_ne_true]
 refine wpAny_bind (wpAny_listItems hoa hda ?_)
 refine wpAny_bind (wpAny_listItems hob hdb ?_)
 try dsimp only
 exact wpAny_bind (rc_lt_str (wpAny_pure h))
theorem key_lt {a b:Addr}{x y:PySem.Str}{t u:Tok}{Q:Bool->Shared->Prop}(hu:A.units < cLine)(hxy:x≠y)(ha:s.heap.IsList a #[.str x t])(hb:s.heap.IsList b #[.str y u])
  (h:Q (decide (x.cps.toList < y.cps.toList)) s):wpAny (model prog w) A (keyLt' oneType' (.ref a) (.ref b)) Q E s:=by
 rw [keyLt'_oneType,oneLt'_eq]
 simp only [if_true]
 refine wpAny_bind (wpAny_cRoomFor hu ?_)
 refine wpAny_bind (wpAny_callSpecialIfBound?_slot ha.typeIs F.slot_list_lt (lt_ones hxy ha hb ?_))
 exact wpAny_truthy_bool h
end
end Mine
end XT1
section XT2
set_option tactic.hygienic true
open PySem PySem.W PyProof.Rows PySem.Calls
namespace Mine
section
variable {prog:Program}{w:World}{A:Around}{E:Value->Shared->Prop}{s:Shared}
noncomputable def stEs (w:World)(l:List (PySem.Str×Tok)):List (Int×Value):=l.map fun p=>(hashStr w p.1,.str p.1 p.2)
noncomputable def StrSet (w:World)(o:Obj)(l:List (PySem.Str×Tok)):Prop:=∃ es ep t,o={ cls:=.type "set",data:=.set es ep t }/\SetTable.fits t es.size=true/\(t.plain=false\/l=[])/\es.toList.Perm (stEs w l)
theorem strSet_fresh (w:World)(led:Bool):StrSet w { cls:=.type "set",dict:=none,data:=.set #[] 0 (.fresh 0 0 led) } []:=⟨#[],0,_,rfl,rfl,.inr rfl,.nil⟩
theorem stEs_elems (l:List (PySem.Str×Tok)):ElemsOf (strKind prog w) (stEs w l):=by
 intro e he
 obtain ⟨p,_,rfl⟩:=List.mem_map.mp he
 exact ⟨⟨p.1,strKind_is _ _ _ _,rfl⟩,rfl⟩
theorem stEs_length (l:List (PySem.Str×Tok)):(stEs w l).length=l.length:=by simp [stEs]
theorem laid_plain {mask finger moves:Nat}{led plain:Bool}{hs:Array Int}{t:SetTable}{o:Array Nat}(h:SetTable.laid mask finger moves led plain hs=some (t,o)):t.plain=plain:=by
 unfold SetTable.laid at h
 cases hc:SetTable.layClean mask hs with
 | none=>rw [hc] at h;cases h
 | some owner=>rw [hc] at h;cases h;rfl
theorem relay_plain (t:SetTable)(es:Array (Int×Value))(n:Nat)(h:t.plain=false):(relayAll t es n).2.1.plain=false:=by
 unfold relayAll
 cases hr:t.relaid (es.map (·.1)) n with
 | none=>rfl
 | some p=>
  obtain ⟨t',order⟩:=p
  have h1:t'.plain=false:=by
   unfold SetTable.relaid at hr
   rw [laid_plain hr,h]
  dsimp only
  split
  ·exact h1
  ·rfl
noncomputable def StEs (o:Obj)(L:List (Int×Value)):Prop:=∃ es ep t,o={ cls:=.type "set",data:=.set es ep t }/\SetTable.fits t es.size=true/\t.plain=false/\es.toList.Perm L
theorem st_store {h:Heap}{a:Addr}{es es':Array (Int×Value)}{ep:Nat}{t t':SetTable}(ho:h.get? a=some { cls:=.type "set",data:=.set es ep t }) :
  (h.update a (Obj.putSet es' t')).get? a=some { cls:=.type "set",data:=.set es' (ep + 1) t' }:=by
 have:=Heap.get?_update_self (Obj.putSet es' t') ho (by rw [putSet_of es' t' rfl];rfl)
 rw [putSet_of es' t' rfl] at this;exact this
theorem st_tail {g:Bool->Sem Unit}(hg:∀ (b:Bool)(s₁:Shared)(Q':Unit->Shared->Prop),Q' () s₁->wpAny (model prog w) A (g b) Q' E s₁)
  {a:Addr}{es:Array (Int×Value)}{ep:Nat}{t:SetTable}(ho:s.heap.get? a=some { cls:=.type "set",data:=.set es ep t }) {es1:Array (Int×Value)} {t2:SetTable}{L:List (Int×Value)}
  (hp1:es1.toList.Perm L) (hb1:es1.size < scanBound) (hf2:t2.fits es1.size=true)(hpl:t2.plain=false){wasDummy:Bool}{R:Option Bool->Shared->Prop}
  (h:∀ h' o',Heap.SameBut a s.heap h'->h'.get? a=some o'->StEs o' L->R (some true) { s with heap:=h' }) :
  wpAny (model prog w) A (do
    storeSet a es1 t2
    if (!wasDummy && t2.tooFull)=true then do
      g (relayAll t2 es1 (SetTable.grown es1.size)).2.2
      storeSet a (relayAll t2 es1 (SetTable.grown es1.size)).1 (relayAll t2 es1 (SetTable.grown es1.size)).2.1
      pure (some true)
     else pure (some true)) R E s:=by
 refine wpAny_bind (wpAny_storeSet_of ho rfl ?_ (fits_of_scanBound hb1))
 have ho1:=st_store (es':=es1) (t':=t2) ho
 have hsb1:=Heap.SameBut.update s.heap a (Obj.putSet es1 t2)
 split
 ·have hp:=relayAll_perm t2 es1 (SetTable.grown es1.size)
  have hfr:=relayAll_fits t2 es1 (SetTable.grown es1.size)
  have hpr:=relay_plain t2 es1 (SetTable.grown es1.size) hpl
  generalize hRl:relayAll t2 es1 (SetTable.grown es1.size)=Rl at hp hfr hpr ⊢
  obtain ⟨es2,t3,gave2⟩:=Rl
  dsimp only at hp hfr hpr ⊢
  have hsz:es2.size=es1.size:=by rw [<- Array.length_toList,hp.length_eq,Array.length_toList]
  refine wpAny_bind (hg _ _ _ ?_)
  refine wpAny_bind (wpAny_storeSet_of ho1 rfl ?_ (fits_of_scanBound (by rw [hsz];exact hb1)))
  exact wpAny_pure (h _ _ (hsb1.trans (Heap.SameBut.update _ a _)) (st_store ho1) ⟨_,_,_,rfl,hfr,hpr,hp.trans hp1⟩)
 ·exact wpAny_pure (h _ _ hsb1 ho1 ⟨_,_,_,rfl,hf2,hpl,hp1⟩)
theorem strSet_add {a:Addr}{o:Obj}{l:List (PySem.Str×Tok)}{x:PySem.Str}{tk:Tok}{Q:Bool->Shared->Prop}(ho:s.heap.get? a=some o)(hS:StrSet w o l)(hx:∀ p∈l,p.1≠x)(hl:l.length < 100)
  (h:∀ h' o',Heap.SameBut a s.heap h'->h'.get? a=some o'->StrSet w o' (l++[(x,tk)])->Q true { s with heap:=h' }):wpAny (model prog w) A (setAddHashed a (.str x tk) (hashStr w x)) Q E s:=by
 obtain ⟨es,ep,t,rfl,hf,hpl,hp⟩:=hS
 have hel:ElemsOf (strKind prog w) es.toList:=(stEs_elems l).perm hp
 have hsize:es.size=l.length:=by rw [<- Array.length_toList,hp.length_eq,stEs_length]
 have hb:es.size < scanBound:=by rw [hsize];unfold scanBound;lia
 have hkey:(strKind prog w).is x (.str x tk)=true:=strKind_is _ _ _ _
 have hr:List.findIdx? (fun e=>(strKind prog w).is x e.2) es.toList=none:=by
  rw [List.findIdx?_eq_none_iff]
  intro e he
  obtain ⟨p,hp',rfl⟩:=List.mem_map.mp (hp.mem_iff.mp he)
  cases hq:(strKind prog w).is x (.str p.1 p.2) with
  | false=>rfl
  | true=>exact absurd ((strKind prog w).inj _ _ _ (strKind_is prog w p.1 p.2) hq) (hx p hp')
 refine wpAny_holding (wpAny_bind (wpAny_setState_of (w:=w) (prog:=prog) ho rfl hf ?_))
 dsimp only
 rw [byScan_of (knd:=strKind prog w) rfl hb hel]
 refine wp_ifp rfl ?_
 unfold setAddByScan
 refine wpAny_bind ?_
 refine wpAny_bind (wpAny_rule ?_)
 refine wpAny_bind (wpAny_setScan_of (knd:=strKind prog w) hkey ho rfl hf hel ?_)
 rw [hr]
 have hgw:∀ (b:Bool){s₁:Shared}{Q':Unit->Shared->Prop},Q' () s₁->wpAny (model prog w) A (match b with | true=>rule "set.scan.the-table-gave-way" | false=>pure ()) Q' E s₁:=
  fun b s₁ Q' hq=>by cases b <;> first | exact wpAny_pure hq | exact wpAny_rule hq
 have hperm:=layNew_perm t es (hashStr w x) (.str x tk)
 have hfits:=layNew_fits t es (hashStr w x) (.str x tk)
 generalize hL:layNew t es (hashStr w x) (.str x tk)=LL at hperm hfits ⊢
 obtain ⟨es1,t1,wasDummy,gave⟩:=LL
 dsimp only at hperm hfits ⊢
 rw [Array.toList_push] at hperm
 have hp1:es1.toList.Perm (stEs w (l++[(x,tk)])):=by
  refine hperm.trans ?_
  unfold stEs
  rw [List.map_append]
  exact hp.append_right _
 have hb1:es1.size < scanBound:=by
  rw [<- Array.length_toList,hp1.length_eq,stEs_length,List.length_append]
  unfold scanBound
  simp only [List.length_cons,List.length_nil];lia
 have hend:∀ h' o',Heap.SameBut a s.heap h'->h'.get? a=some o'->StEs o' (stEs w (l++[(x,tk)]))->Q true { s with heap:=h' }:=by
  rintro h' o' hsb ho' ⟨es',ep',t',e,f',p',pp⟩
  exact h h' o' hsb ho' ⟨es',ep',t',e,f',.inl p',pp⟩
 refine wpAny_bind (hgw _ ?_)
 split
 ·refine wpAny_bind ?_
  rw [hashByValue_scannable 8 rfl]
  refine wpAny_pure ?_
  refine st_tail ?_ ho hp1 hb1 ?_ rfl ?_
  ·intro b s₁ Q' hq;cases b <;> first | exact wpAny_pure hq | exact wpAny_rule hq
  ·exact SetTable.fits_plain_off hfits
  ·intro h' o' hsb ho' hS';dsimp only;exact wpAny_pure (hend h' o' hsb ho' hS')
 ·rename_i hnp
  refine wpAny_bind (wpAny_pure ?_)
  simp only [↓reduceIte]
  refine st_tail ?_ ho hp1 hb1 hfits (by simpa using hnp) ?_
  ·intro b s₁ Q' hq;cases b <;> first | exact wpAny_pure hq | exact wpAny_rule hq
  ·intro h' o' hsb ho' hS';dsimp only;exact wpAny_pure (hend h' o' hsb ho' hS')
end
end Mine
end XT2
section XT3
open PySem PySem.W PyProof.Rows PySem.Calls
namespace Mine
theorem lay_first (led:Bool)(h:Int)(v:Value):layNew (SetTable.fresh 0 0 led) #[] h v=(#[(h,v)],{ SetTable.fresh 0 0 led with place:=#[SetTable.bits h % 8] },false,false):=by
 rfl
section
variable {prog:Program}{w:World}{A:Around}{E:Value->Shared->Prop}{s:Shared}
theorem keys_es:∀ {es:List DictEntry}{kvs:List (PySem.Str×Value)},Pairs (strKind prog w) es kvs->(∀ e∈es,∃ k,(strKind prog w).is k e.key=true/\e.hash=(strKind prog w).hash k) ->
  ∃ kl:List (PySem.Str×Tok),kl.map (·.1)=kvs.map (·.1)/\es.map (fun e=>(e.hash,e.key))=stEs w kl:=by
 intro es kvs hp
 induction hp with
 | nil=>exact fun _=>⟨[],rfl,rfl⟩
 | @cons e kv es kvs h1 h2 hr ih=>
  intro hk
  obtain ⟨kl,e1,e2⟩:=ih fun x hx=>hk x (List.mem_cons_of_mem _ hx)
  obtain ⟨t,ht⟩:=Value.isStrOf_shape h1
  obtain ⟨k',hk',hh⟩:=hk e (List.mem_cons_self ..)
  have ek:k'=kv.1:=(strKind prog w).inj _ _ _ hk' h1
  refine ⟨(kv.1,t)::kl,by simp [e1],?_⟩
  rw [List.map_cons,e2,hh,ek,ht]
  rfl
theorem range_fold {n:Nat}{body:Nat->PUnit->Sem (ForInStep PUnit)}{Q:PUnit->Shared->Prop}(I:Nat->Shared->Prop) (h0:I 0 s)
  (step:∀ i s',i < n->I i s'->wpAny (model prog w) A (body i ⟨⟩) (fun r s''=>r = .yield ⟨⟩/\I (i + 1) s'') E s')(done:∀ s',I n s'->Q ⟨⟩ s') :
  wpAny (model prog w) A (forIn [0:n] PUnit.unit body) Q E s:=by
 rw [Std.Legacy.Range.forIn_eq_forIn_range']
 have hsz:([0:n]:Std.Legacy.Range).size=n:=by simp [Std.Legacy.Range.size]
 refine (?_:wpAny _ _ (forIn (List.range' 0 ([0:n]:Std.Legacy.Range).size 1) _ _) _ _ _)
 rw [hsz]
 have key:∀ k i s',i + k=n->I i s'->wpAny (model prog w) A (forIn (List.range' i k 1) PUnit.unit body) Q E s':=by
  intro k
  induction k with
  | zero=>
   intro i s' e hI
   have hi:i=n:=by omega
   subst hi
   exact wpAny_pure (done s' hI)
  | succ k ih=>
   intro i s' e hI
   rw [List.range'_succ,List.forIn_cons]
   refine wpAny_bind (wpAny_mono (step i s' (by omega) hI) (fun r s'' h'=>?_) fun _ _ e=>e)
   obtain ⟨rfl,hI'⟩:=h'
   exact ih (i + 1) s'' (by omega) hI'
 exact key n 0 s (by omega) h0
end
noncomputable def strSet_first.P0 (prog:Program)(w:World)(s:Shared)(a:Addr)(led:Bool)(x:PySem.Str)(tk:Tok)(A:Around)(E:Value->Shared->Prop)(Q:Bool->Shared->Prop):Prop:=∀ (ho:s.heap.get? a=some { cls:=.type "set",dict:=none,data:=.set #[] 0 (.fresh 0 0 led) })(h:∀ h' o',Heap.SameBut a s.heap h'->h'.get? a=some o'->StrSet w o' [(x,tk)]->(∃ es ep t,o'.data = .set es ep t/\t.fits es.size=true/\∀ n≤3,t.roomFor n=none)->Q true { s with heap:=h' }),wpAny (model prog w) A (setAddHashed a (.str x tk) (hashStr w x)) Q E s
namespace strSet_first
noncomputable def R0:=(s4 <| s4 <| st <| id) P0
@[irreducible] noncomputable def z0:=zy R0 (by k_extra "N")
@[irreducible] noncomputable def prog:=f1 z0
@[irreducible] noncomputable def w:=f1 (f2 z0)
@[irreducible] noncomputable def s:=f1 (f2 (f2 z0))
@[irreducible] noncomputable def a:=f1 (f2 (f2 (f2 z0)))
@[irreducible] noncomputable def led:=f1 (f2 (f2 (f2 (f2 z0))))
@[irreducible] noncomputable def x:=f1 (f2 (f2 (f2 (f2 (f2 z0)))))
@[irreducible] noncomputable def tk:=f1 (f2 (f2 (f2 (f2 (f2 (f2 z0))))))
@[irreducible] noncomputable def z1:=f2 (f2 (f2 (f2 (f2 (f2 (f2 z0))))))
theorem T0:(st <| st <| id) (P0 prog w s a led x tk) z1:=by
 intro ho h
 refine wpAny_holding (wpAny_bind (wpAny_setState_of (w:=w) (prog:=prog) ho rfl rfl ?_))
 dsimp only
 rw [byScan_of (knd:=strKind prog w) rfl (by decide) (fun e he=>by simp at he)]
 refine wp_ifp rfl ?_
 unfold setAddByScan
 refine wpAny_bind ?_
 refine wpAny_bind (wpAny_rule ?_)
 refine wpAny_bind (wpAny_setScan_of (knd:=strKind prog w) (k:=x) (strKind_is _ _ _ _) ho rfl rfl (fun e he=>by simp at he) ?_)
 dsimp only [lay_first]
 refine wpAny_bind (wpAny_pure ?_)
 refine wp_ifp ((show (SetTable.fresh 0 0 led).plain=true from rfl)) ?_
 refine wpAny_bind ?_
 rw [hashByValue_scannable 8 rfl]
 refine wpAny_pure ?_
 dsimp only [plainKind,Bool.false_eq_true,if_false]
 refine wpAny_bind (wpAny_storeSet_of ho rfl ?_ (by show 1<=_;rw [sizeLine_eq];omega))
 have ho1:=st_store (es':=#[(hashStr w x,.str x tk)]) (t':={ SetTable.fresh 0 0 led with place:=#[SetTable.bits (hashStr w x) % 8],plain:=false }) ho
 refine wp_ifn ((show ¬ ((!false && SetTable.tooFull { SetTable.fresh 0 0 led with place:=#[SetTable.bits (hashStr w x) % 8],plain:=false })=true) from by show ¬ (decide ((1 + 0) * 5 ≥ 7 * 3)=true);decide)) ?_
 refine wpAny_pure (wpAny_pure ?_)
 refine h _ _ (Heap.SameBut.update s.heap a _) ho1 ⟨_,_,_,rfl,rfl,.inl rfl,.refl _⟩ ⟨_,_,_,rfl,rfl,fun n hn=>?_⟩
 show (if (1 + n) * 5 ≥ 7 * 3 then _ else none)=none
 rw [if_neg (by omega)]
end strSet_first
theorem strSet_first {prog w s a led x tk A E Q}:strSet_first.P0 prog w s a led x tk A E Q:=by with_unfolding_all exact zy_all _ strSet_first.R0 strSet_first.T0 (prog,w,s,a,led,x,tk,A,E,Q)
section
variable {prog:Program}{w:World}{A:Around}{E:Value->Shared->Prop}{s:Shared}
end
end Mine
end XT3
section XT4
open PySem PySem.W PyProof.Rows PySem.Calls
namespace Mine
theorem sub_ds:isSubtype (.type "dict") (.type "set")=pure false:=by rw [isSubtype_type];kernel_rfl
theorem sub_df:isSubtype (.type "dict") (.type "frozenset")=pure false:=by rw [isSubtype_type];kernel_rfl
section
variable {prog:Program}{w:World}{A:Around}{E:Value->Shared->Prop}{s:Shared}
theorem take_snoc {kl:List (PySem.Str×Tok)}{i:Nat}(hi:i < kl.length):kl.take (i + 1)=kl.take i++[kl[i]]:=by
 rw [List.take_add_one,List.getElem?_eq_getElem hi];rfl
noncomputable def StarI (w:World)(S:Addr)(x:PySem.Str)(tk:Tok)(kl:List (PySem.Str×Tok))(s:Shared)(i:Nat)(s':Shared):Prop:=
 ∃ h' so,s'={ s with heap:=h' }/\Heap.SameBut S s.heap h'/\h'.get? S=some so/\StrSet w so ((x,tk)::kl.take i)
theorem keyIs {kl:List (PySem.Str×Tok)}{es:Array DictEntry}(h:es.toList.map (fun e=>(e.hash,e.key))=stEs w kl){i:Nat}{e:DictEntry}(he:es[i]? = some e) :
  ∃ hi:i < kl.length,e.hash=hashStr w kl[i].1/\e.key = .str kl[i].1 kl[i].2:=by
 have h1:(es.toList.map (fun e=>(e.hash,e.key)))[i]? = some (e.hash,e.key):=by rw [List.getElem?_map,Array.getElem?_toList,he];rfl
 rw [h] at h1
 unfold stEs at h1
 rw [List.getElem?_map] at h1
 cases hk:kl[i]? with
 | none=>rw [hk] at h1;cases h1
 | some p=>
  rw [hk] at h1
  obtain ⟨hi,hp⟩:=List.getElem?_eq_some_iff.mp hk
  have h2:=Option.some.inj h1
  refine ⟨hi,?_,?_⟩
  ·rw [hp];exact (congrArg Prod.fst h2).symm
  ·rw [hp];exact (congrArg Prod.snd h2).symm
theorem upd_loop {S I d:Addr}{kvs:List (PySem.Str×Value)}{ep:Nat}{x:PySem.Str}{tk:Tok}{R:Result->Shared->Prop}(hh:A.handled=none)(hdI:d≠I)(hSI:S≠I)(hSd:S≠d)(hn:kvs.length<=3)(hx:∀ p∈kvs,p.1≠x)(hnd:(kvs.map (·.1)).Nodup) (s0:Shared) :
  ∀ (k i:Nat)(s:Shared)(so:Obj)(kl:List (PySem.Str×Tok)),kvs.length - i=k->i<=kvs.length->kl.map Prod.fst=(kvs.take i).map Prod.fst->s.heap.IsKeyIter I d i kvs.length ep->s.heap.DictAt (strKind prog w) d kvs ep ->
   s.heap.get? S=some so->StrSet w so ((x,tk)::kl)->(∃ h tk,s={ s0 with heap:=h,toks:=tk })->(∀ b o,b≠S->b≠I->s0.heap.get? b=some o->s.heap.get? b=some o) ->
   (∀ h' so' kl' tk',(∀ b o,b≠S->b≠I->s0.heap.get? b=some o->h'.get? b=some o)->h'.get? S=some so'->kl'.map Prod.fst=kvs.map Prod.fst->StrSet w so' ((x,tk)::kl')->R (.ok (.ret .none)) { s0 with heap:=h',toks:=tk' }) ->
   codeAny (model prog w) A (.builtin "set.update.loop" ⟨[.ref S,.ref I],[]⟩) R s:=by
 intro k
 induction k with
 | zero=>
  rintro i s so kl hk hi hkl hit hd hso hS ⟨h0,tk0,rfl⟩ kp hR
  have hin:i=kvs.length:=by lia
  subst hin
  refine codeAny_builtin F.entry_set_update_loop ?_
  rw [Around.under_plainId F.plain_set_update_loop _]
  show wpAny _ A.in1 (pyNext (.ref I) >>= _) _ _ _
  refine wpAny_bind (wpAny_pyNext_dict_end hh hit hd (by simp) fun h' he'=>?_)
  show wpAny _ A.in1 (ret Value.none) _ _ _
  refine wpAny_pure (hR h' so kl _ (fun b o hS' hI e=>he' b o hI (kp b o hS' hI e)) (he' _ _ hSI hso) (by rw [hkl,List.take_length]) hS)
 | succ k ih=>
  rintro i s so kl hk hi hkl hit hd hso hS ⟨h0,tk0,rfl⟩ kp hR
  have hlt:i < kvs.length:=by lia
  obtain ⟨⟨key,val⟩,hkv⟩:∃ p,kvs[i]? = some p:=⟨kvs[i],by simp [hlt]⟩
  refine codeAny_builtin F.entry_set_update_loop ?_
  rw [Around.under_plainId F.plain_set_update_loop _]
  show wpAny _ A.in1 (pyNext (.ref I) >>= _) _ _ _
  refine wpAny_bind (wpAny_pyNext_dict_item hit hd hkv fun v h' hkey hit' hs'=>?_)
  obtain ⟨t,rfl⟩:=Value.isStrOf_shape hkey
  have hso':h'.get? S=some so:=(hs'.2 S hSI).trans hso
  refine wpAny_bind (wpAny_holding ?_)
  unfold setAdd
  refine wpAny_holding ?_
  refine wpAny_bind ((strKind prog w).pyHash (k:=key) (strKind_is _ _ _ _) ?_)
  have hkl3:kl.length=i:=by
   have:=congrArg List.length hkl
   rw [List.length_map,List.length_map,List.length_take] at this
   lia
  have hnew:∀ p∈(x,tk)::kl,p.1≠key:=by
   intro p hp
   have hm:(key,val)∈kvs:=List.mem_of_getElem? hkv
   rcases List.mem_cons.mp hp with rfl | hp
   ·exact (hx _ hm).symm
   ·intro e
    have h1:p.1∈(kvs.take i).map Prod.fst:=hkl ▸ List.mem_map.mpr ⟨p,hp,rfl⟩
    rw [e] at h1
    obtain ⟨q,hq,e2⟩:=List.mem_map.mp h1
    obtain ⟨j,hj,rfl⟩:=List.mem_iff_getElem.mp hq
    have hji:j < i:=by simp at hj;lia
    rw [List.getElem_take] at e2
    have hjl:j < kvs.length:=by lia
    have h3:=List.pairwise_iff_getElem.mp hnd j i (by simpa using hjl) (by simpa using hlt) hji
    have h4:kvs[i]=(key,val):=by simpa [hlt] using hkv
    simp only [List.getElem_map] at h3
    rw [h4] at h3
    exact h3 e2
  refine strSet_add (prog:=prog) (tk:=t) (s:={ s0 with heap:=h',toks:=_ }) hso' hS hnew (by simp only [List.length_cons];lia) fun h2 o2 hsb ho2 hS2=>?_
  refine wpAny_pure ⟨plainId_quiet F.plain_set_update_loop _,ih (i + 1) _ o2 (kl++[(key,t)]) (by lia) hlt ?_ ?_ ?_ ho2 (by simpa using hS2) ⟨_,_,rfl⟩ (fun b o hS' hI e=>?_) hR⟩
  ·rw [List.map_append,hkl,List.take_add_one,hkv];simp
  ·exact hit'.at fun o e=>(hsb.2 I hSI.symm).trans e
  ·exact (hd.extBut hs'.extBut hdI).extBut hsb.extBut hSd.symm
  ·exact (hsb.2 b hS').trans ((hs'.2 b hI).trans (kp b o hS' hI e))
end
noncomputable def star_dict.P0 (prog:Program)(w:World)(s:Shared)(S d:Addr)(od so:Obj)(kvs:List (PySem.Str×Value))(x:PySem.Str)(tk:Tok)(A:Around)(E:Value->Shared->Prop)(Q:Unit->Shared->Prop):Prop:=∀ (hh:A.handled=none)(hdS:(d == sysModules)=false)(hne:S≠d)(hod:s.heap.get? d=some od)(hd:od.IsDictOf (strKind prog w) kvs)(hso:s.heap.get? S=some so)(hS:StrSet w so [(x,tk)])(hroom:∃ es ep t,so.data = .set es ep t/\SetTable.fits t es.size=true/\∀ n≤3,t.roomFor n=none)(hn:kvs.length<=3)(hx:∀ p∈kvs,p.1≠x)(h:∀ h' so' kl tk',(∀ b o,b≠S->s.heap.get? b=some o->h'.get? b=some o)->h'.get? S=some so'->kl.map Prod.fst=kvs.map Prod.fst->StrSet w so' ((x,tk)::kl)->Q () { s with heap:=h',toks:=tk' }),wpAny (model prog w) A (setDisplayStar S (.ref d)) Q E s
namespace star_dict
noncomputable def R0:=(s4 <| s4 <| s4 <| id) P0
@[irreducible] noncomputable def z0:=zy R0 (by k_extra "N")
@[irreducible] noncomputable def prog:=f1 z0
@[irreducible] noncomputable def w:=f1 (f2 z0)
@[irreducible] noncomputable def s:=f1 (f2 (f2 z0))
@[irreducible] noncomputable def S:=f1 (f2 (f2 (f2 z0)))
@[irreducible] noncomputable def d:=f1 (f2 (f2 (f2 (f2 z0))))
@[irreducible] noncomputable def od:=f1 (f2 (f2 (f2 (f2 (f2 z0)))))
@[irreducible] noncomputable def so:=f1 (f2 (f2 (f2 (f2 (f2 (f2 z0))))))
@[irreducible] noncomputable def kvs:=f1 (f2 (f2 (f2 (f2 (f2 (f2 (f2 z0)))))))
@[irreducible] noncomputable def x:=f1 (f2 (f2 (f2 (f2 (f2 (f2 (f2 (f2 z0))))))))
@[irreducible] noncomputable def tk:=f1 (f2 (f2 (f2 (f2 (f2 (f2 (f2 (f2 (f2 z0)))))))))
@[irreducible] noncomputable def z1:=f2 (f2 (f2 (f2 (f2 (f2 (f2 (f2 (f2 (f2 z0)))))))))
theorem T0:(st <| st <| id) (P0 prog w s S d od so kvs x tk) z1:=by
 intro hh hdS hne hod hd hso hS hroom hn hx h
 obtain ⟨es,ep,hex,hdd,hko,hpa,hnd⟩:=hd
 obtain ⟨kl,hk1,hk2⟩:=keys_es hpa fun e he=>hko e (by simpa using he)
 have hkl:kl.length=kvs.length:=by simpa using congrArg List.length hk1
 have hes:es.size=kl.length:=by
  have:=congrArg List.length hk2
  rw [List.length_map,Array.length_toList,stEs_length] at this
  exact this
 have hdi:∀ i (hi:i < kl.length),∀ p∈(x,tk)::kl.take i,p.1≠kl[i].1:=by
  intro i hi p hp
  have hm:kl[i].1∈kvs.map Prod.fst:=hk1 ▸ List.mem_map.mpr ⟨kl[i],List.getElem_mem hi,rfl⟩
  rcases List.mem_cons.mp hp with rfl | hp
  ·obtain ⟨q,hq,e⟩:=List.mem_map.mp hm
   rw [<- e]
   exact (hx q hq).symm
  ·have hnd':(kl.map Prod.fst).Nodup:=hk1 ▸ hnd
   intro e
   obtain ⟨j,hj,rfl⟩:=List.mem_iff_getElem.mp hp
   have hji:j < i:=by simp at hj;lia
   rw [List.getElem_take] at e
   have h1:=List.pairwise_iff_getElem.mp hnd' j i (by simp;lia) (by simpa using hi) hji
   simp at h1
   exact h1 e
 have hTd:s.TypeIs (.ref d) "dict" := ⟨od,hod,hex.1⟩
 unfold setDisplayStar
 refine wpAny_bind (wpAny_isInstance hTd sub_ds ?_)
 refine wp_ifn (Bool.false_ne_true) ?_
 refine wpAny_bind (wpAny_isInstance hTd sub_df ?_)
 refine wpAny_bind (wpAny_askSetting ?_)
 dsimp only
 cases hb:(model prog w).w.params.followText "set-display-star-reads-storage" with
 | false=>
  rw [if_neg Bool.false_ne_true]
  dsimp only
  refine wp_ifn (Bool.false_ne_true) ?_
  refine wpAny_bind (wpAny_typeOf hTd ?_)
  refine wp_ifp ((by decide)) ?_
  refine wpAny_bind (wpAny_rule ?_)
  refine wp_ifn ((by rw [hdS];exact Bool.false_ne_true)) ?_
  refine wpAny_bind (wpAny_dictEpoch hod hdd ?_)
  refine wpAny_bind (wpAny_dictEntries hod hdd ?_)
  obtain ⟨es1,ep1,t1,hd1,hf1,hr1⟩:=hroom
  refine wpAny_bind ?_
  unfold setRoomFor
  refine wpAny_bind (wpAny_setState_of hso hd1 hf1 ?_)
  rw [hr1 es.size (by rw [hes,hkl];exact hn)]
  refine wpAny_pure ?_
  refine wpAny_bind (range_fold (StarI w S x tk kl s) ⟨s.heap,so,rfl,Heap.SameBut.refl _ _,hso,by simpa using hS⟩ ?_ ?_)
  ·rintro i s' hi ⟨h',so',rfl,hsb,hso',hS'⟩
   have hod':h'.get? d=some od:=(hsb.2 d hne.symm).trans hod
   refine wpAny_bind (wpAny_dictEntries hod' hdd ?_)
   have hei:es[i]? = some es[i]:=Array.getElem?_eq_getElem hi
   rw [hei]
   obtain ⟨hik,eh,ek⟩:=keyIs hk2 hei
   dsimp only
   rw [eh,ek]
   refine wpAny_bind (wpAny_holding (wpAny_bind (strSet_add (prog:=prog) hso' hS' (hdi i hik) (by simp only [List.length_cons,List.length_take];lia) fun h2 o2 hsb2 ho2 hS2=>wpAny_pure ?_)))
   have hod2:h2.get? d=some od:=(hsb2.2 d hne.symm).trans hod'
   refine wpAny_bind (wpAny_dictEpoch hod2 hdd ?_)
   refine wp_ifn ((by simp)) ?_
   refine wpAny_pure ⟨rfl,h2,o2,rfl,hsb.trans hsb2,ho2,?_⟩
   rw [take_snoc hik]
   exact hS2
  ·rintro s' ⟨h',so',rfl,hsb,hso',hS'⟩
   refine wpAny_pure (h h' so' kl _ (fun b o hbS e=>(hsb.2 b hbS).trans e) hso' hk1 ?_)
   rw [hes,List.take_length] at hS'
   exact hS'
 | true=>
  rw [if_pos rfl]
  dsimp only
  have hDA:s.heap.DictAt (strKind prog w) d kvs ep:=⟨od,es,hod,hex,hdd,hko,hpa,hnd⟩
  refine wpAny_bind (wpAny_pyIter_dict hdS hDA ?_)
  refine wpAny_bind (wpAny_runValue ?_)
  have lS:S≠s.heap.objs.size:=Nat.ne_of_lt (Heap.lt_size hso)
  have ld:d≠s.heap.objs.size:=Nat.ne_of_lt (Heap.lt_size hod)
  refine upd_loop (prog:=prog) (x:=x) (tk:=tk) hh ld lS hne hn hx hnd s kvs.length 0 _ so [] (by lia) (Nat.zero_le _) rfl ⟨_,Heap.get?_push_size _ rfl,rfl,rfl⟩ (hDA.push _) (Heap.get?_push_of_some _ hso) hS ⟨_,_,rfl⟩ (fun b o _ _ e=>Heap.get?_push_of_some _ e) fun h' so' kl' tk' kp hso' hk' hS'=>?_
  exact wpAny_pure (h h' so' kl' tk' (fun b o hbS e=>kp b o hbS (Nat.ne_of_lt (Heap.lt_size e)) e) hso' hk' hS')
end star_dict
theorem star_dict {prog w s S d od so kvs x tk A E Q}:star_dict.P0 prog w s S d od so kvs x tk A E Q:=by with_unfolding_all exact zy_all _ star_dict.R0 star_dict.T0 (prog,w,s,S,d,od,so,kvs,x,tk,A,E,Q)
section
variable {prog:Program}{w:World}{A:Around}{E:Value->Shared->Prop}{s:Shared}
end
end Mine
end XT4
section XT5
open PySem PySem.W PyProof.Rows PySem.Calls
namespace Mine
section
variable {prog:Program}{w:World}{A:Around}{E:Value->Shared->Prop}{s:Shared}{K:Frag}{env:Env}{h₀:Heap}{L:Addr}{m:PySem.Str->Option Value}{news:List (Addr×Obj)}
end
noncomputable def set_disp.P0 (prog:Program)(w:World)(s:Shared)(env:Env)(h₀:Heap)(m:PySem.Str->Option Value)(d:Addr) (x a1 a2:PySem.Str) (p1 p2 p4:Pos)(A:Around)(E:Value->Shared->Prop)(K:Frag)(news:List (Addr×Obj))(od:Obj)(kvs:List (PySem.Str×Value)) (p3:Pos)(tk:Tok)(Q:Value->Shared->Prop):Prop:=∀ {L:Addr}(hLe:env.locals=L)(hh:A.handled=none)(hkf:env.scope.kind = .function) (k1:env.kindOf a1=some .local) (k2:env.kindOf a2=some .local) (hn1:(a1 == ("__debug__" : PySem.Str))=false) (hn2:(a2 == ("__debug__" : PySem.Str))=false)(F:Fr h₀ L s.heap m)(N:News h₀ L s.heap news)(X:K.In h₀)(hc:kdsCode K env.code=true) (m1:m a1=some (.str x tk)) (m2:m a2=some (.ref d))(hm:(d,od)∈news)(hdS:(d == sysModules)=false)(hd:od.IsDictOf (strKind prog w) kvs)(hn:kvs.length<=3)(hx:∀ p∈kvs,p.1≠x)(h:∀ D so kl h' tk',Fr h₀ L h' m->News h₀ L h' ((D,so)::news)->AllLt D news->kl.map Prod.fst=kvs.map Prod.fst->StrSet w so ((x,tk)::kl)->Q (.ref D) { s with heap:=h',toks:=tk' }),wpAny (model prog w) A (eval (.Set [.Name a1 p1,.Starred (.Name a2 p2) p3] 0 p4) env) Q E s
namespace set_disp
noncomputable def R0:=(s4 <| s4 <| s4 <| s4 <| s4 <| st <| id) P0
@[irreducible] noncomputable def z0:=zy R0 (by k_extra "N")
@[irreducible] noncomputable def prog:=f1 z0
@[irreducible] noncomputable def w:=f1 (f2 z0)
@[irreducible] noncomputable def s:=f1 (f2 (f2 z0))
@[irreducible] noncomputable def env:=f1 (f2 (f2 (f2 z0)))
@[irreducible] noncomputable def h₀:=f1 (f2 (f2 (f2 (f2 z0))))
@[irreducible] noncomputable def m:=f1 (f2 (f2 (f2 (f2 (f2 z0)))))
@[irreducible] noncomputable def d:=f1 (f2 (f2 (f2 (f2 (f2 (f2 z0))))))
@[irreducible] noncomputable def x:=f1 (f2 (f2 (f2 (f2 (f2 (f2 (f2 z0)))))))
@[irreducible] noncomputable def a1:=f1 (f2 (f2 (f2 (f2 (f2 (f2 (f2 (f2 z0))))))))
@[irreducible] noncomputable def a2:=f1 (f2 (f2 (f2 (f2 (f2 (f2 (f2 (f2 (f2 z0)))))))))
@[irreducible] noncomputable def p1:=f1 (f2 (f2 (f2 (f2 (f2 (f2 (f2 (f2 (f2 (f2 z0))))))))))
@[irreducible] noncomputable def p2:=f1 (f2 (f2 (f2 (f2 (f2 (f2 (f2 (f2 (f2 (f2 (f2 z0)))))))))))
@[irreducible] noncomputable def p4:=f1 (f2 (f2 (f2 (f2 (f2 (f2 (f2 (f2 (f2 (f2 (f2 (f2 z0))))))))))))
@[irreducible] noncomputable def z1:=f2 (f2 (f2 (f2 (f2 (f2 (f2 (f2 (f2 (f2 (f2 (f2 (f2 z0))))))))))))
theorem T0:(s4 <| s4 <| id) (P0 prog w s env h₀ m d x a1 a2 p1 p2 p4) z1:=by
 intro L hLe hh hkf k1 k2 hn1 hn2 F N X hc m1 m2 hm hdS hd hn hx h
 subst hLe
 rw [arm_eval_Set]
 refine wpAny_bind (wpAny_standAt ?_)
 refine wpAny_bind (kds_main (X.keeps F.keep) hc fun b=>?_)
 show wpAny _ _ (setDisplay .oneByOne b [(false,eval (.Name a1 p1) env >>= fun v=>standAt p4 >>= fun _=>pure v),(true,eval (.Name a2 p2) env >>= fun v=>standAt p4 >>= fun _=>pure v)]) _ _ _
 unfold setDisplay
 try dsimp only
 rw [if_neg (by decide)]
 refine wpAny_bind (wpAny_newSet_of (knd:=PySem.intKind prog w) fun led _=>?_)
 dsimp only
 refine wpAny_bind (wpAny_holding ?_)
 have hlt:env.locals < s.heap.objs.size:=F.ns.lt
 have F1:=F.push { cls:=.type "set",dict:=none,data:=.set #[] 0 (.fresh 0 0 led) }
 have hod:=(N _ hm).1
 refine wpAny_bind ?_
 show wpAny _ _ ((eval (.Name a1 p1) env >>= fun v=>standAt p4 >>= fun _=>pure v) >>= fun v=>holding [v] (evalAll []) >>= fun r=>pure (v::r)) _ _ _
 refine wpAny_bind (wpAny_bind (wpAny_Name (wpAny_loadName_local hkf k1 F1.ns m1 ?_) hn1))
 refine wpAny_bind (wpAny_standAt (wpAny_pure ?_))
 refine wpAny_bind (wpAny_holding (wpAny_pure (wpAny_pure ?_)))
 refine wpAny_bind (wpAny_holding ?_)
 rw [List.forIn_cons]
 refine wpAny_bind (wpAny_bind (wpAny_bind ?_))
 unfold setAdd
 refine wpAny_holding (wpAny_bind ((strKind prog w).pyHash (k:=x) (strKind_is _ _ _ _) ?_))
 refine strSet_first (prog:=prog) (led:=led) (s:={ s with heap:=s.heap.push { cls:=.type "set",dict:=none,data:=.set #[] 0 (.fresh 0 0 led) },toks:=_ }) (Heap.get?_push_size _ rfl) fun h1 o1 sb1 ho1 hS1 hr1=>?_
 refine wpAny_pure ?_
 dsimp only
 rw [List.forIn_nil]
 refine wpAny_pure ?_
 rw [if_neg (by decide)]
 refine wpAny_pure ?_
 show wpAny _ _ (forIn [(true,eval (.Name a2 p2) env >>= fun v=>standAt p4 >>= fun _=>pure v)] PUnit.unit _ >>= fun _=>_) _ _ _
 rw [List.forIn_cons]
 have lS:s.heap.objs.size≠env.locals:=Nat.ne_of_gt hlt
 have hS0:h₀.get? s.heap.objs.size=none:=Heap.get?_none_of_le (Nat.le_trans F.above (Nat.le_of_lt hlt))
 have F2:Fr h₀ env.locals h1 m:=⟨F1.ns.at' fun o e=>(sb1.2 _ lS.symm).trans e,fun b o e=>(sb1.2 b (fun q=>by rw [q,hS0] at e;cases e)).trans (F1.keep b o e),F.above⟩
 refine wpAny_bind (wpAny_bind (wpAny_bind (wpAny_bind (wpAny_Name (wpAny_loadName_local hkf k2 F2.ns m2 ?_) hn2))))
 refine wpAny_bind (wpAny_standAt (wpAny_pure ?_))
 dsimp only
 rw [if_pos rfl]
 have hdl:d < s.heap.objs.size:=Heap.lt_size hod
 refine wpAny_bind (wpAny_holding (star_dict (prog:=prog) hh hdS (Nat.ne_of_gt hdl) ((sb1.2 d (Nat.ne_of_lt hdl)).trans (Heap.get?_push_of_some _ hod)) hd ho1 hS1 hr1 hn hx fun h2 so kl tk2 kp2 hso hkl hS2=>?_))
 refine wpAny_pure ?_
 dsimp only
 rw [List.forIn_nil]
 refine wpAny_pure (wpAny_pure (wpAny_pure ?_))
 have keep:∀ b o,s.heap.get? b=some o->h2.get? b=some o:=fun b o e=>kp2 b o (Nat.ne_of_lt (Heap.lt_size e)) ((sb1.2 b (Nat.ne_of_lt (Heap.lt_size e))).trans (Heap.get?_push_of_some _ e))
 refine h s.heap.objs.size so kl h2 tk2 (F.keeps keep) (fun q hq=>?_) (allLt_of fun q hq=>Heap.lt_size (N q hq).1) hkl hS2
 rcases List.mem_cons.mp hq with rfl | hq
 ·exact ⟨hso,lS,hS0⟩
 ·exact ⟨keep _ _ (N q hq).1,(N q hq).2⟩
end set_disp
theorem set_disp {prog w s env h₀ m d x a1 a2 p1 p2 p4 A E K news od kvs p3 tk Q}:set_disp.P0 prog w s env h₀ m d x a1 a2 p1 p2 p4 A E K news od kvs p3 tk Q:=by with_unfolding_all exact zy_all _ set_disp.R0 set_disp.T0 (prog,w,s,env,h₀,m,d,x,a1,a2,p1,p2,p4,A,E,K,news,od,kvs,p3,tk,Q)
section
variable {prog:Program}{w:World}{A:Around}{E:Value->Shared->Prop}{s:Shared}{K:Frag}{env:Env}{h₀:Heap}{L:Addr}{m:PySem.Str->Option Value}{news:List (Addr×Obj)}
end
end Mine
end XT5
section XT6
open PySem PySem.W PyProof.Rows PySem.Calls
namespace Mine
theorem owner_si:Manifest.owners.lookup (String.ofList ['r','o','t','a','r','e','t','i','_','t','e','s'].reverse)=some Manifest.sig_set_iterator:=by kernel_rfl
theorem slot_si_next:Slot "set_iterator" "__next__" "set_iterator.__next__" :=
 .of (owner:="set_iterator") (n:="__next__") (by rw [typeLookup_type,builtinLookup_eq_fast];kernel_rfl) (by decide +kernel) (by decide +kernel) (by decide +kernel)
  (by first | exact .inl (by decide +kernel) | exact .inr (by decide +kernel)) (by rw [isSubtype_type];kernel_rfl)
theorem entry_si_next:entryFor table "set_iterator.__next__" = some Builtin.«set_iterator.__next__»:=entryFor_of_tree (by kernel_rfl)
theorem args_si_next (a:Value):argsOk "set_iterator.__next__" ⟨[a],[]⟩:=by
 unfold argsOk;rw [signature?_of (id:="set_iterator.__next__") (n:=['_','_','t','x','e','n','_','_']) (o:=['r','o','t','a','r','e','t','i','_','t','e','s']) (by kernel_rfl) owner_si];kernel_rfl
theorem entry_set_iter:entryFor table "set.__iter__" = some Builtin.«frozenset.__iter__»:=
 entryFor_alias (id':="frozenset.__iter__") (by kernel_rfl) rfl (by decide +kernel) (by kernel_rfl)
theorem len_set:typeLookup (.type "set") "__len__" = pure (some (.builtin "set.__len__")):=by rw [typeLookup_type,builtinLookup_eq_fast];kernel_rfl
theorem erase_perm {α:Type}:∀ {l:List α}{n:Nat}(h:n < l.length),(l[n]::l.eraseIdx n).Perm l
 | x::xs,0,_=>.refl _
 | x::xs,n + 1,h=>(List.Perm.swap x _ _).trans ((erase_perm (l:=xs) (n:=n) (by simpa using h)).cons x)
theorem pick_go {α:Type}(next:Nat->Nat):∀ (fuel k:Nat)(left:List α)(out:Array α),left.length=fuel->(pickOrder.go next fuel k left out).toList.Perm (out.toList++left)
 | 0,k,[],out,_=>by simp [pickOrder.go]
 | fuel + 1,k,x::xs,out,h=>by
  unfold pickOrder.go
  have hi:next k % (x::xs).length < (x::xs).length:=Nat.mod_lt _ (by simp)
  rw [List.getElem?_eq_getElem hi]
  dsimp only
  refine (pick_go next fuel (k + 1) _ _ (by rw [List.length_eraseIdx_of_lt hi];simpa using h)).trans ?_
  rw [Array.toList_push,List.append_assoc]
  exact (erase_perm hi).append_left _
theorem pick_perm {α:Type}(next:Nat->Nat)(xs:Array α):(pickOrder next xs).toList.Perm xs.toList:=by
 have:=pick_go next xs.size 0 xs.toList #[] (by simp)
 simpa [pickOrder] using this
section
variable {prog:Program}{w:World}{A:Around}{E:Value->Shared->Prop}{s:Shared}{M:Model}
theorem wpAny_choose {src:Source}{n:Nat}{Q:Nat->Shared->Prop}(hn:n≠0)(h:∀ i d,i < n->Q i { s with drawn:=d }):wpAny M A (choose src n) Q E s:=
 fun _ _ _=>⟨hn,h _ _ (Nat.mod_lt _ (Nat.pos_of_ne_zero hn))⟩
theorem wpAny_draw {α:Type}(n:Nat):∀ (xs:List α){s:Shared}{Q:List α->Shared->Prop},xs.length=n->(∀ l d,l.Perm xs->Q l { s with drawn:=d })->wpAny M A (drawOrder n xs) Q E s:=by
 induction n with
 | zero=>
  intro xs s Q hl h
  have:xs=[]:=List.eq_nil_of_length_eq_zero hl
  subst this
  exact wpAny_pure (h [] s.drawn (.refl _))
 | succ n ih=>
  intro ys s Q hl h
  obtain ⟨x,xs,rfl⟩:=List.exists_cons_of_length_eq_add_one hl
  refine wpAny_bind (wpAny_choose (by simp) fun i d hi=>?_)
  rw [List.getElem?_eq_getElem hi]
  dsimp only
  refine wpAny_bind (ih ((x::xs).eraseIdx i) (by rw [List.length_eraseIdx_of_lt hi];simpa using hl) fun l d' hp=>wpAny_pure (h _ _ ?_))
  exact (hp.cons _).trans (erase_perm hi)
theorem wpAny_byText {Q:Bool->Shared->Prop}(h:Q (w.params.followText "set-order") s):wpAny (model prog w) A setsByText Q E s:=by
 unfold setsByText
 exact wpAny_bind (wpAny_askSetting (wpAny_pure h))
theorem wpAny_walkText {a:Addr}{o:Obj}{es:Array (Int×Value)}{ep:Nat}{t:SetTable}{Q:Array (Int×Value)->Shared->Prop}(ho:s.heap.get? a=some o)(hd:o.data = .set es ep t)(hf:t.fits es.size=true)
  (hb:w.params.followText "set-order" = true)(h:Q (pickOrder (w.params.setOrder a ep) es) s):wpAny (model prog w) A (setWalk a) Q E s:=by
 unfold setWalk
 refine wpAny_bind (wpAny_setState_of ho hd hf ?_)
 refine wpAny_bind (wpAny_byText ?_)
 rw [hb,if_pos rfl]
 exact wpAny_bind (wpAny_askSetting (wpAny_pure h))
noncomputable abbrev setIt (first:Value)(i:Nat)(S:Addr)(n ep:Nat):Obj:={ cls:=.type "set_iterator",dict:=none,data:=.fields #[first,rawInt i,.ref S,rawInt n,rawInt ep],slots:=#[] }
noncomputable def atPlace (es:Array (Int×Value))(p:Nat):Value:=(es[p]?.map (·.2)).getD .none
noncomputable def StIt (w:World)(h:Heap)(I S:Addr)(es:Array (Int×Value))(ep:Nat)(t:SetTable)(ord:List Value)(i:Nat):Prop:=
 h.get? S=some { cls:=.type "set",data:=.set es ep t }/\t.fits es.size=true/\ord.length=es.size /\
 ((w.params.followText "set-order" = true/\(pickOrder (w.params.setOrder S ep) es).toList.map (·.2)=ord/\h.get? I=some (setIt (rawInt 0) i S es.size ep)) \/
  ∃ (T:Addr)(ps:List Nat),h.get? I=some (setIt (.ref T) i S es.size ep)/\h.get? T=some { cls:=.type "tuple",data:=.seq (ps.map fun (p:Nat)=>rawInt p).toArray }/\(∀ p∈ps,p < es.size)/\ord=ps.map (atPlace es))
theorem set_entries {a:Addr}{es:Array (Int×Value)}{ep:Nat}{t:SetTable}{Q:Array (Int×Value)->Shared->Prop}(ho:s.heap.get? a=some { cls:=.type "set",data:=.set es ep t })(hf:t.fits es.size=true)(h:Q es s) :
  wpAny (model prog w) A (setEntries a) Q E s:=by
 unfold setEntries
 exact wpAny_bind (wpAny_setState_of ho rfl hf (wpAny_pure h))
end
noncomputable def set_next_item.P0 (w:World)(s:Shared)(I S:Addr)(es:Array (Int×Value))(ep i:Nat)(x:Value)(prog:Program)(A:Around)(E:Value->Shared->Prop)(t:SetTable)(ord:List Value)(Q:Option Value->Shared->Prop):Prop:=∀ (st:StIt w s.heap I S es ep t ord i)(hx:ord[i]? = some x)(hQ:∀ h',StIt w h' I S es ep t ord (i + 1)->Heap.SameBut I s.heap h'->Q (some x) { s with heap:=h' }),wpAny (model prog w) A (pyNext (.ref I)) Q E s
namespace set_next_item
noncomputable def R0:=(s4 <| s4 <| s4 <| st <| id) P0
@[irreducible] noncomputable def z0:=zy R0 (by k_extra "N")
@[irreducible] noncomputable def w:=f1 z0
@[irreducible] noncomputable def s:=f1 (f2 z0)
@[irreducible] noncomputable def I:=f1 (f2 (f2 z0))
@[irreducible] noncomputable def S:=f1 (f2 (f2 (f2 z0)))
@[irreducible] noncomputable def es:=f1 (f2 (f2 (f2 (f2 z0))))
@[irreducible] noncomputable def ep:=f1 (f2 (f2 (f2 (f2 (f2 z0)))))
@[irreducible] noncomputable def i:=f1 (f2 (f2 (f2 (f2 (f2 (f2 z0))))))
@[irreducible] noncomputable def x:=f1 (f2 (f2 (f2 (f2 (f2 (f2 (f2 z0)))))))
@[irreducible] noncomputable def z1:=f2 (f2 (f2 (f2 (f2 (f2 (f2 (f2 z0)))))))
theorem T0:(s4 <| st <| id) (P0 w s I S es ep i x) z1:=by
 intro st hx hQ
 obtain ⟨hS,hf,hl,hc⟩:=st
 have hi:((i:Int) + 1)=((i + 1:Nat):Int):=by lia
 rcases hc with ⟨hb,ho,hI⟩ | ⟨T,ps,hI,hTt,hps,ho⟩
 ·have hSI:S≠I:=fun e=>by rw [e,hI] at hS;simp at hS
  have hT:s.TypeIs (.ref I) "set_iterator" := ⟨_,hI,rfl⟩
  refine wpAny_bind (wpAny_attempt (wpAny_callSpecial?_slot (name:=Str.ofString "__next__") hT slot_si_next (wpAny_call_entry slot_si_next hT entry_si_next ?_ (args_si_next _))))
  unfold Builtin.«set_iterator.__next__»
  refine wpAny_bind (wpAny_pure ?_)
  refine wpAny_bind (wpAny_fieldsOf hI rfl ?_)
  refine wpAny_bind (set_entries hS hf ?_)
  refine wp_ifn ((by simp)) ?_
  show wpAny _ _ (setNext S 0 i ep >>= _) _ _ _
  refine wpAny_bind ?_
  unfold setNext
  refine wpAny_bind (wpAny_setState_of hS rfl hf ?_)
  refine wpAny_bind (wpAny_byText ?_)
  rw [hb,if_pos rfl,if_neg (by simp)]
  refine wpAny_bind (wpAny_walkText hS rfl hf hb (wpAny_pure ?_))
  have hx':((pickOrder (w.params.setOrder S ep) es)[i]?).map (fun e=>(e.2,0))=some (x,0):=by
   rw [<- ho,List.getElem?_map,Array.getElem?_toList] at hx
   cases hq:(pickOrder (w.params.setOrder S ep) es)[i]? with
   | none=>rw [hq] at hx;cases hx
   | some e=>rw [hq] at hx;rw [<- Option.some.inj hx];rfl
  rw [hx']
  dsimp only
  refine wpAny_bind (wpAny_setField_rec hI (by simp) fun h1 he1 hs1=>?_)
  refine wpAny_bind (wpAny_setField_rec he1 (by simp) fun h2 he2 hs2=>?_)
  refine wpAny_pure ⟨x,rfl,wpAny_pure ?_⟩
  have hs:Heap.SameBut I s.heap h2:=hs1.trans hs2
  refine hQ h2 ⟨(hs.2 S hSI).trans hS,hf,hl,.inl ⟨hb,ho,?_⟩⟩ hs
  rw [hi] at he2
  exact he2
 ·have hSI:S≠I:=fun e=>by rw [e,hI] at hS;simp at hS
  have hTI:T≠I:=fun e=>by rw [e,hI] at hTt;simp at hTt
  have hT:s.TypeIs (.ref I) "set_iterator" := ⟨_,hI,rfl⟩
  unfold pyNext
  refine wpAny_bind (wpAny_attempt (wpAny_callSpecial?_slot (name:=Str.ofString "__next__") hT slot_si_next (wpAny_call_entry slot_si_next hT entry_si_next ?_ (args_si_next _))))
  unfold Builtin.«set_iterator.__next__»
  refine wpAny_bind (wpAny_pure ?_)
  refine wpAny_bind (wpAny_fieldsOf hI rfl ?_)
  refine wpAny_bind (set_entries hS hf ?_)
  refine wp_ifn ((by simp)) ?_
  show wpAny _ _ (seqItems? (.ref T) >>= _) _ _ _
  refine wpAny_bind (wpAny_seqItems hTt rfl ?_)
  have hp:∃ p,ps[i]? = some p/\atPlace es p=x:=by
   rw [ho,List.getElem?_map] at hx
   cases hq:ps[i]? with
   | none=>rw [hq] at hx;cases hx
   | some p=>rw [hq] at hx;exact ⟨p,rfl,Option.some.inj hx⟩
  obtain ⟨p,hp,hpx⟩:=hp
  have hpl:p < es.size:=hps p (List.mem_of_getElem? hp)
  have e1:((ps.map fun (p:Nat)=>rawInt p).toArray)[(i:Int).toNat]? = some (rawInt p):=by simp [hp]
  simp only [e1]
  show wpAny _ _ (setNextDrawn S p ep >>= _) _ _ _
  refine wpAny_bind ?_
  unfold setNextDrawn
  refine wpAny_bind (wpAny_setState_of hS rfl hf ?_)
  refine wp_ifn ((by simp)) ?_
  have e2:es[p]? = some es[p]:=Array.getElem?_eq_getElem hpl
  rw [e2]
  dsimp only
  refine wpAny_pure ?_
  refine wpAny_bind (wpAny_setField_rec hI (by simp) fun h1 he1 hs1=>?_)
  have ex:es[p].2=x:=by rw [<- hpx];unfold atPlace;rw [e2];rfl
  rw [ex]
  refine wpAny_pure ⟨x,rfl,wpAny_pure ?_⟩
  refine hQ h1 ⟨(hs1.2 S hSI).trans hS,hf,hl,.inr ⟨T,ps,?_,(hs1.2 T hTI).trans hTt,hps,ho⟩⟩ hs1
  rw [hi] at he1
  exact he1
end set_next_item
theorem set_next_item {w s I S es ep i x prog A E t ord Q}:set_next_item.P0 w s I S es ep i x prog A E t ord Q:=by with_unfolding_all exact zy_all _ set_next_item.R0 set_next_item.T0 (w,s,I,S,es,ep,i,x,prog,A,E,t,ord,Q)
section
variable {prog:Program}{w:World}{A:Around}{E:Value->Shared->Prop}{s:Shared}{M:Model}
end
end Mine
end XT6
section XT7
open PySem PySem.W PyProof.Rows PySem.Calls
namespace Mine
section
variable {prog:Program}{w:World}{A:Around}{E:Value->Shared->Prop}{s:Shared}{M:Model}
end
noncomputable def set_next_end.P0 (w:World)(A:Around)(s:Shared)(I S:Addr)(es:Array (Int×Value))(ep:Nat)(ord:List Value)(prog:Program)(E:Value->Shared->Prop)(t:SetTable)(Q:Option Value->Shared->Prop):Prop:=∀ (hh:A.handled=none)(st:StIt w s.heap I S es ep t ord ord.length)(hQ:∀ h',Heap.ExtBut I s.heap h'->Q none { s with heap:=h' }),wpAny (model prog w) A (pyNext (.ref I)) Q E s
namespace set_next_end
noncomputable def R0:=(s4 <| s4 <| st <| st <| st <| id) P0
@[irreducible] noncomputable def z0:=zy R0 (by k_extra "N")
@[irreducible] noncomputable def w:=f1 z0
@[irreducible] noncomputable def A:=f1 (f2 z0)
@[irreducible] noncomputable def s:=f1 (f2 (f2 z0))
@[irreducible] noncomputable def I:=f1 (f2 (f2 (f2 z0)))
@[irreducible] noncomputable def S:=f1 (f2 (f2 (f2 (f2 z0))))
@[irreducible] noncomputable def es:=f1 (f2 (f2 (f2 (f2 (f2 z0)))))
@[irreducible] noncomputable def ep:=f1 (f2 (f2 (f2 (f2 (f2 (f2 z0))))))
@[irreducible] noncomputable def ord:=f1 (f2 (f2 (f2 (f2 (f2 (f2 (f2 z0)))))))
@[irreducible] noncomputable def z1:=f2 (f2 (f2 (f2 (f2 (f2 (f2 (f2 z0)))))))
theorem T0:(st <| st <| st <| id) (P0 w A s I S es ep ord) z1:=by
 intro hh st hQ
 obtain ⟨hS,hf,hl,hc⟩:=st
 rcases hc with ⟨hb,ho,hI⟩ | ⟨T,ps,hI,hTt,hps,ho⟩
 ·have hT:s.TypeIs (.ref I) "set_iterator" := ⟨_,hI,rfl⟩
  unfold pyNext
  refine wpAny_bind (wpAny_attempt (wpAny_callSpecial?_slot (name:=Str.ofString "__next__") hT slot_si_next (wpAny_call_entry slot_si_next hT entry_si_next ?_ (args_si_next _))))
  unfold Builtin.«set_iterator.__next__»
  refine wpAny_bind (wpAny_pure ?_)
  refine wpAny_bind (wpAny_fieldsOf hI rfl ?_)
  refine wpAny_bind (set_entries hS hf ?_)
  refine wp_ifn ((by simp)) ?_
  show wpAny _ _ (setNext S 0 ord.length ep >>= _) _ _ _
  refine wpAny_bind ?_
  unfold setNext
  refine wpAny_bind (wpAny_setState_of hS rfl hf ?_)
  refine wpAny_bind (wpAny_byText ?_)
  rw [hb,if_pos rfl,if_neg (by simp)]
  refine wpAny_bind (wpAny_walkText hS rfl hf hb (wpAny_pure ?_))
  have hx':((pickOrder (w.params.setOrder S ep) es)[ord.length]?).map (fun e=>(e.2,0))=none:=by
   have:(pickOrder (w.params.setOrder S ep) es).size=ord.length:=by rw [<- ho];simp
   rw [Array.getElem?_eq_none (Nat.le_of_eq this)];rfl
  rw [hx']
  dsimp only
  refine wpAny_bind (wpAny_setField hI rfl (by simp) ?_)
  show wpAny _ _ (newExc (.type "StopIteration") [] >>= _) _ _ _
  refine wpAny_bind ?_
  simp only [newExc,newTuple]
  refine wpAny_bind (wpAny_newObj_type ?_ (by size_fits))
  refine wpAny_bind (m:=firstArgMember _ _) (wpAny_of_eq (a:=Value.none) (by first | rfl | (simp only [firstArgMember];rfl)) ?_)
  refine wpAny_newObj_type ?_ (by size_fits)
  dsimp only [raiseNew]
  refine wpAny_bind (wpAny_handled ?_)
  rw [show A.in1.handled=none from hh]
  refine wpAny_bind (wpAny_pure (wpAny_throw ?_))
  refine wpAny_bind (wpAny_isInstance (T:="StopIteration") (b:=true) ⟨_,Heap.get?_push_size _ rfl,rfl⟩ isSubtype_stop ?_)
  exact wpAny_pure (hQ _ (((Heap.SameBut.update ..).extBut.push _).push _))
 ·have hT:s.TypeIs (.ref I) "set_iterator" := ⟨_,hI,rfl⟩
  unfold pyNext
  refine wpAny_bind (wpAny_attempt (wpAny_callSpecial?_slot (name:=Str.ofString "__next__") hT slot_si_next (wpAny_call_entry slot_si_next hT entry_si_next ?_ (args_si_next _))))
  unfold Builtin.«set_iterator.__next__»
  refine wpAny_bind (wpAny_pure ?_)
  refine wpAny_bind (wpAny_fieldsOf hI rfl ?_)
  refine wpAny_bind (set_entries hS hf ?_)
  refine wp_ifn ((by simp)) ?_
  show wpAny _ _ (seqItems? (.ref T) >>= _) _ _ _
  refine wpAny_bind (wpAny_seqItems hTt rfl ?_)
  have e1:((ps.map fun (p:Nat)=>rawInt p).toArray)[(ord.length:Int).toNat]? = none:=by simp [ho]
  simp only [e1]
  refine wpAny_bind (wpAny_setField_rec hI (by simp) fun h1 he1 hs1=>?_)
  refine wpAny_bind (wpAny_setField he1 rfl (by simp) ?_)
  show wpAny _ _ (newExc (.type "StopIteration") [] >>= _) _ _ _
  refine wpAny_bind ?_
  simp only [newExc,newTuple]
  refine wpAny_bind (wpAny_newObj_type ?_ (by size_fits))
  refine wpAny_bind (m:=firstArgMember _ _) (wpAny_of_eq (a:=Value.none) (by first | rfl | (simp only [firstArgMember];rfl)) ?_)
  refine wpAny_newObj_type ?_ (by size_fits)
  dsimp only [raiseNew]
  refine wpAny_bind (wpAny_handled ?_)
  rw [show A.in1.handled=none from hh]
  refine wpAny_bind (wpAny_pure (wpAny_throw ?_))
  refine wpAny_bind (wpAny_isInstance (T:="StopIteration") (b:=true) ⟨_,Heap.get?_push_size _ rfl,rfl⟩ isSubtype_stop ?_)
  refine wpAny_pure (hQ _ (Heap.ExtBut.push (Heap.ExtBut.push (fun b o hb e=>?_) _) _))
  exact ((Heap.SameBut.update h1 I _).2 b hb).trans ((hs1.2 b hb).trans e)
end set_next_end
theorem set_next_end {w A s I S es ep ord prog E t Q}:set_next_end.P0 w A s I S es ep ord prog E t Q:=by with_unfolding_all exact zy_all _ set_next_end.R0 set_next_end.T0 (w,A,s,I,S,es,ep,ord,prog,E,t,Q)
section
variable {prog:Program}{w:World}{A:Around}{E:Value->Shared->Prop}{s:Shared}{M:Model}
theorem map_atPlace (es:Array (Int×Value)):(List.range es.size).map (atPlace es)=es.toList.map (·.2):=by
 apply List.ext_getElem
 ·simp
 ·intro i h1 h2
  simp only [List.length_map,List.length_range] at h1
  simp [atPlace,h1]
theorem set_iter {S:Addr}{es:Array (Int×Value)}{ep:Nat}{t:SetTable}{Q:Value->Shared->Prop}(hS:s.heap.get? S=some { cls:=.type "set",data:=.set es ep t })(hf:t.fits es.size=true)(hpl:t.plain=false) (h1:1 < es.size) (h2:es.size<=100)
  (hQ:∀ I ord h' d,ord.Perm (es.toList.map (·.2))->StIt w h' I S es ep t ord 0->(∀ b o,s.heap.get? b=some o->h'.get? b=some o)->@LE.le Nat _ s.heap.objs.size I->Q (.ref I) { s with heap:=h',drawn:=d }) :
  wpAny (model prog w) A (pyIter (.ref S)) Q E s:=by
 have hT:s.TypeIs (.ref S) "set" := ⟨_,hS,rfl⟩
 refine wpAny_pyIter_slot hT F.slot_set_iter (wpAny_call_entry F.slot_set_iter hT entry_set_iter ?_ (F.args_set_iter_1 _))
 unfold Builtin.«frozenset.__iter__»
 refine wpAny_bind (m:=Builtin.Frozenset.slot0 "__iter__" _) ?_
 dsimp only [List.isEmpty_nil,Bool.not_true,Bool.false_eq_true,↓reduceIte,List.length_nil,bne_self_eq_false]
 refine wpAny_bind (wpAny_pure ?_)
 try dsimp only
 refine wpAny_pure ?_
 refine wpAny_bind (wpAny_bind (set_entries hS hf (wpAny_pure ?_)))
 refine wpAny_bind (wpAny_bind (wpAny_setState_of hS rfl hf ?_))
 refine wpAny_bind (wpAny_byText (wpAny_pure ?_))
 cases hb:w.params.followText "set-order" with
 | true=>
  refine wp_ifn ((by simp)) ?_
  refine wpAny_bind (wpAny_pure ?_)
  refine wpAny_bind ?_
  unfold setEpoch
  refine wpAny_bind (wpAny_setState_of hS rfl hf (wpAny_pure ?_))
  refine wpAny_bind (wpAny_newObj_type (wpAny_pure ⟨_,rfl,"set_iterator",_,⟨_,Heap.get?_push_size _ rfl,rfl⟩,slot_si_next.lookup,?_⟩) (by size_fits))
  refine hQ _ _ _ s.drawn ((pick_perm (w.params.setOrder S ep) es).map _) ⟨Heap.get?_push_of_some _ hS,hf,by rw [List.length_map,(pick_perm _ _).length_eq,Array.length_toList],.inl ⟨hb,rfl,?_⟩⟩ (fun b o e=>Heap.get?_push_of_some _ e) (Nat.le_refl _)
  exact Heap.get?_push_size _ rfl
 | false=>
  refine wp_ifp ((by show (!false && (!t.plain && decide (es.size > 1)))=true;rw [hpl];simp [h1])) ?_
  refine wpAny_bind (wpAny_draw es.size (List.range es.size) List.length_range fun l d hp=>?_)
  have hll:l.length=es.size:=by rw [hp.length_eq,List.length_range]
  refine wpAny_bind (wpAny_newObj_type ?_ (by show (l.map _).toArray.size<=_;simp only [List.size_toArray,List.length_map];rw [hll,sizeLine_eq];lia))
  have hS1:=Heap.get?_push_of_some { cls:=.type "tuple",data:=.seq (l.map fun (i:Nat)=>rawInt i).toArray } hS
  refine wpAny_bind ?_
  unfold setEpoch
  refine wpAny_bind (wpAny_setState_of hS1 rfl hf (wpAny_pure ?_))
  refine wpAny_bind (wpAny_newObj_type (wpAny_pure ⟨_,rfl,"set_iterator",_,⟨_,Heap.get?_push_size _ rfl,rfl⟩,slot_si_next.lookup,?_⟩) (by size_fits))
  refine hQ _ (l.map (atPlace es)) _ d (by rw [<- map_atPlace];exact hp.map _) ⟨Heap.get?_push_of_some _ hS1,hf,by rw [List.length_map,hll],.inr ⟨s.heap.objs.size,l,?_,Heap.get?_push_of_some _ (Heap.get?_push_size _ rfl),fun p hpm=>by simpa using hp.mem_iff.mp hpm,rfl⟩⟩ (fun b o e=>Heap.get?_push_of_some _ (Heap.get?_push_of_some _ e)) (by rw [Heap.size_push];exact Nat.le_succ _)
  exact Heap.get?_push_size _ rfl
theorem StIt.keep {h h':Heap}{I S:Addr}{es:Array (Int×Value)}{ep:Nat}{t:SetTable}{ord:List Value}{i:Nat}(st:StIt w h I S es ep t ord i)(X:Addr)(oX:Obj)(hX:h.get? X=some oX)(hcX:oX.cls = .type "list")(hk:∀ b o,b≠X->h.get? b=some o->h'.get? b=some o):StIt w h' I S es ep t ord i:=by
 obtain ⟨hS,hf,hl,hc⟩:=st
 have ne:∀ {a:Addr}{o:Obj},h.get? a=some o->o.cls≠.type "list" -> a≠X:=fun {a o} ho hc e=>by
  rw [e,hX] at ho
  exact hc (by rw [<- Option.some.inj ho];exact hcX)
 refine ⟨hk _ _ (ne hS (by simp)) hS,hf,hl,?_⟩
 rcases hc with ⟨hb,ho,hI⟩ | ⟨T,ps,hI,hTt,hps,ho⟩
 ·exact .inl ⟨hb,ho,hk _ _ (ne hI (by simp)) hI⟩
 ·exact .inr ⟨T,ps,hk _ _ (ne hI (by simp)) hI,hk _ _ (ne hTt (by simp)) hTt,hps,ho⟩
theorem set_loop {R:Result->Shared->Prop}{X I S:Addr}{es:Array (Int×Value)}{ep:Nat}{t:SetTable}{ord:List Value}(hh:A.handled=none)(hn:ord.length<=100)(res:Value){h₁:Heap}
  (hR:∀ h' tk c,(∀ b o,b≠X->b≠I->h₁.get? b=some o->h'.get? b=some o)->h'.get? X=some { cls:=.type "list",dict:=none,data:=.seq ord.toArray c,slots:=#[] }->R (.ok (.ret res)) { s with heap:=h',toks:=tk }) :
  ∀ (k i:Nat)(h:Heap)(tk c:Nat),ord.length - i=k->i<=ord.length->StIt w h I S es ep t ord i->(∀ b o,b≠X->b≠I->h₁.get? b=some o->h.get? b=some o) ->
   h.get? X=some { cls:=.type "list",dict:=none,data:=.seq (ord.take i).toArray c,slots:=#[] } ->
   codeAny (model prog w) A (.builtin "list.extend.loop" ⟨[.ref X,.ref I,res],[]⟩) R { s with heap:=h,toks:=tk }:=by
 intro k
 induction k with
 | zero=>
  intro i h tk c hk hi hst hkeep hX
  have hin:i=ord.length:=by lia
  subst hin
  have hXI:X≠I:=fun e=>by
   obtain ⟨_,_,_,hc⟩:=hst
   rcases hc with ⟨_,_,hI⟩ | ⟨T,ps,hI,_⟩ <;> (rw [e,hI] at hX;simp at hX)
  refine codeAny_builtin PySem.F.entry_extend_loop ?_
  rw [Around.under_plainId PySem.F.plain_extend_loop _]
  show wpAny _ A.in1 (pyNext (.ref I) >>= _) _ _ _
  refine wpAny_bind (set_next_end (s:={ s with heap:=h,toks:=tk }) (A:=A.in1) hh hst fun h' he=>?_)
  rw [List.take_length] at hX
  exact wpAny_pure (hR h' tk c (fun b o h1 h2 e=>he b o h2 (hkeep b o h1 h2 e)) (he X _ hXI hX))
 | succ k ih=>
  intro i h tk c hk hi hst hkeep hX
  have hlt:i < ord.length:=by lia
  have hXI:X≠I:=fun e=>by
   obtain ⟨_,_,_,hc⟩:=hst
   rcases hc with ⟨_,_,hI⟩ | ⟨T,ps,hI,_⟩ <;> (rw [e,hI] at hX;simp at hX)
  refine codeAny_builtin PySem.F.entry_extend_loop ?_
  rw [Around.under_plainId PySem.F.plain_extend_loop _]
  show wpAny _ A.in1 (pyNext (.ref I) >>= _) _ _ _
  refine wpAny_bind (set_next_item (s:={ s with heap:=h,toks:=tk }) (A:=A.in1) hst (List.getElem?_eq_getElem hlt) fun h' st' sb=>?_)
  have hX':=(sb.2 X hXI).trans hX
  refine wpAny_bind ?_
  refine wpAny_updateSeq hX' rfl (wpAny_pure ⟨plainId_quiet PySem.F.plain_extend_loop _,ih (i + 1) _ _ (c + 1) (by lia) hlt (st'.keep X _ hX' rfl fun b o hb e=>(Heap.get?_update_other _ _ (Ne.symm hb)).trans e) (fun b o h1 h2 e=>?_) ?_⟩) (by simp only [List.size_toArray,List.length_take,sizeLine_eq];lia) (by show (Array.push _ _).size<=_;simp only [Array.size_push,List.size_toArray,List.length_take,sizeLine_eq];lia)
  ·exact (Heap.get?_update_other _ _ (Ne.symm h1)).trans ((sb.2 b h2).trans (hkeep b o h1 h2 e))
  ·rw [Heap.get?_update_self _ hX' rfl]
   show some ({ cls:=Value.type "list",dict:=none,data:=.seq ((ord.take i).toArray.push ord[i]) _,slots:=#[] }:Obj)=_
   rw [List.push_toArray,List.take_append_getElem,if_neg (by simp;lia)]
theorem set_hint {r:Addr}(hT:s.TypeIs (.ref r) "set"){Q:Bool->Shared->Prop}(h:Q false s):wpAny (model prog w) A (Builtin.List.listLengthHint (.ref r)) Q E s:=by
 unfold Builtin.List.listLengthHint
 refine wpAny_bind (wpAny_specialOf hT len_set ?_)
 generalize hid:("set.__len__" : String)=id0
 wp_delta
 rw [show splitId id0=some ("set","__len__") from by subst hid;decide +kernel]
 subst hid
 refine wpAny_bind (wpAny_isInstance (T:="set") (b:=true) hT (by rw [isSubtype_type];kernel_rfl) ?_)
 refine wpAny_ite_split (fun hab=>absurd hab (by decide)) (fun _=>?_)
 refine wpAny_ite_split (fun _=>?_) (fun hab=>absurd (by decide +kernel) hab)
 refine wpAny_bind (wpAny_typeOf hT ?_)
 exact wpAny_pure h
end
noncomputable def set_collect.P0 (A:Around)(s:Shared)(S:Addr)(R:List Value->Shared->Prop)(prog:Program)(w:World)(E:Value->Shared->Prop)(es:Array (Int×Value))(ep:Nat)(t:SetTable):Prop:=∀ (hh:A.handled=none)(hS:s.heap.get? S=some { cls:=.type "set",data:=.set es ep t })(hf:t.fits es.size=true)(hpl:t.plain=false) (h1:1 < es.size) (h2:es.size<=100)(h:∀ (ord:List Value)(h':Heap) d tk,ord.Perm (es.toList.map (·.2))->(∀ b o,s.heap.get? b=some o->h'.get? b=some o)->R ord { s with heap:=h',drawn:=d,toks:=tk }),wpAny (model prog w) A (collect (.ref S)) R E s
namespace set_collect
noncomputable def R0:=(s4 <| s4 <| st <| id) P0
@[irreducible] noncomputable def z0:=zy R0 (by k_extra "N")
@[irreducible] noncomputable def A:=f1 z0
@[irreducible] noncomputable def s:=f1 (f2 z0)
@[irreducible] noncomputable def S:=f1 (f2 (f2 z0))
@[irreducible] noncomputable def R:=f1 (f2 (f2 (f2 z0)))
@[irreducible] noncomputable def z1:=f2 (f2 (f2 (f2 z0)))
theorem T0:(s4 <| st <| id) (P0 A s S R) z1:=by
 intro hh hS hf hpl h1 h2 h
 have hr:S < s.heap.objs.size:=Heap.lt_size hS
 refine wpAny_bind (wpAny_runValue (codeAny_builtin PySem.F.entry_proto_collect ?_))
 rw [Around.under_plainId PySem.F.plain_proto_collect _]
 show wpAny _ A.in1 (newList [] >>= fun l=>again (.builtin "list.__iadd__" ⟨[l,.ref S],[]⟩)) _ _ s
 refine wpAny_bind (wpAny_newObj_type ?_)
 refine wpAny_pure ⟨plainId_quiet PySem.F.plain_list_iadd _,codeAny_builtin PySem.F.entry_list_iadd ?_⟩
 rw [Around.under_plainId PySem.F.plain_list_iadd _]
 have hX₁:(s.heap.push { cls:=.type "list",data:=.seq ([]:List Value).toArray }).get? s.heap.objs.size=some { cls:=.type "list",data:=.seq #[] }:=Heap.get?_push_size _ rfl
 have hS₁:=Heap.get?_push_of_some { cls:=.type "list",data:=.seq ([]:List Value).toArray } hS
 refine (?_:wpAny _ A.in1 (Builtin.List.listExtendWith (.ref s.heap.objs.size) (.ref S) (.ref s.heap.objs.size)) _ _ _)
 refine wpAny_bind (wpAny_typeOf (T:="set") ⟨_,hS₁,rfl⟩ ?_)
 have q1:Builtin.List.listSameRef (.ref s.heap.objs.size) (.ref S)=false:=by simp [Builtin.List.listSameRef,Nat.ne_of_gt hr]
 have q2:(Value.type "set" == Value.type "list")=false:=by decide
 have q3:(Value.type "set" == Value.type "tuple")=false:=by decide
 simp only [q1,q2,q3,Bool.or_false,Bool.false_eq_true,if_false]
 refine wpAny_bind (set_iter hS₁ hf hpl h1 h2 fun I ord h' d hp st kp lI=>?_)
 have hX₂:=kp _ _ hX₁
 have hXI:I≠s.heap.objs.size:=Nat.ne_of_gt (by rw [Heap.size_push] at lI;exact lI)
 refine wpAny_bind (wpAny_holding (set_hint ⟨_,kp _ _ hS₁,rfl⟩ ?_))
 refine wp_ifp ((by decide)) ?_
 refine wpAny_bind (wpAny_rule ?_)
 refine wpAny_bind ?_
 show wpAny _ _ (updateSeq s.heap.objs.size (·.push .none) >>= fun _=>updateSeq s.heap.objs.size (·.pop)) _ _ _
 refine wpAny_bind (wpAny_updateSeq hX₂ rfl ?_)
 have hX₃:=Heap.get?_update_self (Obj.mapSeq (·.push Value.none)) hX₂ rfl
 refine wpAny_updateSeq (hz:=by seq_fits) hX₃ rfl ?_
 have hX₄:=Heap.get?_update_self (Obj.mapSeq (·.pop)) hX₃ rfl
 have key:∀ b o,b≠s.heap.objs.size->h'.get? b=some o->((h'.update s.heap.objs.size (Obj.mapSeq (·.push Value.none))).update s.heap.objs.size (Obj.mapSeq (·.pop))).get? b=some o:=
  fun b o hb e=>(Heap.get?_update_other _ _ (Ne.symm hb)).trans ((Heap.get?_update_other _ _ (Ne.symm hb)).trans e)
 have hol:ord.length<=100:=by rw [hp.length_eq,List.length_map,Array.length_toList];exact h2
 refine wpAny_pure ⟨plainId_quiet PySem.F.plain_extend_loop _,set_loop (s:={ s with heap:=h',drawn:=d }) (h₁:=s.heap) hh hol _ (fun h2 tk c hk2 hX2=>?_) ord.length 0 _ _ _ (Nat.sub_zero _) (Nat.zero_le _) (st.keep _ _ hX₂ rfl key) (fun b o hb _ e=>key b o hb (kp _ _ (Heap.get?_push_of_some _ e))) hX₄⟩
 refine wpAny_bind (wpAny_load hX2 ?_)
 refine wpAny_pure ?_
 show R ord.toArray.toList _
 rw [List.toList_toArray]
 have lt:∀ b o,s.heap.get? b=some o->b < s.heap.objs.size:=fun b o e=>Heap.lt_size e
 rw [Heap.size_push] at lI
 exact h ord h2 d tk hp fun b o e=>hk2 b o (Nat.ne_of_lt (lt b o e)) (Nat.ne_of_lt (Nat.lt_trans (lt b o e) lI)) e
end set_collect
theorem set_collect {A s S R prog w E es ep t}:set_collect.P0 A s S R prog w E es ep t:=by with_unfolding_all exact zy_all _ set_collect.R0 set_collect.T0 (A,s,S,R,prog,w,E,es,ep,t)
section
variable {prog:Program}{w:World}{A:Around}{E:Value->Shared->Prop}{s:Shared}{M:Model}
end
end Mine
end XT7
section XT8
open PySem PySem.W PyProof.Rows PySem.Calls
namespace Mine
section
variable {prog:Program}{w:World}{A A₀:Around}{E:Value->Shared->Prop}{s:Shared}{K:Frag}{L:Addr}{h₀ base:Heap}{m mg mb:PySem.Str->Option Value}{news:List (Addr×Obj)}{p:Program}{loose:List PySem.Str}{mean:ExcName->Option Value}
open Builtin Builtin.Str in
theorem meets_one (x y:PySem.Str)(t u v:Tok) (h1:(decide (x.length < y.length) || decide (strKind x < strKind y))=false)(hy:(y.length == 0)=false)(hf:(occurrences x y 0 x.length (limitOf x 1)).isEmpty=true) :
  Meets («str.split» ⟨[.str x t,.str y u,.int 1 v],[]⟩) (fun _ R s=>R (.ok (.ret (.ref s.heap.objs.size))) { s with heap:=s.heap.push { cls:=.type "list",data:=.seq #[.str x t] } }):=by
 obtain ⟨raising,htree⟩:=split_sep_max_tree x y 1 t u v (by decide)
 refine .of_wp fun prog w A R s h=>?_
 rw [htree,h1,hy,hf]
 show wpAny _ _ (do rule "str.split.same-object";ret (<- newList [.str x t])) _ _ s
 exact wpAny_bind (wpAny_rule (wpAny_bind (wpAny_newList (wpAny_pure ⟨_,rfl,h⟩) (by show 1<=sizeLine;decide))))
noncomputable def NoCut (x y:PySem.Str):Prop:=(decide (x.length < y.length) || decide (Builtin.Str.strKind x < Builtin.Str.strKind y))=false/\(y.length == 0)=false/\(Builtin.Str.occurrences x y 0 x.length (limitOf x 1)).isEmpty=true
noncomputable abbrev lamB (x y:PySem.Str) (p1 p2 p3 p4 p5:Pos) (k1 k2:Nat):Expr:=.Call (.Attribute (.Name x p1) (Str.ofString "split") p2) [.Constant (.str y) k1 p3,.Constant (.int 1) k2 p4] [] p5
theorem lam_call {env:Env}{outer:List Env}{name qual:PySem.Str}{params:Arguments}{scope:Scope}{pm ctv:Value}{c' f:Addr}{x y n:PySem.Str}{tn:Tok} {p1 p2 p3 p4 p5:Pos} {k1 k2:Nat}{Q:Value->Shared->Prop}
  (B:Below A₀ base outer h₀) (F0:Fr h₀ L s.heap m)(X₀:K.In h₀)(N:News h₀ L s.heap news)(T:Top p loose mean mg mb h₀)(hA:A.frames=some (env::outer))(hf:env.frame=some L)(hke:env.scope.kind = .function)
  (ho:(f,kla_obj name qual params (lamB x y p1 p2 p3 p4 p5 k1 k2) scope [] pm c' ctv)∈news)(hcd:s.heap.CodeRec (.ref c') qual)(hroom:A.depth < recursionLimit)
  (hbind:bindArgs (kla_fn name qual params (lamB x y p1 p2 p3 p4 p5 k1 k2) scope [] pm (.ref c') ctv) ⟨[.str n tn],[]⟩=pure [(x,.str n tn)])(hx:scope.names.lookup x=some .local)(hxd:(x == ("__debug__" : PySem.Str))=false)(hline:(p2.endLine == p5.line)=true)
  (hco:scope.isCoroutine=false)(hgen:scope.isGenerator=false)(hk:scope.kind = .function)(hcell:∀ x∈scope.names,x.2≠.cell)(hn:NoCut n y)
  (hret:∀ l h' tk',Fr h₀ L h' m->News h₀ L h' ((l,seqObj "list" #[.str n tn] 0)::news)->AllLt l news->Q (.ref l) { s with heap:=h',toks:=tk' }) :
  wpAny (model prog w) A (call (.ref f) [.str n tn]) Q E s:=by
 refine wpAny_call (kla_code B F0 X₀ N T hA hf hke ho hcd hroom hbind (fun z hz=>by rw [List.mem_singleton.mp hz];exact hx) (fun g L' h₁ FG F1 N1 B1 X1 T1=>?_) hco hgen hk hcell)
 refine Call_method2 rfl rfl hline ?_
 refine wpAny_Name (wpAny_loadName_local hk hx F1.ns (show List.lookup x [(x,Value.str n tn)].reverse=some (.str n tn) from by simp [List.lookup]) ?_) hxd
 refine ⟨"str","str.split",F.plainAttrs_str,F.slot_str_split,F.type_str_split,typeIs_str _ _ _,(fun _ e=>nomatch e),?_⟩
 refine callWith_builtin rfl (evalArgs_plain (spliced_cons (wpAny_Constant_str (spliced_cons (wpAny_Constant_int (spliced_nil ?_))))))
 refine call_meets F.slot_str_split (typeIs_str _ _ _) F.entry_str_split (F.args_str_split_3 _ _ _) (meets_one _ _ _ _ _ hn.1 hn.2.1 hn.2.2) ?_
 refine leaveK_ (F1.push _) (News.push F1 N1 _) fun F2 N2=>?_
 exact hret _ _ _ F2 N2 (allLt_of fun q hq=>Heap.lt_size (N1 q hq).1)
end
end Mine
end XT8
section XT9
set_option tactic.hygienic true
open PySem PySem.W PyProof.Rows PySem.Calls
namespace Mine
theorem perm_map_inv {α β:Type}(f:α->β) {l1 l2:List β}(h:l1.Perm l2):∀ l:List α,l2=l.map f->∃ l':List α,l'.Perm l/\l1=l'.map f:=by
 induction h with
 | nil=>
  intro l e;have:l=[]:=by simpa using e.symm
  subst this;exact ⟨[],.refl _,rfl⟩
 | cons x _ ih=>
  intro l e
  match l,e with
  | a::r,e=>
   simp only [List.map_cons,List.cons.injEq] at e
   obtain ⟨l',hp,hq⟩:=ih r e.2
   exact ⟨a::l',hp.cons a,by rw [hq,e.1];rfl⟩
 | swap x y l0=>
  intro l e
  match l,e with
  | a::b::r,e=>
   simp only [List.map_cons,List.cons.injEq] at e
   exact ⟨b::a::r,.swap _ _ _,by rw [e.1,e.2.1,e.2.2];rfl⟩
 | trans _ _ ih1 ih2=>
  intro l e
  obtain ⟨l2',h2,e2⟩:=ih2 l e
  obtain ⟨l1',h1,e1⟩:=ih1 l2' e2
  exact ⟨l1',h1.trans h2,e1⟩
noncomputable def krun {α:Type}(n:Nat)(lt:Nat->Nat->Bool):KasT α->Option α
 | .ret a=>some a
 | .ask i j k=>if i < n/\j < n/\i≠j then krun n lt (k (lt i j)) else none
theorem krun_wp {α:Type}{n:Nat}{lt:Nat->Nat->Bool}{cmp:Nat->Nat->(Bool->Shared->Prop)->Shared->Prop}{G:α->Shared->Prop}{s:Shared}(hc:∀ i j C,i < n->j < n->i≠j->C (lt i j) s->cmp i j C s) :
  ∀ (t:KasT α)(a:α),krun n lt t=some a->G a s->t.kasWp cmp G s
 | .ret a,b,e,h=>by cases e;exact h
 | .ask i j k,a,e,h=>by
  unfold krun at e
  split at e
  ·rename_i hb
   exact hc i j _ hb.1 hb.2.1 hb.2.2 (krun_wp hc (k (lt i j)) a e h)
  ·cases e
noncomputable def ltOf (ord:List (PySem.Str×Tok))(i j:Nat):Bool:=decide ((ord.getD i (⟨#[]⟩,0)).1.cps.toList < (ord.getD j (⟨#[]⟩,0)).1.cps.toList)
section
variable {prog:Program}{w:World}{A A₀:Around}{E:Value->Shared->Prop}{s:Shared}{K:Frag}{L:Addr}{h₀ base:Heap}{m mg mb:PySem.Str->Option Value}{news:List (Addr×Obj)}{p:Program}{loose:List PySem.Str}{mean:ExcName->Option Value}
noncomputable def KeyCall (prog:Program)(w:World)(A:Around)(h₀:Heap)(L:Addr)(m:PySem.Str->Option Value)(f:Value)(news:List (Addr×Obj))(P:PySem.Str->Prop):Prop:=
 ∀ (s:Shared)(led:List (Addr×Obj))(n:PySem.Str)(tn:Tok)(Q:Value->Shared->Prop),P n->(∀ q∈news,q∈led)->Fr h₀ L s.heap m->News h₀ L s.heap led ->
  (∀ l h' tk',Fr h₀ L h' m->News h₀ L h' ((l,seqObj "list" #[.str n tn] 0)::led)->AllLt l led->Q (.ref l) { s with heap:=h',toks:=tk' })->wpAny (model prog w) A (call f [.str n tn]) Q (fun _ _=>False) s
noncomputable def KeysAt (led:List (Addr×Obj))(ks:List Value)(l:List (PySem.Str×Tok)):Prop:=ks.length=l.length/\∀ (i:Nat)(p:PySem.Str×Tok),l[i]? = some p->∃ a:Addr,ks[i]? = some (Value.ref a)/\(a,seqObj "list" #[.str p.1 p.2] 0)∈led
theorem KeysAt.snoc {led led':List (Addr×Obj)}{ks:List Value}{l:List (PySem.Str×Tok)}(h:KeysAt led ks l)(hs:∀ q∈led,q∈led'){a:Addr}{p:PySem.Str×Tok}(ha:(a,seqObj "list" #[.str p.1 p.2] 0)∈led'):KeysAt led' (ks++[.ref a]) (l++[p]):=by
 refine ⟨by simp [h.1],fun i q hq=>?_⟩
 rcases Nat.lt_trichotomy i l.length with hi | hi | hi
 ·rw [List.getElem?_append_left hi] at hq
  obtain ⟨b,hb,hm⟩:=h.2 i q hq
  exact ⟨b,by rw [List.getElem?_append_left (by rw [h.1];exact hi)];exact hb,hs _ hm⟩
 ·subst hi
  have:q=p:=by simpa using hq.symm
  subst this
  exact ⟨a,by rw [<- h.1];simp,ha⟩
 ·rw [List.getElem?_eq_none (by simp;omega)] at hq;cases hq
theorem keys_run {f:Value}{kS D:Addr}{oD:Obj}{P:PySem.Str->Prop}{Fin:List Value->Nat->Shared->Prop}(hcall:KeyCall prog w A h₀ L m f news P) :
  ∀ (ord done:List (PySem.Str×Tok))(ks:List Value)(e:Nat)(s:Shared)(led:List (Addr×Obj)),(∀ q∈ord,P q.1)->Fr h₀ L s.heap m->News h₀ L s.heap ((kS,seqObj "list" ks.toArray e)::(D,oD)::led)->D≠kS->(∀ q∈led,q.1≠kS)->(∀ q∈led,q.1≠D)->(∀ q∈news,q∈led)->KeysAt led ks done ->
  (∀ ks' e' h' tk' led',Fr h₀ L h' m->News h₀ L h' ((kS,seqObj "list" ks'.toArray e')::(D,oD)::led')->(∀ q∈led',q.1≠kS)->(∀ q∈led',q.1≠D)->(∀ q∈news,q∈led')->KeysAt led' ks' (done++ord)->Fin ks' e' { s with heap:=h',toks:=tk' }) ->
  KatKeys prog w A h₀ L m kS f Fin (strValues ord) ks e s
 | [],done,ks,e,s,led,hP,F0,N,hD,h1,h2,h3,hk,fin=>KatKeys.nil (fin ks e s.heap s.toks led F0 N h1 h2 h3 (by simpa using hk))
 | p::r,done,ks,e,s,led,hP,F0,N,hD,h1,h2,h3,hk,fin=>by
  refine KatKeys.cons (hcall s _ p.1 p.2 _ (hP p (List.mem_cons_self ..)) (fun q hq=>List.mem_cons_of_mem _ (List.mem_cons_of_mem _ (h3 q hq))) F0 N fun l h' tk' F1 N1 hl=>?_)
  obtain ⟨l1,l2,l3⟩:=hl
  have e1:kS≠l:=Nat.ne_of_lt l1
  have e2:D≠l:=Nat.ne_of_lt l2
  have N2:News h₀ L h' ((kS,seqObj "list" ks.toArray e)::(D,oD)::(l,seqObj "list" #[.str p.1 p.2] 0)::led):=fun q hq=>N1 q (by
   simp only [List.mem_cons] at hq ⊢
   rcases hq with h | h | h | h
   ·exact .inr (.inl h)
   ·exact .inr (.inr (.inl h))
   ·exact .inl h
   ·exact .inr (.inr (.inr h)))
  have h1':∀ q∈(l,seqObj "list" #[.str p.1 p.2] 0)::led,q.1≠kS:=fun q hq=>by rcases List.mem_cons.mp hq with rfl | hq;exact e1.symm;exact h1 q hq
  have h2':∀ q∈(l,seqObj "list" #[.str p.1 p.2] 0)::led,q.1≠D:=fun q hq=>by rcases List.mem_cons.mp hq with rfl | hq;exact e2.symm;exact h2 q hq
  refine KatBack.intro (s:={ s with heap:=h',toks:=tk' }) F1 N2 (.head fun q hq=>by rcases List.mem_cons.mp hq with rfl | hq;exact hD;exact h1' q hq) fun h3' c F3 N3=>?_
  refine keys_run hcall r (done++[p]) (ks++[.ref l]) c { s with heap:=h3',toks:=tk' } _ (fun q hq=>hP q (List.mem_cons_of_mem _ hq)) F3 N3 hD h1' h2' (fun q hq=>List.mem_cons_of_mem _ (h3 q hq)) (hk.snoc (fun q hq=>List.mem_cons_of_mem _ hq) (List.mem_cons_self ..)) fun ks' e' h4 tk4 led' a1 a2 a3 a4 a5 a6=>?_
  exact fin ks' e' h4 tk4 led' a1 a2 a3 a4 a5 (by simpa using a6)
theorem set_sorted {S f:Addr}{so:Obj}{kl:List (PySem.Str×Tok)}{P:PySem.Str->Prop}{Q:Value->Shared->Prop}(hh:A.handled=none)(hu:A.in1.in1.units < cLine) (F0:Fr h₀ L s.heap m)(N:News h₀ L s.heap news)(iS:(S,so)∈news)(hS:StrSet w so kl) (h2:2<=kl.length) (h10:kl.length<=10)
  (hnd:(kl.map Prod.fst).Nodup)(hP:∀ q∈kl,P q.1)(hcall:KeyCall prog w A.in1.in1 h₀ L m (.ref f) news P)(names:List PySem.Str)
  (hso:∀ ord:List (PySem.Str×Tok),ord.Perm kl->∃ p:Array Nat,krun ord.length (ltOf ord) (kas_sort ord.length)=some p/\∃ out:List (PySem.Str×Tok),(p.toList.map fun i=>(strValues ord).getD i .none)=strValues out/\out.map Prod.fst=names)
  (h:∀ D (out:List (PySem.Str×Tok)) h' d tk c,out.map Prod.fst=names->Fr h₀ L h' m->News h₀ L h' ((D,listOf (strValues out).toArray c)::news)->AllLt D news->Q (.ref D) { s with heap:=h',drawn:=d,toks:=tk }) :
  wpAny (model prog w) A (call (.builtin "sorted") [.ref S] [(Str.ofString "key",.ref f)]) Q E s:=by
 obtain ⟨es,ep,t,rfl,hf,hpl,hes⟩:=hS
 have hz:es.size=kl.length:=by rw [<- Array.length_toList,hes.length_eq,stEs_length]
 have hpl:t.plain=false:=by
  rcases hpl with h | h
  ·exact h
  ·rw [h] at h2;simp at h2
 refine call_function_entry_kw kind_sorted plain_sorted entry_sorted (ksk_s1 _ _) ?_
 unfold Builtin.«sorted»
 refine wpAny_bind (m:=checkCount "sorted" 1 1 _) (wpAny_pure ?_)
 refine wpAny_bind (set_collect (A:=A.in1) hh (N _ iS).1 hf hpl (by rw [hz];exact h2) (by rw [hz];omega) fun vs h1 d tk hp kp=>?_)
 have hvs:vs.Perm (strValues kl):=by
  refine hp.trans ((hes.map _).trans ?_)
  unfold stEs strValues
  rw [List.map_map]
  exact .refl _
 obtain ⟨ord,hord,rfl⟩:=perm_map_inv _ hvs kl rfl
 change wpAny _ _ (newList (strValues ord) >>= _) _ _ _
 have hol:ord.length=kl.length:=hord.length_eq
 have hvl:(strValues ord).length=ord.length:=by simp [strValues]
 refine wpAny_bind (wpAny_newList ?_ (by show (strValues ord).length<=_;rw [hvl,sizeLine_eq];omega))
 have F1:Fr h₀ L h1 m:=F0.keeps kp
 have N1:News h₀ L h1 news:=fun q hq=>⟨kp _ _ (N q hq).1,(N q hq).2⟩
 have hoL:(h1.push (seqObj "list" (strValues ord).toArray 0)).get? h1.objs.size=some (seqObj "list" (strValues ord).toArray 0):=Heap.get?_push_size _ rfl
 refine wpAny_bind (wpAny_holding (wpAny_call_entry_kw slot_list_sort ⟨_,hoL,rfl⟩ entry_list_sort ?body (ksk_l1 _ _)))
 show wpAny (model prog w) A.in1.in1 (Builtin.«list.sort» ⟨[.ref h1.objs.size],[(Str.ofString "key",.ref f)]⟩) _ _ _
 rw [ksk_t1]
 have hL1:L < h1.objs.size:=F1.ns.lt
 have lt1:∀ q∈news,q.1 < h1.objs.size:=fun q hq=>Heap.lt_size (N1 q hq).1
 refine kat_keyed (s:={ s with heap:=h1.push (seqObj "list" (strValues ord).toArray 0),drawn:=d,toks:=tk }) (F1.push _) (fun q hq=>⟨Heap.get?_push_of_some _ (N1 q hq).1,(N1 q hq).2⟩) hoL (Nat.ne_of_gt hL1) (Heap.get?_none_of_le (Nat.le_trans F1.above (Nat.le_of_lt hL1)))
  (fun q hq=>Nat.ne_of_lt (lt1 q hq)) (by rw [hvl,hol];exact h2) (by rw [hvl,hol];omega) fun kS e1 h2' F2 N2 l0 l1=>?_
 refine keys_run (news:=news) (P:=P) hcall ord [] [] 0 _ news (fun q hq=>hP q (hord.mem_iff.mp hq)) F2 N2 (Nat.ne_of_lt l0) (fun q hq=>Nat.ne_of_lt (l1 q hq)) (fun q hq=>Nat.ne_of_lt (lt1 q hq)) (fun q hq=>hq) ⟨rfl,fun i p hp=>by simp at hp⟩ fun ks e h3 tk3 led F3 N3 b1 b2 b3 hk=>?_
 rw [List.nil_append] at hk
 have hkl:ks.length=ord.length:=hk.1
 have keyAt:∀ i,i < ord.length->∃ a,ks.getD i .none = .ref a/\(a,seqObj "list" #[.str (ord.getD i (⟨#[]⟩,0)).1 (ord.getD i (⟨#[]⟩,0)).2] 0)∈led:=fun i hi=>by
  obtain ⟨a,ha,hm⟩:=hk.2 i ord[i] (List.getElem?_eq_getElem hi)
  refine ⟨a,by rw [List.getD_eq_getElem?_getD,ha];rfl,?_⟩
  rw [List.getD_eq_getElem?_getD,List.getElem?_eq_getElem hi]
  exact hm
 have inLed:∀ q∈led,q∈(kS,seqObj "list" ks.toArray e)::(h1.objs.size,seqObj "list" #[] e1)::led:=fun q hq=>List.mem_cons_of_mem _ (List.mem_cons_of_mem _ hq)
 refine kas_kind (by rw [hkl,hol];exact h2) (T:=.type "list") (fun v hv=>?_) rfl rfl ?_
 ·obtain ⟨i,hi,rfl⟩:=List.mem_iff_getElem.mp hv
  obtain ⟨a,ha,hm⟩:=keyAt i (by omega)
  have hv':ks[i] = .ref a:=by rw [<- ha,List.getD_eq_getElem?_getD,List.getElem?_eq_getElem hi];rfl
  rw [hv']
  intro A' Q' E' s' hk' hq
  exact wpAny_typeOf ⟨_,hk' _ _ (N3 _ (inLed _ hm)).1,rfl⟩ hq
 obtain ⟨pa,hrun,out,hout,hnames⟩:=hso ord hord
 have hnd':(ord.map Prod.fst).Nodup:=(hord.map Prod.fst).nodup_iff.mpr hnd
 rw [hvl]
 refine krun_wp (n:=ord.length) (lt:=ltOf ord) (fun i j C hi hj hij hC=>?_) _ pa hrun ?_
 ·obtain ⟨a,ha,hma⟩:=keyAt i hi
  obtain ⟨b,hb,hmb⟩:=keyAt j hj
  show wpAny _ _ (keyLt' oneType' ((katRev false ks).getD i .none) ((katRev false ks).getD j .none)) _ _ _
  show wpAny _ _ (keyLt' oneType' (ks.getD i .none) (ks.getD j .none)) _ _ _
  rw [ha,hb]
  refine key_lt hu ?_ (N3.isList (inLed _ hma)) (N3.isList (inLed _ hmb)) hC
  intro heq
  have hi':ord.getD i (⟨#[]⟩,0)=ord[i]:=by rw [List.getD_eq_getElem?_getD,List.getElem?_eq_getElem hi];rfl
  have hj':ord.getD j (⟨#[]⟩,0)=ord[j]:=by rw [List.getD_eq_getElem?_getD,List.getElem?_eq_getElem hj];rfl
  rw [hi',hj'] at heq
  have hne:∀ i j (hi:i < ord.length)(hj:j < ord.length),i < j->ord[i].1≠ord[j].1:=fun i j hi hj hlt=>by
   have:=List.pairwise_iff_getElem.mp hnd' i j (by simpa using hi) (by simpa using hj) hlt
   simpa using this
  rcases Nat.lt_or_gt_of_ne hij with h | h
  ·exact hne i j hi hj h heq
  ·exact hne j i hj hi h heq.symm
 ·have hrev:katRev false (pa.toList.map fun i=>(katRev false (strValues ord)).getD i .none)=strValues out:=by
   show (pa.toList.map fun i=>(strValues ord).getD i .none)=_
   exact hout
  rw [hrev]
  refine KatFin.intro F3 N3 (.head fun q hq=>by rcases List.mem_cons.mp hq with rfl | hq;exact Nat.ne_of_lt l0;exact b1 q hq) fun h4 c4 F4 N4=>?_
  refine KasFin.intro F4 (news:=(h1.objs.size,seqObj "list" #[] e1)::led) (fun q hq=>N4 q (List.mem_cons_of_mem _ hq)) (.head b2) fun h5 c5 F5 N5=>?_
  refine ⟨_,rfl,wpAny_pure ⟨_,rfl,h _ out h5 d _ c5 hnames F5 (fun q hq=>?_) (allLt_of lt1)⟩⟩
  rcases List.mem_cons.mp hq with rfl | hq
  ·exact N5 _ (List.mem_cons_self ..)
  ·exact N5 q (List.mem_cons_of_mem _ (b3 q hq))
end
end Mine
end XT9
section XT10
open PySem PySem.W PyProof.Rows PySem.Calls
namespace Mine
theorem perm2 {α:Type}{a b:α}{l:List α}(h:l.Perm [a,b]):l=[a,b]\/l=[b,a]:=by
 match l,h with
 | [],h=>exact absurd h.length_eq (by simp)
 | [_],h=>exact absurd h.length_eq (by simp)
 | x::y::z::r,h=>exact absurd h.length_eq (by simp)
 | [x,y],h=>
  have hx:x=a\/x=b:=by simpa using h.mem_iff.mp (List.mem_cons_self ..)
  rcases hx with rfl | rfl
  ·exact .inl (by rw [List.perm_singleton.mp (List.Perm.cons_inv h)])
  ·have h2:=h.trans (List.Perm.swap _ _ _)
   exact .inr (by rw [List.perm_singleton.mp (List.Perm.cons_inv h2)])
theorem perm3 {α:Type}{a b c:α}{l:List α}(h:l.Perm [a,b,c]):l=[a,b,c]\/l=[a,c,b]\/l=[b,a,c]\/l=[b,c,a]\/l=[c,a,b]\/l=[c,b,a]:=by
 cases l with
 | nil=>exact absurd h.length_eq (Nat.zero_ne_add_one _)
 | cons x r=>
  have hx:x∈[a,b,c]:=h.mem_iff.mp (List.mem_cons_self ..)
  rcases List.mem_cons.mp hx with rfl | hx
  ·rcases perm2 (List.Perm.cons_inv h) with rfl | rfl
   ·exact .inl rfl
   ·exact .inr (.inl rfl)
  rcases List.mem_cons.mp hx with rfl | hx
  ·have h2:=h.trans (List.Perm.swap _ _ _)
   rcases perm2 (List.Perm.cons_inv h2) with rfl | rfl
   ·exact .inr (.inr (.inl rfl))
   ·exact .inr (.inr (.inr (.inl rfl)))
  ·obtain rfl:=List.mem_singleton.mp hx
   have h2:(x::r).Perm [x,a,b]:=h.trans (((List.Perm.swap x b []).cons a).trans (List.Perm.swap x a _))
   rcases perm2 (List.Perm.cons_inv h2) with rfl | rfl
   ·exact .inr (.inr (.inr (.inr (.inl rfl))))
   ·exact .inr (.inr (.inr (.inr (.inr rfl))))
theorem map_inv {out:List (PySem.Str×Tok)}{a:PySem.Str}{l:List PySem.Str}(h:out.map Prod.fst=a::l):∃ t r,out=(a,t)::r/\r.map Prod.fst=l:=by
 cases out with
 | nil=>cases h
 | cons p r=>cases h;exact ⟨p.2,r,rfl,rfl⟩
theorem map_nilv {out:List (PySem.Str×Tok)}(h:out.map Prod.fst=[]):out=[]:=by
 cases out with
 | nil=>rfl
 | cons p r=>cases h
theorem out_two {out:List (PySem.Str×Tok)}{a b:PySem.Str}(h:out.map Prod.fst=[a,b]):∃ t1 t2,out=[(a,t1),(b,t2)]:=by
 obtain ⟨t1,r,rfl,h1⟩:=map_inv h
 obtain ⟨t2,r2,rfl,h2⟩:=map_inv h1
 cases map_nilv h2
 exact ⟨t1,t2,rfl⟩
theorem out_three {out:List (PySem.Str×Tok)}{a b c:PySem.Str}(h:out.map Prod.fst=[a,b,c]):∃ t1 t2 t3,out=[(a,t1),(b,t2),(c,t3)]:=by
 obtain ⟨t1,r,rfl,h1⟩:=map_inv h
 obtain ⟨t2,t3,rfl⟩:=out_two h1
 exact ⟨t1,t2,t3,rfl⟩
noncomputable abbrev nN:PySem.Str:=Str.ofString "n"
noncomputable abbrev nV:PySem.Str:=Str.ofString "v"
noncomputable abbrev nW:PySem.Str:=Str.ofString "w"
noncomputable abbrev Sorts (kl:List (PySem.Str×Tok))(names:List PySem.Str):Prop:=∀ ord:List (PySem.Str×Tok),ord.Perm kl->∃ p:Array Nat,krun ord.length (ltOf ord) (kas_sort ord.length)=some p/\∃ out:List (PySem.Str×Tok),(p.toList.map fun i=>(strValues ord).getD i .none)=strValues out/\out.map Prod.fst=names
theorem sorts2 {kl:List (PySem.Str×Tok)}(h:kl.map Prod.fst=[nN,nV]):Sorts kl [nN,nV]:=by
 obtain ⟨a,b,rfl⟩:=out_two h
 ·intro ord ho
  rcases perm2 ho with rfl | rfl
  ·exact ⟨#[0,1],by kernel_rfl,[(nN,a),(nV,b)],rfl,rfl⟩
  ·exact ⟨#[1,0],by kernel_rfl,[(nN,a),(nV,b)],rfl,rfl⟩
theorem sorts3 {kl:List (PySem.Str×Tok)}(h:kl.map Prod.fst=[nN,nW,nV]):Sorts kl [nN,nV,nW]:=by
 obtain ⟨a,b,c,rfl⟩:=out_three h
 ·intro ord ho
  rcases perm3 ho with rfl | rfl | rfl | rfl | rfl | rfl
  ·exact ⟨#[0,2,1],by kernel_rfl,[(nN,a),(nV,c),(nW,b)],rfl,rfl⟩
  ·exact ⟨#[0,1,2],by kernel_rfl,[(nN,a),(nV,c),(nW,b)],rfl,rfl⟩
  ·exact ⟨#[1,2,0],by kernel_rfl,[(nN,a),(nV,c),(nW,b)],rfl,rfl⟩
  ·exact ⟨#[2,1,0],by kernel_rfl,[(nN,a),(nV,c),(nW,b)],rfl,rfl⟩
  ·exact ⟨#[1,0,2],by kernel_rfl,[(nN,a),(nV,c),(nW,b)],rfl,rfl⟩
  ·exact ⟨#[2,0,1],by kernel_rfl,[(nN,a),(nV,c),(nW,b)],rfl,rfl⟩
theorem noCut (n:PySem.Str)(h:n=nN\/n=nV\/n=nW):NoCut n (Str.ofString "}"):=by
 rcases h with rfl | rfl | rfl <;> exact ⟨by decide +kernel,by decide +kernel,by decide +kernel⟩
theorem cut_all {kl:List (PySem.Str×Tok)}{names:List PySem.Str}(h:kl.map Prod.fst=names)(hn:∀ n∈names,n=nN\/n=nV\/n=nW):∀ q∈kl,NoCut q.1 (Str.ofString "}"):=
 fun q hq=>noCut _ (hn _ (h ▸ List.mem_map.mpr ⟨q,hq,rfl⟩))
end Mine
end XT10
section XT11
open PySem PySem.W PyProof.Rows PySem.Calls
namespace Mine
noncomputable def LamTab (oT:Obj)(news:List (Addr×Obj))(pos:Pos)(qual:PySem.Str)(b:Addr->Prop):Prop:=
 oT=tabObj #[]\/∃ c' oc vs t,oT=tabObj #[rawInt pos.line,rawInt pos.col,.ref c']/\(c',oc)∈news/\oc.data = .fields vs/\vs[1]? = some (.str qual t)/\b c'
theorem LamTab.mono {oT:Obj}{news news':List (Addr×Obj)}{pos:Pos}{qual:PySem.Str}{b:Addr->Prop}(h:LamTab oT news pos qual b)(hs:∀ q∈news,q∈news'):LamTab oT news' pos qual b:=by
 rcases h with h | ⟨c',oc,vs,t,h1,h2,h3,h4,h5⟩
 ·exact .inl h
 ·exact .inr ⟨c',oc,vs,t,h1,hs _ h2,h3,h4,h5⟩
section
variable {M:Model}{prog:Program}{w:World}{A A₀:Around}{E:Value->Shared->Prop}{s:Shared}{K:Frag}{L:Addr}{h₀ base:Heap}{m mg mb:PySem.Str->Option Value}{news:List (Addr×Obj)}{p:Program}{loose:List PySem.Str}{mean:ExcName->Option Value}
 {cn:PySem.Str}{cs:Scope}{a:Addr}{ccd:Value}{cl:List (PySem.Str×Addr)}
theorem updF_self {d:Addr}{o:Obj}{l:List (Addr×Obj)}{g:Obj->List (Addr×Obj)}(U:UpdF d o l g):g o=l/\(d,o)∈l:=by
 obtain ⟨pre,post,e1,e2,_⟩:=U.split
 rw [e2,e1]
 exact ⟨rfl,List.mem_append_right _ (List.mem_cons_self ..)⟩
theorem lam_eval {c P:Addr}{b:Addr->Prop}{oT:Obj}{g:Obj->List (Addr×Obj)}{qual:PySem.Str}{params:Arguments}{body:Expr}{scope:Scope}{pos:Pos}{Q:Value->Shared->Prop} (F0:Fr h₀ L s.heap m)(N:News h₀ L s.heap news)(U:UpdF P oT news g)(T:Top p loose mean mg mb h₀)(C:CodeHd h₀ c P)(hcd:ccd = .ref c)
  (lt:LamTab oT news pos qual b)(hcl:closureFor scope (envX cn cs L a ccd cl)=pure [])(hdef:defaultsOf params (envX cn cs L a ccd cl)=([],[]))(hq:(envX cn cs L a ccd cl).qual ++ "<lambda>" = qual)
  (h:∀ f c' oc vs t ctv h' tk,Fr h₀ L h' m->News h₀ L h' ((f,kla_obj "<lambda>" qual params body scope [] ((mg "__name__").getD .none) c' ctv)::(c',oc)::g (tabObj #[rawInt pos.line,rawInt pos.col,.ref c']))->oc.data = .fields vs->vs[1]? = some (.str qual t) ->
   AllLt f news->@LT.lt Nat _ c' f->(b c'\/AllLt c' news)->Q (.ref f) { s with heap:=h',toks:=tk }) :
  wpAny M A (eval (.Lambda params body scope pos) (envX cn cs L a ccd cl)) Q E s:=by
 refine kla_eval hdef ?_
 rw [hq]
 rcases lt with rfl | ⟨c',oc,vs,t,rfl,hm,hd,hv,hb⟩
 ·refine kla_nest F0 N T C hcd U trivial rfl hcl fun f c' oc vs t ctv h' tk F1 N1 hd hv hl hc=>?_
  exact h f c' oc vs t ctv h' tk F1 N1 hd hv (allLt_of fun q hq=>Nat.lt_trans (hl q hq) hc) hc (.inr (allLt_of hl))
 ·obtain ⟨e1,e2⟩:=updF_self U
  refine kla_hit (c':=c') F0 N T C hcd e2 (by simp [TriplesOk,rawInt]) (by simp [codeAmong,rawInt]) hcl fun f ctv h' tk F1 N1 hl=>?_
  refine h f c' oc vs t ctv h' tk F1 (fun q hq=>?_) hd hv (allLt_of hl) (hl _ hm) (.inl hb)
  rcases List.mem_cons.mp hq with rfl | hq
  ·exact N1 _ (List.mem_cons_self ..)
  ·rcases List.mem_cons.mp hq with rfl | hq
   ·exact N1 _ (List.mem_cons_of_mem _ hm)
   ·rw [e1] at hq
    exact N1 q (List.mem_cons_of_mem _ hq)
theorem sorted_iter {c P:Addr}{b:Addr->Prop}{oT:Obj}{g:Obj->List (Addr×Obj)}{qual:PySem.Str}{params:Arguments}{scope:Scope} {lpos p1 p2 kp ip q1 q2 q3 q4 q5:Pos} {e1 e2:Nat}{x qn:PySem.Str}{outer:List Env}{S:Addr}{so:Obj}{kl:List (PySem.Str×Tok)}{names:List PySem.Str}{Q:Value->Shared->Prop}
  (B:Below A₀ base outer h₀) (F0:Fr h₀ L s.heap m)(X:K.In h₀)(T:Top p loose mean mg mb h₀)(N:News h₀ L s.heap news)(U:UpdF P oT news g)(C:CodeHd h₀ c P)(hcd:ccd = .ref c)
  (hA:A.frames=some (envX cn cs L a ccd cl::outer))(hh:A.handled=none)(hu:A.in1.in1.units < cLine)(hroom:A.in1.in1.depth < recursionLimit)(hkf:cs.kind = .function)
  (e:nsIn K mainGlobals (Str.ofString "sorted")=some none)(hv:bootBuiltins (Str.ofString "sorted")=some (.builtin "sorted"))(hgl:(envX cn cs L a ccd cl).kindOf (Str.ofString "sorted")=some .globalImplicit)
  (kq:(envX cn cs L a ccd cl).kindOf qn=some .local)(nq:(qn == ("__debug__" : PySem.Str))=false)(mq:m qn=some (.ref S))
  (lt:LamTab oT news lpos qual b)(hcl:closureFor scope (envX cn cs L a ccd cl)=pure [])(hdef:defaultsOf params (envX cn cs L a ccd cl)=([],[]))(hq:(envX cn cs L a ccd cl).qual ++ "<lambda>" = qual)
  (hbind:∀ ctv c' pm (n:PySem.Str) tn,bindArgs (kla_fn "<lambda>" qual params (lamB x (Str.ofString "}") q1 q2 q3 q4 q5 e1 e2) scope [] pm (.ref c') ctv) ⟨[.str n tn],[]⟩=pure [(x,.str n tn)])(hx:scope.names.lookup x=some .local)(hxd:(x == ("__debug__" : PySem.Str))=false)(hline:(q2.endLine == q5.line)=true)
  (hco:scope.isCoroutine=false)(hgen:scope.isGenerator=false)(hk:scope.kind = .function)(hcell:∀ x∈scope.names,x.2≠.cell)
  (iS:∀ o,(S,so)∈g o)(hS:StrSet w so kl) (h2:2<=kl.length) (h10:kl.length<=10)(hnd:(kl.map Prod.fst).Nodup)(hcut:∀ q∈kl,NoCut q.1 (Str.ofString "}"))(hso:Sorts kl names)
  (h:∀ D (out:List (PySem.Str×Tok)) c' oc vs t h' d tk k,out.map Prod.fst=names->Fr h₀ L h' m->News h₀ L h' ((D,listOf (strValues out).toArray k)::(c',oc)::g (tabObj #[rawInt lpos.line,rawInt lpos.col,.ref c']))->oc.data = .fields vs->vs[1]? = some (.str qual t) ->
   AllLt D ((c',oc)::g (tabObj #[rawInt lpos.line,rawInt lpos.col,.ref c']))->(b c'\/AllLt c' news)->Q (.ref D) { s with heap:=h',drawn:=d,toks:=tk }) :
  wpAny (model prog w) A (eval (.Call (.Name (Str.ofString "sorted") p1) [.Name qn p2] [⟨some (Str.ofString "key"),.Lambda params (lamB x (Str.ofString "}") q1 q2 q3 q4 q5 e1 e2) scope lpos,kp⟩] ip) (envX cn cs L a ccd cl)) Q E s:=by
 refine wpAny_Call_Name_kw ?_
 refine nameX_B F0 X (topRead_of T) e hv (by decide) ?_ hkf hgl
 refine callWith_kw ?_
 refine spliced_cons (wpAny_Name (wpAny_loadName_local hkf kq F0.ns mq (spliced_nil ?_)) nq)
 refine kws_cons ?_
 refine lam_eval F0 N U T C hcd lt hcl hdef hq fun f c' oc vs t ctv h' tk F1 N1 hd hvs l1 l3 l4=>?_
 refine kws_nil ?_
 show wpAny (model prog w) A (call (.builtin "sorted") [.ref S] [(Str.ofString "key",.ref f)]) Q E _
 refine set_sorted (P:=fun n=>NoCut n (Str.ofString "}")) (s:={ s with heap:=h',toks:=tk }) hh hu F1 N1 (List.mem_cons_of_mem _ (List.mem_cons_of_mem _ (iS _))) hS h2 h10 hnd hcut ?_ names hso fun D out h2' d tk2 k hn F2 N2 hl=>?_
 ·intro s2 led n tn Q2 hcn hsub F3 N3 hq2
  have jf:=hsub _ (List.mem_cons_self ..)
  have jc:=hsub _ (List.mem_cons_of_mem _ (List.mem_cons_self ..))
  exact lam_call B F3 X N3 T (show A.in1.in1.frames=some (envX cn cs L a ccd cl::outer) from hA) rfl hkf jf (codeRec_news N3 jc hd hvs) hroom (hbind _ _ _ _ _) hx hxd hline hco hgen hk hcell hcn hq2
 ·obtain ⟨m1,m2⟩:=hl
  refine h D out c' oc vs t h2' d tk2 k hn F2 (fun q hq=>?_) hd hvs m2 l4
  rcases List.mem_cons.mp hq with rfl | hq
  ·exact N2 _ (List.mem_cons_self ..)
  ·exact N2 q (List.mem_cons_of_mem _ (List.mem_cons_of_mem _ hq))
end
end Mine
end XT11
section XT12
open PySem PySem.W PyProof.Rows PySem.Calls
namespace Mine
section
variable {prog:Program}{w:World}{A A₀:Around}{E:Value->Shared->Prop}{s:Shared}{K:Frag}{L:Addr}{h₀ base:Heap}{m mg mb:PySem.Str->Option Value}{news:List (Addr×Obj)}{p:Program}{loose:List PySem.Str}{mean:ExcName->Option Value}
 {env cenv:Env}
noncomputable def NameCall (prog:Program)(w:World)(A:Around)(h₀:Heap)(L:Addr)(m:PySem.Str->Option Value)(g xs:Addr)(news:List (Addr×Obj))(names:List PySem.Str):Prop:=
 ∀ (s1:Shared) (led1:List (Addr×Obj))(n:PySem.Str)(t:Tok),n∈names->AllBare s1.gens->(∀ q∈news,q∈led1)->Fr h₀ L s1.heap m->News h₀ L s1.heap led1 ->
  codeAny (model prog w) A (.call (.ref g) ⟨[.ref xs,.str n t],[]⟩) (fun r s2=>∃ Rr t6,r = .ok (.ret (.ref Rr))/\s2.os=s1.os/\AllBare s2.gens/\Fr h₀ L s2.heap m/\News h₀ L s2.heap ((Rr,tup3 n t t6)::led1)/\AllLt Rr led1) s1
theorem dc_two {I Cv Dd Dl q xs c:Addr}{led:List (Addr×Obj)} {n1 n2 x f y:PySem.Str} {t1 t2:Tok}{iter:Expr} {px py p1 p2 p3 p4:Pos}{scope:Scope}{pos:Pos}{oc:Obj}{g:Addr}{eL:Nat}{Q:Flow->Shared->Prop}
  (S:DcS prog w h₀ L m I Cv Dd Dl #[.str n1 t1,.str n2 t2] 0 [] led s.heap)(D:DcA h₀ L I Cv Dd Dl led)(hne:n1≠n2)(X₀:K.In h₀)(hG:AllBare s.gens)
  (hlo:cenv.locals=Cv)(hkf:cenv.scope.kind = .function)(kx:cenv.kindOf x=some .local)(kf:cenv.kindOf f=some .cell)(kc:cenv.cells.lookup f=some c)(nx:(x == ("__debug__" : PySem.Str))=false)(nf:(f == ("__debug__" : PySem.Str))=false)
  (iL:(Dl,listOf #[.str n1 t1,.str n2 t2] eL)∈led)(iC:(c,oc)∈led)(hoc:oc.data = .cell (some (.ref q)))(iq:(q,methodObj (.ref g) (.ref xs))∈led)(hfn:fnIn K g=true)
  (hLe:env.locals=L)(hh:A.handled=none)(hk:env.scope.kind = .function)(ky:env.kindOf y=some .local)
  (elem:NameCall prog w A h₀ L m g xs led [n1,n2])
  (h:∀ (s5:Shared) oD R1 R2 u1 u2,s5.os=s.os->AllBare s5.gens->Fr h₀ L s5.heap (fun z=>if z=y then some (.ref Dd) else m z)->News h₀ L s5.heap ((Dd,oD)::(R2,tup3 n2 t2 u2)::(R1,tup3 n1 t1 u1)::led)->oD.IsDictOf (strKind prog w) [(n1,.ref R1),(n2,.ref R2)] ->
   AllLt R1 led->@LT.lt Nat _ Dd R1->@LT.lt Nat _ R1 R2->Q .next s5) :
  codeAny (model prog w) A (.compLoop (dcE x f p1 p2 p3 p4 px iter scope pos) 0 (.ref I) (.ref Dd) cenv) (compPost (model prog w) A E (some (assign (.Name y py) env)) (fun _ s'=>Q .next s') (.ref Dd) Cv) s:=by
 refine dc_step S D rfl (fun _ h=>nomatch h) (Nat.zero_le _) X₀ hG rfl hlo hkf kx kf kc nx nf iL iC hoc iq hfn (fun s1 led1 a1 a2 a3 a4=>elem s1 led1 n1 t1 (by simp) a1 a2 a3 a4) fun s' R1 u1 G1 o1 S1 D1 l1 d1=>?_
 refine dc_step S1 D1 rfl (fun p hp=>by rw [List.mem_singleton.mp hp];exact hne) (by simp) X₀ G1 o1 hlo hkf kx kf kc nx nf (.tail _ iL) (.tail _ iC) hoc (.tail _ iq) hfn (fun s1 led1 a1 a2 a3 a4=>elem s1 led1 n2 t2 (by simp) a1 (fun q hq=>a2 q (.tail _ hq)) a3 a4) fun s' R2 u2 G2 o2 S2 D2 l2 d2=>?_
 refine dict_close hLe hh S2 D2 rfl hk ky fun s5 oD b1 b2 F5 N5 hD=>?_
 exact h s5 oD R1 R2 u1 u2 (b1.trans o2) (b2 ▸ G2) F5 N5 hD l1 d1 l2.1
theorem dc_three {I Cv Dd Dl q xs c:Addr}{led:List (Addr×Obj)} {n1 n2 n3 x f y:PySem.Str} {t1 t2 t3:Tok}{iter:Expr} {px py p1 p2 p3 p4:Pos}{scope:Scope}{pos:Pos}{oc:Obj}{g:Addr}{eL:Nat}{Q:Flow->Shared->Prop}
  (S:DcS prog w h₀ L m I Cv Dd Dl #[.str n1 t1,.str n2 t2,.str n3 t3] 0 [] led s.heap)(D:DcA h₀ L I Cv Dd Dl led)(hne:n1≠n2) (hne3:n1≠n3) (hne4:n2≠n3)(X₀:K.In h₀)(hG:AllBare s.gens)
  (hlo:cenv.locals=Cv)(hkf:cenv.scope.kind = .function)(kx:cenv.kindOf x=some .local)(kf:cenv.kindOf f=some .cell)(kc:cenv.cells.lookup f=some c)(nx:(x == ("__debug__" : PySem.Str))=false)(nf:(f == ("__debug__" : PySem.Str))=false)
  (iL:(Dl,listOf #[.str n1 t1,.str n2 t2,.str n3 t3] eL)∈led)(iC:(c,oc)∈led)(hoc:oc.data = .cell (some (.ref q)))(iq:(q,methodObj (.ref g) (.ref xs))∈led)(hfn:fnIn K g=true)
  (hLe:env.locals=L)(hh:A.handled=none)(hk:env.scope.kind = .function)(ky:env.kindOf y=some .local)
  (elem:NameCall prog w A h₀ L m g xs led [n1,n2,n3])
  (h:∀ (s5:Shared) oD R1 R2 R3 u1 u2 u3,s5.os=s.os->AllBare s5.gens->Fr h₀ L s5.heap (fun z=>if z=y then some (.ref Dd) else m z)->News h₀ L s5.heap ((Dd,oD)::(R3,tup3 n3 t3 u3)::(R2,tup3 n2 t2 u2)::(R1,tup3 n1 t1 u1)::led)->oD.IsDictOf (strKind prog w) [(n1,.ref R1),(n2,.ref R2),(n3,.ref R3)] ->
   AllLt R1 led->@LT.lt Nat _ Dd R1->@LT.lt Nat _ R1 R2->@LT.lt Nat _ R2 R3->Q .next s5) :
  codeAny (model prog w) A (.compLoop (dcE x f p1 p2 p3 p4 px iter scope pos) 0 (.ref I) (.ref Dd) cenv) (compPost (model prog w) A E (some (assign (.Name y py) env)) (fun _ s'=>Q .next s') (.ref Dd) Cv) s:=by
 refine dc_step S D rfl (fun _ h=>nomatch h) (Nat.zero_le _) X₀ hG rfl hlo hkf kx kf kc nx nf iL iC hoc iq hfn (fun s1 led1 a1 a2 a3 a4=>elem s1 led1 n1 t1 (by simp) a1 a2 a3 a4) fun s' R1 u1 G1 o1 S1 D1 l1 d1=>?_
 refine dc_step S1 D1 rfl (fun p hp=>by rw [List.mem_singleton.mp hp];exact hne) (by simp) X₀ G1 o1 hlo hkf kx kf kc nx nf (.tail _ iL) (.tail _ iC) hoc (.tail _ iq) hfn (fun s1 led1 a1 a2 a3 a4=>elem s1 led1 n2 t2 (by simp) a1 (fun q hq=>a2 q (.tail _ hq)) a3 a4) fun s' R2 u2 G2 o2 S2 D2 l2 d2=>?_
 refine dc_step S2 D2 rfl (fun p hp=>by
  simp only [List.nil_append,List.cons_append,List.mem_cons,List.not_mem_nil,or_false] at hp
  rcases hp with rfl | rfl
  ·exact hne3
  ·exact hne4) (by simp) X₀ G2 o2 hlo hkf kx kf kc nx nf (.tail _ (.tail _ iL)) (.tail _ (.tail _ iC)) hoc (.tail _ (.tail _ iq)) hfn (fun s1 led1 a1 a2 a3 a4=>elem s1 led1 n3 t3 (by simp) a1 (fun q hq=>a2 q (.tail _ (.tail _ hq))) a3 a4) fun s' R3 u3 G3 o3 S3 D3 l3 d3=>?_
 refine dict_close hLe hh S3 D3 rfl hk ky fun s5 oD b1 b2 F5 N5 hD=>?_
 exact h s5 oD R1 R2 R3 u1 u2 u3 (b1.trans o3) (b2 ▸ G3) F5 N5 hD l1 d1 l2.1 l3.1
end
end Mine
end XT12
section XW11
open PySem PySem.W PyProof.Rows PySem.Calls
namespace Mine.W11
open Mine.Hd
theorem wt5:True:=by
 k_with "W11 cell_enter" => k_extra "A12"
 k_with "W11 k_steps" => k_extra "A13"
 k_with "W11 eval Name" => k_extra "A9"
 k_with "W11 getMethod ref" => k_extra "A14"
 k_with "W11 callWith ref" => k_extra "A15"
 k_with "W11 getAttr ref" => k_extra "A16"
 k_with "W11 callWith ref" => k_extra "A17"
 k_with "W11 And" => k_extra "A18"
 k_with "W11 call ref" => k_extra "A19"
 k_with "W11 call builtin:list.append" => k_extra "A20"
 k_with "W11 getMethod ref" => k_extra "A21"
 k_with "W11 call builtin:dict.items" => k_extra "A22"
 k_with "W11 call type:list" => k_extra "A23"
 exact True.intro
theorem eq_no {prog:Program}{w:World}{A:Around}{E:Value->Shared->Prop}{s:Shared}{x y:Str}{t u:Tok}{Q:Value->Shared->Prop}(hn:(x == y)=false)(h:Q (.bool false) s):wpAny (model prog w) A (compareOp .Eq (.str x t) (.str y u)) Q E s:=PyProof.Rows.eq_str (by rw [hn];exact h)
theorem wt6:True:=by
 k_with "W11 compareOp Eq str str" => k_extra "A24"
 k_with "W11 exec For" => k_extra "A25"
 k_with "W11 call ref" => k_extra "A26"
 k_with "W11 pyIter ref" => k_extra "A27"
 k_with "W11 call builtin:set.add" => k_extra "A28"
 k_with "W11 GenTurn" => k_extra "A29"
 k_with "W11 eval Constant int" => k_extra "A30"
 k_with "W11 eval Constant str" => k_extra "A31"
 k_with "W11 binaryOp Add int int" => k_extra "A32"
 k_with "W11 binaryOp Sub int int" => k_extra "A33"
 k_with "W11 unaryOp USub int" => k_extra "A34"
 exact True.intro
noncomputable def qnam_code.P (x c2:Addr) (k1:Tok)(qn:Str)(q:Nat->Tok) (d A D C Nn Pm Ps c1 T1:Addr) (eC e1 e2:Nat) (u1 u2:Tok)(sn dn:Bool)(zt:Tok) (p news)(s:Shared) (m L)(dp un:Nat)(w:World) (loose mean mg mb gd cn)(cs:Scope) (a ccd cl outer A₀ base h₀)(Q E:Value->Shared->Prop):=∀ (B:Below A₀ base outer h₀)(F:Fr h₀ L s.heap m)(X:(heapK w.params).In h₀)(T:Top p loose mean mg mb h₀)(hk:cs.kind = .function)(hd:dp + 50 < recursionLimit)(hu:un + 500 < cLine)(hqn:(Txt.slice qn none (some 1) == Str.ofString "{")=false)(hql:qn.length<=10) (G0:AllBare s.gens) (i0:(c2,listOf #[] e2)∈news) (i1:(C,listOf #[.ref c1,.ref c2] eC)∈news) (i2:(c1,listOf #[.ref T1] e1)∈news) (i3:(T1,xT u1 u2)∈news) (i4:(x,instObj 201 d)∈news) (i5:(d,dictOf (idc w q A D C Nn Pm Ps zt sn dn) 17)∈news)(N:News h₀ L s.heap news)(hret:∀ R t6 s',s'.os=s.os->AllBare s'.gens->Fr h₀ L s'.heap m->News h₀ L s'.heap ((R,{ cls:=.type "tuple",data:=.seq #[.str qn k1,.str qn k1,.str (Str.ofString "") t6] })::news)->AllLt R news->Q (.ref R) s'),codeAny (model rw_re0182_01.row.prog w) (ktrTop dp un gd cn cs L a ccd cl outer) (.call (.ref 141) ⟨[.ref x,.str qn k1],[]⟩) (fun r s'=>match r with | .ok (.ret v)=>Q v s' | .ok _=>False | .error e=>E e s') s
namespace qnam_code
noncomputable def R:=(s4 <| s4 <| s4 <| s4 <| s4 <| s4 <| s4 <| s4 <| s4 <| s4 <| s4 <| st <| id) P
@[irreducible] noncomputable def z:=zy R (by k_extra "N")
@[irreducible] noncomputable def x:=f1 z
@[irreducible] noncomputable def c2:=f1 (f2 z)
@[irreducible] noncomputable def k1:=f1 (f2 (f2 z))
@[irreducible] noncomputable def qn:=f1 (f2 (f2 (f2 z)))
@[irreducible] noncomputable def q:=f1 (f2 (f2 (f2 (f2 z))))
@[irreducible] noncomputable def zr:=f2 (f2 (f2 (f2 (f2 z))))
theorem T:(s4 <| s4 <| s4 <| s4 <| s4 <| s4 <| s4 <| s4 <| s4 <| s4 <| id) (P x c2 k1 qn q) zr:=by
 intro B F X T hk hd hu hqn hql G0 i0 i1 i2 i3 i4 i5 N hret
 revert X;k_fill;intro X
 w_on
 replace N:=news_dup N i0 (news_dup N i1 (news_dup N i2 (news_dup N i3 (news_dup N i4 (news_dup N i5 (N))))))
 k_dflt (refine' code_def (binds:=[((Str.ofString "self"),.ref x),((Str.ofString "qname"),.str qn k1),((Str.ofString "uri"),.none)]) ?k1 ?k2 ?k3 ?k4 ?k5 ?kA ?kF ?kK ?k6 ?k7 ?k8 ?k9 ?kB ?_ ?c2 ?c3 ?c4 ?c5;(case kA | kF=>exact rfl);(case kK=>assumption);(case k1 | k2=>k_asm);(case k3 | k4 | k5=>k_asm);(case k6 | k7=>k_is);(case k8=>ktr_room);(case k9=>exact binds_K (by k_in) rfl (by k_is) rfl rfl rfl);(case c5=>decide);(case kB=>exact locs rfl);(case c2 | c3 | c4=>exact rfl);k_whole)
 intro g' L' h' FG' F' N' B' X' T';(try dsimp only);(try k_lift B');(try k_fold)
 k_steps
 all_goals ((rename News _ _ _ _=>kN');(rename Fr _ _ _ _=>kF'))
 all_goals (k_dflt (refine hret _ _ _ ?os ?gb kF' (news_pick kN' ?sub) ?lt;(case sub=>(intro q hq;(repeat (first | exact hq | refine List.Mem.tail _ ?_))));(case os | gb=>assumption);(case lt=>simp_all only)))
end qnam_code
theorem qnam_code (x c2 k1 qn q d A D C Nn Pm Ps c1 T1 eC e1 e2 u1 u2 sn dn zt) {p} (news s m L dp un) {w loose mean mg mb} (gd cn cs a ccd cl outer A₀ base h₀ Q E):qnam_code.P x c2 k1 qn q d A D C Nn Pm Ps c1 T1 eC e1 e2 u1 u2 sn dn zt p news s m L dp un w loose mean mg mb gd cn cs a ccd cl outer A₀ base h₀ Q E:=by with_unfolding_all exact zy_all _ qnam_code.R qnam_code.T (x,c2,k1,qn,q,d,A,D,C,Nn,Pm,Ps,c1,T1,eC,e1,e2,u1,u2,sn,dn,zt,p,news,s,m,L,dp,un,w,loose,mean,mg,mb,gd,cn,cs,a,ccd,cl,outer,A₀,base,h₀,Q,E)
theorem name_call {w:World}{p:Program}{loose:List Str}{mean:ExcName->Option Value}{mg mb:Str->Option Value}
  {dp un:Nat}{gd:Option (List Code)}{cn:Str}{cs:Scope}{a:Addr}{ccd:Value}{cl:List (Str×Addr)}{outer:List Env}{A₀:Around}{base h₀:Heap}{L:Addr}{m:Str->Option Value}
  (B:Below A₀ base outer h₀)(X:(heapK w.params).In h₀)(T:Top p loose mean mg mb h₀)(hk:cs.kind = .function)(hd:dp + 50 < recursionLimit)(hu:un + 500 < cLine)
  {x d A D C Nn Pm Ps c1 c2 T1:Addr} {eC e1 e2:Nat} {u1 u2:Tok}{sn dn:Bool}{q:Nat->Tok}{zt:Tok}{led:List (Addr×Obj)} (i0:(c2,listOf #[] e2)∈led) (i1:(C,listOf #[.ref c1,.ref c2] eC)∈led) (i2:(c1,listOf #[.ref T1] e1)∈led) (i3:(T1,xT u1 u2)∈led) (i4:(x,instObj 201 d)∈led) (i5:(d,dictOf (idc w q A D C Nn Pm Ps zt sn dn) 17)∈led){names:List Str}(hq:∀ n∈names,(Txt.slice n none (some 1) == Str.ofString "{")=false/\n.length<=10) :
  NameCall rw_re0182_01.row.prog w (ktrTop dp un gd cn cs L a ccd cl outer) h₀ L m 141 x led names:=by
 intro s1 led1 n t hn G0 hsub F1 N1
 refine codeAny_mono (qnam_code x c2 t n q d A D C Nn Pm Ps c1 T1 eC e1 e2 u1 u2 sn dn zt led1 s1 m L dp un gd cn cs a ccd cl outer A₀ base h₀ (fun v s2=>∃ Rr t6,v = .ref Rr/\s2.os=s1.os/\AllBare s2.gens/\Fr h₀ L s2.heap m/\News h₀ L s2.heap ((Rr,tup3 n t t6)::led1)/\AllLt Rr led1) (fun _ _=>False) B F1 X T hk hd hu (hq n hn).1 (hq n hn).2 G0 (hsub _ i0) (hsub _ i1) (hsub _ i2) (hsub _ i3) (hsub _ i4) (hsub _ i5) N1 fun R t6 s' ho hb hF hN hl=>⟨R,t6,rfl,ho,hb,hF,hN,hl⟩) fun r s2 hr=>?_
 cases r with
 | error e=>exact hr.elim
 | ok f=>
  cases f with
  | ret v=>obtain ⟨Rr,t6,rfl,hr⟩:=hr;exact ⟨Rr,t6,rfl,hr⟩
  | _=>exact hr.elim
end Mine.W11
end XW11
open Mine.W11
section XT13
open PySem PySem.W PyProof.Rows PySem.Calls
namespace Mine
section
variable {prog:Program}{w:World}{A A₀:Around}{E:Value->Shared->Prop}{s:Shared}{K:Frag}{L:Addr}{h₀ base:Heap}{m mg mb:PySem.Str->Option Value}{news:List (Addr×Obj)}{p:Program}{loose:List PySem.Str}{mean:ExcName->Option Value}
 {cn:PySem.Str}{cs:Scope}{a:Addr}{ccd:Value}{cl:List (PySem.Str×Addr)}
theorem dict2 {c P:Addr}{b:Addr->Prop}{oT:Obj}{g:Obj->List (Addr×Obj)}{qual:PySem.Str}{params:Arguments}{lscope:Scope} {lpos r1 r2 kp ip q1 q2 q3 q4 q5:Pos} {e1 e2:Nat}{z qn:PySem.Str}{outer:List Env}{S:Addr}{so:Obj}{kl:List (PySem.Str×Tok)}
  {x f y:PySem.Str} {p1 p2 p3 p4 px py pos spos:Pos}{scope:Scope} {cl2:List (PySem.Str×Addr)}{cc q xs gq:Addr}{occ:Obj}{Q:Flow->Shared->Prop}
  (B:Below A₀ base outer h₀) (F0:Fr h₀ L s.heap m)(X:K.In h₀)(T:Top p loose mean mg mb h₀)(N:News h₀ L s.heap news)(U:UpdF P oT news g)(C:CodeHd h₀ c P)(hcd:ccd = .ref c)
  (hA:A.frames=some (envX cn cs L a ccd cl::outer))(hh:A.handled=none)(hu:A.in1.in1.units < cLine)(hroom:A.in1.in1.depth < recursionLimit)(hkf:cs.kind = .function)
  (e:nsIn K mainGlobals (Str.ofString "sorted")=some none)(hv:bootBuiltins (Str.ofString "sorted")=some (.builtin "sorted"))(hgl:(envX cn cs L a ccd cl).kindOf (Str.ofString "sorted")=some .globalImplicit)
  (kq:(envX cn cs L a ccd cl).kindOf qn=some .local)(nq:(qn == ("__debug__" : PySem.Str))=false)(mq:m qn=some (.ref S))
  (lt:LamTab oT news lpos qual b)(hcl:closureFor lscope (envX cn cs L a ccd cl)=pure [])(hdef:defaultsOf params (envX cn cs L a ccd cl)=([],[]))(hq:(envX cn cs L a ccd cl).qual ++ "<lambda>" = qual)
  (hbind:∀ ctv c' pm (n:PySem.Str) tn,bindArgs (kla_fn "<lambda>" qual params (lamB z (Str.ofString "}") q1 q2 q3 q4 q5 e1 e2) lscope [] pm (.ref c') ctv) ⟨[.str n tn],[]⟩=pure [(z,.str n tn)])(hx:lscope.names.lookup z=some .local)(hxd:(z == ("__debug__" : PySem.Str))=false)(hline:(q2.endLine == q5.line)=true)
  (hco:lscope.isCoroutine=false)(hgen:lscope.isGenerator=false)(hk:lscope.kind = .function)(hcell:∀ x∈lscope.names,x.2≠.cell)
  (iS:∀ o,(S,so)∈g o)(hS:StrSet w so kl)(hkl:kl.map Prod.fst=[nN,nV])
  (hsw:swapsWith (dcE x f p1 p2 p3 p4 px (.Call (.Name (Str.ofString "sorted") r1) [.Name qn r2] [⟨some (Str.ofString "key"),.Lambda params (lamB z (Str.ofString "}") q1 q2 q3 q4 q5 e1 e2) lscope lpos,kp⟩] ip) scope pos) (some (.Name y py)) spos.line (envX cn cs L a ccd cl)=pure true)
  (hclos:closureFor scope (envX cn cs L a ccd cl)=pure cl2)(hkind:scope.kind = .function)(hnames:∀ z∈scope.names,z.2 = .local->scope.names.lookup z.1=some .local) (hcell2:∀ z∈scope.names,z.2≠.cell)
  (kx:∀ Cv,(compEnvC scope cl2 Cv (envX cn cs L a ccd cl)).kindOf x=some .local)(kf:∀ Cv,(compEnvC scope cl2 Cv (envX cn cs L a ccd cl)).kindOf f=some .cell)(kc:∀ Cv,(compEnvC scope cl2 Cv (envX cn cs L a ccd cl)).cells.lookup f=some cc)(hck:∀ Cv,(compEnvC scope cl2 Cv (envX cn cs L a ccd cl)).scope.kind = .function)
  (nx:(x == ("__debug__" : PySem.Str))=false)(nf:(f == ("__debug__" : PySem.Str))=false)(ky:(envX cn cs L a ccd cl).kindOf y=some .local)
  (hG:AllBare s.gens)(iC:∀ o,(cc,occ)∈g o)(hoc:occ.data = .cell (some (.ref q)))(iq:∀ o,(q,methodObj (.ref gq) (.ref xs))∈g o)(hfn:fnIn K gq=true)
  (elem:∀ led,(∃ o,∀ q∈g o,q∈led)->NameCall prog w A h₀ L m gq xs led [nN,nV])
  (h:∀ c' oc vs t s5 oD Dd R1 R2 t1 t2 u1 u2,s5.os=s.os->AllBare s5.gens->Fr h₀ L s5.heap (fun z=>if z=y then some (.ref Dd) else m z) ->
   News h₀ L s5.heap ((Dd,oD)::(R2,tup3 nV t2 u2)::(R1,tup3 nN t1 u1)::(c',oc)::g (tabObj #[rawInt lpos.line,rawInt lpos.col,.ref c']))->oD.IsDictOf (strKind prog w) [(nN,.ref R1),(nV,.ref R2)]->oc.data = .fields vs->vs[1]? = some (.str qual t) ->
   AllLt Dd ((c',oc)::g (tabObj #[rawInt lpos.line,rawInt lpos.col,.ref c']))->@LT.lt Nat _ Dd R1->@LT.lt Nat _ R1 R2->(b c'\/AllLt c' news)->Q .next s5) :
  wpAny (model prog w) A (exec (.Assign [.Name y py] (dcE x f p1 p2 p3 p4 px (.Call (.Name (Str.ofString "sorted") r1) [.Name qn r2] [⟨some (Str.ofString "key"),.Lambda params (lamB z (Str.ofString "}") q1 q2 q3 q4 q5 e1 e2) lscope lpos,kp⟩] ip) scope pos) spos) (envX cn cs L a ccd cl)) Q E s:=by
 have hlen:kl.length=2:=by have e:=congrArg List.length hkl;rw [List.length_map] at e;exact e
 refine dict_comp hsw (fun _=>rfl) hclos hkind hnames ?_
 refine sorted_iter B F0 X T N U C hcd hA hh hu hroom hkf e hv hgl kq nq mq lt hcl hdef hq hbind hx hxd hline hco hgen hk hcell iS hS (by omega) (by omega) (by rw [hkl];decide) (cut_all hkl (by decide)) (sorts2 hkl) fun D out c' oc vs t h1 d tk kk hout F1 N1 hoc1 hvs l1 hcb=>?_
 obtain ⟨t1,t2,rfl⟩:=out_two hout
 refine dict_open (s:={ s with heap:=h1,drawn:=d,toks:=tk }) rfl hh F1 N1 (List.mem_cons_self ..) hcell2 hkind fun I Cv Dd s4 os4 gn4 S4 D4 l4=>?_
 refine dc_two (xs:=xs) (g:=gq) S4 D4 (by show nN≠nV;decide) X (by rw [gn4];exact hG) rfl (hck _) (kx _) (kf _) (kc _) nx nf (List.mem_cons_self ..) (List.mem_cons_of_mem _ (List.mem_cons_of_mem _ (iC _))) hoc (List.mem_cons_of_mem _ (List.mem_cons_of_mem _ (iq _))) hfn rfl hh hkf ky
  (elem _ ⟨_,fun q hq=>List.mem_cons_of_mem _ (List.mem_cons_of_mem _ hq)⟩) fun s5 oD R1 R2 u1 u2 o5 G5 F5 N5 hD lR d1 r1=>?_
 refine h c' oc vs t s5 oD Dd R1 R2 t1 t2 u1 u2 (o5.trans os4) G5 F5 (fun q hq=>N5 q ?_) hD hoc1 hvs l4.2 d1 r1 hcb
 simp only [List.mem_cons] at hq ⊢
 rcases hq with h | h | h | h | h <;> simp [h]
theorem dict3 {c P:Addr}{b:Addr->Prop}{oT:Obj}{g:Obj->List (Addr×Obj)}{qual:PySem.Str}{params:Arguments}{lscope:Scope} {lpos r1 r2 kp ip q1 q2 q3 q4 q5:Pos} {e1 e2:Nat}{z qn:PySem.Str}{outer:List Env}{S:Addr}{so:Obj}{kl:List (PySem.Str×Tok)}
  {x f y:PySem.Str} {p1 p2 p3 p4 px py pos spos:Pos}{scope:Scope} {cl2:List (PySem.Str×Addr)}{cc q xs gq:Addr}{occ:Obj}{Q:Flow->Shared->Prop}
  (B:Below A₀ base outer h₀) (F0:Fr h₀ L s.heap m)(X:K.In h₀)(T:Top p loose mean mg mb h₀)(N:News h₀ L s.heap news)(U:UpdF P oT news g)(C:CodeHd h₀ c P)(hcd:ccd = .ref c)
  (hA:A.frames=some (envX cn cs L a ccd cl::outer))(hh:A.handled=none)(hu:A.in1.in1.units < cLine)(hroom:A.in1.in1.depth < recursionLimit)(hkf:cs.kind = .function)
  (e:nsIn K mainGlobals (Str.ofString "sorted")=some none)(hv:bootBuiltins (Str.ofString "sorted")=some (.builtin "sorted"))(hgl:(envX cn cs L a ccd cl).kindOf (Str.ofString "sorted")=some .globalImplicit)
  (kq:(envX cn cs L a ccd cl).kindOf qn=some .local)(nq:(qn == ("__debug__" : PySem.Str))=false)(mq:m qn=some (.ref S))
  (lt:LamTab oT news lpos qual b)(hcl:closureFor lscope (envX cn cs L a ccd cl)=pure [])(hdef:defaultsOf params (envX cn cs L a ccd cl)=([],[]))(hq:(envX cn cs L a ccd cl).qual ++ "<lambda>" = qual)
  (hbind:∀ ctv c' pm (n:PySem.Str) tn,bindArgs (kla_fn "<lambda>" qual params (lamB z (Str.ofString "}") q1 q2 q3 q4 q5 e1 e2) lscope [] pm (.ref c') ctv) ⟨[.str n tn],[]⟩=pure [(z,.str n tn)])(hx:lscope.names.lookup z=some .local)(hxd:(z == ("__debug__" : PySem.Str))=false)(hline:(q2.endLine == q5.line)=true)
  (hco:lscope.isCoroutine=false)(hgen:lscope.isGenerator=false)(hk:lscope.kind = .function)(hcell:∀ x∈lscope.names,x.2≠.cell)
  (iS:∀ o,(S,so)∈g o)(hS:StrSet w so kl)(hkl:kl.map Prod.fst=[nN,nW,nV])
  (hsw:swapsWith (dcE x f p1 p2 p3 p4 px (.Call (.Name (Str.ofString "sorted") r1) [.Name qn r2] [⟨some (Str.ofString "key"),.Lambda params (lamB z (Str.ofString "}") q1 q2 q3 q4 q5 e1 e2) lscope lpos,kp⟩] ip) scope pos) (some (.Name y py)) spos.line (envX cn cs L a ccd cl)=pure true)
  (hclos:closureFor scope (envX cn cs L a ccd cl)=pure cl2)(hkind:scope.kind = .function)(hnames:∀ z∈scope.names,z.2 = .local->scope.names.lookup z.1=some .local) (hcell2:∀ z∈scope.names,z.2≠.cell)
  (kx:∀ Cv,(compEnvC scope cl2 Cv (envX cn cs L a ccd cl)).kindOf x=some .local)(kf:∀ Cv,(compEnvC scope cl2 Cv (envX cn cs L a ccd cl)).kindOf f=some .cell)(kc:∀ Cv,(compEnvC scope cl2 Cv (envX cn cs L a ccd cl)).cells.lookup f=some cc)(hck:∀ Cv,(compEnvC scope cl2 Cv (envX cn cs L a ccd cl)).scope.kind = .function)
  (nx:(x == ("__debug__" : PySem.Str))=false)(nf:(f == ("__debug__" : PySem.Str))=false)(ky:(envX cn cs L a ccd cl).kindOf y=some .local)
  (hG:AllBare s.gens)(iC:∀ o,(cc,occ)∈g o)(hoc:occ.data = .cell (some (.ref q)))(iq:∀ o,(q,methodObj (.ref gq) (.ref xs))∈g o)(hfn:fnIn K gq=true)
  (elem:∀ led,(∃ o,∀ q∈g o,q∈led)->NameCall prog w A h₀ L m gq xs led [nN,nV,nW])
  (h:∀ c' oc vs t s5 oD Dd R1 R2 R3 t1 t2 t3 u1 u2 u3,s5.os=s.os->AllBare s5.gens->Fr h₀ L s5.heap (fun z=>if z=y then some (.ref Dd) else m z) ->
   News h₀ L s5.heap ((Dd,oD)::(R3,tup3 nW t3 u3)::(R2,tup3 nV t2 u2)::(R1,tup3 nN t1 u1)::(c',oc)::g (tabObj #[rawInt lpos.line,rawInt lpos.col,.ref c']))->oD.IsDictOf (strKind prog w) [(nN,.ref R1),(nV,.ref R2),(nW,.ref R3)]->oc.data = .fields vs->vs[1]? = some (.str qual t) ->
   AllLt Dd ((c',oc)::g (tabObj #[rawInt lpos.line,rawInt lpos.col,.ref c']))->@LT.lt Nat _ Dd R1->@LT.lt Nat _ R1 R2->@LT.lt Nat _ R2 R3->(b c'\/AllLt c' news)->Q .next s5) :
  wpAny (model prog w) A (exec (.Assign [.Name y py] (dcE x f p1 p2 p3 p4 px (.Call (.Name (Str.ofString "sorted") r1) [.Name qn r2] [⟨some (Str.ofString "key"),.Lambda params (lamB z (Str.ofString "}") q1 q2 q3 q4 q5 e1 e2) lscope lpos,kp⟩] ip) scope pos) spos) (envX cn cs L a ccd cl)) Q E s:=by
 have hlen:kl.length=3:=by have e:=congrArg List.length hkl;rw [List.length_map] at e;exact e
 refine dict_comp hsw (fun _=>rfl) hclos hkind hnames ?_
 refine sorted_iter B F0 X T N U C hcd hA hh hu hroom hkf e hv hgl kq nq mq lt hcl hdef hq hbind hx hxd hline hco hgen hk hcell iS hS (by omega) (by omega) (by rw [hkl];decide) (cut_all hkl (by decide)) (sorts3 hkl) fun D out c' oc vs t h1 d tk kk hout F1 N1 hoc1 hvs l1 hcb=>?_
 obtain ⟨t1,t2,t3,rfl⟩:=out_three hout
 refine dict_open (s:={ s with heap:=h1,drawn:=d,toks:=tk }) rfl hh F1 N1 (List.mem_cons_self ..) hcell2 hkind fun I Cv Dd s4 os4 gn4 S4 D4 l4=>?_
 refine dc_three (xs:=xs) (g:=gq) S4 D4 (by show nN≠nV;decide) (by show nN≠nW;decide) (by show nV≠nW;decide) X (by rw [gn4];exact hG) rfl (hck _) (kx _) (kf _) (kc _) nx nf (List.mem_cons_self ..) (List.mem_cons_of_mem _ (List.mem_cons_of_mem _ (iC _))) hoc (List.mem_cons_of_mem _ (List.mem_cons_of_mem _ (iq _))) hfn rfl hh hkf ky
  (elem _ ⟨_,fun q hq=>List.mem_cons_of_mem _ (List.mem_cons_of_mem _ hq)⟩) fun s5 oD R1 R2 R3 u1 u2 u3 o5 G5 F5 N5 hD lR d1 r1 r2=>?_
 refine h c' oc vs t s5 oD Dd R1 R2 R3 t1 t2 t3 u1 u2 u3 (o5.trans os4) G5 F5 (fun q hq=>N5 q ?_) hD hoc1 hvs l4.2 d1 r1 r2 hcb
 simp only [List.mem_cons] at hq ⊢
 rcases hq with h | h | h | h | h | h <;> simp [h]
end
end Mine
end XT13
section XL2
open PySem PySem.W PyProof.Rows PySem.Calls
namespace Mine
section
variable {prog:Program}{w:World}{A:Around}{E:Value->Shared->Prop}{s:Shared}{h₀:Heap}{L:Addr}{m:PySem.Str->Option Value}{news:List (Addr×Obj)}
theorem sort_one {a:Addr}{v:Value}{n:Nat}{P:PySem.Fin->Shared->Prop}(F:Fr h₀ L s.heap m)(N:News h₀ L s.heap news)(ho:s.heap.get? a=some (seqObj "list" #[v] n))(haL:a≠L) (ha0:h₀.get? a=none)(hna:∀ p∈news,p.1≠a)
  (h:∀ h' c,Fr h₀ L h' m->News h₀ L h' ((a,listOf #[v] c)::news)->P (.done (.ret .none)) { s with heap:=h' }):wpAny (model prog w) A (Builtin.«list.sort» ⟨[.ref a],[]⟩) P E s:=by
 have ha:a < s.heap.objs.size:=Heap.lt_size ho
 have s1:=Heap.SameBut.update s.heap a (Obj.mapSeq fun _=>(#[]:Array Value))
 obtain ⟨e1,ho1⟩:∃ e1,(s.heap.update a (Obj.mapSeq fun _=>(#[]:Array Value))).get? a=some (seqObj "list" #[] e1):=⟨_,get?_update_seq ho fun _=>#[]⟩
 rw [list_sort_plain]
 refine wpAny_bind (listItems_at ho rfl ?_)
 refine wpAny_bind (listUpdate_at ho rfl ?_ (by show 1<=_;rw [sizeLine_eq];omega) (Nat.zero_le _))
 refine wpAny_bind (seqEpoch_at ho1 rfl ?_)
 refine wpAny_bind (wpAny_newTuple ?_ (by show 1<=_;rw [sizeLine_eq];omega))
 refine wpAny_bind (wpAny_newList ?_ (Nat.zero_le _))
 refine wpAny_holding ?_
 have F3:Fr h₀ L (((s.heap.update a (Obj.mapSeq fun _=>(#[]:Array Value))).push (seqObj "tuple" #[v] 0)).push (seqObj "list" #[] 0)) m:=((kas_fr F s1 haL ha0).push _).push _
 have N3:News h₀ L (((s.heap.update a (Obj.mapSeq fun _=>(#[]:Array Value))).push (seqObj "tuple" #[v] 0)).push (seqObj "list" #[] 0)) news:=
  (kas_news N s1 hna).grown fun b x e=>Heap.get?_push_of_some _ (Heap.get?_push_of_some _ e)
 have ho3:(((s.heap.update a (Obj.mapSeq fun _=>(#[]:Array Value))).push (seqObj "tuple" #[v] 0)).push (seqObj "list" #[] 0)).get? a=some (seqObj "list" #[] e1):=Heap.get?_push_of_some _ (Heap.get?_push_of_some _ ho1)
 show wpAny (model prog w) A _ P E { s with heap:=((s.heap.update a (Obj.mapSeq fun _=>(#[]:Array Value))).push (seqObj "tuple" #[v] 0)).push (seqObj "list" #[] 0) }
 generalize hh3:((s.heap.update a (Obj.mapSeq fun _=>(#[]:Array Value))).push (seqObj "tuple" #[v] 0)).push (seqObj "list" #[] 0)=h3 at F3 N3 ho3 ⊢
 try dsimp only
 rw [if_pos (by show 1 < 2;decide),if_pos (by show 1 < 2;decide)]
 refine wpAny_bind (wpAny_pure ?_)
 try dsimp only
 rw [StateT.run_pure]
 refine wpAny_bind (wpAny_pure ?_)
 try dsimp only
 have s2:=Heap.SameBut.update h3 a (Obj.mapSeq fun _=>#[v])
 obtain ⟨c2,hc2⟩:∃ c2,(h3.update a (Obj.mapSeq fun _=>#[v])).get? a=some (seqObj "list" #[v] c2):=⟨_,get?_update_seq ho3 fun _=>#[v]⟩
 have hm:Array.map (fun x=>x.snd) (arrOf (SortSt.mk' general' (#[v].zip #[v]) #[] 7 none))=#[v]:=by show Array.map (fun x=>x.snd) (#[v].zip #[v])=#[v];simp
 rw [hm]
 refine wpAny_bind (seqEpoch_at ho3 rfl ?_)
 refine wpAny_bind (listUpdate_at ho3 rfl ?_ (Nat.zero_le _) (by show 1<=_;rw [sizeLine_eq];omega))
 simp only [bne_self_eq_false,Bool.false_eq_true,if_false]
 refine wpAny_pure (h _ c2 (kas_fr F3 s2 haL ha0) fun q hq=>?_)
 rcases List.mem_cons.mp hq with rfl | hq
 ·exact ⟨hc2,haL,ha0⟩
 ·exact kas_news N3 s2 hna q hq
theorem items_sorted1 {v d:Addr}{od:Obj} {k1:PySem.Str} {v1:Value}{Q:Value->Shared->Prop}(hh:A.handled=none)(F:Fr h₀ L s.heap m)(N:News h₀ L s.heap news)(hvw:(v,{ cls:=.type "dict_items",data:=.fields #[.ref d] })∈news)(hmd:(d,od)∈news)(hod:od.IsDictOf (strKind prog w) [(k1,v1)])
  (h:∀ T t1 B c h' tk,AllLt T news->@LT.lt Nat _ T B->Fr h₀ L h' m->News h₀ L h' ((B,listOf #[.ref T] c)::(T,{ cls:=.type "tuple",data:=.seq #[.str k1 t1,v1] })::news)->Q (.ref B) { s with heap:=h',toks:=tk }) :
  wpAny (model prog w) A (call (.builtin "sorted") [.ref v]) Q E s:=by
 refine kdx_sortedN (knd:=strKind prog w) (enc:=PyData.str) (ps:=[((fun t=>.str k1 t),v1)]) hh F N hvw hmd hod (Nat.le_of_ble_eq_true rfl) (fun _ _ h=>Value.isStrOf_shape h) rfl fun lo hlo=>?_
 refine KdxOpen.cons fun T t1 b1 b2 b3=>KdxOpen.nil fun B h' tk lB F' N'=>?_
 have hB:=N' _ (List.mem_cons_self ..)
 have N2:News h₀ L h' ((T,{ cls:=.type "tuple",data:=.seq #[.str k1 t1,v1] })::news):=fun q hq=>N' q (List.mem_cons_of_mem _ hq)
 refine wpAny_call_entry slot_list_sort ⟨_,hB.1,rfl⟩ entry_list_sort (sort_one F' N2 hB.1 hB.2.1 hB.2.2 (fun q hq=>Nat.ne_of_lt (lB q hq)) fun h2 c F2 N3=>?_) (args_list_sort _)
 exact ⟨_,rfl,h T t1 B c h2 tk (allLt_of b2) (lB (T,_) (List.mem_cons_self ..)) F2 N3⟩
theorem items_sorted2 {v d:Addr}{od:Obj} {k1 k2:PySem.Str} {v1 v2:Value}{Q:Value->Shared->Prop}(hh:A.handled=none)(hk:k1≠k2)(hlt:decide (k2.cps.toList < k1.cps.toList)=true)(F:Fr h₀ L s.heap m)(N:News h₀ L s.heap news)(hvw:(v,{ cls:=.type "dict_items",data:=.fields #[.ref d] })∈news)(hmd:(d,od)∈news)(hod:od.IsDictOf (strKind prog w) [(k1,v1),(k2,v2)])
  (h:∀ T1 T2 t1 t2 B c h' tk,AllLt T1 news->@LT.lt Nat _ T1 T2->@LT.lt Nat _ T2 B->Fr h₀ L h' m->News h₀ L h' ((B,listOf #[.ref T2,.ref T1] c)::(T2,{ cls:=.type "tuple",data:=.seq #[.str k2 t2,v2] })::(T1,{ cls:=.type "tuple",data:=.seq #[.str k1 t1,v1] })::news)->Q (.ref B) { s with heap:=h',toks:=tk }) :
  wpAny (model prog w) A (call (.builtin "sorted") [.ref v]) Q E s:=by
 refine kdx_sortedN (knd:=strKind prog w) (enc:=PyData.str) (ps:=[((fun t=>.str k1 t),v1),((fun t=>.str k2 t),v2)]) hh F N hvw hmd hod (Nat.le_of_ble_eq_true rfl) (fun _ _ h=>Value.isStrOf_shape h) rfl fun lo hlo=>?_
 refine KdxOpen.cons fun T1 t1 b1 b2 b3=>KdxOpen.cons fun T2 t2 b4 b5 b6=>KdxOpen.nil fun B h' tk lB F' N'=>?_
 have m1:(T1,({ cls:=.type "tuple",data:=.seq #[.str k1 t1,v1] }:Obj))∈(T2,({ cls:=.type "tuple",data:=.seq #[.str k2 t2,v2] }:Obj))::(T1,{ cls:=.type "tuple",data:=.seq #[.str k1 t1,v1] })::news:=List.mem_cons_of_mem _ (List.mem_cons_self ..)
 have l12:@LT.lt Nat _ T1 T2:=b6 (T1,_) (List.mem_cons_self ..)
 have N1:News h₀ L h' ((B,listOf (List.toArray [Value.ref T1,.ref T2]) 0)::(T2,{ cls:=.type "tuple",data:=.seq #[.str k2 t2,v2] })::(T1,{ cls:=.type "tuple",data:=.seq #[.str k1 t1,v1] })::news):=N'
 refine kat_lsort (vs:=[.ref T1,.ref T2]) F' N1 (.head fun q hq=>Nat.ne_of_lt (lB q hq)) rfl (Nat.le_of_ble_eq_true rfl) (Nat.le_of_ble_eq_true rfl) fun e1 h2 F2 N2=>?_
 have g1:=N2 (T1,_) (List.mem_cons_of_mem _ (List.mem_cons_of_mem _ (List.mem_cons_self ..)))
 have g2:=N2 (T2,_) (List.mem_cons_of_mem _ (List.mem_cons_self ..))
 refine kat_kind (fs:=[.str k1 t1,.str k2 t2]) (T:=.type "str") (KatTups.cons g1.1 rfl rfl rfl (KatTups.cons g2.1 rfl rfl rfl KatTups.nil)) (Nat.le_of_ble_eq_true rfl) (fun x hx=>?_) rfl ?_
 ·rcases List.mem_cons.mp hx with rfl | hx
  ·exact fun A' Q' E' s' hk' hq=>wpAny_typeOf (typeIs_str _ _ _) hq
  ·rw [List.mem_singleton.mp hx]
   exact fun A' Q' E' s' hk' hq=>wpAny_typeOf (typeIs_str _ _ _) hq
 refine krun_wp (n:=2) (lt:=fun i j=>decide (i=1/\j=0)) (fun i j C hi hj hij hC=>?_) _ #[1,0] (by show krun 2 _ (kas_sort 2)=_;decide +kernel) ?_
 ·have hlt':decide (k1.cps.toList < k2.cps.toList)=false:=by
   have h1:k2.cps.toList < k1.cps.toList:=by simpa using hlt
   have h2:¬ k1.cps.toList < k2.cps.toList:=fun h2=>List.lt_irrefl _ (List.lt_trans h1 h2)
   simpa using h2
  show wpAny _ _ (keyLt' (tuples' _) ([Value.ref T1,.ref T2].getD i .none) ([Value.ref T1,.ref T2].getD j .none)) _ _ _
  have hij':(i=0/\j=1)\/(i=1/\j=0):=by omega
  rcases hij' with ⟨rfl,rfl⟩ | ⟨rfl,rfl⟩
  ·refine kat_lt g1.1 rfl g2.1 rfl ?_
   refine kat_cons (wpAny_eqBool_str ?_)
   rw [decide_eq_false hk]
   refine kat_no (oneLt_str ?_)
   rw [hlt']
   exact hC
  ·refine kat_lt g2.1 rfl g1.1 rfl ?_
   refine kat_cons (wpAny_eqBool_str ?_)
   rw [decide_eq_false hk.symm]
   refine kat_no (oneLt_str ?_)
   rw [hlt]
   exact hC
 ·refine KasFin.intro F2 N2 (.head fun q hq=>Nat.ne_of_lt (lB q hq)) fun h3 c F3 N3=>?_
  exact h T1 T2 t1 t2 B c h3 tk (allLt_of b2) l12 (lB (T2,_) (List.mem_cons_self ..)) F3 N3
end
end Mine
end XL2
section XW12
open PySem PySem.W PyProof.Rows PySem.Calls
namespace Mine.W12
open Mine.Hd
theorem truthy_d {prog:Program}{w:World}{A:Around}{E:Value->Shared->Prop}{s:Shared}{h₀:Heap}{L d:Addr}{o:Obj}{news:List (Addr×Obj)}{kvs:List (Str×Value)}{Q:Bool->Shared->Prop}(N:News h₀ L s.heap news)(hp:(d,o)∈news)(hd:o.IsDictOf (PySem.strKind prog w) kvs)(lo:(d == sysModules)=false)(hl:kvs.length<=5)
  (h:Q (!kvs.isEmpty) { s with toks:=s.toks + 1 + 1 }):wpAny (model prog w) A (truthy (.ref d)) Q E s:=wpAny_truthy_dict lo (kda_dict N hp hd) (by omega) h
noncomputable def Hold (P:Prop):Prop:=P
theorem hold_of {P:Prop}(h:Hold P):P:=h
theorem wt7:True:=by
 k_with "W12 cell_enter" => k_extra "A5"
 k_with "W12 k_steps" => k_extra "A6"
 k_with "W12 execs cons" => k_extra "A7"
 k_with "W12 execs nil" => k_extra "A8"
 k_with "W12 eval Name" => k_extra "A9"
 k_with "W12 getMethod ref" => k_extra "A35"
 k_with "W12 callWith ref" => k_extra "A15"
 k_with "W12 storeName" => k_extra "A36"
 k_with "W12 k_upd" => k_extra "A37"
 k_with "W12 k_updF" => k_extra "A38"
 k_with "W12 lt" => k_extra "A39"
 k_with "W12 setAttr ref" => k_extra "A40"
 k_with "W12 getAttr ref" => k_extra "A16"
 k_with "W12 callWith ref" => k_extra "A17"
 k_with "W12 And" => k_extra "A18"
 k_with "W12 call ref" => k_extra "A41"
 k_with "W12 call builtin:list.append" => k_extra "A42"
 k_with "W12 call ref" => k_extra "A43"
 k_with "W12 truthy ref" => k_extra "A44"
 k_with "W12 exec If" => k_extra "A45"
 k_with "W12 compareOp Eq str str" => k_extra "A24"
 k_with "W12 eval Set" => k_extra "A46"
 k_with "W12 exec For Tuple Call cons nil" => k_extra "A25"
 k_with "W12 pyIter ref" => k_extra "A47"
 k_with "W12 LoopAt" => k_extra "A48"
 k_with "W12 And" => k_extra "A49"
 k_with "W12 call builtin:sorted" => k_extra "A50"
 k_with "W12 eval ListComp" => k_extra "A51"
 k_with "W12 call builtin:str.join" => k_extra "A52"
 k_with "W12 truthy ref" => k_extra "A53"
 k_with "W12 exec Assign cons DictComp" => k_extra "A54"
 k_with "W12 subscriptTail" => k_extra "A55"
 k_with "W12 eval Constant int" => k_extra "A30"
 k_with "W12 eval Constant str" => k_extra "A31"
 k_with "W12 binaryOp Add int int" => k_extra "A32"
 k_with "W12 binaryOp Sub int int" => k_extra "A33"
 k_with "W12 unaryOp USub int" => k_extra "A34"
 exact True.intro
noncomputable def star1_ct.P (x t:Addr) (k1:Tok)(q:Nat->Tok) (news)(s:Shared)(dp un:Nat) (d A D C Nn Pm Ps c1 T1 b1 b2 O:Addr) (eP eN eC e1 eD eO:Nat) (u1 u2:Tok)(od:Obj)(tv:Tok)(val:Str)(zt:Tok)(oT:Obj) (p m L)(w:World) (loose mean mg mb gd cn)(cs:Scope) (a ccd cl outer A₀ base h₀)(Q E:Value->Shared->Prop):=∀ (B:Below A₀ base outer h₀)(F:Fr h₀ L s.heap m)(X:(heapK w.params).In h₀)(T:Top p loose mean mg mb h₀)(hk:cs.kind = .function)(hd:dp + 80 < recursionLimit)(hu:un + 700 < cLine) (G0:AllBare s.gens)(lo:(t == sysModules)=false)(hval:val.length<=1)(hod:od.IsDictOf (strKind rw_re0182_01.row.prog w) [(Str.ofString "v",.str val tv)])(CD:CodeHd base 176 174)(lt:LamTab oT news ⟨227,71,227,96⟩ (Str.ofString "C14NWriterTarget._start.<locals>.<lambda>") fun c=>c∈addrs news)(AP:Ap [t,Ps,Nn,C,c1,T1,D,x,d,A,O,174] (addrs news))(N:News h₀ L s.heap ((t,od)::(Ps,listOf #[.bool false] eP)::(Nn,listOf #[.ref b1,.ref b2] eN)::(C,listOf #[.ref c1] eC)::(c1,listOf #[.ref T1] e1)::(T1,xT u1 u2)::(D,listOf #[] eD)::(x,instObj 201 d)::(d,dictOf (idc w q A D C Nn Pm Ps zt false false) 17)::(A,appObj O)::(O,listOf #[] eO)::(174,oT)::news))(hret:∀ (c2 b3 c9:Addr) (oc9:Obj) (vs9:Array Value) (t9 g1 g2 g3:Tok) (s9:Shared),SB s s9->Fr h₀ L s9.heap m->News h₀ L s9.heap ((c2,listOf #[] 0)::(Ps,listOf #[.bool false,.bool false] (eP + 1))::(Nn,listOf #[.ref b1,.ref b2,.ref b3] (eN + 1))::(C,listOf #[.ref c1,.ref c2] (eC + 1))::(c1,listOf #[.ref T1] e1)::(T1,xT u1 u2)::(D,listOf #[] eD)::(x,instObj 201 d)::(d,dictOf (idc w q A D C Nn Pm Ps zt true false) 17)::(A,appObj O)::(O,listOf ((#[.str (Str.ofString "<" ++ nN) g1].push (.str (attrS nV (mapS (tabF tabA) val)) g2)).push (.str (Str.ofString ">") g3)) (eO + 1 + 1 + 1))::(174,tabObj #[rawInt 227,rawInt 71,.ref c9])::(c9,oc9)::news)->oc9.data = .fields vs9->vs9[1]? = some (.str (Str.ofString "C14NWriterTarget._start.<locals>.<lambda>") t9)->Ap [c2,Ps,Nn,C,c1,T1,D,x,d,A,O,174] (c9::addrs news)->Q .none s9),wpAny (model rw_re0182_01.row.prog w) (ktrTop dp un gd cn cs L a ccd cl outer) (call (.ref 171) [.ref x,.str (Str.ofString "n") k1,.ref t]) Q E s
namespace star1_ct
noncomputable def R:=(s4 <| s4 <| s4 <| s4 <| s4 <| s4 <| s4 <| s4 <| s4 <| s4 <| s4 <| s4 <| s4 <| id) P
@[irreducible] noncomputable def z:=zy R (by k_extra "N")
@[irreducible] noncomputable def x:=f1 z
@[irreducible] noncomputable def t:=f1 (f2 z)
@[irreducible] noncomputable def k1:=f1 (f2 (f2 z))
@[irreducible] noncomputable def q:=f1 (f2 (f2 (f2 z)))
@[irreducible] noncomputable def news:=f1 (f2 (f2 (f2 (f2 z))))
@[irreducible] noncomputable def s:=f1 (f2 (f2 (f2 (f2 (f2 z)))))
@[irreducible] noncomputable def dp:=f1 (f2 (f2 (f2 (f2 (f2 (f2 z))))))
@[irreducible] noncomputable def un:=f1 (f2 (f2 (f2 (f2 (f2 (f2 (f2 z)))))))
@[irreducible] noncomputable def zr:=f2 (f2 (f2 (f2 (f2 (f2 (f2 (f2 z)))))))
theorem T:(s4 <| s4 <| s4 <| s4 <| s4 <| s4 <| s4 <| s4 <| s4 <| s4 <| s4 <| id) (P x t k1 q news s dp un) zr:=by
 intro B F X T hk hd hu G0 lo hval hod CD lt AP N hret
 revert X;k_fill;intro X
 w_on
 have S0:SB s s:=⟨rfl,G0⟩
 refine wpAny_call ?_
 (rename SB _ _=>s9);k_dflt (refine' enterBZ [(Str.ofString "self",.ref x),(Str.ofString "tag",.str (Str.ofString "n") k1),(Str.ofString "attrs",.ref t)] s9 ?k1 ?k2 ?k3 ?k4 ?k5 ?kA ?kF ?kK ?k6 ?k7 ?k8 ?k9 ?kB ?_ ?c2 ?c3 ?c4 ?c5;cell_enter);clear s9
 k_steps
 unfold Hold
 (rename Fr _ _ _ _=>kF);(rename News _ _ _ _=>kN);(rename Below _ _ _ _=>kB);(rename Top _ _ _ _ _ _=>kT);(rename Frag.In _ _=>kX);(rename Ap _ _=>kA);(rename SB _ _=>kSB)
 (rename StrSet _ _ _=>kS);(rename List.map Prod.fst _=List.map Prod.fst _=>kE)
 have kE2:((nN,k1)::_).map Prod.fst=[nN,nV]:=congrArg (nN::·) kE
 k_dflt (refine' dict2 (b:=fun c=>c∈addrs news) (c:=176) (P:=174) (xs:=x) (gq:=141) kB kF kX kT kN ?U ?CC ?r1 ?r2 ?r3 ?hu ?room ?r4 ?e ?hv ?r5 ?r6 ?nq ?r7 ?lt ?r8 ?r9 ?r10 ?hbind ?r11 ?hxd ?r12 ?r13 ?r14 ?r15 ?hcell ?iS kS kE2 ?hsw ?r16 ?r17 ?hnames ?hcell2 ?kx ?kf ?kc ?hck ?nx ?nf ?r18 ?hG ?iC ?hoc ?iq ?hfn ?elem ?_)
 (case U=>k_updF)
 (case CC=>kn_code)
 (case hu=>ktr_units)
 (case room=>ktr_room)
 (case e=>k_is)
 (case hv=>boot_fast)
 (case nq=>decide)
 (case lt=>exact lt.mono (by intro q hq;repeat (first | exact hq | refine List.Mem.tail _ ?_)))
 (case hbind=>intro _ _ _ _ _;rfl)
 (case hxd=>decide)
 (case hcell=>decide)
 (case iS=>intro _;k_mem)
 (case hsw=>exact rfl)
 (case hnames=>decide)
 (case hcell2=>decide)
 (case kx=>intro _;rfl)
 (case kf=>intro _;rfl)
 (case hck=>intro _;rfl)
 (case nx=>decide)
 (case nf=>decide)
 (case r16=>exact rfl)
 (case kc=>intro _;rfl)
 (case hoc=>assumption)
 (case hG=>exact kSB.2)
 (case iC=>intro _;k_mem)
 (case iq=>intro _;k_mem)
 (case hfn=>k_is)
 case elem=>
  intro led hs
  obtain ⟨o9,hs⟩:=hs
  refine' name_call (B:=kB) (X:=kX) (T:=kT) (hk:=?hk) (hd:=?dp) (hu:=?un) (i4:=?i4) (i5:=?i5) (i1:=?i1) (i2:=?i2) (i3:=?i3) (i0:=?i0) (hq:=?hq)
  case hk=>exact rfl
  case dp=>ktr_room
  case un=>ktr_units
  case i4=>exact hs _ (by k_mem)
  case i5=>exact hs _ (by k_mem)
  case i1=>exact hs _ (by k_mem)
  case i2=>exact hs _ (by k_mem)
  case i3=>exact hs _ (by k_mem)
  case i0=>exact hs _ (by k_mem)
  case hq=>decide
 all_goals (first | exact rfl | skip)
 clear kN kS kE kE2
 intro c' oc vs tq s5 oD Dd R1 R2 t1 t2 v1 v2 os5 gb5 F5 N5 hD5 hoc5 hvs5 l5 l6 r1 hcb
 replace kSB:=kSB.next os5 gb5
 replace kA:=ap_dict2 kA (by exact rfl) (by exact rfl) l5 l6 r1 hcb
 (try dsimp only at N5)
 replace N5:=news_mv2 [_,_,_,_,_,_,_,_,_,_,_,_,_,_,_,_,_,_] N5
 dsimp only [List.cons_append,List.nil_append] at N5
 clear l5 l6 r1 hcb
 clear kF
 k_steps
 (rename News _ _ _ _=>kN9);(rename Fr _ _ _ _=>kF9);(rename Ap _ _=>kA9);(rename SB _ _=>kS9)
 k_dflt (refine' hret _ _ _ _ _ _ _ _ _ _ kS9 kF9 (news_dup kN9 ?ic (news_dup kN9 ?iP (news_dup kN9 ?iN (news_dup kN9 ?iC (news_dup kN9 ?i1 (news_dup kN9 ?iT (news_dup kN9 ?iD (news_dup kN9 ?ix (news_dup kN9 ?id (news_dup kN9 ?iA (news_dup kN9 ?iO (news_dup kN9 ?iL (news_dup kN9 ?i9 (?tl)))))))))))))) hoc5 hvs5 (ap_sub kA9 ?sub fun _ h=>h))
 (case iC=>k_dflt (k_mem))
 (case iL=>k_dflt (k_mem))
 (case ic=>k_dflt (k_mem))
 (case iP=>k_dflt (k_mem))
 (case iN=>k_dflt (k_mem))
 (case i1=>k_dflt (k_mem))
 (case iT=>k_dflt (k_mem))
 (case iD=>k_dflt (k_mem))
 (case ix=>k_dflt (k_mem))
 (case id=>k_dflt (k_mem))
 (case iA=>k_dflt (k_mem))
 (case iO=>k_dflt (k_mem))
 (case i9=>k_dflt (k_mem))
 (case tl=>exact fun q hq=>kN9 q (by repeat (first | exact hq | refine List.Mem.tail _ ?_)))
 (case sub=>repeat (first | exact List.Sublist.slnil | apply List.Sublist.cons_cons | apply List.Sublist.cons))
end star1_ct
theorem star1_ct (x t k1 q news s dp un d A D C Nn Pm Ps c1 T1 b1 b2 O eP eN eC e1 eD eO u1 u2 od tv val zt oT) {p} (m L) {w loose mean mg mb} (gd cn cs a ccd cl outer A₀ base h₀ Q E):star1_ct.P x t k1 q news s dp un d A D C Nn Pm Ps c1 T1 b1 b2 O eP eN eC e1 eD eO u1 u2 od tv val zt oT p m L w loose mean mg mb gd cn cs a ccd cl outer A₀ base h₀ Q E:=by with_unfolding_all exact zy_all _ star1_ct.R star1_ct.T (x,t,k1,q,news,s,dp,un,d,A,D,C,Nn,Pm,Ps,c1,T1,b1,b2,O,eP,eN,eC,e1,eD,eO,u1,u2,od,tv,val,zt,oT,p,m,L,w,loose,mean,mg,mb,gd,cn,cs,a,ccd,cl,outer,A₀,base,h₀,Q,E)
end Mine.W12
end XW12
open Mine.W12
section XW13
open PySem PySem.W PyProof.Rows PySem.Calls
namespace Mine.W13
open Mine.Hd
theorem truthy_d3 {prog:Program}{w:World}{A:Around}{E:Value->Shared->Prop}{s:Shared}{h₀:Heap}{L d:Addr}{o:Obj}{news:List (Addr×Obj)}{kvs:List (Str×Value)}{Q:Bool->Shared->Prop}(N:News h₀ L s.heap news)(hp:(d,o)∈news)(hd:o.IsDictOf (PySem.strKind prog w) kvs)(lo:(d == sysModules)=false)(hl:kvs.length<=5)
  (h:Q (!kvs.isEmpty) { s with toks:=s.toks + 1 + 1 }):wpAny (model prog w) A (truthy (.ref d)) Q E s:=wpAny_truthy_dict lo (kda_dict N hp hd) (by omega) h
noncomputable def Hold3 (P:Prop):Prop:=P
theorem hold_of3 {P:Prop}(h:Hold3 P):P:=h
theorem wt8:True:=by
 k_with "W13 cell_enter" => k_extra "A5"
 k_with "W13 k_steps" => k_extra "A6"
 k_with "W13 execs cons" => k_extra "A7"
 k_with "W13 execs nil" => k_extra "A8"
 k_with "W13 eval Name" => k_extra "A9"
 k_with "W13 getMethod ref" => k_extra "A35"
 k_with "W13 callWith ref" => k_extra "A15"
 k_with "W13 storeName" => k_extra "A36"
 k_with "W13 k_upd" => k_extra "A37"
 k_with "W13 k_updF" => k_extra "A38"
 k_with "W13 lt" => k_extra "A39"
 k_with "W13 setAttr ref" => k_extra "A40"
 k_with "W13 getAttr ref" => k_extra "A16"
 k_with "W13 callWith ref" => k_extra "A17"
 k_with "W13 And" => k_extra "A18"
 k_with "W13 call ref" => k_extra "A41"
 k_with "W13 call builtin:list.append" => k_extra "A42"
 k_with "W13 call ref" => k_extra "A43"
 k_with "W13 truthy ref" => k_extra "A44"
 k_with "W13 exec If" => k_extra "A45"
 k_with "W13 compareOp Eq str str" => k_extra "A56"
 k_with "W13 eval Set" => k_extra "A46"
 k_with "W13 exec For Tuple Call cons nil" => k_extra "A25"
 k_with "W13 pyIter ref" => k_extra "A47"
 k_with "W13 LoopAt" => k_extra "A48"
 k_with "W13 And" => k_extra "A49"
 k_with "W13 call builtin:sorted" => k_extra "A57"
 k_with "W13 eval ListComp" => k_extra "A58"
 k_with "W13 call builtin:str.join" => k_extra "A59"
 k_with "W13 truthy ref" => k_extra "A60"
 k_with "W13 exec Assign cons DictComp" => k_extra "A61"
 k_with "W13 subscriptTail" => k_extra "A55"
 k_with "W13 eval Constant int" => k_extra "A30"
 k_with "W13 eval Constant str" => k_extra "A31"
 k_with "W13 binaryOp Add int int" => k_extra "A32"
 k_with "W13 binaryOp Sub int int" => k_extra "A33"
 k_with "W13 unaryOp USub int" => k_extra "A34"
 exact True.intro
noncomputable def star2_ct.P (x t:Addr) (k1:Tok)(q:Nat->Tok) (news)(s:Shared)(dp un:Nat) (d A D C Nn Pm Ps c1 T1 b1 b2 O:Addr) (eP eN eC e1 eD eO:Nat) (u1 u2:Tok)(od:Obj)(tv tm:Tok)(val ml:Str)(zt:Tok)(oT:Obj) (p m L)(w:World) (loose mean mg mb gd cn)(cs:Scope) (a ccd cl outer A₀ base h₀)(Q E:Value->Shared->Prop):=∀ (B:Below A₀ base outer h₀)(F:Fr h₀ L s.heap m)(X:(heapK w.params).In h₀)(T:Top p loose mean mg mb h₀)(hk:cs.kind = .function)(hd:dp + 80 < recursionLimit)(hu:un + 700 < cLine) (G0:AllBare s.gens)(lo:(t == sysModules)=false)(hval:val.length<=1)(hml:ml.length<=1000)(hod:od.IsDictOf (strKind rw_re0182_01.row.prog w) [(Str.ofString "w",.str ml tm),(Str.ofString "v",.str val tv)])(CD:CodeHd base 176 174)(lt:LamTab oT news ⟨227,71,227,96⟩ (Str.ofString "C14NWriterTarget._start.<locals>.<lambda>") fun c=>c∈addrs news)(AP:Ap [t,Ps,Nn,C,c1,T1,D,x,d,A,O,174] (addrs news))(N:News h₀ L s.heap ((t,od)::(Ps,listOf #[.bool false] eP)::(Nn,listOf #[.ref b1,.ref b2] eN)::(C,listOf #[.ref c1] eC)::(c1,listOf #[.ref T1] e1)::(T1,xT u1 u2)::(D,listOf #[] eD)::(x,instObj 201 d)::(d,dictOf (idc w q A D C Nn Pm Ps zt false false) 17)::(A,appObj O)::(O,listOf #[] eO)::(174,oT)::news))(hret:∀ (c2 b3 c9:Addr) (oc9:Obj) (vs9:Array Value) (t9 g1 g2 g3:Tok) (s9:Shared),SB s s9->Fr h₀ L s9.heap m->News h₀ L s9.heap ((c2,listOf #[] 0)::(Ps,listOf #[.bool false,.bool false] (eP + 1))::(Nn,listOf #[.ref b1,.ref b2,.ref b3] (eN + 1))::(C,listOf #[.ref c1,.ref c2] (eC + 1))::(c1,listOf #[.ref T1] e1)::(T1,xT u1 u2)::(D,listOf #[] eD)::(x,instObj 201 d)::(d,dictOf (idc w q A D C Nn Pm Ps zt true false) 17)::(A,appObj O)::(O,listOf ((#[.str (Str.ofString "<" ++ nN) g1].push (.str (attrS nV (mapS (tabF tabA) val)++attrS nW (mapS (tabF tabA) ml)) g2)).push (.str (Str.ofString ">") g3)) (eO + 1 + 1 + 1))::(174,tabObj #[rawInt 227,rawInt 71,.ref c9])::(c9,oc9)::news)->oc9.data = .fields vs9->vs9[1]? = some (.str (Str.ofString "C14NWriterTarget._start.<locals>.<lambda>") t9)->Ap [c2,Ps,Nn,C,c1,T1,D,x,d,A,O,174] (c9::addrs news)->Q .none s9),wpAny (model rw_re0182_01.row.prog w) (ktrTop dp un gd cn cs L a ccd cl outer) (call (.ref 171) [.ref x,.str (Str.ofString "n") k1,.ref t]) Q E s
namespace star2_ct
noncomputable def R:=(s4 <| s4 <| s4 <| s4 <| s4 <| s4 <| s4 <| s4 <| s4 <| s4 <| s4 <| s4 <| s4 <| st <| st <| id) P
@[irreducible] noncomputable def z:=zy R (by k_extra "N")
@[irreducible] noncomputable def x:=f1 z
@[irreducible] noncomputable def t:=f1 (f2 z)
@[irreducible] noncomputable def k1:=f1 (f2 (f2 z))
@[irreducible] noncomputable def q:=f1 (f2 (f2 (f2 z)))
@[irreducible] noncomputable def news:=f1 (f2 (f2 (f2 (f2 z))))
@[irreducible] noncomputable def s:=f1 (f2 (f2 (f2 (f2 (f2 z)))))
@[irreducible] noncomputable def dp:=f1 (f2 (f2 (f2 (f2 (f2 (f2 z))))))
@[irreducible] noncomputable def un:=f1 (f2 (f2 (f2 (f2 (f2 (f2 (f2 z)))))))
@[irreducible] noncomputable def zr:=f2 (f2 (f2 (f2 (f2 (f2 (f2 (f2 z)))))))
theorem T:(s4 <| s4 <| s4 <| s4 <| s4 <| s4 <| s4 <| s4 <| s4 <| s4 <| s4 <| st <| st <| id) (P x t k1 q news s dp un) zr:=by
 intro B F X T hk hd hu G0 lo hval hml hod CD lt AP N hret
 revert X;k_fill;intro X
 w_on
 have S0:SB s s:=⟨rfl,G0⟩
 refine wpAny_call ?_
 (rename SB _ _=>s9);k_dflt (refine' enterBZ [(Str.ofString "self",.ref x),(Str.ofString "tag",.str (Str.ofString "n") k1),(Str.ofString "attrs",.ref t)] s9 ?k1 ?k2 ?k3 ?k4 ?k5 ?kA ?kF ?kK ?k6 ?k7 ?k8 ?k9 ?kB ?_ ?c2 ?c3 ?c4 ?c5;cell_enter);clear s9
 k_steps
 unfold Hold3
 (rename Fr _ _ _ _=>kF);(rename News _ _ _ _=>kN);(rename Below _ _ _ _=>kB);(rename Top _ _ _ _ _ _=>kT);(rename Frag.In _ _=>kX);(rename Ap _ _=>kA);(rename SB _ _=>kSB)
 (rename StrSet _ _ _=>kS);(rename List.map Prod.fst _=List.map Prod.fst _=>kE)
 have kE2:((nN,k1)::_).map Prod.fst=[nN,nW,nV]:=congrArg (nN::·) kE
 k_dflt (refine' dict3 (b:=fun c=>c∈addrs news) (c:=176) (P:=174) (xs:=x) (gq:=141) kB kF kX kT kN ?U ?CC ?r1 ?r2 ?r3 ?hu ?room ?r4 ?e ?hv ?r5 ?r6 ?nq ?r7 ?lt ?r8 ?r9 ?r10 ?hbind ?r11 ?hxd ?r12 ?r13 ?r14 ?r15 ?hcell ?iS kS kE2 ?hsw ?r16 ?r17 ?hnames ?hcell2 ?kx ?kf ?kc ?hck ?nx ?nf ?r18 ?hG ?iC ?hoc ?iq ?hfn ?elem ?_)
 (case U=>k_updF)
 (case CC=>kn_code)
 (case hu=>ktr_units)
 (case room=>ktr_room)
 (case e=>k_is)
 (case hv=>boot_fast)
 (case nq=>decide)
 (case lt=>exact lt.mono (by intro q hq;repeat (first | exact hq | refine List.Mem.tail _ ?_)))
 (case hbind=>intro _ _ _ _ _;rfl)
 (case hxd=>decide)
 (case hcell=>decide)
 (case iS=>intro _;k_mem)
 (case hsw=>exact rfl)
 (case hnames=>decide)
 (case hcell2=>decide)
 (case kx=>intro _;rfl)
 (case kf=>intro _;rfl)
 (case hck=>intro _;rfl)
 (case nx=>decide)
 (case nf=>decide)
 (case r16=>exact rfl)
 (case kc=>intro _;rfl)
 (case hoc=>assumption)
 (case hG=>exact kSB.2)
 (case iC=>intro _;k_mem)
 (case iq=>intro _;k_mem)
 (case hfn=>k_is)
 case elem=>
  intro led hs
  obtain ⟨o9,hs⟩:=hs
  refine' name_call (B:=kB) (X:=kX) (T:=kT) (hk:=?hk) (hd:=?dp) (hu:=?un) (i4:=?i4) (i5:=?i5) (i1:=?i1) (i2:=?i2) (i3:=?i3) (i0:=?i0) (hq:=?hq)
  case hk=>exact rfl
  case dp=>ktr_room
  case un=>ktr_units
  case i4=>exact hs _ (by k_mem)
  case i5=>exact hs _ (by k_mem)
  case i1=>exact hs _ (by k_mem)
  case i2=>exact hs _ (by k_mem)
  case i3=>exact hs _ (by k_mem)
  case i0=>exact hs _ (by k_mem)
  case hq=>decide
 all_goals (first | exact rfl | skip)
 clear kN kS kE kE2
 intro c' oc vs tq s5 oD Dd R1 R2 R3 t1 t2 t3 v1 v2 v3 os5 gb5 F5 N5 hD5 hoc5 hvs5 l5 l6 r1 r2 hcb
 replace kSB:=kSB.next os5 gb5
 replace kA:=ap_dict3 kA (by exact rfl) (by exact rfl) l5 l6 r1 r2 hcb
 (try dsimp only at N5)
 replace N5:=news_mv [_,_,_,_,_,_,_,_,_,_,_,_,_,_,_,_,_,_] N5
 dsimp only [List.cons_append,List.nil_append] at N5
 clear l5 l6 r1 r2 hcb
 clear kF
 k_steps
 (rename News _ _ _ _=>kN9);(rename Fr _ _ _ _=>kF9);(rename Ap _ _=>kA9);(rename SB _ _=>kS9)
 k_dflt (refine' hret _ _ _ _ _ _ _ _ _ _ kS9 kF9 (news_dup kN9 ?ic (news_dup kN9 ?iP (news_dup kN9 ?iN (news_dup kN9 ?iC (news_dup kN9 ?i1 (news_dup kN9 ?iT (news_dup kN9 ?iD (news_dup kN9 ?ix (news_dup kN9 ?id (news_dup kN9 ?iA (news_dup kN9 ?iO (news_dup kN9 ?iL (news_dup kN9 ?i9 (?tl)))))))))))))) hoc5 hvs5 (ap_sub kA9 ?sub fun _ h=>h))
 (case iC=>k_dflt (k_mem))
 (case iL=>k_dflt (k_mem))
 (case ic=>k_dflt (k_mem))
 (case iP=>k_dflt (k_mem))
 (case iN=>k_dflt (k_mem))
 (case i1=>k_dflt (k_mem))
 (case iT=>k_dflt (k_mem))
 (case iD=>k_dflt (k_mem))
 (case ix=>k_dflt (k_mem))
 (case id=>k_dflt (k_mem))
 (case iA=>k_dflt (k_mem))
 (case iO=>k_dflt (k_mem))
 (case i9=>k_dflt (k_mem))
 (case tl=>exact fun q hq=>kN9 q (by repeat (first | exact hq | refine List.Mem.tail _ ?_)))
 (case sub=>repeat (first | exact List.Sublist.slnil | apply List.Sublist.cons_cons | apply List.Sublist.cons))
end star2_ct
theorem star2_ct (x t k1 q news s dp un d A D C Nn Pm Ps c1 T1 b1 b2 O eP eN eC e1 eD eO u1 u2 od tv tm val ml zt oT) {p} (m L) {w loose mean mg mb} (gd cn cs a ccd cl outer A₀ base h₀ Q E):star2_ct.P x t k1 q news s dp un d A D C Nn Pm Ps c1 T1 b1 b2 O eP eN eC e1 eD eO u1 u2 od tv tm val ml zt oT p m L w loose mean mg mb gd cn cs a ccd cl outer A₀ base h₀ Q E:=by with_unfolding_all exact zy_all _ star2_ct.R star2_ct.T (x,t,k1,q,news,s,dp,un,d,A,D,C,Nn,Pm,Ps,c1,T1,b1,b2,O,eP,eN,eC,e1,eD,eO,u1,u2,od,tv,tm,val,ml,zt,oT,p,m,L,w,loose,mean,mg,mb,gd,cn,cs,a,ccd,cl,outer,A₀,base,h₀,Q,E)
end Mine.W13
end XW13
open Mine.W13
section XW14
open PySem PySem.W PyProof.Rows PySem.Calls
namespace Mine.W14
open Mine.Hd
theorem set_S {prog:Program}{w:World}{A:Around}{E:Value->Shared->Prop}{s s₀:Shared}{h₀:Heap}{L:Addr}{m:Str->Option Value}{news:List (Addr×Obj)}{news':Tok->List (Addr×Obj)}{K:Frag}{x C dx:Addr}{ox:Obj}{es:List DictEntry}{es':Tok->List DictEntry}{n n':Nat}{name:Str}{v:Value}{Q:Unit->Shared->Prop}(F:Fr h₀ L s.heap m)(X₀:K.In h₀)(N:News h₀ L s.heap news)(S:Same s₀ s)(I:InstAt s.heap x ox C (some (dictOf es n)))(hd:ox.dict=some dx)
  (hs:findIn K (.ref C) "__setattr__" = some (some (.builtin "object.__setattr__")))(hp:plainOver K C=true)(ht:takerIn K C name=some none)(hh:hasDictIn K C=true)(hl:(getL name es).isSome=true)
  (e:∀ t,(putL name (PyData.keyHash w.params name) (.str name t) v es,putN name es n)=(es' t,n'))(U:∀ t,Upd dx (dictOf es n) (dictOf (es' t) n') news (news' t))(hz:∀ t,(es' t).length<=1000)
  (h:∀ t s',Fr h₀ L s'.heap m->News h₀ L s'.heap (news' t)->Same s₀ s'->Q () s'):wpAny (model prog w) A (setAttr (.ref x) name v) Q E s:=
 set_dict F X₀ N I hd hs hp ht hh hl (e _) (U _) (hz _) (fun _ F' N'=>h _ _ F' N' (S.trans ⟨rfl,rfl,rfl⟩))
theorem wt9:True:=by
 k_with "W14 cell_enter" => k_extra "A62"
 k_with "W14 k_steps" => k_extra "A13"
 k_with "W14 eval Name" => k_extra "A9"
 k_with "W14 getMethod ref" => k_extra "A35"
 k_with "W14 callWith ref" => k_extra "A15"
 k_with "W14 storeName" => k_extra "A10"
 k_with "W14 k_upd" => k_extra "A37"
 k_with "W14 k_updF" => k_extra "A38"
 k_with "W14 lt" => k_extra "A39"
 k_with "W14 getAttr ref" => k_extra "A16"
 k_with "W14 callWith ref" => k_extra "A17"
 k_with "W14 And" => k_extra "A18"
 k_with "W14 call ref" => k_extra "A19"
 k_with "W14 call builtin:list.append" => k_extra "A20"
 k_with "W14 getMethod ref" => k_extra "A21"
 k_with "W14 call builtin:dict.items" => k_extra "A22"
 k_with "W14 call type:list" => k_extra "A23"
 k_with "W14 exec If" => k_extra "A45"
 k_with "W14 compareOp Eq str str" => k_extra "A63"
 k_with "W14 setAttr ref" => k_extra "A64"
 k_with "W14 eval Constant int" => k_extra "A30"
 k_with "W14 eval Constant str" => k_extra "A31"
 k_with "W14 binaryOp Add int int" => k_extra "A32"
 k_with "W14 binaryOp Sub int int" => k_extra "A33"
 k_with "W14 unaryOp USub int" => k_extra "A34"
 exact True.intro
noncomputable def init_ct.P (A:Addr)(s:Shared)(O:Addr)(oT:Obj) (p news m L)(dp un:Nat)(w:World) (loose mean mg mb gd cn)(cs:Scope) (a ccd cl outer A₀ base h₀)(Q E:Value->Shared->Prop):=∀ (B:Below A₀ base outer h₀)(F:Fr h₀ L s.heap m)(X:(heapK w.params).In h₀)(T:Top p loose mean mg mb h₀)(hk:cs.kind = .function)(hd:dp + 50 < recursionLimit)(hu:un + 500 < cLine)(AP:Ap [A,O,174] (addrs news))(N:News h₀ L s.heap ((A,appObj O)::(O,listOf #[] 0)::(174,oT)::news))(hret:∀ (x d D T1 c1 C b1 b2 Nn Pm Ps:Addr)(q:Nat->Tok) (zt u1 u2:Tok) (s9:Shared),Same s s9->Fr h₀ L s9.heap m->News h₀ L s9.heap ((Ps,listOf #[.bool false] 0)::(Nn,listOf #[.ref b1,.ref b2] (0 + 1 + 1))::(C,listOf #[.ref c1] 0)::(c1,listOf #[.ref T1] 0)::(T1,xT u1 u2)::(D,listOf #[] 0)::(x,instObj 201 d)::(d,dictOf (idc w q A D C Nn Pm Ps zt false false) 17)::(A,appObj O)::(O,listOf #[] 0)::(174,oT)::news)->Ap [Ps,Nn,C,c1,T1,D,x,d,A,O,174] (addrs news)->Q (.ref x) s9),wpAny (model rw_re0182_01.row.prog w) (ktrTop dp un gd cn cs L a ccd cl outer) (call (.ref 201) [.ref A] [(Str.ofString "with_comments",.bool true)]) Q E s
namespace init_ct
noncomputable def R:=(s4 <| s4 <| s4 <| s4 <| s4 <| s4 <| st <| st <| id) P
@[irreducible] noncomputable def z:=zy R (by k_extra "N")
@[irreducible] noncomputable def A:=f1 z
@[irreducible] noncomputable def s:=f1 (f2 z)
@[irreducible] noncomputable def zr:=f2 (f2 z)
theorem T:(s4 <| s4 <| s4 <| s4 <| s4 <| s4 <| id) (P A s) zr:=by
 intro B F X T hk hd hu AP N hret
 revert X;k_fill;intro X
 w_on
 k_dflt (refine' call_cls ?k1 ?k2 ?k3 ?k4 ?k5 ?k6 ?_;(case k1 | k2 | k3=>k_asm);(case k4 | k5 | k6=>k_is);k_whole)
 intro x' d' h' F' N' l1 l2
 replace AP:=ap_two AP (allLt_of l1) rfl l2
 have S9:Same s s:=Same.rfl
 (try k_sweep)
 k_dflt (refine' enterU [(Str.ofString "self",.ref x'),(Str.ofString "write",.ref A),(Str.ofString "with_comments",.bool true),(Str.ofString "strip_text",.bool false),(Str.ofString "rewrite_prefixes",.bool false),(Str.ofString "qname_aware_tags",.none),(Str.ofString "qname_aware_attrs",.none),(Str.ofString "exclude_attrs",.none),(Str.ofString "exclude_tags",.none)] ?k1 ?k2 ?k3 ?k4 ?k5 ?kA ?kF ?kK ?k6 ?k7 ?k8 ?k9 ?kB ?_ ?c2 ?c3 ?c4 ?c5;cell_enter)
 k_steps
 (rename News _ _ _ _=>kN9);(rename Fr _ _ _ _=>kF9);(rename Ap _ _=>kA9)
 k_dflt (refine' hret _ _ _ _ _ _ _ _ _ _ _ (tks [_,_,_,_,_,_,_,_,_,_,_,_,_,_,_,_,_]) _ _ _ _ (by assumption) kF9 (news_dup kN9 ?iP (news_dup kN9 ?iN (news_dup kN9 ?iC (news_dup kN9 ?i1 (news_dup kN9 ?iT (news_dup kN9 ?iD (news_dup kN9 ?ix (news_dup kN9 ?id (news_dup kN9 ?iA (news_dup kN9 ?iO (news_dup kN9 ?iL ?tl))))))))))) (ap_sub kA9 ?sub fun _ h=>h))
 (case iN=>k_dflt (k_mem))
 (case ix=>k_dflt (k_mem))
 (case id=>k_dflt (k_mem))
 (case iP=>k_dflt (k_mem))
 (case iC=>k_dflt (k_mem))
 (case i1=>k_dflt (k_mem))
 (case iT=>k_dflt (k_mem))
 (case iD=>k_dflt (k_mem))
 (case iA=>k_dflt (k_mem))
 (case iO=>k_dflt (k_mem))
 (case iL=>k_dflt (k_mem))
 (case tl=>exact fun q hq=>kN9 q (by repeat (first | exact hq | refine List.Mem.tail _ ?_)))
 (case sub=>repeat (first | exact List.Sublist.slnil | refine' List.Sublist.cons₂ _ ?_ | refine' List.Sublist.cons _ ?_))
end init_ct
theorem init_ct (A s O oT) {p} (news m L dp un) {w loose mean mg mb} (gd cn cs a ccd cl outer A₀ base h₀ Q E):init_ct.P A s O oT p news m L dp un w loose mean mg mb gd cn cs a ccd cl outer A₀ base h₀ Q E:=by with_unfolding_all exact zy_all _ init_ct.R init_ct.T (A,s,O,oT,p,news,m,L,dp,un,w,loose,mean,mg,mb,gd,cn,cs,a,ccd,cl,outer,A₀,base,h₀,Q,E)
end Mine.W14
end XW14
open Mine.W14
section XL9
open PySem PySem.W PyProof.Rows PySem.Calls
namespace Mine
theorem all_ne2 {news:List (Addr×Obj)}{lo hi a:Addr}(h:∀ q∈news,q.1 < lo\/hi < q.1) (h1:lo<=a) (h2:a<=hi):∀ q∈news,q.1≠a:=fun q hq e=>by
 rcases h q hq with h | h
 ·exact absurd (e ▸ h) (Nat.not_lt.mpr h1)
 ·exact absurd (e ▸ h) (Nat.not_lt.mpr h2)
section
variable {prog:Program}{w:World}{A:Around}{E:Value->Shared->Prop}{s:Shared}{h₀:Heap}{L:Addr}{m:PySem.Str->Option Value}
theorem nm_use {g x:Addr}{led:List (Addr×Obj)}{names:List PySem.Str}{n:PySem.Str}{t:Tok}{Q:Value->Shared->Prop}(H:NameCall prog w A h₀ L m g x led names)(hn:n∈names) (G0:AllBare s.gens)(F:Fr h₀ L s.heap m)(N:News h₀ L s.heap led)
  (h:∀ Rr t6 s9,s9.os=s.os->AllBare s9.gens->Fr h₀ L s9.heap m->News h₀ L s9.heap ((Rr,tup3 n t t6)::led)->AllLt Rr led->Q (.ref Rr) s9):wpAny (model prog w) A (call (.ref g) [.ref x,.str n t]) Q E s:=by
 refine wpAny_call (codeAny_mono (H s led n t hn G0 (fun _ h=>h) F N) fun r s2 hr=>?_)
 obtain ⟨Rr,t6,rfl,a1,a2,a3,a4,a5⟩:=hr
 exact h Rr t6 s2 a1 a2 a3 a4 a5
end
end Mine
end XL9
section XU5
open PySem PySem.W PyProof.Rows PySem.Calls
namespace Mine
open Mine.Hd
noncomputable def DatI (its:Array Value)(v:Str):Prop:=(∃ t,its=#[.str v t])\/∃ a b ta tb,its=#[.str a ta,.str b tb]/\v=a++b/\a.length<=5000/\b.length<=5000
theorem DatI.one {v:Str}{t:Tok}:DatI #[.str v t] v:=.inl ⟨t,rfl⟩
theorem DatI.two {a b:Str}{ta tb:Tok}(ha:a.length<=5000)(hb:b.length<=5000):DatI #[.str a ta,.str b tb] (a++b):=.inr ⟨a,b,ta,tb,rfl,rfl,ha,hb⟩
section
variable {prog:Program}{w:World}{A:Around}{E:Value->Shared->Prop}{s s₀:Shared}{h₀:Heap}{L D:Addr}{m:PySem.Str->Option Value}{news:List (Addr×Obj)}{its:Array Value}{n:Nat}{v:Str}
theorem truthyI {Q:Bool->Shared->Prop}(N:News h₀ L s.heap news)(hD:DatI its v)(hm:(D,listOf its n)∈news)(h:Q true { s with toks:=s.toks + 1 + 1 }):wpAny (model prog w) A (truthy (.ref D)) Q E s:=by
 rcases hD with ⟨t,rfl⟩ | ⟨a,b,ta,tb,rfl,_⟩
 ·exact truthyL N hm rfl rfl h
 ·exact truthyL N hm rfl rfl h
theorem joinI {Q:Value->Shared->Prop}(X:(heapK w.params).In h₀)(F:Fr h₀ L s.heap m)(N:News h₀ L s.heap news)(hD:DatI its v)(hm:(D,listOf its n)∈news)(hv:v.length<=10000)(h:∀ t' k,Q (.str v t') { s with toks:=k }):wpAny (model prog w) A (call (.ref 149) [.ref D]) Q E s:=by
 rcases hD with ⟨t,rfl⟩ | ⟨a,b,ta,tb,rfl,rfl,ha,hb⟩
 ·exact jn149_one X F N hm (by omega) h
 ·exact jn149_two X F N hm (by omega) (by omega) h
theorem kdelI {p:Pos}{env:Env}{g:Obj->List (Addr×Obj)}{k:Nat}{as rs:List Addr}{Q:Unit->Shared->Prop}(F:Fr h₀ L s.heap m)(N:News h₀ L s.heap news)(S:SB s₀ s)(hD:DatI its v)(H:Ap as rs)(e:addrs news=as++rs)(U:UpdFS D (listOf its n) k news g)(hn:Nat.ble (k + 1) as.length=true)
  (h:∀ s',Fr h₀ L s'.heap m->News h₀ L s'.heap (g (listOf #[] (n + 1)))->SB s₀ s'->Q () s') :
  wpAny (model prog w) A (eval (.Slice none none none p) env) (fun iv s₂=>wpAny (model prog w) A (delItem (.ref D) iv) Q E s₂) E s:=
 kdel_all F N (updF_ap H e U hn) (by rcases hD with ⟨t,rfl⟩ | ⟨a,b,ta,tb,rfl,_⟩;exact .inl ⟨_,rfl⟩;exact .inr ⟨_,_,rfl⟩) fun _ F' N'=>h _ F' N' S
end
end Mine
end XU5
section XW15
open PySem PySem.W PyProof.Rows PySem.Calls
namespace Mine.W15
open Mine.Hd
theorem eqi_t {prog:Program}{w:World}{A:Around}{E:Value->Shared->Prop}{s:Shared}{a b:Int}{t u:Tok}{Q:Value->Shared->Prop}(hn:a=b)(h:Q (.bool true) s):wpAny (model prog w) A (compareOp .Eq (.int a t) (.int b u)) Q E s:=PyProof.Rows.eq_int (by subst hn;simpa using h)
theorem eqi_f {prog:Program}{w:World}{A:Around}{E:Value->Shared->Prop}{s:Shared}{a b:Int}{t u:Tok}{Q:Value->Shared->Prop}(hn:a≠b)(h:Q (.bool false) s):wpAny (model prog w) A (compareOp .Eq (.int a t) (.int b u)) Q E s:=PyProof.Rows.eq_int (by rw [show (a == b)=false from by simpa using hn];exact h)
theorem eqi_s {prog:Program}{w:World}{A:Around}{E:Value->Shared->Prop}{s:Shared}{a b:Int}{t u:Tok}{Q:Value->Shared->Prop}(h:a=b->Q (.bool true) s) (h2:a≠b->Q (.bool false) s):wpAny (model prog w) A (compareOp .Eq (.int a t) (.int b u)) Q E s:=by
 by_cases e:a=b
 ·exact eqi_t e (h e)
 ·exact eqi_f e (h2 e)
theorem sz_of {its:Array Value}{v:Value}{n:Nat}(h:its.size<=n):(its.push v).size<=n + 1:=by rw [Array.size_push];omega
theorem sz_line {its:Array Value}{n:Nat}(h:its.size<=n)(hn:n<=100):its.size<=sizeLine:=by rw [sizeLine_eq];omega
theorem out2 {its:Array Value}{txt e a:Str}{t t':Tok} {n0:Nat}(ho:OutIs its txt n0)(ha:a=Str.ofString "</n>"):OutIs ((its.push (.str e t)).push (.str a t')) (txt++e++Str.ofString "</n>") (n0 + 2):=by subst ha;exact ho.push.push
theorem out1 {its:Array Value}{txt v a:Str}{t':Tok} {n0:Nat}(ho:OutIs its txt n0)(hv:(v.length:Int)=0)(ha:a=Str.ofString "</n>"):OutIs (its.push (.str a t')) (txt++mapS (tabF tabC) v++Str.ofString "</n>") (n0 + 2):=by
 subst ha
 have h:v=PySem.Str.empty:=by
  obtain ⟨c⟩:=v
  have h2:c.size=0:=by exact Int.ofNat.inj hv
  have h3:c=#[]:=Array.eq_empty_of_size_eq_zero h2
  rw [h3];rfl
 subst h
 rw [show mapS (tabF tabC) PySem.Str.empty=PySem.Str.empty from rfl,app_empty]
 exact ho.push.grow (Nat.le_succ _)
theorem wt10:True:=by
 k_with "W15 omega" => k_extra "A65"
 k_with "W15 cell_enter" => k_extra "A5"
 k_with "W15 k_steps" => k_extra "A6"
 k_with "W15 execs cons" => k_extra "A7"
 k_with "W15 execs nil" => k_extra "A8"
 k_with "W15 eval Name" => k_extra "A9"
 k_with "W15 getMethod ref" => k_extra "A35"
 k_with "W15 getMethod ref" => k_extra "A66"
 k_with "W15 callWith ref" => k_extra "A15"
 k_with "W15 storeName" => k_extra "A36"
 k_with "W15 k_upd" => k_extra "A37"
 k_with "W15 k_updF" => k_extra "A38"
 k_with "W15 lt" => k_extra "A39"
 k_with "W15 setAttr ref" => k_extra "A67"
 k_with "W15 getAttr ref" => k_extra "A16"
 k_with "W15 callWith ref" => k_extra "A17"
 k_with "W15 And" => k_extra "A18"
 k_with "W15 call ref" => k_extra "A41"
 k_with "W15 call builtin:list.append" => k_extra "A42"
 k_with "W15 call builtin:list.pop" => k_extra "A68"
 k_with "W15 call ref" => k_extra "A69"
 k_with "W15 call ref" => k_extra "A70"
 k_with "W15 truthy ref" => k_extra "A71"
 k_with "W15 call ref" => k_extra "A72"
 k_with "W15 eval Slice" => k_extra "A73"
 k_with "W15 compareOp Eq int int" => k_extra "A74"
 k_with "W15 exec If" => k_extra "A45"
 k_with "W15 compareOp Eq str str" => k_extra "A75"
 k_with "W15 callWith ref" => k_extra "A76"
 k_with "W15 And" => k_extra "A77"
 k_with "W15 eval Constant int" => k_extra "A30"
 k_with "W15 eval Constant str" => k_extra "A31"
 k_with "W15 binaryOp Add int int" => k_extra "A32"
 k_with "W15 binaryOp Sub int int" => k_extra "A33"
 k_with "W15 unaryOp USub int" => k_extra "A34"
 exact True.intro
noncomputable def end_ct.P (x:Addr) (k1:Tok)(q:Nat->Tok)(s:Shared) (d A D C Nn Pm Ps c1 c2 T1 b1 b2 b3 O:Addr) (e2 eP eN eC e1 eD eO n0:Nat) (u1 u2:Tok)(v txt:Str)(its itd:Array Value)(zt:Tok) (p news m L)(dp un:Nat)(w:World) (loose mean mg mb gd cn)(cs:Scope) (a ccd cl outer A₀ base h₀)(Q E:Value->Shared->Prop):=∀ (B:Below A₀ base outer h₀)(F:Fr h₀ L s.heap m)(X:(heapK w.params).In h₀)(T:Top p loose mean mg mb h₀)(hk:cs.kind = .function)(hd:dp + 80 < recursionLimit)(hu:un + 700 < cLine)(hD:DatI itd v) (G0:AllBare s.gens)(hv:v.length<=10000)(ho:OutIs its txt n0) (hn0:n0<=20)(hsz:its.size<=20)(AP:Ap [c2,Ps,Nn,C,c1,T1,D,x,d,A,O] (addrs news))(N:News h₀ L s.heap ((c2,listOf #[] e2)::(Ps,listOf #[.bool false,.bool false] eP)::(Nn,listOf #[.ref b1,.ref b2,.ref b3] eN)::(C,listOf #[.ref c1,.ref c2] eC)::(c1,listOf #[.ref T1] e1)::(T1,xT u1 u2)::(D,listOf itd eD)::(x,instObj 201 d)::(d,dictOf (idc w q A D C Nn Pm Ps zt true false) 17)::(A,appObj O)::(O,listOf its eO)::news))(hret:∀ (s9:Shared) (its9:Array Value) (e9:Nat),SB s s9->Fr h₀ L s9.heap m->News h₀ L s9.heap ((O,listOf its9 e9)::news)->OutIs its9 (txt++mapS (tabF tabC) v++Str.ofString "</n>") (n0 + 2)->Q .none s9),wpAny (model rw_re0182_01.row.prog w) (ktrTop dp un gd cn cs L a ccd cl outer) (call (.ref 184) [.ref x,.str (Str.ofString "n") k1]) Q E s
namespace end_ct
noncomputable def R:=(s4 <| s4 <| s4 <| s4 <| s4 <| s4 <| s4 <| s4 <| s4 <| s4 <| s4 <| s4 <| s4 <| st <| st <| st <| id) P
@[irreducible] noncomputable def z:=zy R (by k_extra "N")
@[irreducible] noncomputable def x:=f1 z
@[irreducible] noncomputable def k1:=f1 (f2 z)
@[irreducible] noncomputable def q:=f1 (f2 (f2 z))
@[irreducible] noncomputable def s:=f1 (f2 (f2 (f2 z)))
@[irreducible] noncomputable def zr:=f2 (f2 (f2 (f2 z)))
theorem T:(s4 <| s4 <| s4 <| s4 <| s4 <| s4 <| s4 <| s4 <| s4 <| s4 <| s4 <| s4 <| st <| st <| st <| id) (P x k1 q s) zr:=by
 intro B F X T hk hd hu hD G0 hv ho hn0 hsz AP N hret
 revert X;k_fill;intro X
 w_on
 have S0:SB s s:=⟨rfl,G0⟩
 refine wpAny_call ?_
 (rename SB _ _=>s9);k_dflt (refine' enterBZ [(Str.ofString "self",.ref x),(Str.ofString "tag",.str (Str.ofString "n") k1)] s9 ?k1 ?k2 ?k3 ?k4 ?k5 ?kA ?kF ?kK ?k6 ?k7 ?k8 ?k9 ?kB ?_ ?c2 ?c3 ?c4 ?c5;cell_enter);clear s9
 k_steps
 all_goals ((rename News _ _ _ _=>kN9);(rename Fr _ _ _ _=>kF9);(rename SB _ _=>kS9))
 all_goals (k_dflt (refine' hret _ _ _ kS9 kF9 (news_dup kN9 ?iO ?tl) ?out;(case iO=>k_mem);(case tl=>exact fun q hq=>kN9 q (by repeat (first | exact hq | refine List.Mem.tail _ ?_)));(case out=>first | exact out2 ho rfl | exact out1 ho (by assumption) rfl)))
end end_ct
theorem end_ct (x k1 q s d A D C Nn Pm Ps c1 c2 T1 b1 b2 b3 O e2 eP eN eC e1 eD eO n0 u1 u2 v txt its itd zt) {p} (news m L dp un) {w loose mean mg mb} (gd cn cs a ccd cl outer A₀ base h₀ Q E):end_ct.P x k1 q s d A D C Nn Pm Ps c1 c2 T1 b1 b2 b3 O e2 eP eN eC e1 eD eO n0 u1 u2 v txt its itd zt p news m L dp un w loose mean mg mb gd cn cs a ccd cl outer A₀ base h₀ Q E:=by with_unfolding_all exact zy_all _ end_ct.R end_ct.T (x,k1,q,s,d,A,D,C,Nn,Pm,Ps,c1,c2,T1,b1,b2,b3,O,e2,eP,eN,eC,e1,eD,eO,n0,u1,u2,v,txt,its,itd,zt,p,news,m,L,dp,un,w,loose,mean,mg,mb,gd,cn,cs,a,ccd,cl,outer,A₀,base,h₀,Q,E)
end Mine.W15
end XW15
open Mine.W15
section XL10
open PySem PySem.W PyProof.Rows PySem.Calls
namespace Mine
theorem OutIs.one {a:PySem.Str}{t:Tok}:OutIs #[.str a t] a 1:=⟨[(a,t)],rfl,app_empty a,Nat.le_refl _⟩
theorem allLt_mem {O:Addr}{news:List (Addr×Obj)}(JO:AllLt O news):∀ q∈news,@LT.lt Nat _ q.1 O:=by
 induction news with
 | nil=>intro q hq;cases hq
 | cons p l ih=>
  intro q hq
  rcases List.mem_cons.mp hq with rfl | hq
  ·exact JO.1
  ·exact ih JO.2 q hq
theorem hne_of {O c2 c9 P:Addr}{a b:Obj}{news:List (Addr×Obj)}(JO:AllLt O news)(hP:@LT.lt Nat _ P O)(hc:@LT.lt Nat _ c9 O\/@LT.lt Nat _ c2 c9):∀ q∈(P,a)::(c9,b)::news,@LT.lt Nat _ q.1 O\/@LT.lt Nat _ c2 q.1:=by
 intro q hq
 rcases List.mem_cons.mp hq with rfl | hq
 ·exact .inl hP
 ·rcases List.mem_cons.mp hq with rfl | hq
  ·exact hc
  ·exact .inl (allLt_mem JO q hq)
end Mine
end XL10
section XW2
open PySem PySem.W PyProof.Rows PySem.Calls
namespace Mine.W2
open Mine.Hd
theorem wt11:True:=by
 k_with "W2 cell_enter" => k_extra "A12"
 k_with "W2 getAttr ref" => k_extra "A16"
 k_with "W2 callWith ref" => k_extra "A17"
 k_with "W2 And" => k_extra "A18"
 k_with "W2 call ref" => k_extra "A19"
 k_with "W2 cell_enter" => k_extra "A78"
 k_with "W2 eval ListComp" => k_extra "A79"
 k_with "W2 SrcT" => k_extra "A80"
 k_with "W2 CompEnd" => k_extra "A81"
 k_with "W2 getMethod ref" => k_extra "A82"
 k_with "W2 call builtin:dict.get" => k_extra "A83"
 k_with "W2 call builtin:str.join" => k_extra "A84"
 k_with "W2 eval Constant int" => k_extra "A30"
 k_with "W2 eval Constant str" => k_extra "A31"
 k_with "W2 binaryOp Add int int" => k_extra "A32"
 k_with "W2 binaryOp Sub int int" => k_extra "A33"
 k_with "W2 unaryOp USub int" => k_extra "A34"
 exact True.intro
noncomputable def spel_ct.P (p)(v:Str) (k1:Tok)(d:Addr)(o:Obj)(tab:List (Nat×List Nat)) (news)(s:Shared) (m L)(dp un:Nat)(w:World) (loose mean mg mb gd cn)(cs:Scope) (a ccd cl outer A₀ base h₀)(Q E:Value->Shared->Prop):=∀ (B:Below A₀ base outer h₀)(F:Fr h₀ L s.heap m)(X:(heapK w.params).In h₀)(N:News h₀ L s.heap news)(T:Top p loose mean mg mb h₀)(hk:cs.kind = .function)(hd:dp + 20 < recursionLimit)(hu:un + 200 < cLine)(ho:(d,o)∈news)(hT:IsTab rw_re0182_01.row.prog w d o tab)(htab:∀ c,(tabF tab c).length<=6)(hv:v.length<=10000)(hret:∀ t h' tk',Fr h₀ L h' m->News h₀ L h' news->Q (.str (mapS (tabF tab) v) t) { s with heap:=h',toks:=tk' }),wpAny (model rw_re0182_01.row.prog w) (ktrTop dp un gd cn cs L a ccd cl outer) (call (.ref 224) [.str v k1,.ref d]) Q E s
namespace spel_ct
noncomputable def R:=(s4 <| s4 <| s4 <| s4 <| s4 <| s4 <| s4 <| id) P
@[irreducible] noncomputable def z:=zy R (by k_extra "N")
@[irreducible] noncomputable def p:=f1 z
@[irreducible] noncomputable def zr:=f2 z
theorem T:(s4 <| s4 <| s4 <| s4 <| s4 <| s4 <| st <| st <| st <| id) (P p) zr:=by
 intro B F X N T hk hd hu ho hT htab hv hret
 revert X;k_fill;intro X
 w_on
 refine wpAny_call ?_
 k_dflt cell_enter
 k_steps
 all_goals k_dflt (refine cb_retS hret rfl (by assumption) (by (rename News _ _ _ _=>nz);exact fun p hp=>nz p (by repeat (first | assumption | refine List.Mem.tail _ ?_))))
end spel_ct
theorem spel_ct {p} (v k1 d o tab news s m L dp un) {w loose mean mg mb} (gd cn cs a ccd cl outer A₀ base h₀ Q E):spel_ct.P p v k1 d o tab news s m L dp un w loose mean mg mb gd cn cs a ccd cl outer A₀ base h₀ Q E:=by with_unfolding_all exact zy_all _ spel_ct.R spel_ct.T (p,v,k1,d,o,tab,news,s,m,L,dp,un,w,loose,mean,mg,mb,gd,cn,cs,a,ccd,cl,outer,A₀,base,h₀,Q,E)
theorem spel_use {w:World}{p:Program}{loose:List Str}{mean:ExcName->Option Value}{mg mb:Str->Option Value}{dp un:Nat}{gd:Option (List Code)}{cn:Str}{cs:Scope}{a:Addr}{ccd:Value}{cl:List (Str×Addr)}{outer:List Env}{A₀:Around}{base h₀:Heap}{L:Addr}{m:Str->Option Value}{news:List (Addr×Obj)}{s:Shared}{Q E:Value->Shared->Prop}{v:Str} {k1:Tok}{d:Addr}{o:Obj}{tab:List (Nat×List Nat)}
  (B:Below A₀ base outer h₀)(F:Fr h₀ L s.heap m)(X:(heapK w.params).In h₀)(N:News h₀ L s.heap news)(T:Top p loose mean mg mb h₀)(hk:cs.kind = .function)(hd:dp + 20 < recursionLimit)(hu:un + 200 < cLine)
  (ho:(d,o)∈news)(hT:IsTab rw_re0182_01.row.prog w d o tab)(htab:∀ c,(tabF tab c).length<=6)(hv:v.length<=10000)
  (hret:∀ r t h' tk',r=mapS (tabF tab) v->r.length<=6 * v.length->Fr h₀ L h' m->News h₀ L h' news->Q (.str r t) { s with heap:=h',toks:=tk' }) :
  wpAny (model rw_re0182_01.row.prog w) (ktrTop dp un gd cn cs L a ccd cl outer) (call (.ref 224) [.str v k1,.ref d]) Q E s:=
 spel_ct v k1 d o tab news s m L dp un gd cn cs a ccd cl outer A₀ base h₀ Q E B F X N T hk hd hu ho hT htab hv fun t h' tk' F' N'=>hret _ t h' tk' rfl (mapS_length _ 6 htab v) F' N'
end Mine.W2
end XW2
open Mine.W2
section XW3
open PySem PySem.W PyProof.Rows PySem.Calls
namespace Mine.W3
open Mine.Hd
theorem wt12:True:=by
 k_with "W3 omega" => k_extra "A65"
 k_with "W3 cell_enter" => k_extra "A5"
 k_with "W3 k_steps" => k_extra "A6"
 k_with "W3 execs cons" => k_extra "A7"
 k_with "W3 execs nil" => k_extra "A8"
 k_with "W3 eval Name" => k_extra "A9"
 k_with "W3 callWith ref" => k_extra "A15"
 k_with "W3 storeName" => k_extra "A10"
 k_with "W3 getAttr ref" => k_extra "A16"
 k_with "W3 callWith ref" => k_extra "A17"
 k_with "W3 And" => k_extra "A18"
 k_with "W3 call ref" => k_extra "A19"
 k_with "W3 call ref" => k_extra "A85"
 exact True.intro
theorem add_bd {prog:Program}{w:World}{A:Around}{E:Value->Shared->Prop}{s:Shared}{x y:Str}{t u:Tok}{Q:Value->Shared->Prop}{K L:Nat}(hx:x.length<=K)(hy:y.length<=L)(hs:Nat.ble (K + L) 16777216=true)(h:∀ t' k,(x++y).length<=K + L->Q (.str (x++y) t') { s with toks:=k }) :
  wpAny (model prog w) A (binaryOp .Add (.str x t) (.str y u)) Q E s:=
 KXadd.add hx hy (Nat.le_of_ble_eq_true hs) fun t' k _=>h t' k (by rw [PySem.Str.length_append];exact Nat.add_le_add hx hy)
theorem wt13:True:=by
 k_with "W3 binaryOp Add str str" => k_extra "A86"
 k_with "W3 eval Constant int" => k_extra "A30"
 k_with "W3 eval Constant str" => k_extra "A31"
 k_with "W3 binaryOp Add int int" => k_extra "A32"
 k_with "W3 binaryOp Sub int int" => k_extra "A33"
 k_with "W3 unaryOp USub int" => k_extra "A34"
 exact True.intro
noncomputable def doc_ct.P (v ml tx:Str)(pl:Int) (k1 k2 k3 k4:Tok) (p news)(s:Shared) (m L)(dp un:Nat)(w:World) (loose mean mg mb gd cn)(cs:Scope) (a ccd cl outer A₀ base h₀)(Q E:Value->Shared->Prop):=∀ (B:Below A₀ base outer h₀)(F:Fr h₀ L s.heap m)(X:(heapK w.params).In h₀)(N:News h₀ L s.heap news)(T:Top p loose mean mg mb h₀)(hk:cs.kind = .function)(hd:dp + 50 < recursionLimit)(hu:un + 500 < cLine) (h0:0<=pl) (h3:pl < 4)(hv:v.length<=1)(hml:ml.length<=1000)(htx:tx.length<=2)(hret:∀ t h' tk',Fr h₀ L h' m->News h₀ L h' news->Q (.str (docS pl v ml tx) t) { s with heap:=h',toks:=tk' }),wpAny (model rw_re0182_01.row.prog w) (ktrTop dp un gd cn cs L a ccd cl outer) (call (.ref 231) [.str v k1,.int pl k2,.str ml k3,.str tx k4]) Q E s
namespace doc_ct
noncomputable def R:=(s4 <| s4 <| s4 <| s4 <| s4 <| s4 <| s4 <| st <| st <| st <| id) P
@[irreducible] noncomputable def z:=zy R (by k_extra "N")
@[irreducible] noncomputable def v:=f1 z
@[irreducible] noncomputable def ml:=f1 (f2 z)
@[irreducible] noncomputable def tx:=f1 (f2 (f2 z))
@[irreducible] noncomputable def pl:=f1 (f2 (f2 (f2 z)))
@[irreducible] noncomputable def k1:=f1 (f2 (f2 (f2 (f2 z))))
@[irreducible] noncomputable def k2:=f1 (f2 (f2 (f2 (f2 (f2 z)))))
@[irreducible] noncomputable def k3:=f1 (f2 (f2 (f2 (f2 (f2 (f2 z))))))
@[irreducible] noncomputable def k4:=f1 (f2 (f2 (f2 (f2 (f2 (f2 (f2 z)))))))
@[irreducible] noncomputable def p:=f1 (f2 (f2 (f2 (f2 (f2 (f2 (f2 (f2 z))))))))
@[irreducible] noncomputable def zr:=f2 (f2 (f2 (f2 (f2 (f2 (f2 (f2 (f2 z))))))))
theorem T:(s4 <| s4 <| s4 <| s4 <| s4 <| st <| st <| id) (P v ml tx pl k1 k2 k3 k4 p) zr:=by
 intro B F X N T hk hd hu h0 h3 hv hml htx hret
 revert X;k_fill;intro X
 w_on
 refine wpAny_call ?_
 k_dflt (refine' enterZ [(Str.ofString "value",.str v k1),(Str.ofString "place",.int pl k2),(Str.ofString "mail",.str ml k3),(Str.ofString "text",.str tx k4)] ?k1 ?k2 ?k3 ?k4 ?k5 ?kA ?kF ?kK ?k6 ?k7 ?k8 ?k9 ?kB ?_ ?c2 ?c3 ?c4 ?c5;cell_enter)
 k_steps
 all_goals (k_dflt (refine ret_same (by assumption) ?_;refine cb_retS hret ?_ (by assumption) (by (rename News _ _ _ _=>nz);exact fun p hp=>nz p (by repeat (first | assumption | refine List.Mem.tail _ ?_)))))
 all_goals (subst_vars;first | rfl | simp [docS,docB,docA,escV,escT, *])
end doc_ct
theorem doc_ct (v ml tx pl k1 k2 k3 k4) {p} (news s m L dp un) {w loose mean mg mb} (gd cn cs a ccd cl outer A₀ base h₀ Q E):doc_ct.P v ml tx pl k1 k2 k3 k4 p news s m L dp un w loose mean mg mb gd cn cs a ccd cl outer A₀ base h₀ Q E:=by with_unfolding_all exact zy_all _ doc_ct.R doc_ct.T (v,ml,tx,pl,k1,k2,k3,k4,p,news,s,m,L,dp,un,w,loose,mean,mg,mb,gd,cn,cs,a,ccd,cl,outer,A₀,base,h₀,Q,E)
end Mine.W3
end XW3
open Mine.W3
section XP3
set_option tactic.hygienic true
namespace Mine
open PySem PySem.Builtin PySem.Builtin.Str
theorem slice_of {x:PySem.Str}{l u:Option Int}{a b:Nat}(hI:strSliceIndices l u 1 x.length=strSliceIndices (some (a:Int)) (some (b:Int)) 1 x.length)(hab:a<=b)(hb:b<=x.length):(Txt.slice x l u).cps.toList=(x.cps.toList.drop a).take (b - a):=by
 have h1:=StrLaws.sliced_plain x hab hb
 unfold Txt.slice
 rw [hI]
 split
 ·rename_i h
  rw [StrLaws.strSliceIndices_plain hab hb] at h
  simp only [List.length_map,List.length_range,beq_self_eq_true,Bool.true_and,beq_iff_eq] at h
  have hb':b=x.length:=Nat.le_antisymm hb (h ▸ Nat.sub_le b a)
  have ha:a=0:=Nat.add_left_cancel (n:=x.length) (((Nat.sub_eq_iff_eq_add hab).mp h).symm.trans hb')
  subst ha hb'
  have e:x.cps.toList.length=x.length:=Array.length_toList
  rw [List.drop_zero,Nat.sub_zero,List.take_of_length_le (by rw [e];exact Nat.le_refl _)]
 ·exact h1
theorem slice_ab (x:PySem.Str){a b:Nat}(hab:a<=b)(hb:b<=x.length):(Txt.slice x (some (a:Int)) (some (b:Int))).cps.toList=(x.cps.toList.drop a).take (b - a):=slice_of rfl hab hb
theorem clampN {n m:Nat}(h:n<=m):max (0:Int) (min (n:Int) m)=n:=by rw [Int.min_eq_left (Int.ofNat_le.mpr h),Int.max_eq_right (Int.natCast_nonneg n)]
theorem clip_n {n m:Nat}(h:n<=m):max (0:Int) (min (if (n:Int) < 0 then (n:Int) + m else n) m)=n:=by rw [if_neg (Int.not_lt.mpr (Int.natCast_nonneg n))];exact clampN h
theorem clip_m {m:Nat}(h:1<=m):max (0:Int) (min (-1 + (m:Int)) m)=((m - 1:Nat):Int):=by
 rw [show (-1:Int) + m=((m - 1:Nat):Int) from by rw [Int.ofNat_sub h,Int.add_comm];rfl];exact clampN (Nat.sub_le _ _)
theorem slice_a (x:PySem.Str){a:Nat}(hb:a<=x.length):(Txt.slice x (some (a:Int)) none).cps.toList=x.cps.toList.drop a:=by
 have e:x.cps.toList.length=x.length:=Array.length_toList
 rw [slice_of (a:=a) (b:=x.length) ?_ hb (Nat.le_refl _)]
 ·rw [List.take_of_length_le];rw [List.length_drop,e];exact Nat.le_refl _
 ·unfold strSliceIndices
  dsimp only
  simp only [show (1:Int) > 0 from by decide,if_true]
  congr 1
  exact (clip_n (Nat.le_refl _)).symm
theorem slice_am (x:PySem.Str){a:Nat}(hb:a + 1<=x.length):(Txt.slice x (some (a:Int)) (some (-1))).cps.toList=(x.cps.toList.drop a).take (x.length - 1 - a):=by
 rw [slice_of (a:=a) (b:=x.length - 1) ?_ (Nat.le_sub_of_add_le hb) (Nat.sub_le _ _)]
 unfold strSliceIndices
 dsimp only
 simp only [show (1:Int) > 0 from by decide,if_true,show (-1:Int) < 0 from by decide]
 congr 1
 exact (clip_m (Nat.le_trans (Nat.le_add_left 1 a) hb)).trans (clip_n (Nat.sub_le _ _)).symm
theorem slice_m (x:PySem.Str)(hb:1<=x.length):(Txt.slice x none (some (-1))).cps.toList=x.cps.toList.take (x.length - 1):=by
 rw [slice_of (a:=0) (b:=x.length - 1) ?_ (Nat.zero_le _) (Nat.sub_le _ _)]
 ·simp
 ·unfold strSliceIndices
  dsimp only
  simp only [show (1:Int) > 0 from by decide,if_true,show (-1:Int) < 0 from by decide]
  congr 1
  all_goals first | exact (clip_m hb).trans (clip_n (Nat.sub_le _ _)).symm | exact (clip_n (Nat.le_refl _)).symm | exact (clip_n (Nat.zero_le _)).symm
theorem slice_last (x:PySem.Str)(hb:1<=x.length):(Txt.slice x (some (-1)) none).cps.toList=x.cps.toList.drop (x.length - 1):=by
 have e:x.cps.toList.length=x.length:=Array.length_toList
 rw [slice_of (a:=x.length - 1) (b:=x.length) ?_ (Nat.sub_le _ _) (Nat.le_refl _)]
 ·rw [List.take_of_length_le];rw [List.length_drop,e];exact Nat.le_refl _
 ·unfold strSliceIndices
  dsimp only
  simp only [show (1:Int) > 0 from by decide,if_true,show (-1:Int) < 0 from by decide]
  congr 1
  all_goals first | exact (clip_m hb).trans (clip_n (Nat.sub_le _ _)).symm | exact (clip_n (Nat.le_refl _)).symm | exact (clip_n (Nat.zero_le _)).symm
theorem len_list (x:PySem.Str):x.cps.toList.length=x.length:=Array.length_toList
theorem slice_ab_len (x:PySem.Str){a b:Nat}(hab:a<=b)(hb:b<=x.length):(Txt.slice x (some (a:Int)) (some (b:Int))).length=b - a:=by
 rw [<- len_list,slice_ab x hab hb,List.length_take,List.length_drop,len_list];exact Nat.min_eq_left (Nat.sub_le_sub_right hb a)
noncomputable def bCut (wd:Int)(ln:PySem.Str)(st:Int):PySem.Str×Int:=
 if (Txt.item ln (st + (wd - 1) - 2) == PySem.Str.ofString "=")=true then (Txt.slice ln (some st) (some (st + (wd - 1) - 1)),st + (wd - 1) - 2)
 else if (Txt.item ln (st + (wd - 1) - 1) == PySem.Str.ofString "=")=true then (Txt.slice ln (some st) (some (st + (wd - 1))),st + (wd - 1) - 1)
 else (Txt.slice ln (some st) (some (st + (wd - 1)))++PySem.Str.ofString "=",st + (wd - 1))
noncomputable def bRun (wd:Int)(ln:PySem.Str):Nat->List PySem.Str->Int->List PySem.Str×Int
 | 0,rows,st=>(rows,st)
 | n + 1,rows,st=>if st<=(ln.length:Int) - 1 - wd then bRun wd ln n (rows++[(bCut wd ln st).1]) (bCut wd ln st).2 else (rows,st)
theorem bRun_end {wd:Int}{ln:PySem.Str}{n:Nat}{rows:List PySem.Str}{st:Int}(h:¬ st<=(ln.length:Int) - 1 - wd):bRun wd ln n rows st=(rows,st):=by
 cases n with
 | zero=>rfl
 | succ n=>unfold bRun;rw [if_neg h]
theorem cut_ok {s j L m:Nat}{x:Int}(e:x=((s + (j + 1):Nat):Int))(hL:s + (j + 1)<=L)(hm:m=j + 2):(s:Int) < x/\x<=(L:Int)/\(m:Int)=x - s + 1:=by
 subst e hm
 refine ⟨Int.ofNat_lt.mpr (Nat.lt_add_of_pos_right (Nat.succ_pos j)),Int.ofNat_le.mpr hL,?_⟩
 rw [Int.natCast_add s,Int.add_comm (s:Int),Int.add_sub_cancel];rfl
theorem bCut_step {wd:Int}{ln:PySem.Str}{st:Int}(hw:4<=wd) (h0:0<=st)(h:st<=(ln.length:Int) - 1 - wd):st < (bCut wd ln st).2/\(bCut wd ln st).2<=(ln.length:Int)/\(((bCut wd ln st).1.length:Nat):Int)=(bCut wd ln st).2 - st + 1:=by
 obtain ⟨s,rfl⟩:=Int.eq_ofNat_of_zero_le h0
 obtain ⟨k,rfl⟩:=Int.le.dest hw
 have hN:s + (4 + k) + 1<=ln.length:=Int.ofNat_le.mp (Int.add_le_of_le_sub_right (Int.add_le_of_le_sub_right h))
 rw [Nat.add_comm 4 k] at hN
 have e3:(s:Int) + (4 + k - 1)=((s + k + 3:Nat):Int):=congrArg ((s:Int) + ·) ((congrArg (·- 1) (Int.add_comm 4 k)).trans (Int.add_sub_cancel ((k:Int) + 3) 1))
 have e2:(s:Int) + (4 + k - 1) - 1=((s + k + 2:Nat):Int):=(congrArg (·- 1) e3).trans (Int.add_sub_cancel ((s + k + 2:Nat):Int) 1)
 have e1:(s:Int) + (4 + k - 1) - 2=((s + k + 1:Nat):Int):=(congrArg (·- 2) e3).trans (Int.add_sub_cancel ((s + k + 1:Nat):Int) 2)
 have h3:s + k + 3<=ln.length:=Nat.le_trans (Nat.le_add_right (s + k + 3) 2) hN
 have s1:=(slice_ab_len ln (a:=s) (b:=s + k + 2) (Nat.le_add_right s (k + 2)) (Nat.le_of_succ_le h3)).trans (Nat.add_sub_cancel_left (n:=s) (m:=k + 2))
 have s2:=(slice_ab_len ln (a:=s) (b:=s + k + 3) (Nat.le_add_right s (k + 3)) h3).trans (Nat.add_sub_cancel_left (n:=s) (m:=k + 3))
 unfold bCut
 rw [e1,e2,e3]
 split
 ·exact cut_ok (j:=k) rfl (Nat.le_of_succ_le (Nat.le_of_succ_le h3)) s1
 ·split
  ·exact cut_ok (j:=k + 1) rfl (Nat.le_of_succ_le h3) s2
  ·exact cut_ok (j:=k + 2) rfl h3 (by rw [len_app];exact congrArg (·+ 1) s2)
end Mine
namespace Mine
open PySem PySem.Builtin PySem.Builtin.Str
noncomputable def blanks (x:PySem.Str):Bool:=!(occurrences (PySem.Str.ofString " \t") x 0 (PySem.Str.ofString " \t").length 1).isEmpty
noncomputable def bTail (wd:Int)(e ln:PySem.Str)(rows:List PySem.Str)(st:Int):List PySem.Str:=
 if ln.length≠0/\blanks (Txt.item ln (-1))=true then
  rows++[Txt.slice ln (some st) (some (-1)) ++
   (if 3<=st - ((ln.length:Int) - 1 - wd) then (if (Txt.item ln (-1) == PySem.Str.ofString " ")=true then PySem.Str.ofString "=20" else PySem.Str.ofString "=09")
    else if st - ((ln.length:Int) - 1 - wd)=2 then Txt.item ln (-1)++(PySem.Str.ofString "=" ++ e)
    else PySem.Str.ofString "=" ++ e++(if (Txt.item ln (-1) == PySem.Str.ofString " ")=true then PySem.Str.ofString "=20" else PySem.Str.ofString "=09"))]
 else rows++[Txt.slice ln (some st) none]
noncomputable def bLine (wd:Int)(e:PySem.Str)(rows:List PySem.Str)(ln:PySem.Str):List PySem.Str:=bTail wd e ln (bRun wd ln ln.length rows 0).1 (bRun wd ln ln.length rows 0).2
end Mine
namespace Mine
open PySem PySem.Builtin PySem.Builtin.Str
theorem brun_aux {st x r:Int}{c al rl wa wr:Nat} (h0:0<=st) (h1:st < x) (h2:(c:Int)=x - st + 1) (k3:al + x.toNat<=rl + 1 + r.toNat) (k4:wa + 2 * x.toNat<=wr + c + 2 * r.toNat):al + st.toNat<=rl + r.toNat/\wa + 2 * st.toNat<=wr + 2 * r.toNat:=by
 obtain ⟨a,rfl⟩:=Int.eq_ofNat_of_zero_le h0
 obtain ⟨d,rfl⟩:=Int.le.dest h1
 have e:c=d + 2:=Int.ofNat.inj (h2.trans (by rw [Int.add_assoc,Int.add_comm (a:Int),Int.add_sub_cancel,Int.add_comm 1];rfl))
 subst e
 have k3:al + (a + 1 + d)<=rl + 1 + r.toNat:=k3
 have k4:wa + 2 * (a + 1 + d)<=wr + (d + 2) + 2 * r.toNat:=k4
 rw [Nat.add_right_comm rl] at k3
 rw [Nat.add_right_comm wr] at k4
 have k5:wa + 2 * a + (d + 2)<=wa + 2 * (a + 1 + d):=?_
 exact (⟨Nat.le_of_succ_le_succ (Nat.le_trans (Nat.add_le_add_left (Nat.le_add_right (a + 1) d) al) k3),Nat.le_of_add_le_add_right (Nat.le_trans k5 k4)⟩:al + a<=rl + r.toNat/\wa + 2 * a<=wr + 2 * r.toNat)
 rw [Nat.add_assoc a,Nat.mul_add,Nat.add_assoc wa]
 refine Nat.add_le_add_left (Nat.add_le_add_left ?_ _) _
 rw [Nat.mul_add,Nat.add_comm]
 exact Nat.add_le_add_left (Nat.le_mul_of_pos_left d (by decide)) 2
theorem bRun_bounds {wd:Int}{ln:PySem.Str}(hw:4<=wd):∀ (n:Nat)(rows:List PySem.Str)(st:Int),0<=st->st<=(ln.length:Int)->st<=(bRun wd ln n rows st).2/\(bRun wd ln n rows st).2<=(ln.length:Int)/\(bRun wd ln n rows st).1.length + st.toNat<=rows.length + (bRun wd ln n rows st).2.toNat/\wsum (bRun wd ln n rows st).1 + 2 * st.toNat<=wsum rows + 2 * (bRun wd ln n rows st).2.toNat
 | 0,rows,st,h0,hl=>⟨Int.le_refl _,hl,Nat.le_refl _,Nat.le_refl _⟩
 | n + 1,rows,st,h0,hl=>by
  unfold bRun
  split
  ·rename_i h
   have hc:=bCut_step hw h0 h
   have ih:=bRun_bounds (ln:=ln) hw n (rows++[(bCut wd ln st).1]) (bCut wd ln st).2 (Int.le_trans h0 (Int.le_of_lt hc.1)) hc.2.1
   rw [wsum_snoc,List.length_append,List.length_singleton] at ih
   exact ⟨Int.le_trans (Int.le_of_lt hc.1) ih.1,ih.2.1,brun_aux h0 hc.1 hc.2.2 ih.2.2.1 ih.2.2.2⟩
  ·exact ⟨Int.le_refl _,hl,Nat.le_refl _,Nat.le_refl _⟩
theorem tb {W s L E m:Nat} (h1:s<=L)(hm:m<=E + 4):W + (s + m)<=W + L + E + 4:=by rw [Nat.add_assoc (W + L),Nat.add_assoc W];exact Nat.add_le_add_left (Nat.add_le_add h1 hm) W
theorem bTail_bounds (wd:Int)(e ln:PySem.Str)(rows:List PySem.Str)(st:Int):(bTail wd e ln rows st).length=rows.length + 1/\wsum (bTail wd e ln rows st)<=wsum rows + ln.length + e.length + 4:=by
 have e1:(PySem.Str.ofString "=").length=1:=rfl
 have h1:=Txt.slice_le ln (some st) (some (-1))
 have h2:=Txt.slice_le ln (some st) none
 have ho:(if (Txt.item ln (-1) == PySem.Str.ofString " ")=true then PySem.Str.ofString "=20" else PySem.Str.ofString "=09").length=3:=by split <;> rfl
 have hi:(Txt.item ln (-1)).length=1:=rfl
 unfold bTail
 split
 ·refine ⟨by rw [List.length_append];rfl,?_⟩
  rw [wsum_snoc,len_app]
  split
  ·rw [ho];exact tb h1 (Nat.le_trans (by decide) (Nat.le_add_left 4 _))
  ·split
   ·rw [len_app,len_app,e1,hi,<- Nat.add_assoc 1,Nat.add_comm (1 + 1)];exact tb h1 (Nat.add_le_add_left (by decide) _)
   ·rw [len_app,len_app,e1,ho,Nat.add_comm 1];exact tb h1 (Nat.le_refl _)
 ·refine ⟨by rw [List.length_append];rfl,?_⟩
  rw [wsum_snoc];exact tb (m:=0) h2 (Nat.zero_le _)
theorem bLine_bounds {wd:Int}(hw:4<=wd)(e:PySem.Str)(rows:List PySem.Str)(ln:PySem.Str):(bLine wd e rows ln).length<=rows.length + ln.length + 1/\wsum (bLine wd e rows ln)<=wsum rows + 3 * ln.length + e.length + 4:=by
 have h1:=bRun_bounds (ln:=ln) hw ln.length rows 0 (Int.le_refl _) (Int.natCast_nonneg _)
 have h2:=bTail_bounds wd e ln (bRun wd ln ln.length rows 0).1 (bRun wd ln ln.length rows 0).2
 have k:=Int.toNat_le.mpr h1.2.1
 refine ⟨?_,Nat.le_trans h2.2 ?_⟩
 ·unfold bLine
  rw [h2.1]
  exact Nat.succ_le_succ (Nat.le_trans h1.2.2.1 (Nat.add_le_add_left k _))
 ·have a:=h1.2.2.2
  clear h1 h2 hw
  generalize (bRun wd ln ln.length rows 0).2.toNat=x at a k
  generalize wsum (bRun wd ln ln.length rows 0).1=y at a
  generalize wsum rows=z at a
  simp only [Int.toNat_zero,Nat.mul_zero,Nat.add_zero] at a
  refine Nat.add_le_add_right (Nat.add_le_add_right ?_ _) 4
  rw [(Nat.succ_mul 2 ln.length:3 * ln.length=2 * ln.length + ln.length),<- Nat.add_assoc]
  exact Nat.add_le_add_right (Nat.le_trans a (Nat.add_le_add_left (Nat.mul_le_mul_left 2 k) z)) _
theorem lb2 {A B r l w E X:Nat} (h2:B<=A + 3 * w + X) (h1:A<=r + 3 * l + E + 4):B<=r + 3 * (l + w) + (X + (E + 4)):=
 Nat.le_trans h2 (Nat.le_trans (Nat.add_le_add_right (Nat.add_le_add_right h1 _) X) (Nat.le_of_eq (by rw [Nat.mul_add,<- Nat.add_assoc r,Nat.add_assoc _ E 4,Nat.add_right_comm _ (E + 4),Nat.add_assoc _ (E + 4),Nat.add_comm (E + 4)])))
theorem bLines_bounds {wd:Int}(hw:4<=wd)(e:PySem.Str):∀ (ls rows:List PySem.Str),(ls.foldl (bLine wd e) rows).length<=rows.length + wsum ls + ls.length/\wsum (ls.foldl (bLine wd e) rows)<=wsum rows + 3 * wsum ls + (e.length + 4) * ls.length
 | [],rows=>by simp
 | l::ls,rows=>by
  have h1:=bLine_bounds hw e rows l
  have h2:=bLines_bounds hw e ls (bLine wd e rows l)
  have hs:wsum (l::ls)=l.length + wsum ls:=by simp [wsum]
  rw [hs]
  exact ⟨lbk h2.1 h1.1,lb2 h2.2 h1.2⟩
theorem blank_is {c:Nat}(h:(!(occurrences (PySem.Str.ofString " \t") ⟨#[c]⟩ 0 (PySem.Str.ofString " \t").length 1).isEmpty)=true):c=32\/c=9:=by
 rw [StrLaws.found_one] at h
 have h':c∈[32,9]:=of_decide_eq_true h
 simpa using h'
end Mine
namespace Mine
open PySem PySem.Builtin PySem.Builtin.Str
noncomputable def crlf (x:PySem.Str):Bool:=!(occurrences (PySem.Str.ofString "\r\n") x 0 (PySem.Str.ofString "\r\n").length 1).isEmpty
noncomputable def bRows (r:PySem.Str)(wd:Int)(e:PySem.Str):List PySem.Str:=if crlf (Txt.item r (-1))=true then (Txt.lines r).foldl (bLine wd e) []++[PySem.Str.ofString ""] else (Txt.lines r).foldl (bLine wd e) []
end Mine
end XP3
section XS6
open PySem PySem.W PyProof.Rows PySem.Calls
namespace Mine
theorem slice_pos2 {x:PySem.Str}(h:(Txt.slice x (some (-1)) none == PySem.Str.ofString " " || Txt.slice x (some (-1)) none == PySem.Str.ofString "\t")=true):1<=x.length:=by
 rcases Bool.or_eq_true_iff.mp h with h | h
 ·exact slice_pos h (Txt.slice_le _ _ _) rfl
 ·exact slice_pos h (Txt.slice_le _ _ _) rfl
theorem lst_push2 (xs:List Value)(a b:Value):listOf ((xs.toArray.push a).push b) (xs.length + 1 + 1)=listOf (xs++[a]++[b]).toArray (xs++[a]++[b]).length:=by rw [List.push_toArray,List.push_toArray,List.length_append,List.length_append];rfl
noncomputable def KoB1 (P:Prop):Prop:=P
noncomputable def KoB2 (P:Prop):Prop:=P
section
variable {M:Model}{A:Around}{E:Value->Shared->Prop}{s:Shared}{env:Env}{h₀:Heap}{L:Addr}{m:PySem.Str->Option Value}{news:List (Addr×Obj)}
theorem kj_trans {s₁ s₂:Shared}(a:KJoinAt h₀ L m news s s₁)(b:KJoinAt h₀ L m news s₁ s₂):KJoinAt h₀ L m news s s₂:=by
 obtain ⟨h,tk,rfl,F,N⟩:=a.at_
 obtain ⟨h',tk',rfl,F',N'⟩:=b.at_
 exact ⟨h',tk',rfl,F',N'⟩
theorem kj_tok {s₁:Shared}(a:KJoinAt h₀ L m news s s₁)(k:Nat):KJoinAt h₀ L m news s { s₁ with toks:=k }:=by
 obtain ⟨h,tk,rfl,F,N⟩:=a.at_
 exact ⟨h,k,rfl,F,N⟩
theorem or_join {x y:Expr}{pos:Pos}{whole:Sem Value} {c1 c2:Bool}{Q:Bool->Shared->Prop}(_F:Fr h₀ L s.heap m)(_N:News h₀ L s.heap news)
  (h1:wpAny M A (isTrue x env (eval x env)) (fun b s₁=>KJoinC c1 h₀ L m news s b s₁) E s)
  (h2:KoB1 (∀ s₁,KJoinAt h₀ L m news s s₁->wpAny M A (isTrue y env (eval y env)) (fun b s₂=>KJoinC c2 h₀ L m news s₁ b s₂) E s₁))
  (hk:KoB2 (∀ s₂,KJoinAt h₀ L m news s s₂->Q (c1 || c2) s₂)):wpAny M A (isTrue (.BoolOp .Or [x,y] pos) env whole) Q E s:=by
 refine isTrue_or (wpAny_mono h1 (fun b s₁ hb=>?_) fun _ _ e=>e)
 obtain ⟨rfl,hat⟩:=hb
 cases b with
 | true=>exact hk s₁ hat
 | false=>
  refine isTrue_or (wpAny_mono (h2 s₁ hat) (fun b s₂ hb=>?_) fun _ _ e=>e)
  obtain ⟨rfl,hat2⟩:=hb
  cases b with
  | true=>exact hk s₂ (kj_trans hat hat2)
  | false=>exact isTrue_or_nil (hk s₂ (kj_trans hat hat2))
theorem and_join {x y:Expr}{pos:Pos}{whole:Sem Value} {c1 c2:Bool}{Q:Bool->Shared->Prop}(_F:Fr h₀ L s.heap m)(_N:News h₀ L s.heap news)
  (h1:wpAny M A (isTrue x env (eval x env)) (fun b s₁=>KJoinC c1 h₀ L m news s b s₁) E s)
  (h2:KoB1 (∀ s₁,KJoinAt h₀ L m news s s₁->wpAny M A (isTrue y env (eval y env)) (fun b s₂=>KJoinC c2 h₀ L m news s₁ b s₂) E s₁))
  (hk:KoB2 (∀ s₂,KJoinAt h₀ L m news s s₂->Q (c1 && c2) s₂)):wpAny M A (isTrue (.BoolOp .And [x,y] pos) env whole) Q E s:=by
 refine isTrue_and (wpAny_mono h1 (fun b s₁ hb=>?_) fun _ _ e=>e)
 obtain ⟨rfl,hat⟩:=hb
 cases b with
 | false=>exact hk s₁ hat
 | true=>
  refine isTrue_and (wpAny_mono (h2 s₁ hat) (fun b s₂ hb=>?_) fun _ _ e=>e)
  obtain ⟨rfl,hat2⟩:=hb
  cases b with
  | false=>exact hk s₂ (kj_trans hat hat2)
  | true=>exact isTrue_and_nil (hk s₂ (kj_trans hat hat2))
theorem ifx_join {test:Expr}{x y:PySem.Str}{i j:Nat}{p q pos:Pos}{c:Bool}{Q:Value->Shared->Prop}(_F:Fr h₀ L s.heap m)(_N:News h₀ L s.heap news)
  (hc:wpAny M A (isTrue test env (eval test env)) (fun b s₁=>KJoinC c h₀ L m news s b s₁) E s)
  (hk:KoB2 (∀ (t:Tok)(s₂:Shared),KJoinAt h₀ L m news s s₂->Q (.str (if c=true then x else y) t) s₂)) :
  wpAny M A (eval (.IfExp test (.Constant (.str x) i p) (.Constant (.str y) j q) pos) env) Q E s:=by
 refine wpAny_IfExp (wpAny_mono hc (fun b s₁ hb=>?_) fun _ _ e=>e)
 obtain ⟨rfl,hat⟩:=hb
 cases b with
 | true=>exact wpAny_Constant_str (hk _ _ (kj_tok hat _))
 | false=>exact wpAny_Constant_str (hk _ _ (kj_tok hat _))
end
end Mine
end XS6
section XS7
set_option tactic.hygienic true
open PySem PySem.W PyProof.Rows PySem.Calls PySem.Builtin PySem.Builtin.Str
namespace Mine
noncomputable def mapT (T:Nat->PySem.Str)(x:PySem.Str):PySem.Str:=⟨(x.cps.toList.flatMap fun c=>(T c).cps.toList).toArray⟩
theorem table_look {prog:Program}{w:World}{A:Around}{E:Value->Shared->Prop}{s:Shared}{l:Addr}{items:Array Value}{c:Nat}{x:PySem.Str}{tk:Tok}{Q:Mapped->Shared->Prop}(hl:s.heap.IsList l items)(hi:items[c]? = some (.str x tk))(hc:c < 256)
  (h:Q (.text x) { s with toks:=s.toks + 1 }):wpAny (model prog w) A (tableLookup (.ref l) c) Q E s:=by
 unfold tableLookup
 refine wpAny_bind (wpAny_attempt (wpAny_bind (wpAny_mkInt ?_)))
 refine wpAny_getItem_list (items:=items) hl (Int.natCast_nonneg _) (by omega) (by simpa using hi) ?_
 dsimp only
 exact wpAny_bind (wpAny_pure (by exact wpAny_bind (wpAny_pure (by exact wpAny_pure h))))
theorem foldl_cps:∀ (ps:List PySem.Str)(a:Array Nat),(ps.foldl (fun acc p=>acc++p.cps) a).toList=a.toList++ps.flatMap (·.cps.toList)
 | [],a=>by simp
 | p::ps,a=>by rw [List.foldl_cons,foldl_cps ps];simp
theorem sum_flatMap (f:Nat->List Nat)(n:Nat)(h:∀ c,(f c).length<=n):∀ l:List Nat,(l.flatMap f).length<=n * l.length
 | []=>by simp
 | a::r=>by have:=sum_flatMap f n h r;have:=h a;simp only [List.flatMap_cons,List.length_append,List.length_cons,Nat.mul_succ];omega
theorem one_sign {y:PySem.Str}(h:y.cps.size=1):∃ d,y=⟨#[d]⟩:=by
 obtain ⟨⟨l⟩⟩:=y
 match l,h with
 | [d],_=>exact ⟨d,rfl⟩
noncomputable def TrI (T:Nat->PySem.Str)(x:PySem.Str)(s:Shared)(rest:List Nat)(b:List PySem.Str×Nat×Bool×List (Nat×Option Nat)×Bool)(s':Shared):Prop:=
 (∃ k,s'={ s with toks:=k })/\b.2.2.2.2=false/\b.2.1 + 3 * rest.length<=3 * x.length/\(∀ c a,b.2.2.2.1.lookup c=some a->∃ d,a=some d/\T c=⟨#[d]⟩)/\(∀ c∈rest,c∈x.cps.toList) /\
  b.1.reverse.flatMap (·.cps.toList)++rest.flatMap (fun c=>(T c).cps.toList)=x.cps.toList.flatMap (fun c=>(T c).cps.toList)
theorem TrI.next {T:Nat->PySem.Str}{x:PySem.Str}{s:Shared}{c:Nat}{rest:List Nat}{ps:List PySem.Str}{tot:Nat}{f f':Bool}{kn kn':List (Nat×Option Nat)}{s':Shared}(h:TrI T x s (c::rest) (ps,tot,f,kn,false) s')(k:Nat)(hT:(T c).length<=3)
  (hk:∀ c a,kn'.lookup c=some a->∃ d,a=some d/\T c=⟨#[d]⟩):TrI T x s rest (T c::ps,tot + (T c).length,f',kn',false) { s with toks:=k }:=by
 obtain ⟨_,_,h2,_,h4,h5⟩:=h
 refine ⟨⟨k,rfl⟩,rfl,?_,hk,fun c hc=>h4 c (List.Mem.tail _ hc),?_⟩
 ·simp only [List.length_cons] at h2 ⊢;omega
 ·rw [<- h5];simp
theorem meets_translate (x:PySem.Str)(t:Tok)(l:Addr)(T:Nat->PySem.Str)(hx:(x.length == 0)=false)(hT:∀ c,(T c).length<=3)(hsz:x.length<=100000) (hc256:∀ c∈x.cps.toList,c < 256) :
  Meets («str.translate» ⟨[.str x t,.ref l],[]⟩) (fun A R s=>(∃ items,s.heap.IsList l items/\∀ c∈x.cps.toList,∃ k,items[c]? = some (.str (T c) k))/\∀ t' k,R (.ok (.ret (.str (mapT T x) t'))) { s with toks:=k }):=
 Meets.of_wp fun prog w A R s hs=>by
  obtain ⟨⟨items,hl,hit⟩,hR⟩:=hs
  have e24:(2:Nat) ^ 24=16777216:=by decide
  have tl:∀ n,n<=300000->tooLong n=false:=fun n hn=>by unfold tooLong sizeLine;exact decide_eq_false (by omega)
  unfold «str.translate»
  show wpAny _ _ (pure (Value.str x t,x,Value.ref l) >>= _) _ _ _
  refine wpAny_bind (wpAny_pure ?_)
  refine wp_ifn (by rw [hx];exact Bool.false_ne_true) ?_
  refine wpAny_bind (wpAny_forIn_array' _ (TrI T x s) _ (fun c rest b s' hI=>?_) (fun b s' hI=>?_) _ _ ⟨⟨s.toks,rfl⟩,rfl,?_,?_,fun _ h=>h,by simp⟩)
  ·obtain ⟨ps,tot,f,kn,ad⟩:=b
   have hI':=hI
   obtain ⟨⟨k,rfl⟩,had,htot,hkn,hmem,hcat⟩:=hI'
   dsimp only at had htot hkn
   subst had
   have hc:=hmem c (List.Mem.head _)
   obtain ⟨tk,hitc⟩:=hit c hc
   have hlt:=hc256 c hc
   have look:∀ {Q:Mapped->Shared->Prop}{E:Value->Shared->Prop}(k:Nat),Q (.text (T c)) { s with toks:=k + 1 }->wpAny (model prog w) A.in1 (tableLookup (.ref l) c) Q E { s with toks:=k }:=fun k h=>table_look (s:={ s with toks:=k }) hl hitc hlt h
   simp only [List.length_cons] at htot
   refine wp_ifn (by rw [tl tot (by omega)];exact Bool.false_ne_true) ?_
   cases f with
   | false=>
    refine wp_ifn Bool.false_ne_true ?_
    exact wpAny_bind (look k (wpAny_pure (hI.next (k + 1) (hT c) hkn)))
   | true=>
    refine wp_ifp rfl ?_
    cases hlk:kn.lookup c with
    | some a=>
     obtain ⟨d,rfl,hTd⟩:=hkn c a hlk
     refine wpAny_bind (wpAny_pure ?_)
     have nx:=hI.next (f':=true) k (hT c) hkn
     rw [hTd] at nx
     exact wpAny_pure nx
    | none=>
     refine wpAny_bind (look k ?_)
     dsimp only
     by_cases h1:((T c).length == 1 && (T c).cps.all fun x=>decide (x < 128))=true
     ·rw [if_pos h1]
      obtain ⟨h2,h3⟩:=Bool.and_eq_true_iff.mp h1
      have h4:(T c).cps.size=1:=by have:=eq_of_beq h2;exact this
      obtain ⟨d,hd⟩:∃ d,(T c)=⟨#[d]⟩:=one_sign h4
      have h5:(T c).cps[0]? = some d:=by rw [hd];rfl
      rw [h5]
      refine wpAny_bind (wpAny_pure ?_)
      have nx:=hI.next (f':=true) (kn':=(c,some d)::kn) (k + 1) (hT c) (fun c' a ha=>by
       rw [List.lookup_cons] at ha
       split at ha
       ·rename_i hcc
        have:=eq_of_beq hcc
        subst this
        exact ⟨d,(Option.some.inj ha).symm,hd⟩
       ·exact hkn c' a ha)
      rw [hd] at nx
      exact wpAny_pure nx
     ·rw [if_neg h1]
      refine wpAny_bind (wpAny_pure ?_)
      refine wpAny_bind (wpAny_rule ?_)
      refine wp_ifn Bool.false_ne_true ?_
      exact wpAny_bind (look (k + 1) (wpAny_pure (hI.next (k + 1 + 1) (hT c) hkn)))
  ·obtain ⟨ps,tot,f,kn,ad⟩:=b
   obtain ⟨⟨k,rfl⟩,had,htot,hkn,hmem,hcat⟩:=hI
   dsimp only at had htot hkn hcat
   dsimp only
   simp only [List.length_nil,Nat.mul_zero,Nat.add_zero] at htot
   refine wp_ifn (by rw [tl tot (by omega)];exact Bool.false_ne_true) ?_
   have e:(⟨List.foldl (fun acc p=>acc++p.cps) #[] ps.reverse⟩:PySem.Str)=mapT T x:=by
    apply PySem.Str.ext'
    apply Array.ext'
    rw [foldl_cps]
    simp only [List.flatMap_nil,List.append_nil] at hcat
    show []++_=_
    rw [List.nil_append,hcat]
    rfl
   rw [e]
   refine wpAny_bind (wpAny_mkStr (wpAny_pure ⟨_,rfl,hR _ _⟩) ?_)
   show (mapT T x).cps.size<=sizeLine
   have:=sum_flatMap (fun c=>(T c).cps.toList) 3 (fun c=>by rw [Array.length_toList];exact hT c) x.cps.toList
   rw [sizeLine_eq]
   unfold mapT
   rw [List.size_toArray]
   have hx':x.cps.toList.length<=100000:=by rw [Array.length_toList];exact hsz
   omega
  ·simp [Nat.zero_add];rw [<- Array.length_toList];exact Nat.le_refl _
  ·intro c a ha;cases ha
end Mine
namespace Mine
theorem k_translate {prog:Program}{w:World}{A:Around}{E:Value->Shared->Prop}{s:Shared}{x:PySem.Str}{t:Tok}{l:Addr}{T:Nat->PySem.Str}{items:Array Value}{Q:Value->Shared->Prop}(hl:s.heap.IsList l items)(hit:∀ c∈x.cps.toList,∃ k,items[c]? = some (.str (T c) k))(hx:(x.length == 0)=false)(hT:∀ c,(T c).length<=3)(hsz:x.length<=100000) (hc256:∀ c∈x.cps.toList,c < 256)
  (h:∀ t' k,Q (.str (mapT T x) t') { s with toks:=k }):wpAny (model prog w) A (call (.builtin "str.translate") [.str x t,.ref l]) Q E s:=
 call_meets F.slot_str_translate (typeIs_str _ _ _) F.entry_str_translate (F.args_str_translate_2 _ _) (meets_translate x t l T hx hT hsz hc256) ⟨⟨items,hl,hit⟩,h⟩
theorem k_translate_get {prog:Program}{w:World}{A:Around}{E:Value->Shared->Prop}{s:Shared}{x:PySem.Str}{t:Tok}{pl:Sem Bool}{Q:Value×List Value->Shared->Prop}(h:Q (.builtin "str.translate",[.str x t]) s):wpAny (model prog w) A (getMethod (.str x t) "translate" pl) Q E s:=by
 with_reducible exact GM.of (.str x t) (typeIs_str _ _ _) F.slot_str_translate F.type_str_translate GM.noRef h
end Mine
end XS7
section XS8
set_option tactic.hygienic true
open PySem PySem.W PyProof.Rows PySem.Calls
namespace Mine
open Mine.Hd
noncomputable def quoteS (c:Nat):PySem.Str:=⟨#[61,hexd (c / 16),hexd (c % 16)]⟩
noncomputable def encT (c:Nat):PySem.Str:=if c=9\/c=10\/c=13\/(32<=c/\c<=126/\c≠61) then ⟨#[c]⟩ else quoteS c
theorem encT_len (c:Nat):(encT c).length<=3/\1<=(encT c).length:=by unfold encT;split <;> exact ⟨Nat.le_of_ble_eq_true rfl,Nat.le_of_ble_eq_true rfl⟩
noncomputable def chkL (f:Nat->PySem.Str)(o:Obj):Bool:=match o.data with
 | .seq its _=>(List.range 256).all fun c=>match its[c]? with | some (.str x _)=>x == f c | _=>false
 | _=>false
noncomputable def itsOf (o:Obj):Array Value:=match o.data with | .seq its _=>its | _=>#[]
theorem chk_at {f:Nat->PySem.Str}{o:Obj}(h:chkL f o=true)(c:Nat)(hc:c < 256):∃ k,(itsOf o)[c]? = some (.str (f c) k):=by
 unfold chkL at h
 unfold itsOf
 split at h
 ·rename_i its n e
  have:=List.all_eq_true.mp h c (List.mem_range.mpr hc)
  cases hi:its[c]? with
  | none=>rw [hi] at this;cases this
  | some v=>
   rw [hi] at this
   cases v with
   | str x k=>exact ⟨k,by rw [eq_of_beq this]⟩
   | _=>cases this
 ·cases h
theorem K70 (P:Params):(heapK P).lookup 70=some (o70_1 P):=by kernel_rfl
theorem K41 (P:Params):(heapK P).lookup 41=some (o41 P):=by kernel_rfl
theorem chk70 (P:Params):chkL encT (o70_1 P)=true:=by kernel_rfl
theorem chk41 (P:Params):chkL quoteS (o41 P)=true:=by kernel_rfl
theorem list70 {P:Params}{h:Heap}(X:(heapK P).In h):h.IsList 70 (itsOf (o70_1 P)):=⟨_,X _ _ (K70 P),rfl,_,rfl⟩
theorem list41 {P:Params}{h:Heap}(X:(heapK P).In h):h.IsList 41 (itsOf (o41 P)):=⟨_,X _ _ (K41 P),rfl,_,rfl⟩
theorem mapT_length (T:Nat->PySem.Str)(hT:∀ c,(T c).length<=3)(x:PySem.Str):(mapT T x).length<=3 * x.length:=by
 show (x.cps.toList.flatMap fun c=>(T c).cps.toList).toArray.size<=3 * x.cps.size
 rw [List.size_toArray,<- Array.length_toList]
 exact sum_flatMap _ 3 (fun c=>by rw [Array.length_toList];exact hT c) _
theorem mapT_pos (x:PySem.Str)(h:(x.length == 0)=false):1<=(mapT encT x).length:=by
 show 1<=(x.cps.toList.flatMap fun c=>(encT c).cps.toList).toArray.size
 rw [List.size_toArray]
 have hx:x.cps.toList.length≠0:=by rw [Array.length_toList];intro q;have:x.length=0:=q;rw [this] at h;exact absurd h (by decide)
 cases hl:x.cps.toList with
 | nil=>rw [hl] at hx;exact absurd rfl hx
 | cons a r=>
  have:=(encT_len a).2
  have e:(encT a).cps.toList.length=(encT a).length:=Array.length_toList
  simp only [List.flatMap_cons,List.length_append]
  omega
theorem k_translate70 {prog:Program}{w:World}{A:Around}{E:Value->Shared->Prop}{s:Shared}{x:PySem.Str}{t:Tok}{P:Params}{h₀:Heap}{L:Addr}{m:PySem.Str->Option Value}{Q:Value->Shared->Prop}(F:Fr h₀ L s.heap m)(X:(heapK P).In h₀)(hx:(x.length == 0)=false)(hsz:x.length<=100000) (hc256:∀ c∈x.cps.toList,c < 256)
  (h:∀ r t' k,r=mapT encT x->r.length<=3 * x.length->1<=r.length->Q (.str r t') { s with toks:=k }):wpAny (model prog w) A (call (.builtin "str.translate") [.str x t,.ref 70]) Q E s:=
 k_translate (T:=encT) (list70 (X.keeps F.keep)) (fun c hc=>chk_at (chk70 _) c (hc256 c hc)) hx (fun c=>(encT_len c).1) hsz hc256 fun t' k=>h _ t' k rfl (mapT_length _ (fun c=>(encT_len c).1) x) (mapT_pos x hx)
noncomputable def WhStop (P:Prop):Prop:=P
theorem wh_stop {M:Model}{A:Around}{E:Value->Shared->Prop}{s:Shared}{env:Env}{Q:Flow->Shared->Prop}{test:Expr}{body orelse:List Stmt}{pos:Pos}(h:WhStop (wpAny M A (exec (.While test body orelse pos) env) Q E s)):wpAny M A (exec (.While test body orelse pos) env) Q E s:=h
end Mine
end XS8
section XW6
open PySem PySem.W PyProof.Rows PySem.Calls
namespace Mine.W6
open Mine.Hd
theorem wt14:True:=by
 k_with "W6 cell_enter" => k_extra "A12"
 k_with "W6 getAttr ref" => k_extra "A16"
 k_with "W6 callWith ref" => k_extra "A17"
 k_with "W6 And" => k_extra "A18"
 k_with "W6 call ref" => k_extra "A19"
 k_with "W6 eval Constant int" => k_extra "A30"
 k_with "W6 eval Constant str" => k_extra "A31"
 k_with "W6 binaryOp Add int int" => k_extra "A32"
 k_with "W6 binaryOp Sub int int" => k_extra "A33"
 k_with "W6 unaryOp USub int" => k_extra "A34"
 exact True.intro
noncomputable def quot_ct.P (p) (k1:Tok) (news)(s:Shared) (m L)(dp un:Nat)(w:World) (loose mean mg mb gd cn)(cs:Scope) (a ccd cl outer A₀ base h₀)(Q E:Value->Shared->Prop):=∀ (B:Below A₀ base outer h₀)(F:Fr h₀ L s.heap m)(X:(heapK w.params).In h₀)(N:News h₀ L s.heap news)(T:Top p loose mean mg mb h₀)(hk:cs.kind = .function)(hd:dp + 20 < recursionLimit)(hu:un + 200 < cLine)(c:Nat)(hc:c < 256)(hret:∀ t h' tk',Fr h₀ L h' m->News h₀ L h' news->Q (.str (quoteS c) t) { s with heap:=h',toks:=tk' }),wpAny (model rw_re0182_01.row.prog w) (ktrTop dp un gd cn cs L a ccd cl outer) (call (.ref 68) [.str ⟨#[c]⟩ k1]) Q E s
namespace quot_ct
noncomputable def R:=(s4 <| s4 <| s4 <| s4 <| s4 <| s4 <| id) P
@[irreducible] noncomputable def z:=zy R (by k_extra "N")
@[irreducible] noncomputable def p:=f1 z
@[irreducible] noncomputable def zr:=f2 z
theorem T:(s4 <| s4 <| s4 <| s4 <| s4 <| st <| st <| st <| id) (P p) zr:=by
 intro B F X N T hk hd hu c hc hret
 revert X;k_fill;intro X
 w_on
 refine wpAny_call ?_
 k_dflt cell_enter
 k_steps
 all_goals k_dflt (refine cb_retS hret ?_ (by assumption) (by (rename News _ _ _ _=>nz);exact fun p hp=>nz p (by repeat (first | assumption | refine List.Mem.tail _ ?_))))
 all_goals exact (by decide +kernel:∀ c < 256,List.getD _ (Int.toNat ((c:Nat):Int)) _=quoteS c) c hc
end quot_ct
theorem quot_ct {p} (k1 news s m L dp un) {w loose mean mg mb} (gd cn cs a ccd cl outer A₀ base h₀ Q E):quot_ct.P p k1 news s m L dp un w loose mean mg mb gd cn cs a ccd cl outer A₀ base h₀ Q E:=by with_unfolding_all exact zy_all _ quot_ct.R quot_ct.T (p,k1,news,s,m,L,dp,un,w,loose,mean,mg,mb,gd,cn,cs,a,ccd,cl,outer,A₀,base,h₀,Q,E)
end Mine.W6
end XW6
open Mine.W6
section XS9
open PySem PySem.W PyProof.Rows PySem.Calls
namespace Mine
open Mine.Hd
theorem quot_use {w:World}{p:Program}{loose:List Str}{mean:ExcName->Option Value}{mg mb:Str->Option Value}{dp un:Nat}{gd:Option (List Code)}{cn:Str}{cs:Scope}{a:Addr}{ccd:Value}{cl:List (Str×Addr)}{outer:List Env}{A₀:Around}{base h₀:Heap}{L:Addr}{m:Str->Option Value}{news:List (Addr×Obj)}{s:Shared}{Q E:Value->Shared->Prop}{x:Str} {k1:Tok}
  (B:Below A₀ base outer h₀)(F:Fr h₀ L s.heap m)(X:(heapK w.params).In h₀)(N:News h₀ L s.heap news)(T:Top p loose mean mg mb h₀)(hk:cs.kind = .function)(hd:dp + 20 < recursionLimit)(hu:un + 200 < cLine)
  (hx:∃ c,x=⟨#[c]⟩)(hb:(Builtin.Str.occurrences (Str.ofString " \t") x 0 (Str.ofString " \t").length 1).isEmpty=false)
  (hret:∀ r t h' tk',r=(if (x == Str.ofString " ")=true then Str.ofString "=20" else Str.ofString "=09")->r.length=3->Fr h₀ L h' m->News h₀ L h' news->Q (.str r t) { s with heap:=h',toks:=tk' }) :
  wpAny (model rw_re0182_01.row.prog w) (ktrTop dp un gd cn cs L a ccd cl outer) (call (.ref 68) [.str x k1]) Q E s:=by
 obtain ⟨c,rfl⟩:=hx
 have hc:=blank_is (c:=c) (by rw [hb];rfl)
 refine quot_ct k1 news s m L dp un gd cn cs a ccd cl outer A₀ base h₀ Q E B F X N T hk hd hu c (by omega) fun t h' tk' F' N'=>?_
 rcases hc with rfl | rfl
 ·exact hret _ t h' tk' (by rfl) (by rfl) F' N'
 ·exact hret _ t h' tk' (by rfl) (by rfl) F' N'
noncomputable def bEncS (v:Str)(wd:Int)(e:Str):Str:=Txt.join e (bRows (mapT encT v) wd e)
end Mine
end XS9
section XS10
open PySem PySem.W PyProof.Rows PySem.Calls PySem.NumText
namespace Mine
noncomputable def hexs:List Nat:=[48,49,50,51,52,53,54,55,56,57,97,98,99,100,101,102,65,66,67,68,69,70]
noncomputable def hexv (c:Nat):Nat:=if c<=57 then c - 48 else if c<=70 then c - 55 else c - 87
theorem hex_1:∀ x∈hexs,∀ y∈hexs,[x,y].dropWhile blank=[x,y]:=by decide +kernel
theorem hex_2:∀ x∈hexs,∀ y∈hexs,sign [x,y]=(false,[x,y]):=by decide +kernel
theorem hex_3:∀ x∈hexs,∀ y∈hexs,based 16 [x,y]=(16,false,[x,y]):=by decide +kernel
theorem hex_4:∀ x∈hexs,∀ y∈hexs,digits? 16 ((([x,y]:List Nat).reverse.dropWhile blank).reverse)=some #[hexv x,hexv y]:=by decide +kernel
theorem hex_read {x y:Nat}(hx:x∈hexs)(hy:y∈hexs):(int_private% "readNumeral") 0 16 [x,y]=(int_private% "Numeral.value") ((16 * hexv x + hexv y:Nat):Int):=by
 rw [readNumeral_eq,hex_1 x hx y hy,hex_2 x hx y hy,hex_3 x hx y hy]
 dsimp only
 rw [hex_4 x hx y hy]
 unfold judge
 simp
 lia
theorem hex_5:∀ x∈hexs,∀ y∈hexs,[x,y].takeWhile (·!= 0)=[x,y]:=by decide +kernel
theorem hex_6:∀ x∈hexs,∀ y∈hexs,PySem.numTextOf ⟨#[x,y]⟩=[x,y]:=by decide +kernel
theorem wp_text16 {M:Model}{A:Around}{E:Value->Shared->Prop}{s:Shared}{Q:Value->Shared->Prop}{v:Value}{text:List Nat}{n:Int}
  (hs:(text.takeWhile (·!= 0)).length<=640)(hr:(int_private% "readNumeral") 0 16 (text.takeWhile (·!= 0))=(int_private% "Numeral.value") n)
  (ha:((text.takeWhile (·!= 0)).length == text.length)=true)(h:Q (.int n s.toks) { s with toks:=s.toks + 1 }) :
  wpAny M A ((int_private% "intFromText") v text 16) Q E s:=by
 obtain ⟨hp,g,d,tk,os⟩:=s
 repeat (any_goals (first
  | assumption
  | (with_reducible refine wpAny_ite_true (decide_eq_true hs) ?_)
  | (with_reducible refine wpAny_ite_true (decide_eq_true ha) ?_)
  | wp_step))
 all_goals (try rw [hr])
 all_goals (try dsimp only)
 repeat (any_goals (first
  | assumption
  | (with_reducible refine wpAny_ite_true (decide_eq_true hs) ?_)
  | (with_reducible refine wpAny_ite_true (decide_eq_true ha) ?_)
  | wp_step))
noncomputable def gives_hex16.P0 (x y:Nat)(u v:Tok):Prop:=∀ (hx:x∈hexs)(hy:y∈hexs),Gives (Builtin.«int.__new__» ⟨[.type "int",.str ⟨#[x,y]⟩ u,.int 16 v],[]⟩) (.int ((16 * hexv x + hexv y:Nat):Int))
namespace gives_hex16
noncomputable def R0:=(st <| st <| st <| id) P0
@[irreducible] noncomputable def z0:=zy R0 (by k_extra "N")
@[irreducible] noncomputable def x:=f1 z0
@[irreducible] noncomputable def y:=f1 (f2 z0)
@[irreducible] noncomputable def u:=f1 (f2 (f2 z0))
@[irreducible] noncomputable def z1:=f2 (f2 (f2 z0))
theorem T0:(id) (P0 x y u) z1:=by
 intro hx hy
 exact (.of_wp fun M A E s Q h=>by
  obtain ⟨hp,g,d,tk,os⟩:=s
  have f1:=F.conv_sub_int
  have f2:=F.madeHere_int
  have f6:typeOf (.str ⟨#[x,y]⟩ u)=pure (.type "str"):=rfl
  have e:PySem.numTextOf ⟨#[x,y]⟩=[x,y]:=hex_6 x hx y hy
  have e2:PySem.numSeenOf ⟨#[x,y]⟩=[x,y]:=by unfold PySem.numSeenOf;rw [e,hex_5 x hx y hy]
  have hs:(PySem.numSeenOf ⟨#[x,y]⟩).length<=640:=by rw [e2];exact Nat.le_of_ble_eq_true rfl
  have hr':(int_private% "readNumeral") 0 16 (PySem.numSeenOf ⟨#[x,y]⟩)=(int_private% "Numeral.value") ((16 * hexv x + hexv y:Nat):Int):=by rw [e2];exact hex_read hx hy
  have ha:((PySem.numSeenOf ⟨#[x,y]⟩).length == (PySem.numTextOf ⟨#[x,y]⟩).length)=true:=by rw [e2,e];rfl
  clear e e2
  have hk:=KIN.Hid.mk (And.intro hs (And.intro hr' ha))
  clear hs hr' ha
  repeat (any_goals (first
   | assumption
   | ((with_reducible show wpAny _ _ ((int_private% "intFromText") _ _ _) _ _ _);refine wp_text16 hk.out.1 hk.out.2.1 hk.out.2.2 ?_)
   | wp_step))
  all_goals first | exact ⟨_,rfl,h⟩ | skip)
end gives_hex16
theorem gives_hex16 {x y u v}:gives_hex16.P0 x y u v:=by with_unfolding_all exact zy_all _ gives_hex16.R0 gives_hex16.T0 (x,y,u,v)
theorem typeCall_int_2 (a b:Value):checkTypeCall "int" ⟨[a,b],[]⟩=pure ():=by kernel_rfl
theorem newCall_int_2 (a b:Value):checkBuiltinCall "int.__new__" ⟨[.type "int",a,b],[]⟩=pure ():=by kernel_rfl
structure HexPair (x y:Nat):Prop where
 a:x∈hexs
 b:y∈hexs
theorem call_hex {prog:Program}{w:World}{A:Around}{E:Value->Shared->Prop}{s:Shared}{Q:Value->Shared->Prop} {x0:PySem.Str}{x y:Nat}{t u:Tok}(hxy:HexPair x y) (hx0:x0=⟨#[x,y]⟩)(h:Q (.int ((16 * hexv x + hexv y:Nat):Int) s.toks) { s with toks:=s.toks + 1 }) :
  wpAny (model prog w) A (call (.type "int") [.str x0 t,.int 16 u]) Q E s:=by
 subst hx0
 obtain ⟨hx,hy⟩:=hxy
 exact callType_new F.called_int F.newNe_int (typeCall_int_2 _ _) (newCall_int_2 _ _) (fun obj=>F.args_object_init_3 obj _ _) F.entry_int_new (gives_hex16 hx hy).meets (show (Made.int _).post _ s from ⟨rfl,h⟩)
theorem hexv_lt:∀ x∈hexs,hexv x < 16:=by decide +kernel
end Mine
end XS10
section XP4
set_option tactic.hygienic true
namespace Mine
open PySem PySem.Builtin PySem.Builtin.Str
noncomputable def hexS:PySem.Str:=PySem.Str.ofString "0123456789abcdefABCDEF"
noncomputable def inHex (x:PySem.Str):Bool:=!(occurrences hexS x 0 hexS.length 1).isEmpty
noncomputable def unqS (x:PySem.Str):PySem.Str:=⟨#[16 * hexv (x.cps.toList[1]?.getD 0) + hexv (x.cps.toList[2]?.getD 0)]⟩
noncomputable def dFin (ln d:PySem.Str)(i:Int):PySem.Str×Int:=if i=(ln.length:Int) then (d++PySem.Str.ofString "\n",i) else (d,i)
noncomputable def dStep (ln d:PySem.Str)(i:Int):PySem.Str×Int:=
 if (Txt.item ln i != PySem.Str.ofString "=")=true then dFin ln (d++Txt.item ln i) (i + 1)
 else if i + 1=(ln.length:Int) then (d,i + 1)
 else if i + 2 < (ln.length:Int)/\inHex (Txt.item ln (i + 1))=true/\inHex (Txt.item ln (i + 2))=true then dFin ln (d++unqS (Txt.slice ln (some i) (some (i + 3)))) (i + 3)
 else dFin ln (d++Txt.item ln i) (i + 1)
noncomputable def dRun (ln:PySem.Str):Nat->PySem.Str->Int->PySem.Str
 | 0,d,_=>d
 | n + 1,d,i=>if i < (ln.length:Int) then dRun ln n (dStep ln d i).1 (dStep ln d i).2 else d
theorem dRun_end {ln:PySem.Str}{n:Nat}{d:PySem.Str}{i:Int}(h:¬ i < (ln.length:Int)):dRun ln n d i=d:=by
 cases n with
 | zero=>rfl
 | succ n=>unfold dRun;rw [if_neg h]
noncomputable def dLine (d ln:PySem.Str):PySem.Str:=if (Txt.rstrip ln).length=0 then d++PySem.Str.ofString "\n" else dRun (Txt.rstrip ln) (Txt.rstrip ln).length d 0
theorem dFin_props (ln d:PySem.Str)(i:Int):(dFin ln d i).2=i/\(dFin ln d i).1.length<=d.length + 1:=by
 have e:(PySem.Str.ofString "\n").length=1:=rfl
 unfold dFin
 split
 ·exact ⟨rfl,by rw [len_app,e];exact Nat.le_refl _⟩
 ·exact ⟨rfl,Nat.le_succ _⟩
theorem ds_ok {i j x L:Int}{a b:Nat}(e:x=i + j)(hj:0 < j)(hl:i + j<=L)(hp:a<=b + 2):i < x/\x<=L/\a<=b + 2:=by subst e;exact ⟨Int.lt_add_of_pos_right i hj,hl,hp⟩
theorem dStep_props {ln d:PySem.Str}{i:Int} (h0:0<=i)(h:i < (ln.length:Int)):i < (dStep ln d i).2/\(dStep ln d i).2<=(ln.length:Int)/\(dStep ln d i).1.length<=d.length + 2:=by
 have e1:(Txt.item ln i).length=1:=rfl
 have e2:(unqS (Txt.slice ln (some i) (some (i + 3)))).length=1:=rfl
 have p1:=dFin_props ln (d++Txt.item ln i) (i + 1)
 have p2:=dFin_props ln (d++unqS (Txt.slice ln (some i) (some (i + 3)))) (i + 3)
 rw [len_app,e1] at p1
 rw [len_app,e2] at p2
 unfold dStep
 split
 ·exact ds_ok p1.1 (by decide) h p1.2
 ·split
  ·rename_i q;exact ⟨Int.lt_succ i,Int.le_of_eq q,Nat.le_add_right _ 2⟩
  ·split
   ·rename_i q;exact ds_ok p2.1 (by decide) (Int.add_assoc i 2 1 ▸ (q.1:i + 2 + 1<=(ln.length:Int)):i + 3<=(ln.length:Int)) p2.2
   ·exact ds_ok p1.1 (by decide) h p1.2
theorem dRun_len (ln:PySem.Str):∀ (n:Nat)(d:PySem.Str)(i:Int),0<=i->(dRun ln n d i).length<=d.length + 2 * n
 | 0,d,i,_=>Nat.le_refl _
 | n + 1,d,i,h0=>by
  unfold dRun
  split
  ·rename_i h
   have hp:=dStep_props (d:=d) h0 h
   have ih:=dRun_len ln n (dStep ln d i).1 (dStep ln d i).2 (Int.le_trans h0 (Int.le_of_lt hp.1))
   exact Nat.le_trans ih (Nat.le_trans (Nat.add_le_add_right hp.2.2 _) (Nat.le_of_eq (Nat.add_right_comm d.length 2 (2 * n))))
  ·exact Nat.le_add_right _ _
theorem item_nat {ln:PySem.Str}{k:Nat}{c:Nat}(h:ln.cps.toList[k]? = some c):Txt.item ln (k:Int)=⟨#[c]⟩:=by
 have hk:k < ln.length:=by rw [<- len_list];exact (List.getElem?_eq_some_iff.mp h).1
 have e:seqIndex? (k:Int) ln.length=some k:=by
  unfold seqIndex?
  have h0:¬ (k:Int) < 0:=Int.not_lt.mpr (Int.natCast_nonneg k)
  dsimp only
  rw [if_neg h0,if_pos (by rw [decide_eq_true (Int.natCast_nonneg k),decide_eq_true (Int.ofNat_lt.mpr hk)];rfl)]
  rfl
 have e2:ln.cps[k]? = some c:=by rw [<- h];simp
 unfold Txt.item Txt.charAt
 rw [e]
 show (⟨#[(ln.cps[k]?).getD 0]⟩:PySem.Str)=_
 rw [e2]
 rfl
theorem inHex_mem {c:Nat}(h:(occurrences (PySem.Str.ofString "0123456789abcdefABCDEF") ⟨#[c]⟩ 0 (PySem.Str.ofString "0123456789abcdefABCDEF").length 1).isEmpty=false):c∈hexs:=by
 have h2:(!(occurrences (PySem.Str.ofString "0123456789abcdefABCDEF") ⟨#[c]⟩ 0 (PySem.Str.ofString "0123456789abcdefABCDEF").length 1).isEmpty)=true:=by rw [h];rfl
 rw [StrLaws.found_one] at h2
 exact of_decide_eq_true h2
theorem hex_slice {ln:PySem.Str}{i:Int} (h0:0<=i) (h1:i + 2 < (ln.length:Int))(he:(Txt.item ln i != PySem.Str.ofString "=")=false)
  (ha:(occurrences (PySem.Str.ofString "0123456789abcdefABCDEF") (Txt.item ln (i + 1)) 0 (PySem.Str.ofString "0123456789abcdefABCDEF").length 1).isEmpty=false)
  (hb:(occurrences (PySem.Str.ofString "0123456789abcdefABCDEF") (Txt.item ln (i + 2)) 0 (PySem.Str.ofString "0123456789abcdefABCDEF").length 1).isEmpty=false) :
  ∃ x y,Txt.slice ln (some i) (some (i + 3))=⟨#[61,x,y]⟩/\HexPair x y:=by
 obtain ⟨k,rfl⟩:=Int.eq_ofNat_of_zero_le h0
 have hk:k + 2 < ln.length:=Int.ofNat_lt.mp h1
 have hk2:k + 2 < ln.cps.toList.length:=(len_list ln).symm ▸ hk
 have hk1:=Nat.lt_of_succ_lt hk2
 have hk0:=Nat.lt_of_succ_lt hk1
 obtain ⟨a,h4⟩:∃ a,ln.cps.toList[k]? = some a:=⟨_,List.getElem?_eq_getElem hk0⟩
 obtain ⟨x,h5⟩:∃ a,ln.cps.toList[k + 1]? = some a:=⟨_,List.getElem?_eq_getElem hk1⟩
 obtain ⟨y,h6⟩:∃ a,ln.cps.toList[k + 2]? = some a:=⟨_,List.getElem?_eq_getElem hk2⟩
 have e1:=item_nat h4
 have e2:=item_nat h5
 have e3:=item_nat h6
 rw [show ((k + 1:Nat):Int)=(k:Int) + 1 from rfl] at e2
 rw [show ((k + 2:Nat):Int)=(k:Int) + 2 from rfl] at e3
 rw [e2] at ha
 rw [e3] at hb
 rw [e1] at he
 have ea:a=61:=by
  have h0:(⟨#[a]⟩:PySem.Str)=PySem.Str.ofString "=" := eq_of_beq (by
   cases hq:((⟨#[a]⟩:PySem.Str) == PySem.Str.ofString "=") with
   | true=>rfl
   | false=>exact absurd he (by unfold bne;rw [hq];decide))
  have h1:(⟨#[a]⟩:PySem.Str)=⟨#[61]⟩:=h0.trans (by rfl)
  injection h1 with q
  simpa using congrArg Array.toList q
 refine ⟨x,y,?_,inHex_mem ha,inHex_mem hb⟩
 apply PySem.Str.ext';apply Array.ext'
 have s:=slice_ab ln (a:=k) (b:=k + 3) (Nat.le_add_right k 3) hk
 rw [show ((k + 3:Nat):Int)=(k:Int) + 3 from rfl] at s
 rw [s,<- ea]
 have hd:ln.cps.toList.drop k=a::x::y::ln.cps.toList.drop (k + 3):=by
  rw [List.drop_eq_getElem_cons hk0,List.drop_eq_getElem_cons hk1,List.drop_eq_getElem_cons hk2]
  have q4:=(List.getElem?_eq_some_iff.mp h4).2
  have q5:=(List.getElem?_eq_some_iff.mp h5).2
  have q6:=(List.getElem?_eq_some_iff.mp h6).2
  rw [q4,q5,q6]
 rw [hd,Nat.add_sub_cancel_left]
 rfl
end Mine
namespace Mine
open PySem PySem.Builtin PySem.Builtin.Str
theorem dLine_len (d ln:PySem.Str)(hr:(Txt.rstrip ln).length<=ln.length):(dLine d ln).length<=d.length + 2 * ln.length + 1:=by
 have e:(PySem.Str.ofString "\n").length=1:=rfl
 unfold dLine
 split
 ·rw [len_app,e];exact Nat.add_le_add_right (Nat.le_add_right _ _) 1
 ·have:=dRun_len (Txt.rstrip ln) (Txt.rstrip ln).length d 0 (Int.le_refl _)
  exact Nat.le_succ_of_le (Nat.le_trans this (Nat.add_le_add_left (Nat.mul_le_mul_left 2 hr) _))
theorem rstrip_len (x:PySem.Str):(Txt.rstrip x).length<=x.length:=PyProof.Rows.len_rstrip x
theorem dLines_len:∀ (ls:List PySem.Str)(d:PySem.Str),(ls.foldl dLine d).length<=d.length + 2 * wsum ls + ls.length
 | [],d=>by simp
 | l::ls,d=>by
  have h1:=dLine_len d l (rstrip_len l)
  have h2:=dLines_len ls (dLine d l)
  have hs:wsum (l::ls)=l.length + wsum ls:=by simp [wsum]
  rw [hs,Nat.mul_add]
  exact lbk h2 h1
end Mine
namespace Mine
open PySem
theorem unq_len (x:PySem.Str):(unqS x).length=1:=rfl
theorem itm_len (x:PySem.Str)(i:Int):(Txt.item x i).length=1:=rfl
theorem nl_len:(PySem.Str.ofString "\n").length=1:=rfl
end Mine
namespace Mine
open PySem PySem.Builtin PySem.Builtin.Str
noncomputable def decBody (v:PySem.Str):PySem.Str:=(Txt.lines v).foldl dLine (PySem.Str.ofString "")
noncomputable def decS (v:PySem.Str):PySem.Str:=if crlf (Txt.item v (-1))=false/\Txt.endswith (decBody v) (PySem.Str.ofString "\n")=true then Txt.slice (decBody v) none (some (-1)) else decBody v
theorem decS_1 {v d:PySem.Str}(hd:d=decBody v) (h1:(occurrences (PySem.Str.ofString "\r\n") (Txt.item v (-1)) 0 (PySem.Str.ofString "\r\n").length 1).isEmpty=true) (h2:Txt.endswith d (PySem.Str.ofString "\n")=true):Txt.slice d none (some (-1))=decS v:=by
 subst hd;unfold decS;rw [if_pos ⟨by unfold crlf;rw [h1];rfl,h2⟩]
theorem decS_2 {v d:PySem.Str}(hd:d=decBody v) (h2:Txt.endswith d (PySem.Str.ofString "\n")=false):d=decS v:=by
 subst hd;unfold decS;rw [if_neg (by rintro ⟨_,q⟩;rw [h2] at q;exact Bool.noConfusion q)]
theorem decS_3 {v d:PySem.Str}(hd:d=decBody v) (h1:(occurrences (PySem.Str.ofString "\r\n") (Txt.item v (-1)) 0 (PySem.Str.ofString "\r\n").length 1).isEmpty=false):d=decS v:=by
 subst hd;unfold decS;rw [if_neg (by rintro ⟨q,_⟩;unfold crlf at q;rw [h1] at q;exact Bool.noConfusion q)]
end Mine
end XP4
section XP5
namespace Mine
open PySem PySem.Builtin PySem.Builtin.Str
noncomputable def low (x:PySem.Str):Prop:=∀ c∈x.cps.toList,c < 256
noncomputable def good (x:PySem.Str):Prop:=∀ c∈x.cps.toList,c < 256/\c≠13
theorem good.low {x:PySem.Str}(h:good x):low x:=fun c hc=>(h c hc).1
theorem good_app {a b:PySem.Str}(ha:good a)(hb:good b):good (a++b):=by
 intro c hc
 rw [PySem.Str.cps_append,Array.toList_append,List.mem_append] at hc
 exact hc.elim (ha c) (hb c)
theorem good_const {x:PySem.Str}(h:x.cps.toList.all (fun c=>decide (c < 256) && decide (c≠13))=true):good x:=by
 intro c hc
 have:=List.all_eq_true.mp h c hc
 simpa using this
theorem good_map {tab:List (Nat×List Nat)}{x:PySem.Str} (h13:tab.lookup 13≠none)(ht:tab.all (fun p=>p.2.all fun c=>decide (c < 256) && decide (c≠13))=true)(hx:low x):good (mapS (tabF tab) x):=by
 intro c hc
 have hc':c∈x.cps.toList.flatMap (tabF tab):=hc
 obtain ⟨d,hd,hcd⟩:=List.mem_flatMap.mp hc'
 unfold tabF at hcd
 cases hl:tab.lookup d with
 | none=>
  rw [hl] at hcd
  have e:c=d:=by simpa using hcd
  subst e
  refine ⟨hx _ hd,fun q=>?_⟩
  subst q
  exact h13 hl
 | some o=>
  rw [hl] at hcd
  have hco:c∈o:=hcd
  have hm:∀ (t:List (Nat×List Nat)),t.all (fun p=>p.2.all fun c=>decide (c < 256) && decide (c≠13))=true->t.lookup d=some o->c < 256/\c≠13:=by
   intro t
   induction t with
   | nil=>intro _ h;cases h
   | cons p r ih=>
    intro ha h
    rw [List.all_cons,Bool.and_eq_true] at ha
    rw [List.lookup_cons] at h
    split at h
    ·have:=Option.some.inj h
     subst this
     have:=List.all_eq_true.mp ha.1 c hco
     simpa using this
    ·exact ih ha.2 h
  exact hm tab ht hl
theorem good_escT {x:PySem.Str}(hx:low x):good (escT x):=good_map (by decide) (by decide) hx
theorem good_escV {x:PySem.Str}(hx:low x):good (escV x):=good_map (by decide) (by decide) hx
theorem good_docA {v:PySem.Str}(hv:low v):good (docA v):=good_app (good_app (good_const (by decide +kernel)) (good_escV hv)) (good_const (by decide +kernel))
theorem good_docB {pl:Int}{v ml:PySem.Str}(hv:low v)(hm:low ml):good (docB pl v ml):=by
 unfold docB
 split
 ·exact good_app (good_app (good_app (good_docA hv) (good_const (by decide +kernel))) (good_escV hm)) (good_const (by decide +kernel))
 ·split
  ·exact good_app (good_app (good_docA hv) (good_const (by decide +kernel))) (good_escT hm)
  ·split
   ·exact good_app (good_app (good_app (good_docA hv) (good_const (by decide +kernel))) (good_escT hm)) (good_const (by decide +kernel))
   ·split
    ·exact good_app (good_docA hv) (good_const (by decide +kernel))
    ·exact good_app (good_app (good_app (good_docA hv) (good_const (by decide +kernel))) (good_escT hm)) (good_const (by decide +kernel))
theorem good_docS {pl:Int}{v ml tx:PySem.Str}(hv:low v)(hm:low ml)(ht:low tx):good (docS pl v ml tx):=
 good_app (good_app (good_docB hv hm) (good_escT ht)) (good_const (by decide +kernel))
theorem docB_len {pl:Int}{v ml:PySem.Str}:(docB pl v ml).length<=20 + 6 * v.length + 6 * ml.length:=by
 have h1:=escV_length v
 have h2:=escV_length ml
 have h3:=escT_length ml
 have c1:(PySem.Str.ofString "<n v=\"").length=6:=rfl
 have c2:(PySem.Str.ofString "\"").length=1:=rfl
 have c3:(PySem.Str.ofString " w=\"").length=4:=rfl
 have c4:(PySem.Str.ofString "\">").length=2:=rfl
 have c5:(PySem.Str.ofString ">").length=1:=rfl
 have c6:(PySem.Str.ofString "><!--").length=5:=rfl
 have c7:(PySem.Str.ofString "-->").length=3:=rfl
 have c8:(PySem.Str.ofString "><?p?>").length=6:=rfl
 have c9:(PySem.Str.ofString "><?p ").length=5:=rfl
 have c10:(PySem.Str.ofString "?>").length=2:=rfl
 unfold docB docA
 repeat' split
 all_goals (simp only [len_app,c1,c2,c3,c4,c5,c6,c7,c8,c9,c10];lia)
theorem docS_len {pl:Int}{v ml tx:PySem.Str}:(docS pl v ml tx).length<=24 + 6 * v.length + 6 * ml.length + 6 * tx.length/\4<=(docS pl v ml tx).length:=by
 have h1:=docB_len (pl:=pl) (v:=v) (ml:=ml)
 have h2:=escT_length tx
 have c1:(PySem.Str.ofString "</n>").length=4:=rfl
 unfold docS
 simp only [len_app,c1]
 lia
end Mine
end XP5
section XL11
open PySem PySem.W PyProof.Rows PySem.Calls
namespace Mine
theorem told_esc {ml:PySem.Str}(h:ml.length<=1000):(mapS (tabF tabC) ml).length<=6000:=by
 rw [escC_eq]
 exact Nat.le_trans (escT_length ml) (by omega)
theorem app_length (a b:PySem.Str):(a++b).length=a.length + b.length:=by
 show (a.cps++b.cps).size=_
 rw [Array.size_append];rfl
theorem app_le {a b:PySem.Str}(ha:a.length<=1000)(hb:b.length<=2):(a++b).length<=10000:=by
 rw [app_length];omega
theorem str_ext9 {a b:PySem.Str}(h:a.cps.toList=b.cps.toList):a=b:=by
 apply PySem.Str.ext';exact Array.ext' h
theorem app_toList (a b:PySem.Str):(a++b).cps.toList=a.cps.toList++b.cps.toList:=by
 show (a.cps++b.cps).toList=_
 rw [Array.toList_append]
theorem mapS_app (f:Nat->List Nat)(a b:PySem.Str):mapS f (a++b)=mapS f a++mapS f b:=by
 apply str_ext9
 rw [app_toList]
 show (a++b).cps.toList.flatMap f=a.cps.toList.flatMap f++b.cps.toList.flatMap f
 rw [app_toList,List.flatMap_append]
theorem told_e0 (v ml tx:PySem.Str):PySem.Str.ofString "<" ++ nN++(attrS nV (mapS (tabF tabA) v)++attrS nW (mapS (tabF tabA) ml))++PySem.Str.ofString ">" ++ mapS (tabF tabC) tx++PySem.Str.ofString "</n>" = docS 0 v ml tx:=by
 rw [escA_eq,escA_eq,escC_eq]
 apply str_ext9
 delta docS docB docA attrS nN nV nW
 rw [if_pos rfl]
 simp only [app_toList,List.append_assoc]
 rfl
theorem told_e1 (v ml tx:PySem.Str):PySem.Str.ofString "<" ++ nN++attrS nV (mapS (tabF tabA) v)++PySem.Str.ofString ">" ++ mapS (tabF tabC) (ml++tx)++PySem.Str.ofString "</n>" = docS 1 v ml tx:=by
 rw [mapS_app,escA_eq,escC_eq,escC_eq]
 apply str_ext9
 delta docS docB docA attrS nN nV
 rw [if_neg (by decide),if_pos rfl]
 simp only [app_toList,List.append_assoc]
 rfl
theorem told_e2 (v ml tx:PySem.Str):PySem.Str.ofString "<" ++ nN++attrS nV (mapS (tabF tabA) v)++PySem.Str.ofString ">" ++ (PySem.Str.empty++PySem.Str.ofString "<!--" ++ mapS (tabF tabC) ml++PySem.Str.ofString "-->")++mapS (tabF tabC) tx++PySem.Str.ofString "</n>" = docS 2 v ml tx:=by
 rw [escA_eq,escC_eq,escC_eq]
 apply str_ext9
 delta docS docB docA attrS nN nV
 rw [if_neg (by decide),if_neg (by decide),if_pos rfl]
 simp only [app_toList,List.append_assoc]
 rfl
theorem told_e3 (v ml tx:PySem.Str)(h:ml.length≠0):PySem.Str.ofString "<" ++ nN++attrS nV (mapS (tabF tabA) v)++PySem.Str.ofString ">" ++ (PySem.Str.empty++PySem.Str.ofString "<?" ++ PySem.Str.ofString "p" ++ PySem.Str.ofString " " ++ mapS (tabF tabC) ml++PySem.Str.ofString "?>")++mapS (tabF tabC) tx++PySem.Str.ofString "</n>" = docS 3 v ml tx:=by
 have hm:¬ ((ml == PySem.Str.ofString "")=true):=fun e=>h (by rw [eq_of_beq e];rfl)
 rw [escA_eq,escC_eq,escC_eq]
 apply str_ext9
 delta docS docB docA attrS nN nV
 rw [if_neg (by decide),if_neg (by decide),if_neg (by decide),if_neg hm]
 simp only [app_toList,List.append_assoc]
 rfl
theorem told_e4 (v ml tx:PySem.Str)(h:ml.length=0):PySem.Str.ofString "<" ++ nN++attrS nV (mapS (tabF tabA) v)++PySem.Str.ofString ">" ++ (PySem.Str.empty++PySem.Str.ofString "<?" ++ PySem.Str.ofString "p" ++ PySem.Str.ofString "?>")++mapS (tabF tabC) tx++PySem.Str.ofString "</n>" = docS 3 v ml tx:=by
 have hm:(ml == PySem.Str.ofString "")=true:=by
  obtain ⟨c⟩:=ml
  have h3:c=#[]:=Array.eq_empty_of_size_eq_zero h
  rw [h3];rfl
 rw [escA_eq,escC_eq]
 apply str_ext9
 delta docS docB docA attrS nN nV
 rw [if_neg (by decide),if_neg (by decide),if_neg (by decide),if_pos hm]
 simp only [app_toList,List.append_assoc]
 rfl
theorem told_len {pl:Int}{v ml tx:PySem.Str}(hv:v.length<=1)(hml:ml.length<=1000)(htx:tx.length<=2):(docS pl v ml tx).length<=10000:=by
 have h:=(docS_len (pl:=pl) (v:=v) (ml:=ml) (tx:=tx)).1
 omega
theorem told_o3 {its:Array Value}{v ml tx:PySem.Str}{k:Nat}(h:(ml.length:Int)≠0)(ho:OutIs its (PySem.Str.ofString "<" ++ nN++attrS nV (mapS (tabF tabA) v)++PySem.Str.ofString ">" ++ (PySem.Str.empty++PySem.Str.ofString "<?" ++ PySem.Str.ofString "p" ++ PySem.Str.ofString " " ++ mapS (tabF tabC) ml++PySem.Str.ofString "?>")++mapS (tabF tabC) tx++PySem.Str.ofString "</n>") k):OutIs its (docS 3 v ml tx) k:=
 told_e3 v ml tx (fun e=>h (by rw [e];rfl)) ▸ ho
theorem told_o4 {its:Array Value}{v ml tx:PySem.Str}{k:Nat}(h:(ml.length:Int)=0)(ho:OutIs its (PySem.Str.ofString "<" ++ nN++attrS nV (mapS (tabF tabA) v)++PySem.Str.ofString ">" ++ (PySem.Str.empty++PySem.Str.ofString "<?" ++ PySem.Str.ofString "p" ++ PySem.Str.ofString "?>")++mapS (tabF tabC) tx++PySem.Str.ofString "</n>") k):OutIs its (docS 3 v ml tx) k:=
 told_e4 v ml tx (Int.ofNat.inj h) ▸ ho
end Mine
end XL11
section XW17
open PySem PySem.W PyProof.Rows PySem.Calls
namespace Mine.W17
open Mine.Hd
theorem SB.of_same {a b c:Shared}(S:SB a b)(h:Same b c):SB a c:=⟨h.2.2.trans S.1,by rw [h.1];exact S.2⟩
theorem ap_one {a:Addr}{news:List (Addr×Obj)}(h:∀ q∈news,q.1≠a):Ap [a] (addrs news):=by
 refine ⟨List.nodup_cons.mpr ⟨List.not_mem_nil,List.nodup_nil⟩,fun b hb hr=>?_⟩
 obtain rfl:=List.mem_singleton.mp hb
 obtain ⟨p,hp,e⟩:=List.mem_map.mp hr
 exact h p hp e
theorem told_fin {R:Str->Tok->Shared->Prop} {s s9:Shared}{h₀:Heap}{L:Addr}{m:Str->Option Value}{G:Addr->Obj->List (Addr×Obj)}{d e:Str} {t t9:Tok} {c9:Addr} {oc9:Obj} {vs9:Array Value}{z:Str}
  (hret:∀ (t:Tok) (c9:Addr) (oc9:Obj) (vs9:Array Value) (t9:Tok) (s9:Shared),SB s s9->Fr h₀ L s9.heap m->News h₀ L s9.heap (G c9 oc9)->oc9.data = .fields vs9->vs9[1]? = some (.str z t9)->R d t s9)(he:e=d)(S:SB s s9)(F:Fr h₀ L s9.heap m)(N:News h₀ L s9.heap (G c9 oc9)) (h1:oc9.data = .fields vs9) (h2:vs9[1]? = some (.str z t9)):R e t s9:=by
 subst he;exact hret t c9 oc9 vs9 t9 s9 S F N h1 h2
theorem wt15:True:=by
 k_with "W17 omega" => k_extra "A65"
 k_with "W17 cell_enter" => k_extra "A5"
 k_with "W17 k_steps" => k_extra "A6"
 k_with "W17 execs cons" => k_extra "A7"
 k_with "W17 execs nil" => k_extra "A8"
 k_with "W17 eval Name" => k_extra "A9"
 k_with "W17 getMethod ref" => k_extra "A35"
 k_with "W17 callWith ref" => k_extra "A15"
 k_with "W17 storeName" => k_extra "A36"
 k_with "W17 k_upd" => k_extra "A37"
 k_with "W17 k_updF" => k_extra "A38"
 k_with "W17 lt" => k_extra "A39"
 k_with "W17 getAttr ref" => k_extra "A16"
 k_with "W17 callWith ref" => k_extra "A17"
 k_with "W17 And" => k_extra "A18"
 k_with "W17 call ref" => k_extra "A41"
 k_with "W17 call builtin:list.append" => k_extra "A42"
 k_with "W17 truthy ref" => k_extra "A44"
 k_with "W17 eval Dict" => k_extra "A87"
 k_with "W17 KdnMade" => k_extra "A88"
 k_with "W17 compareOp Eq int int" => k_extra "A74"
 k_with "W17 exec If" => k_extra "A45"
 k_with "W17 compareOp Eq str str" => k_extra "A89"
 k_with "W17 formatField str" => k_extra "A90"
 k_with "W17 call builtin:str.join" => k_extra "A91"
 k_with "W17 call ref" => k_extra "A70"
 k_with "W17 call ref" => k_extra "A92"
 k_with "W17 call ref" => k_extra "A93"
 k_with "W17 call ref" => k_extra "A94"
 k_with "W17 call ref" => k_extra "A95"
 k_with "W17 eval Constant int" => k_extra "A30"
 k_with "W17 eval Constant str" => k_extra "A31"
 k_with "W17 binaryOp Add int int" => k_extra "A32"
 k_with "W17 binaryOp Sub int int" => k_extra "A33"
 k_with "W17 unaryOp USub int" => k_extra "A34"
 exact True.intro
noncomputable def told_ct.P (v ml tx:Str)(pl:Int) (k1 k2 k3 k4:Tok) (news)(s:Shared)(Q:Value->Shared->Prop)(oT:Obj) (p m L)(dp un:Nat)(w:World) (loose mean mg mb gd cn)(cs:Scope) (a ccd cl outer A₀ base h₀)(E:Value->Shared->Prop):=∀ (B:Below A₀ base outer h₀)(F:Fr h₀ L s.heap m)(X:(heapK w.params).In h₀)(T:Top p loose mean mg mb h₀)(hk:cs.kind = .function)(hd:dp + 160 < recursionLimit)(hu:un + 2500 < cLine) (h0:0<=pl) (h3:pl < 4)(hval:v.length<=1)(hml:ml.length<=1000)(htx:tx.length<=2)(CD:CodeHd base 176 174)(hP:∀ q∈news,q.1≠174)(lt:LamTab oT news ⟨227,71,227,96⟩ (Str.ofString "C14NWriterTarget._start.<locals>.<lambda>") fun c=>c∈addrs news) (G0:AllBare s.gens)(N:News h₀ L s.heap ((174,oT)::news))(hret:∀ (t:Tok) (c9:Addr) (oc9:Obj) (vs9:Array Value) (t9:Tok) (s9:Shared),SB s s9->Fr h₀ L s9.heap m->News h₀ L s9.heap ((174,tabObj #[rawInt 227,rawInt 71,.ref c9])::(c9,oc9)::news)->oc9.data = .fields vs9->vs9[1]? = some (.str (Str.ofString "C14NWriterTarget._start.<locals>.<lambda>") t9)->Q (.str (docS pl v ml tx) t) s9),wpAny (model rw_re0182_01.row.prog w) (ktrTop dp un gd cn cs L a ccd cl outer) (call (.ref 238) [.str v k1,.int pl k2,.str ml k3,.str tx k4]) Q E s
namespace told_ct
noncomputable def R:=(s4 <| s4 <| s4 <| s4 <| s4 <| s4 <| s4 <| s4 <| id) P
@[irreducible] noncomputable def z:=zy R (by k_extra "N")
@[irreducible] noncomputable def v:=f1 z
@[irreducible] noncomputable def ml:=f1 (f2 z)
@[irreducible] noncomputable def tx:=f1 (f2 (f2 z))
@[irreducible] noncomputable def pl:=f1 (f2 (f2 (f2 z)))
@[irreducible] noncomputable def k1:=f1 (f2 (f2 (f2 (f2 z))))
@[irreducible] noncomputable def k2:=f1 (f2 (f2 (f2 (f2 (f2 z)))))
@[irreducible] noncomputable def k3:=f1 (f2 (f2 (f2 (f2 (f2 (f2 z))))))
@[irreducible] noncomputable def k4:=f1 (f2 (f2 (f2 (f2 (f2 (f2 (f2 z)))))))
@[irreducible] noncomputable def news:=f1 (f2 (f2 (f2 (f2 (f2 (f2 (f2 (f2 z))))))))
@[irreducible] noncomputable def s:=f1 (f2 (f2 (f2 (f2 (f2 (f2 (f2 (f2 (f2 z)))))))))
@[irreducible] noncomputable def Q:=f1 (f2 (f2 (f2 (f2 (f2 (f2 (f2 (f2 (f2 (f2 z))))))))))
@[irreducible] noncomputable def zr:=f2 (f2 (f2 (f2 (f2 (f2 (f2 (f2 (f2 (f2 (f2 z))))))))))
theorem T:(s4 <| s4 <| s4 <| s4 <| s4 <| st <| id) (P v ml tx pl k1 k2 k3 k4 news s Q) zr:=by
 intro B F X T hk hd hu h0 h3 hval hml htx CD hP lt G0 N hret
 revert X;k_fill;intro X
 w_on
 have S0:SB s s:=⟨rfl,G0⟩
 have AP:Ap [174] (addrs news):=ap_one hP
 refine wpAny_call ?_
 (rename SB _ _=>s9);k_dflt (refine' enterBZ [(Str.ofString "value",.str v k1),(Str.ofString "place",.int pl k2),(Str.ofString "mail",.str ml k3),(Str.ofString "text",.str tx k4)] s9 ?k1 ?k2 ?k3 ?k4 ?k5 ?kA ?kF ?kK ?k6 ?k7 ?k8 ?k9 ?kB ?_ ?c2 ?c3 ?c4 ?c5;cell_enter);clear s9
 have hC:(mapS (tabF tabC) ml).length<=6000:=told_esc hml
 k_steps
 all_goals ((rename News _ _ _ _=>kN9);(rename Fr _ _ _ _=>kF9);(rename SB _ _=>kS9))
 all_goals (k_dflt (refine' told_fin (R:=fun z t s9=>Q (.str z t) s9) (G:=fun c9 oc9=>(174,tabObj #[rawInt 227,rawInt 71,.ref c9])::(c9,oc9)::news) hret ?e kS9 kF9 (fun q hq=>kN9 q (by repeat (first | exact hq | refine List.Mem.tail _ ?_))) ?dd ?vv;(case dd | vv=>assumption);(case e=>exact congrArg (fun z=>docS z v ml tx) (by omega))))
end told_ct
theorem told_ct (v ml tx pl k1 k2 k3 k4 news s Q oT) {p} (m L dp un) {w loose mean mg mb} (gd cn cs a ccd cl outer A₀ base h₀ E):told_ct.P v ml tx pl k1 k2 k3 k4 news s Q oT p m L dp un w loose mean mg mb gd cn cs a ccd cl outer A₀ base h₀ E:=by with_unfolding_all exact zy_all _ told_ct.R told_ct.T (v,ml,tx,pl,k1,k2,k3,k4,news,s,Q,oT,p,m,L,dp,un,w,loose,mean,mg,mb,gd,cn,cs,a,ccd,cl,outer,A₀,base,h₀,E)
end Mine.W17
end XW17
open Mine.W17
section XV0
open PySem PySem.W PyProof.Rows PySem.Calls
namespace Mine
noncomputable def EndB (tabs:List (Addr×Addr))(s₁:Shared)(r:Result)(s':Shared):Prop:=
 r = .ok (.ret (.bool true))/\(∀ b o,(ghostOf s₁.heap tabs).get? b=some o->s'.heap.get? b=some o)/\s'.os=s₁.os/\AllBare s'.gens/\GrownAll tabs s'.heap
theorem endB_post {M:Model}{A:Around}{cd:Code}{s s₁:Shared}{cw:ClaimW}{cl:PySem.Str->Option Addr}{mean:ExcName->Option Value}{args:List WData}{tabs:List (Addr×Addr)}(hT:TabsAt tabs s₁.heap)
  (hr:∀ x,cw.raises args x=false)(hp:cw.post args (.bool true) args=true)(h:codeAny M A cd (EndB tabs s₁) s):codeAny M A cd (GoodWG cw cl mean args s₁) s:=by
 refine codeAny_mono h ?_
 rintro r s' ⟨rfl,hk,hos,hb,hg⟩
 have old:∀ b o,s₁.heap.get? b=some o->(b ∉ tabs.map (·.2)/\s'.heap.get? b=some o)\/(isCodeTable s₁.heap b/\o=tabObj #[]/\∃ ps,s'.heap.get? b=some (tabObj ps)):=by
  intro b o e
  by_cases hm:b∈tabs.map (·.2)
  ·right
   obtain ⟨q,hq,rfl⟩:=List.mem_map.mp hm
   obtain ⟨hc,ht⟩:=hT q hq
   have e2:=ht
   rw [e] at e2
   exact ⟨(hc.tab ht).isCodeTable,Option.some.inj e2,hg.get q hq⟩
  ·exact .inl ⟨hm,hk b o (ghost_ne e hm)⟩
 refine ⟨.inl ⟨_,_,[],rfl,hr,ReadsW.bool true,hp,fun _=>⟨List.nodup_nil,fun _ hm=>(nomatch hm)⟩⟩,⟨fun b o e=>?_,fun b o e=>?_⟩,hos,hb⟩
 ·rcases old b o e with ⟨_,h1⟩ | ⟨h1,rfl,ps,h2⟩
  ·exact .inl h1
  ·refine .inr (.inl ⟨h1,rfl,#[],ps,rfl,?_⟩)
   rw [Array.empty_append]
   exact h2
 ·rcases old b o e with ⟨_,h1⟩ | ⟨_,_,_,h2⟩
  ·exact ⟨o,h1⟩
  ·exact ⟨_,h2⟩
section
variable {prog:Program}{w:World}{A:Around}{E:Value->Shared->Prop}{s:Shared}{h₀:Heap}{L:Addr}{m:PySem.Str->Option Value}{news rest:List (Addr×Obj)}{env:Env}
noncomputable def LoopR (prog:Program)(w:World)(A:Around)(target:Expr)(I:Addr)(body:List Stmt)(env:Env)(R:Result->Shared->Prop)(s:Shared):Prop:=codeAny (model prog w) A (.forLoop target (.ref I) body [] env) R s
theorem rg_go {target:Expr}{body:List Stmt}{R:Result->Shared->Prop}{r:Addr}{t u v:Tok}(F:Fr h₀ L s.heap m)(N:News h₀ L s.heap news)(hr:IsRange s.heap r 0 2 1 t u v)
  (h:∀ I h',Fr h₀ L h' m->News h₀ L h' ((I,itR 0 2)::news)->(∀ q∈news,q.1 < I)->LoopR prog w A target I body env R { s with heap:=h' }) :
  wpAny (model prog w) A (pyIter (.ref r)) (fun it s₂=>codeAny (model prog w) A (.forLoop target it body [] env) R s₂) E s:=by
 refine wpAny_pyIter_range hr (by decide) ?_
 exact h _ _ (F.push _) (News.push F N _) fun q hq=>Heap.lt_size (N q hq).1
theorem rg_item {body:List Stmt}{R:Result->Shared->Prop}{I:Addr}{a n:Int}{x:PySem.Str}{px:Pos}(hLe:env.locals=L)(F:Fr h₀ L s.heap m)(N:News h₀ L s.heap ((I,itR a n)::news))(off:∀ q∈news,q.1≠I)(hn:0 < n)(hk:env.scope.kind = .function)
  (kx:env.kindOf x=some .local)
  (h:∀ h' t tk,Fr h₀ L h' (fun y=>if y=x then some (.int a t) else m y)->News h₀ L h' ((I,itR (a + 1) (n - 1))::news) ->
   wpAny (model prog w) A (execs body env) (fun f s4=>f = .next/\LoopR prog w A (.Name x px) I body env R s4) (fun _ _=>False) { s with heap:=h',toks:=tk }) :
  LoopR prog w A (.Name x px) I body env R s:=by
 subst hLe
 have hI:=N _ (List.mem_cons_self ..)
 refine forLoop_turn ?_
 refine wpAny_pyNext_range_item (x:=a) (left:=n) (step:=1) hI.1 hn fun h1 it1 sb1=>?_
 have F1:Fr h₀ env.locals h1 m:=⟨F.ns.at' fun o e=>(sb1.2 _ hI.2.1.symm).trans e,fun b o e=>(sb1.2 b (fun q=>by rw [q,hI.2.2] at e;cases e)).trans (F.keep b o e),F.above⟩
 have N1:News h₀ env.locals h1 ((I,itR (a + 1) (n - 1))::news):=by
  intro p hp
  rcases List.mem_cons.mp hp with rfl | hp
  ·exact ⟨it1,hI.2⟩
  ·exact ⟨(sb1.2 _ (off p hp)).trans (N p (List.mem_cons_of_mem _ hp)).1,(N p (List.mem_cons_of_mem _ hp)).2⟩
 show wpAny _ _ (letOwnedTupleGo _ _ _) _ _ _
 refine wpAny_pure ?_
 refine wpAny_assign_Name (wpAny_storeName_local kx F1.ns (fun h3 ns3 sb3=>?_) (by rw [hk];rfl))
 have F3:=F1.set ns3 sb3
 have N3:News h₀ env.locals h3 ((I,itR (a + 1) (n - 1))::news):=fun x hx=>⟨(sb3.2 x.1 (N1 x hx).2.1).trans (N1 x hx).1,(N1 x hx).2⟩
 exact h h3 _ _ F3 N3
theorem rg_end {target:Expr}{body:List Stmt}{R:Result->Shared->Prop}{I:Addr}{a n:Int}(hh:A.handled=none)(F:Fr h₀ L s.heap m)(N:News h₀ L s.heap ((I,itR a n)::news))(off:∀ q∈news,q.1≠I)(hn:n<=0)
  (h:∀ h',Fr h₀ L h' m->News h₀ L h' news->R (.ok .next) { s with heap:=h' }):LoopR prog w A target I body env R s:=by
 have hI:=N _ (List.mem_cons_self ..)
 refine forLoop_turn ?_
 refine wpAny_pyNext_range_end (x:=a) (left:=n) (step:=1) hh hI.1 hn fun h1 eb=>?_
 exact h h1 ⟨F.ns.at' fun o e=>eb _ _ hI.2.1.symm e,fun b o e=>eb b o (fun q=>by rw [q,hI.2.2] at e;cases e) (F.keep b o e),F.above⟩ fun q hq=>⟨eb _ _ (off q hq) (N q (List.mem_cons_of_mem _ hq)).1,(N q (List.mem_cons_of_mem _ hq)).2⟩
end
end Mine
end XV0
section XP6
namespace Mine
open PySem PySem.Builtin PySem.Builtin.Str
noncomputable def cat (U:List PySem.Str):PySem.Str:=⟨(U.flatMap (·.cps.toList)).toArray⟩
theorem str_ext {a b:PySem.Str}(h:a.cps.toList=b.cps.toList):a=b:=PySem.Str.ext' (Array.ext' h)
theorem app_list (a b:PySem.Str):(a++b).cps.toList=a.cps.toList++b.cps.toList:=by rw [PySem.Str.cps_append,Array.toList_append]
theorem cat_list (U:List PySem.Str):(cat U).cps.toList=U.flatMap (·.cps.toList):=rfl
theorem cat_nil:cat []=PySem.Str.ofString "" := str_ext rfl
theorem app_cat_nil (a:PySem.Str):a++cat []=a:=str_ext (by rw [app_list,cat_list];simp)
theorem app_cat_cons (a u:PySem.Str)(U:List PySem.Str):a++cat (u::U)=a++u++cat U:=str_ext (by simp only [app_list,cat_list,List.flatMap_cons,List.append_assoc])
theorem nil_appP (a:PySem.Str):PySem.Str.ofString "" ++ a=a:=str_ext (by rw [app_list];rfl)
theorem wsum_cons (u:PySem.Str)(U:List PySem.Str):wsum (u::U)=u.length + wsum U:=by simp [wsum]
theorem cat_len (U:List PySem.Str):(cat U).length=wsum U:=by
 rw [<- len_list,cat_list]
 induction U with
 | nil=>rfl
 | cons u U ih=>rw [List.flatMap_cons,List.length_append,ih,wsum_cons,len_list]
theorem lensum_eq (U:List PySem.Str):lensum U=((wsum U:Nat):Int):=by
 induction U with
 | nil=>rfl
 | cons u U ih=>
  have e:lensum (u::U)=((u.length:Nat):Int) + lensum U:=by simp [lensum]
  rw [e,ih,wsum_cons];rfl
theorem fold_rest (wd:Int):∀ (U:List PySem.Str)(rows:List PySem.Str)(row:PySem.Str)(left:Int),U.foldl (mStep wd) ⟨rows,row,left,true⟩=⟨rows,row++cat U,left - ((wsum U:Nat):Int),true⟩
 | [],rows,row,left=>by
  have e:((wsum []:Nat):Int)=0:=rfl
  rw [app_cat_nil,e,Int.sub_zero];rfl
 | u::U,rows,row,left=>by
  rw [List.foldl_cons]
  have e:mStep wd ⟨rows,row,left,true⟩ u=⟨rows,row++u,left - ((u.length:Nat):Int),true⟩:=by
   unfold mStep;rw [if_neg (by rintro ⟨q,_⟩;exact Bool.noConfusion q)]
  rw [e,fold_rest wd U,app_cat_cons,wsum_cons]
  congr 1
  exact Int.sub_sub left u.length (wsum U)
theorem fold_fit (wd:Int):∀ (U:List PySem.Str)(rows:List PySem.Str)(row:PySem.Str)(left:Int),((row.length + wsum U:Nat):Int) < wd->U.foldl (mStep wd) ⟨rows,row,left,false⟩=⟨rows,row++cat U,left - ((wsum U:Nat):Int),false⟩
 | [],rows,row,left,_=>by
  have e:((wsum []:Nat):Int)=0:=rfl
  rw [app_cat_nil,e,Int.sub_zero];rfl
 | u::U,rows,row,left,h=>by
  rw [wsum_cons] at h
  rw [List.foldl_cons]
  have e:mStep wd ⟨rows,row,left,false⟩ u=⟨rows,row++u,left - ((u.length:Nat):Int),false⟩:=by
   unfold mStep;rw [if_neg (by rintro ⟨_,q⟩;exact absurd (Int.lt_of_lt_of_le h q) (Int.not_lt.mpr (Int.ofNat_le.mpr (Nat.add_le_add_left (Nat.le_add_right _ _) _))))]
  rw [e,fold_fit wd U _ _ _ (by rw [len_app,Nat.add_assoc];exact h),app_cat_cons,wsum_cons]
  congr 1
  exact Int.sub_sub left u.length (wsum U)
theorem cut_units (wd:Int):∀ (U:List PySem.Str)(r:Nat),((r:Nat):Int) < wd->wd<=((r + wsum U:Nat):Int)->∃ P u V,U=P++u::V/\((r + wsum P:Nat):Int) < wd/\wd<=((r + wsum P + u.length:Nat):Int)
 | [],r,h1,h2=>by have e:wsum []=0:=rfl;rw [e] at h2;exact absurd (Int.lt_of_lt_of_le h1 h2) (Int.lt_irrefl _)
 | u::U,r,h1,h2=>by
  rw [wsum_cons] at h2
  by_cases h:((r + u.length:Nat):Int) < wd
  ·obtain ⟨P,x,V,e,q1,q2⟩:=cut_units wd U (r + u.length) h (by rw [Nat.add_assoc];exact h2)
   refine ⟨u::P,x,V,by rw [e];rfl,?_,?_⟩
   ·rw [wsum_cons,<- Nat.add_assoc];exact q1
   ·rw [wsum_cons,<- Nat.add_assoc];exact q2
  ·exact ⟨[],u,U,rfl,h1,Int.not_lt.mp h⟩
theorem greedy_last (wd:Int)(rows U:List PySem.Str)(h:((wsum U:Nat):Int)<=wd):(U.foldl (mStep wd) (mInit wd rows U)).rows=rows/\(U.foldl (mStep wd) (mInit wd rows U)).row=cat U:=by
 unfold mInit
 rw [lensum_eq,decide_eq_true h,fold_rest,nil_appP]
 exact ⟨rfl,rfl⟩
theorem greedy_step {wd:Int}(hw:4<=wd)(rows P V:List PySem.Str)(u:PySem.Str)(hu:u.length<=3)(h:wd < ((wsum (P++u::V):Nat):Int)) (h1:((wsum P:Nat):Int) < wd) (h2:wd<=((wsum P + u.length:Nat):Int)) :
  (P++u::V).foldl (mStep wd) (mInit wd rows (P++u::V))=(u::V).foldl (mStep wd) (mInit wd (rows++[cat P++PySem.Str.ofString "="]) (u::V)):=by
 have e0:(PySem.Str.ofString "").length=0:=rfl
 have hT:wsum (P++u::V)=wsum P + wsum (u::V):=wsum_app P (u::V)
 unfold mInit
 rw [lensum_eq,lensum_eq,decide_eq_false (Int.not_le.mpr h),List.foldl_append,fold_fit wd P _ _ _ (by rw [e0,Nat.zero_add];exact h1),nil_appP,List.foldl_cons,List.foldl_cons]
 congr 1
 have ea:mStep wd ⟨rows,cat P,((wsum (P++u::V):Nat):Int) - ((wsum P:Nat):Int),false⟩ u=⟨rows++[cat P++PySem.Str.ofString "="],PySem.Str.ofString "" ++ u,((wsum (P++u::V):Nat):Int) - ((wsum P:Nat):Int) - ((u.length:Nat):Int),decide (((wsum (P++u::V):Nat):Int) - ((wsum P:Nat):Int)<=wd)⟩:=by
  unfold mStep
  rw [if_pos ⟨rfl,by dsimp only;rw [cat_len];exact h2⟩]
 have eb:mStep wd ⟨rows++[cat P++PySem.Str.ofString "="],PySem.Str.ofString "",((wsum (u::V):Nat):Int),decide (((wsum (u::V):Nat):Int)<=wd)⟩ u=⟨rows++[cat P++PySem.Str.ofString "="],PySem.Str.ofString "" ++ u,((wsum (u::V):Nat):Int) - ((u.length:Nat):Int),decide (((wsum (u::V):Nat):Int)<=wd)⟩:=by
  unfold mStep
  rw [if_neg (by rintro ⟨_,q⟩;dsimp only at q;rw [e0] at q;exact absurd (Int.ofNat_le.mp (Int.le_trans hw q:((4:Nat):Int)<=((0 + u.length:Nat):Int))) (Nat.not_le.mpr (Nat.lt_succ_of_le ((Nat.zero_add _).symm ▸ hu))))]
 have el:((wsum (P++u::V):Nat):Int) - ((wsum P:Nat):Int)=((wsum (u::V):Nat):Int):=by rw [hT,Int.natCast_add,Int.add_comm,Int.add_sub_cancel]
 rw [ea,eb,el]
end Mine
end XP6
section XP7
set_option tactic.hygienic true
namespace Mine
open PySem PySem.Builtin PySem.Builtin.Str
noncomputable def isUnit (u:PySem.Str):Prop:=(∃ c,c≠61/\u=⟨#[c]⟩)\/(∃ a b,a≠61/\b≠61/\u=⟨#[61,a,b]⟩)
theorem hexd_ne (d:Nat):hexd d≠61:=by
 unfold hexd;split
 ·rename_i h;exact Nat.ne_of_lt (Nat.lt_of_lt_of_le (Nat.add_lt_add_left h 48) (by decide))
 ·rename_i h;exact Nat.ne_of_gt (Nat.lt_of_lt_of_le (by decide:61 < 55 + 10) (Nat.add_le_add_left (Nat.not_lt.mp h) 55))
theorem unit_is (c:Nat):isUnit (unitS c):=by
 unfold unitS unitL
 split
 ·rename_i h
  exact .inl ⟨c,h.elim (fun e=>e ▸ (by decide:(9:Nat)≠61)) fun h=>h.2.2,rfl⟩
 ·exact .inr ⟨_,_,hexd_ne _,hexd_ne _,rfl⟩
theorem isUnit_len {u:PySem.Str}(h:isUnit u):u.length=1\/u.length=3:=by
 rcases h with ⟨c,_,rfl⟩ | ⟨a,b,_,_,rfl⟩
 ·exact .inl rfl
 ·exact .inr rfl
theorem units_tail:∀ (n:Nat)(P:List PySem.Str),P.length=n->(∀ x∈P,isUnit x)->(P≠[]->∃ q y,P.flatMap (·.cps.toList)=q++[y]/\y≠61)/\(2<=wsum P->∃ q x y,P.flatMap (·.cps.toList)=q++[x,y]/\x≠61/\y≠61)
 | 0,P,hn,_=>by
  have:P=[]:=List.length_eq_zero_iff.mp hn
  subst this
  exact ⟨fun h=>absurd rfl h,fun h=>absurd (show 2<=0 from h) (by decide)⟩
 | n + 1,P,hn,hP=>by
  have hne:P≠[]:=by intro e;rw [e] at hn;cases hn
  have e:=List.dropLast_concat_getLast hne
  generalize P.dropLast=R at e
  generalize P.getLast hne=u at e
  subst e
  have ih:=units_tail n R (Nat.succ.inj ((List.length_append (as:=R) (bs:=[u])).symm.trans hn)) fun x hx=>hP x (List.mem_append_left _ hx)
  have hu:=hP u (List.mem_append_right _ (List.Mem.head _))
  have ef:(R++[u]).flatMap (·.cps.toList)=R.flatMap (·.cps.toList)++u.cps.toList:=by simp
  rw [ef,wsum_app]
  rcases hu with ⟨c,hc,rfl⟩ | ⟨a,b,ha,hb,rfl⟩
  ·refine ⟨fun _=>⟨_,c,rfl,hc⟩,fun h2=>?_⟩
   have hR:R≠[]:=by
    intro q
    subst q
    exact absurd (show 2<=0 + 1 from h2) (by decide)
   obtain ⟨q,y,hq,hy⟩:=ih.1 hR
   exact ⟨q,y,c,by rw [hq];simp,hy,hc⟩
  ·exact ⟨fun _=>⟨R.flatMap (·.cps.toList)++[61,a],b,by simp,hb⟩,fun _=>⟨R.flatMap (·.cps.toList)++[61],a,b,by simp,ha,hb⟩⟩
theorem item_eq {ln:PySem.Str}{k c:Nat}(h:ln.cps.toList[k]? = some c):(Txt.item ln (k:Int) == PySem.Str.ofString "=")=decide (c=61):=by
 rw [item_nat h]
 have e:PySem.Str.ofString "=" = ⟨#[61]⟩:=by rfl
 rw [e]
 by_cases hc:c=61
 ·subst hc;simp
 ·rw [decide_eq_false hc]
  apply Bool.eq_false_iff.mpr
  intro q
  have:=eq_of_beq q
  injection this with q1
  exact hc (by simpa using congrArg Array.toList q1)
theorem flat_len (P:List PySem.Str):(P.flatMap (·.cps.toList)).length=wsum P:=by rw [<- cat_list,len_list,cat_len]
theorem ci1 (k a:Nat):(k:Int) + (((a + 1:Nat):Int) - 1)=((k + a:Nat):Int):=congrArg ((k:Int) + ·) (Int.add_sub_cancel (a:Int) 1)
theorem ci2 (k a:Nat):(k:Int) + (((a + 2:Nat):Int) - 1) - 1=((k + a:Nat):Int):=(congrArg (·- 1) (ci1 k (a + 1))).trans (Int.add_sub_cancel ((k + a:Nat):Int) 1)
theorem ci3 (k a:Nat):(k:Int) + (((a + 3:Nat):Int) - 1) - 2=((k + a:Nat):Int):=(congrArg (·- 2) (ci1 k (a + 2))).trans (Int.add_sub_cancel ((k + a:Nat):Int) 2)
theorem chunk_step {wd:Int}(hw:4<=wd){ln:PySem.Str}{k:Nat}{P V:List PySem.Str}{u:PySem.Str}(hU:∀ x∈P++u::V,isUnit x)(hd:ln.cps.toList.drop k=(P++u::V).flatMap (·.cps.toList))
  (h:wd < ((wsum (P++u::V):Nat):Int)) (h1:((wsum P:Nat):Int) < wd) (h2:wd<=((wsum P + u.length:Nat):Int)):bCut wd ln (k:Int)=(cat P++PySem.Str.ofString "=",((k + wsum P:Nat):Int)):=by
 obtain ⟨W,rfl⟩:=Int.eq_ofNat_of_zero_le (Int.le_trans (by decide) hw)
 replace hw:4<=W:=Int.ofNat_le.mp hw
 replace h:W < wsum (P++u::V):=Int.ofNat_lt.mp h
 replace h1:wsum P + 1<=W:=Int.ofNat_lt.mp h1
 replace h2:W<=wsum P + u.length:=Int.ofNat_le.mp h2
 have hP:∀ x∈P,isUnit x:=fun x hx=>hU x (List.mem_append_left _ hx)
 have hu:isUnit u:=hU u (List.mem_append_right _ (List.Mem.head _))
 have hut:=units_tail P.length P rfl hP
 have hpl:=flat_len P
 have eT:(P++u::V).flatMap (·.cps.toList)=P.flatMap (·.cps.toList)++(u.cps.toList++V.flatMap (·.cps.toList)):=by simp
 have hln:ln.length=k + wsum (P++u::V):=by
  have q:=congrArg List.length hd
  rw [List.length_drop,flat_len] at q
  rw [<- len_list]
  exact (Nat.sub_eq_iff_eq_add' (Nat.le_of_lt (Nat.lt_of_sub_pos (by rw [q];exact Nat.lt_of_le_of_lt (Nat.zero_le _) h)))).mp q
 have hT:wsum P + 1<=wsum (P++u::V):=Nat.le_of_lt (Nat.lt_of_le_of_lt h1 h)
 have hk:k + wsum P + 1<=ln.length:=hln ▸ Nat.add_le_add_left hT k
 have eQ:PySem.Str.ofString "=" = ⟨#[61]⟩:=by rfl
 rw [eT] at hd
 have at_:∀ j,ln.cps.toList[k + j]? = (P.flatMap (·.cps.toList)++(u.cps.toList++V.flatMap (·.cps.toList)))[j]?:=fun j=>by rw [<- hd,List.getElem?_drop]
 have inP:∀ j c,(P.flatMap (·.cps.toList))[j]? = some c->ln.cps.toList[k + j]? = some c:=fun j c hc=>by
  have hj:j < (P.flatMap (·.cps.toList)).length:=(List.getElem?_eq_some_iff.mp hc).1
  rw [at_,List.getElem?_append_left hj,hc]
 by_cases hp:wsum P + 1=W
 ·subst hp
  obtain ⟨q,x,y,hq,hx,hy⟩:=hut.2 (Nat.le_of_succ_le (Nat.le_of_succ_le_succ hw))
  have hql:q.length + 2=wsum P:=by rw [<- hpl,hq];simp
  have i1:=inP q.length x (by rw [hq];simp)
  have i2:=inP (q.length + 1) y (by rw [hq];simp)
  have j1:=item_eq i1
  have j2:=item_eq i2
  rw [decide_eq_false hx,<- ci3 k q.length] at j1
  rw [decide_eq_false hy,<- ci2 k (q.length + 1)] at j2
  replace hql:q.length + 3=wsum P + 1:=congrArg (·+ 1) hql
  rw [hql] at j1
  replace j2:(Txt.item ln ((k:Int) + (((q.length + 3:Nat):Int) - 1) - 1) == PySem.Str.ofString "=")=false:=j2
  rw [hql] at j2
  unfold bCut
  rw [if_neg (by rw [j1];exact Bool.false_ne_true),if_neg (by rw [j2];exact Bool.false_ne_true)]
  have s:=slice_ab ln (a:=k) (b:=k + wsum P) (Nat.le_add_right _ _) (Nat.le_of_succ_le hk)
  rw [<- ci1 k (wsum P)] at s ⊢
  refine Prod.ext ?_ rfl
  show Txt.slice ln (some (k:Int)) (some ((k:Int) + (((wsum P + 1:Nat):Int) - 1)))++_=_
  congr 1
  apply str_ext
  rw [s,hd,cat_list,Nat.add_sub_cancel_left,<- hpl,List.take_left]
 ·have hu3:u.length=3:=(isUnit_len hu).resolve_left fun q=>hp (Nat.le_antisymm h1 (q ▸ h2))
  rw [hu3] at h2
  obtain ⟨a,b,ha,hb,rfl⟩:∃ a b,a≠61/\b≠61/\u=⟨#[61,a,b]⟩:=by
   rcases hu with ⟨c,_,rfl⟩ | q
   ·exact absurd (show (1:Nat)=3 from hu3) (by decide)
   ·exact q
  have iu:ln.cps.toList[k + wsum P]? = some 61:=by
   rw [at_,List.getElem?_append_right (by rw [hpl];exact Nat.le_refl _),hpl,Nat.sub_self];rfl
  have ju:=item_eq iu
  rw [decide_eq_true rfl] at ju
  have piece:Txt.slice ln (some (k:Int)) (some ((k + wsum P + 1:Nat):Int))=cat P++PySem.Str.ofString "=" := by
   apply str_ext
   rw [slice_ab ln (a:=k) (b:=k + wsum P + 1) (Nat.le_add_right k (wsum P + 1)) hk,hd,app_list,cat_list,eQ,Nat.add_assoc,Nat.add_sub_cancel_left,<- hpl,List.take_length_add_append]
   rfl
  by_cases hp2:wsum P + 2=W
  ·subst hp2
   have hPne:P≠[]:=by intro q;subst q;exact absurd (show 4<=0 + 2 from hw) (by decide)
   obtain ⟨q,y,hq,hy⟩:=hut.1 hPne
   have hql:q.length + 1=wsum P:=by rw [<- hpl,hq];simp
   have i1:=inP q.length y (by rw [hq];simp)
   have j1:=item_eq i1
   rw [decide_eq_false hy,<- ci3 k q.length,show q.length + 3=wsum P + 2 from congrArg (·+ 2) hql] at j1
   rw [<- ci2 k (wsum P)] at ju ⊢
   unfold bCut
   rw [if_neg (by rw [j1];exact Bool.false_ne_true),if_pos ju]
   rw [Nat.add_assoc,<- ci1 k (wsum P + 1)] at piece
   exact Prod.ext piece rfl
  ·obtain rfl:wsum P + 3=W:=Nat.le_antisymm (Nat.lt_of_le_of_ne (Nat.lt_of_le_of_ne h1 hp) hp2) h2
   rw [<- ci3 k (wsum P)] at ju ⊢
   unfold bCut
   rw [if_pos ju]
   rw [Nat.add_assoc,<- ci2 k (wsum P + 1)] at piece
   exact Prod.ext piece rfl
end Mine
end XP7
section XP8
namespace Mine
open PySem PySem.Builtin PySem.Builtin.Str
theorem run_rows {wd:Int}(hw:4<=wd){ln:PySem.Str}:∀ (n:Nat)(U rows:List PySem.Str)(k N:Nat),U.length<=n->(∀ x∈U,isUnit x)->ln.cps.toList.drop k=U.flatMap (·.cps.toList)->k + wsum U=ln.length->wsum U<=N ->
  ∃ (U':List PySem.Str)(k':Nat),(U.foldl (mStep wd) (mInit wd rows U)).row=cat U'/\bRun wd ln N rows (k:Int)=((U.foldl (mStep wd) (mInit wd rows U)).rows,(k':Int))/\ln.cps.toList.drop k'=U'.flatMap (·.cps.toList)/\k' + wsum U'=ln.length/\((wsum U':Nat):Int)<=wd/\(U≠[]->U'≠[])/\(∀ x∈U',isUnit x):=by
 intro n
 induction n with
 | zero=>
  intro U rows k N hn hU hd hk hN
  have:U=[]:=List.length_eq_zero_iff.mp (by lia)
  subst this
  have e:wsum []=0:=rfl
  have g:=greedy_last wd rows [] (by rw [e];lia)
  refine ⟨[],k,g.2,?_,hd,hk,by rw [e];lia,fun h=>h,hU⟩
  rw [g.1,bRun_end (by lia)]
 | succ n ih=>
  intro U rows k N hn hU hd hk hN
  by_cases hT:((wsum U:Nat):Int)<=wd
  ·have g:=greedy_last wd rows U hT
   refine ⟨U,k,g.2,?_,hd,hk,hT,fun h=>h,hU⟩
   rw [g.1,bRun_end (by lia)]
  ·obtain ⟨P,u,V,rfl,h1,h2⟩:=cut_units wd U 0 (by lia) (by lia)
   rw [Nat.zero_add] at h1 h2
   have hu:=hU u (List.mem_append_right _ (List.Mem.head _))
   have hul:=isUnit_len hu
   have hT':wd < ((wsum (P++u::V):Nat):Int):=by lia
   have gs:=greedy_step hw rows P V u (by lia) hT' h1 h2
   have cs:=chunk_step hw hU hd hT' h1 h2
   have hs:=wsum_app P (u::V)
   have hP1:1<=wsum P:=by lia
   have hPne:P≠[]:=by intro q;subst q;have e:wsum []=0:=rfl;lia
   have hPl:1<=P.length:=by cases P with | nil=>exact absurd rfl hPne | cons _ _=>simp
   obtain ⟨m,rfl⟩:∃ m,N=m + 1:=⟨N - 1,by lia⟩
   have hd2:ln.cps.toList.drop (k + wsum P)=(u::V).flatMap (·.cps.toList):=by
    rw [<- List.drop_drop,hd,List.flatMap_append,<- flat_len P,List.drop_left]
   obtain ⟨U',k',q1,q2,q3,q4,q5,q6,q7⟩:=ih (u::V) (rows++[cat P++PySem.Str.ofString "="]) (k + wsum P) m (by simp at hn ⊢;lia) (fun x hx=>hU x (List.mem_append_right _ hx)) hd2 (by lia) (by lia)
   rw [gs]
   refine ⟨U',k',q1,?_,q3,q4,q5,fun _=>q6 (by simp),q7⟩
   rw [bRun,if_pos (by lia),cs]
   exact q2
noncomputable def catE (e:PySem.Str)(rows:List PySem.Str):List Nat:=rows.flatMap fun r=>r.cps.toList++e.cps.toList
theorem catE_app (e:PySem.Str)(a b:List PySem.Str):catE e (a++b)=catE e a++catE e b:=by simp [catE]
theorem join_catE (e:PySem.Str):∀ rows:List PySem.Str,rows≠[]->(Txt.join e rows).cps.toList++e.cps.toList=catE e rows:=by
 intro rows h
 unfold Txt.join
 rw [StrLaws.glued_eq_join]
 induction rows with
 | nil=>exact absurd rfl h
 | cons r rest ih=>
  cases rest with
  | nil=>simp [PySem.Str.join,catE]
  | cons r' rest'=>
   show (r++e++PySem.Str.join e (r'::rest')).cps.toList++e.cps.toList=_
   rw [app_list,app_list,List.append_assoc,ih (by simp)]
   simp [catE]
theorem join_same {e:PySem.Str}{a b:List PySem.Str}(ha:a≠[])(hb:b≠[])(h:catE e a=catE e b):Txt.join e a=Txt.join e b:=by
 apply str_ext
 rw [<- join_catE e a ha,<- join_catE e b hb] at h
 exact List.append_cancel_right h
end Mine
end XP8
section XP9
namespace Mine
open PySem PySem.Builtin PySem.Builtin.Str
theorem bRun_app {wd:Int}{ln:PySem.Str}:∀ (N:Nat)(rows:List PySem.Str)(st:Int),bRun wd ln N rows st=(rows++(bRun wd ln N [] st).1,(bRun wd ln N [] st).2)
 | 0,rows,st=>by unfold bRun;simp
 | N + 1,rows,st=>by
  unfold bRun
  split
  ·rw [bRun_app N (rows++[_]),bRun_app N ([]++[_])]
   simp
  ·simp
theorem item_last {x:PySem.Str}{q:List Nat}{y:Nat}(h:x.cps.toList=q++[y]):Txt.item x (-1)=⟨#[y]⟩:=by
 have hl:x.length=q.length + 1:=by rw [<- len_list,h];simp
 have e:seqIndex? (-1) x.length=some q.length:=by
  unfold seqIndex?
  rw [hl]
  have h1:(-1:Int) + ((q.length + 1:Nat):Int)=(q.length:Int):=by lia
  simp only [show (-1:Int) < 0 from by decide,if_true,h1]
  have h2:(decide ((0:Int)<=(q.length:Int)) && decide ((q.length:Int) < ((q.length + 1:Nat):Int)))=true:=by
   simp only [Bool.and_eq_true,decide_eq_true_eq];lia
  rw [if_pos h2]
  rfl
 have e2:x.cps[q.length]? = some y:=by
  have:x.cps.toList[q.length]? = some y:=by rw [h];simp
  simpa using this
 unfold Txt.item Txt.charAt
 rw [e]
 show (⟨#[(x.cps[q.length]?).getD 0]⟩:PySem.Str)=_
 rw [e2]
 rfl
theorem one_eq (y c:Nat)(z:PySem.Str)(hz:z=⟨#[c]⟩):((⟨#[y]⟩:PySem.Str) == z)=decide (y=c):=by
 subst hz
 by_cases h:y=c
 ·subst h;simp
 ·rw [decide_eq_false h]
  apply Bool.eq_false_iff.mpr
  intro q
  have:=eq_of_beq q
  injection this with q1
  exact h (by simpa using congrArg Array.toList q1)
theorem blanks_one (y:Nat):blanks ⟨#[y]⟩=true↔y=32\/y=9:=by
 unfold blanks
 rw [StrLaws.found_one]
 have e:(PySem.Str.ofString " \t").cps.toList=[32,9]:=by rfl
 rw [e]
 simp
theorem slice_empty (x:PySem.Str)(l u:Option Int)(h:x.length=0):Txt.slice x l u=x:=by
 have h2:=Txt.slice_le x l u
 have h3:(Txt.slice x l u).length=0:=by lia
 have a1:(Txt.slice x l u).cps.toList=[]:=List.length_eq_zero_iff.mp (by rw [len_list];exact h3)
 have a2:x.cps.toList=[]:=List.length_eq_zero_iff.mp (by rw [len_list];exact h)
 apply str_ext
 rw [a1,a2]
noncomputable def tails.P0 (wd:Int)(e ln R:PySem.Str)(k:Nat)(ra rb:List PySem.Str):Prop:=∀ (hd:ln.cps.toList.drop k=R.cps.toList)(hk:k + R.length=ln.length)(hT:((R.length:Nat):Int)<=wd)(hne:ln.length≠0->R.length≠0),∃ Z,catE e (mTail wd ra R)=catE e ra++Z/\catE e (bTail wd e ln rb (k:Int))=catE e rb++Z
namespace tails
noncomputable def R0:=(s4 <| st <| st <| id) P0
@[irreducible] noncomputable def z0:=zy R0 (by k_extra "N")
@[irreducible] noncomputable def wd:=f1 z0
@[irreducible] noncomputable def e:=f1 (f2 z0)
@[irreducible] noncomputable def ln:=f1 (f2 (f2 z0))
@[irreducible] noncomputable def R:=f1 (f2 (f2 (f2 z0)))
@[irreducible] noncomputable def k:=f1 (f2 (f2 (f2 (f2 z0))))
@[irreducible] noncomputable def z1:=f2 (f2 (f2 (f2 (f2 z0))))
theorem T0:(st <| id) (P0 wd e ln R k) z1:=by
 intro hd hk hT hne
 have e32:PySem.Str.ofString " " = ⟨#[32]⟩:=by rfl
 have e9:PySem.Str.ofString "\t" = ⟨#[9]⟩:=by rfl
 have e61:(PySem.Str.ofString "=").cps.toList=[61]:=by rfl
 have e0:(PySem.Str.ofString "").cps.toList=[]:=by rfl
 have sA:(Txt.slice ln (some (k:Int)) none).cps.toList=R.cps.toList:=by rw [slice_a ln (by lia),hd]
 by_cases hz:ln.length=0
 ·have hR:R.length=0:=by lia
  have s1:=slice_empty R (some (-1)) none hR
  have n1:¬ ((Txt.slice R (some (-1)) none == PySem.Str.ofString " ")=true\/(Txt.slice R (some (-1)) none == PySem.Str.ofString "\t")=true):=by
   rw [s1]
   rintro (q | q)
   ·have:=eq_of_beq q;rw [this,e32] at hR;exact absurd hR (by decide)
   ·have:=eq_of_beq q;rw [this,e9] at hR;exact absurd hR (by decide)
  refine ⟨catE e [R],?_,?_⟩
  ·unfold mTail;rw [if_neg n1,catE_app]
  ·unfold bTail
   rw [if_neg (by rintro ⟨q,_⟩;exact q hz),catE_app]
   simp only [catE,List.flatMap_cons,List.flatMap_nil,sA]
 ·have hR1:R.length≠0:=hne hz
  have hRl:=len_list R
  have hRne:R.cps.toList≠[]:=by intro q;rw [q] at hRl;exact hR1 hRl.symm
  obtain ⟨q,y,hq⟩:∃ q y,R.cps.toList=q++[y]:=⟨_,_,(List.dropLast_concat_getLast hRne).symm⟩
  have hql:q.length + 1=R.length:=by rw [<- len_list,hq];simp
  have hln:ln.cps.toList=ln.cps.toList.take k++q++[y]:=by
   have:=(List.take_append_drop k ln.cps.toList).symm
   rw [hd,hq,<- List.append_assoc] at this
   exact this
  have iR:=item_last hq
  have iL:=item_last hln
  have sR:Txt.slice R (some (-1)) none=⟨#[y]⟩:=by
   apply str_ext
   rw [slice_last R (by lia),hq,show R.length - 1=q.length from by lia,List.drop_left]
  have sI:(Txt.slice R none (some (-1))).cps.toList=q:=by
   rw [slice_m R (by lia),hq,show R.length - 1=q.length from by lia,List.take_left]
  have sJ:(Txt.slice ln (some (k:Int)) (some (-1))).cps.toList=q:=by
   rw [slice_am ln (by lia),hd,hq,show ln.length - 1 - k=q.length from by lia,List.take_left]
  unfold mTail bTail
  rw [sR,iR,iL]
  by_cases hb:y=32\/y=9
  ·have p1:((⟨#[y]⟩:PySem.Str) == PySem.Str.ofString " ")=true\/((⟨#[y]⟩:PySem.Str) == PySem.Str.ofString "\t")=true:=by
    rcases hb with rfl | rfl
    ·exact .inl (by rw [e32];simp)
    ·exact .inr (by rw [e9];simp)
   rw [if_pos p1,if_pos (show ln.length≠0/\blanks ⟨#[y]⟩=true from ⟨hz,(blanks_one y).mpr hb⟩)]
   generalize (if ((⟨#[y]⟩:PySem.Str) == PySem.Str.ofString " ")=true then PySem.Str.ofString "=20" else PySem.Str.ofString "=09")=O
   by_cases c1:((R.length:Nat):Int) + 2<=wd
   ·rw [if_pos c1,if_pos (show (3:Int)<=(k:Int) - ((ln.length:Int) - 1 - wd) by lia)]
    refine ⟨catE e [Txt.slice R none (some (-1))++O],by rw [catE_app],?_⟩
    rw [catE_app]
    simp only [catE,List.flatMap_cons,List.flatMap_nil,app_list,sI,sJ]
   ·rw [if_neg c1,if_neg (show ¬ (3:Int)<=(k:Int) - ((ln.length:Int) - 1 - wd) by lia)]
    by_cases c2:((R.length:Nat):Int) < wd
    ·rw [if_pos c2,if_pos (show (k:Int) - ((ln.length:Int) - 1 - wd)=2 by lia)]
     refine ⟨catE e ([R++PySem.Str.ofString "="]++[PySem.Str.ofString ""]),by rw [List.append_assoc,catE_app],?_⟩
     rw [catE_app]
     simp only [catE,List.flatMap_append,List.flatMap_cons,List.flatMap_nil,app_list,sJ,hq,e0]
     simp
    ·rw [if_neg c2,if_neg (show ¬ (k:Int) - ((ln.length:Int) - 1 - wd)=2 by lia)]
     refine ⟨catE e ([Txt.slice R none (some (-1))++PySem.Str.ofString "="]++[O]),by rw [List.append_assoc,catE_app],?_⟩
     rw [catE_app]
     simp only [catE,List.flatMap_append,List.flatMap_cons,List.flatMap_nil,app_list,sI,sJ]
     simp
  ·have n1:¬ (((⟨#[y]⟩:PySem.Str) == PySem.Str.ofString " ")=true\/((⟨#[y]⟩:PySem.Str) == PySem.Str.ofString "\t")=true):=by
    rw [one_eq y 32 _ e32,one_eq y 9 _ e9]
    simpa using hb
   rw [if_neg n1,if_neg (show ¬ (ln.length≠0/\blanks ⟨#[y]⟩=true) from by rintro ⟨_,z⟩;exact hb ((blanks_one y).mp z))]
   refine ⟨catE e [R],by rw [catE_app],?_⟩
   rw [catE_app]
   simp only [catE,List.flatMap_cons,List.flatMap_nil,sA]
end tails
theorem tails {wd e ln R k ra rb}:tails.P0 wd e ln R k ra rb:=by with_unfolding_all exact zy_all _ tails.R0 tails.T0 (wd,e,ln,R,k,ra,rb)
end Mine
end XP9
section XP10
namespace Mine
open PySem PySem.Builtin PySem.Builtin.Str
noncomputable def encL (l:PySem.Str):PySem.Str:=cat (l.cps.toList.map unitS)
theorem unit_len1 (U:List PySem.Str)(hU:∀ x∈U,isUnit x)(hne:U≠[]):wsum U≠0:=by
 cases U with
 | nil=>exact absurd rfl hne
 | cons u U=>
  have:=isUnit_len (hU u (List.Mem.head _))
  rw [wsum_cons];lia
theorem line_same {wd:Int}(hw:4<=wd)(e l:PySem.Str)(ra rb:List PySem.Str):∃ Z,catE e (mLine wd ra l)=catE e ra++Z/\catE e (bLine wd e rb (encL l))=catE e rb++Z:=by
 have hU:∀ x∈l.cps.toList.map unitS,isUnit x:=fun x hx=>by obtain ⟨c,_,rfl⟩:=List.mem_map.mp hx;exact unit_is c
 have hlen:(encL l).length=wsum (l.cps.toList.map unitS):=cat_len _
 obtain ⟨U',k',q1,q2,q3,q4,q5,q6,q7⟩:=run_rows (ln:=encL l) hw (l.cps.toList.map unitS).length (l.cps.toList.map unitS) ra 0 (encL l).length (Nat.le_refl _) hU rfl (by rw [hlen,Nat.zero_add]) (by rw [hlen];exact Nat.le_refl _)
 have hb:=bRun_app (wd:=wd) (ln:=encL l) (encL l).length ra 0
 have hb2:=bRun_app (wd:=wd) (ln:=encL l) (encL l).length rb 0
 rw [Int.natCast_zero] at q2
 rw [q2] at hb
 have hX:((l.cps.toList.map unitS).foldl (mStep wd) (mInit wd ra (l.cps.toList.map unitS))).rows=ra++(bRun wd (encL l) (encL l).length [] 0).1:=congrArg Prod.fst hb
 have hK:(k':Int)=(bRun wd (encL l) (encL l).length [] 0).2:=congrArg Prod.snd hb
 generalize (bRun wd (encL l) (encL l).length [] 0).1=X at hX hb2
 rw [<- hK] at hb2
 have hR:(cat U').length=wsum U':=cat_len U'
 obtain ⟨Z,z1,z2⟩:=tails (wd:=wd) (e:=e) (ln:=encL l) (R:=cat U') (k:=k') (ra:=ra++X) (rb:=rb++X) q3 (by rw [hR];exact q4) (by rw [hR];exact q5) (fun h=>by
  rw [hR]
  refine unit_len1 U' q7 (q6 fun q=>?_)
  rw [hlen,q] at h
  exact h rfl)
 refine ⟨catE e X++Z,?_,?_⟩
 ·unfold mLine
  rw [hX,q1,z1,catE_app,List.append_assoc]
 ·unfold bLine
  rw [hb2,z2,catE_app,List.append_assoc]
theorem lines_same {wd:Int}(hw:4<=wd)(e:PySem.Str):∀ (ls ra rb:List PySem.Str),catE e ra=catE e rb->catE e (ls.foldl (mLine wd) ra)=catE e ((ls.map encL).foldl (bLine wd e) rb)
 | [],_,_,h=>h
 | l::ls,ra,rb,h=>by
  obtain ⟨Z,z1,z2⟩:=line_same hw e l ra rb
  exact lines_same hw e ls _ _ (by rw [z1,z2,h])
theorem mLine_ne (wd:Int)(rows:List PySem.Str)(l:PySem.Str):mLine wd rows l≠[]:=by
 unfold mLine mTail
 repeat' split
 all_goals simp
theorem bLine_ne (wd:Int)(e:PySem.Str)(rows:List PySem.Str)(l:PySem.Str):bLine wd e rows l≠[]:=by
 unfold bLine bTail
 repeat' split
 all_goals simp
theorem fold_ne {α β:Type}(f:List α->β->List α)(h:∀ a b,f a b≠[]):∀ (l:List β)(a:List α),l≠[]->l.foldl f a≠[]
 | [],_,q=>absurd rfl q
 | [b],a,_=>h a b
 | b::c::r,a,_=>fold_ne f h (c::r) (f a b) (by simp)
theorem enc_same {wd:Int}(hw:4<=wd)(e v:PySem.Str)(hv:Txt.split v (PySem.Str.ofString "\n")≠[])(hl:Txt.lines (mapT encT v)=(Txt.split v (PySem.Str.ofString "\n")).map encL)(hc:crlf (Txt.item (mapT encT v) (-1))=false):Txt.join e (bRows (mapT encT v) wd e)=mailS v wd e:=by
 unfold bRows mailS mRows
 rw [if_neg (by rw [hc];exact Bool.false_ne_true),hl]
 exact join_same (fold_ne _ (bLine_ne wd e) _ _ (by simpa using hv)) (fold_ne _ (mLine_ne wd) _ _ hv) (lines_same hw e _ [] [] rfl).symm
end Mine
end XP10
section XP11
set_option tactic.hygienic true
namespace Mine
open PySem PySem.Builtin PySem.Builtin.Str PySem.StrLaws
noncomputable def lsStep (s:PySem.Str)(i:Nat)(st:LsSt):LsSt:=if (decide (st.snd<=i) && Unicode.isLineBreak (s.cps.getD i 0))=true then (st.fst.push (st.snd,i,lsNext s i),lsNext s i) else (st.fst,st.snd)
noncomputable def lsF (s:PySem.Str):Nat->Nat->LsSt->LsSt
 | 0,_,st=>st
 | m + 1,cur,st=>lsF s m (cur + 1) (lsStep s cur st)
theorem lsF_eq (s:PySem.Str):∀ (m cur:Nat)(st:LsSt),Id.run (forIn (m:=Id) (List.range' cur m) st (lsBody s))=lsF s m cur st
 | 0,_,_=>rfl
 | m + 1,cur,st=>by
  rw [List.range'_succ,List.forIn_cons]
  unfold lsF lsStep lsBody
  split
  ·exact lsF_eq s m (cur + 1) _
  ·exact lsF_eq s m (cur + 1) _
theorem lsF_add (s:PySem.Str):∀ (a b cur:Nat)(st:LsSt),lsF s (a + b) cur st=lsF s b (cur + a) (lsF s a cur st)
 | 0,b,cur,st=>by rw [Nat.zero_add];rfl
 | a + 1,b,cur,st=>by
  rw [Nat.add_right_comm a 1 b]
  show lsF s (a + b) (cur + 1) (lsStep s cur st)=_
  rw [lsF_add s a b (cur + 1),(Nat.add_right_comm cur 1 a:cur + 1 + a=cur + (a + 1))]
  rfl
theorem lsF_plain (s:PySem.Str):∀ (m cur:Nat)(st:LsSt),(∀ j,j < m->Unicode.isLineBreak (s.cps.getD (cur + j) 0)=false)->lsF s m cur st=st
 | 0,_,_,_=>rfl
 | m + 1,cur,st,h=>by
  have e:lsStep s cur st=st:=by
   unfold lsStep
   have h0:Unicode.isLineBreak (s.cps.getD cur 0)=false:=h 0 (Nat.succ_pos m)
   rw [h0,Bool.and_false,if_neg Bool.false_ne_true]
  show lsF s m (cur + 1) (lsStep s cur st)=st
  rw [e]
  exact lsF_plain s m (cur + 1) st fun j hj=>by rw [Nat.add_right_comm cur 1 j];exact h (j + 1) (Nat.succ_lt_succ hj)
theorem getD_of {s:PySem.Str}{i c:Nat}(h:s.cps.toList[i]? = some c):s.cps.getD i 0=c:=by
 have h':s.cps[i]? = some c:=by rw [<- h];simp
 obtain ⟨hi,hv⟩:=Array.getElem?_eq_some_iff.mp h'
 unfold Array.getD
 rw [dif_pos hi]
 exact hv
noncomputable def joinL (sep:List Nat):List (List Nat)->List Nat
 | []=>[]
 | [p]=>p
 | p::q::r=>p++(sep++joinL sep (q::r))
noncomputable def okSep (sep:List Nat):Prop:=sep=[10]\/sep=[13,10]
theorem parts_run {x:PySem.Str}{sep:List Nat}(hs:okSep sep):∀ (parts:List (List Nat))(cur:Nat)(acc:Array (Nat×Nat×Nat)),parts≠[]->x.cps.toList.drop cur=joinL sep parts->cur<=x.length->(∀ p∈parts,∀ c∈p,Unicode.isLineBreak c=false)->parts.getLast?≠some [] ->
  (lsEnd x (lsF x (x.length - cur) cur (acc,cur))).map (fun p=>strSub x p.1 p.2.1)=acc.toList.map (fun p=>strSub x p.1 p.2.1)++parts.map (fun p=>(⟨p.toArray⟩:PySem.Str))
 | [],_,_,h,_,_,_,_=>absurd rfl h
 | [p],cur,acc,_,hd,hc,hb,hl=>by
  have hlen:p.length=x.length - cur:=by have q:=congrArg List.length hd;rw [List.length_drop,len_list] at q;exact q.symm
  have hp:p≠[]:=fun q=>hl (by rw [q];rfl)
  have hp1:1<=p.length:=by cases p with | nil=>exact absurd rfl hp | cons _ _=>simp
  rw [lsF_plain x _ cur _ (fun j hj=>by
   have:x.cps.toList[cur + j]? = p[j]?:=by rw [<- List.getElem?_drop,hd];rfl
   have hj':j < p.length:=hlen.symm ▸ hj
   rw [List.getElem?_eq_getElem hj'] at this
   rw [getD_of this]
   exact hb p (List.Mem.head _) _ (List.getElem_mem _))]
  unfold lsEnd
  dsimp only
  rw [if_pos (Nat.lt_of_sub_pos (hlen ▸ hp1)),Array.toList_push,List.map_append]
  congr 1
  simp only [List.map_cons,List.map_nil]
  congr 1
  apply str_ext
  rw [strSub_toList,hd,List.take_of_length_le (show (joinL sep [p]).length<=_ from Nat.le_of_eq hlen)]
  rfl
 | p::q::r,cur,acc,_,hd,hc,hb,hl=>by
  have hsl:1<=sep.length/\sep.length<=2:=by rcases hs with rfl | rfl <;> decide
  have hd':x.cps.toList.drop cur=p++(sep++joinL sep (q::r)):=hd
  have hlen:p.length + (sep.length + (joinL sep (q::r)).length)=x.length - cur:=by
   have z:=congrArg List.length hd'
   rw [List.length_drop,len_list,List.length_append,List.length_append] at z
   exact z.symm
  have hX:x.length=cur + p.length + sep.length + (joinL sep (q::r)).length:=by rw [(Nat.sub_eq_iff_eq_add' hc).mp hlen.symm,<- Nat.add_assoc,<- Nat.add_assoc]
  have at_:∀ j,x.cps.toList[cur + j]? = (p++(sep++joinL sep (q::r)))[j]?:=fun j=>by rw [<- hd',List.getElem?_drop]
  have hsep:∀ j,j < sep.length->x.cps.toList[cur + p.length + j]? = sep[j]?:=fun j hj=>by
   rw [Nat.add_assoc,at_,List.getElem?_append_right (Nat.le_add_right _ _),Nat.add_sub_cancel_left,List.getElem?_append_left hj]
  have e1:x.length - cur=p.length + (sep.length + (x.length - (cur + p.length + sep.length))):=by rw [show x.length - (cur + p.length + sep.length)=(joinL sep (q::r)).length from by rw [hX,Nat.add_sub_cancel_left]];exact hlen.symm
  rw [e1,lsF_add,lsF_plain x p.length cur _ (fun j hj=>by
   have:x.cps.toList[cur + j]? = p[j]?:=by rw [at_,List.getElem?_append_left hj]
   rw [List.getElem?_eq_getElem hj] at this
   rw [getD_of this]
   exact hb p (List.Mem.head _) _ (List.getElem_mem _)),lsF_add]
  have step:lsF x sep.length (cur + p.length) (acc,cur)=(acc.push (cur,cur + p.length,cur + p.length + sep.length),cur + p.length + sep.length):=by
   have s0:=hsep 0 hsl.1
   rcases hs with rfl | rfl
   ·have g0:=getD_of (s:=x) (i:=cur + p.length) (c:=10) (by simpa using s0)
    show lsStep x (cur + p.length) (acc,cur)=_
    unfold lsStep lsNext
    dsimp only
    rw [g0,show Unicode.isLineBreak 10=true from by decide +kernel,decide_eq_true (Nat.le_add_right cur p.length)]
    rfl
   ·have s1:=hsep 1 (by decide)
    have g0:=getD_of (s:=x) (i:=cur + p.length) (c:=13) (by simpa using s0)
    have g1':x.cps.toList[cur + p.length + 1]? = some 10:=by simpa using s1
    have g1:x.cps[cur + p.length + 1]? = some 10:=by rw [<- g1'];simp
    show lsStep x (cur + p.length + 1) (lsStep x (cur + p.length) (acc,cur))=_
    have a1:lsStep x (cur + p.length) (acc,cur)=(acc.push (cur,cur + p.length,cur + p.length + 2),cur + p.length + 2):=by
     unfold lsStep lsNext
     dsimp only
     rw [g0,g1,show Unicode.isLineBreak 13=true from by decide +kernel,decide_eq_true (Nat.le_add_right cur p.length)]
     rfl
    rw [a1]
    unfold lsStep
    dsimp only
    rw [decide_eq_false (Nat.not_succ_le_self (cur + p.length + 1)),Bool.false_and,if_neg Bool.false_ne_true]
    rfl
  rw [step]
  have hd2:x.cps.toList.drop (cur + p.length + sep.length)=joinL sep (q::r):=by
   rw [<- List.drop_drop,<- List.drop_drop,hd',List.drop_left,List.drop_left]
  have ih:=parts_run (x:=x) hs (q::r) (cur + p.length + sep.length) (acc.push (cur,cur + p.length,cur + p.length + sep.length)) (List.cons_ne_nil _ _) hd2 (Nat.le.intro hX.symm) (fun a ha=>hb a (List.Mem.tail _ ha)) (by simpa using hl)
  rw [ih,Array.toList_push,List.map_append,List.map_cons,List.append_assoc]
  congr 1
  simp only [List.map_cons,List.map_nil,List.singleton_append]
  congr 1
  apply str_ext
  rw [strSub_toList,hd',Nat.add_sub_cancel_left,List.take_left]
theorem lines_spans (x:PySem.Str):Txt.lines x=(lineSpans x).map fun p=>strSub x p.1 p.2.1:=by
 have e:linesOf x=(lineSpans x).map fun p=>strSub x p.1 p.2.1:=by
  unfold linesOf lineCuts
  rw [List.map_map]
  refine List.map_congr_left fun p _=>?_
  obtain ⟨i,j,k⟩:=p
  simp
 rw [<- e]
 unfold Txt.lines
 split
 ·rename_i h
  have h':=eq_of_beq h
  unfold linesOf
  rw [h',List.map_cons,List.map_nil,sub_whole]
 ·rfl
theorem lines_parts {x:PySem.Str}{sep:List Nat}(hs:okSep sep){parts:List (List Nat)}(h:parts≠[])(hx:x.cps.toList=joinL sep parts)(hb:∀ p∈parts,∀ c∈p,Unicode.isLineBreak c=false)(hl:parts.getLast?≠some []):Txt.lines x=parts.map fun p=>(⟨p.toArray⟩:PySem.Str):=by
 have r:=parts_run hs parts 0 #[] h (by rw [List.drop_zero];exact hx) (Nat.zero_le _) hb hl
 rw [lines_spans,ls_eq,lsF_eq]
 simpa using r
end Mine
end XP11
section XP12
namespace Mine
open PySem PySem.Builtin PySem.Builtin.Str PySem.StrLaws
theorem join_joinL (sep:PySem.Str):∀ ps:List PySem.Str,(PySem.Str.join sep ps).cps.toList=joinL sep.cps.toList (ps.map (·.cps.toList))
 | []=>rfl
 | [p]=>rfl
 | p::q::r=>by
  have ih:=join_joinL sep (q::r)
  show (p++sep++PySem.Str.join sep (q::r)).cps.toList=p.cps.toList++(sep.cps.toList++joinL sep.cps.toList ((q::r).map (·.cps.toList)))
  rw [app_list,app_list,ih,List.append_assoc]
theorem joinL_flat (f:Nat->List Nat)(sep:List Nat):∀ ps:List (List Nat),(joinL sep ps).flatMap f=joinL (sep.flatMap f) (ps.map (·.flatMap f))
 | []=>rfl
 | [p]=>rfl
 | p::q::r=>by
  have ih:=joinL_flat f sep (q::r)
  show (p++(sep++joinL sep (q::r))).flatMap f=p.flatMap f++(sep.flatMap f++joinL (sep.flatMap f) ((q::r).map (·.flatMap f)))
  rw [List.flatMap_append,List.flatMap_append,ih]
theorem joinL_mem (sep:List Nat):∀ (ps:List (List Nat))(p:List Nat),p∈ps->∀ c∈p,c∈joinL sep ps
 | [],_,h,_,_=>nomatch h
 | [q],p,h,c,hc=>by rw [List.mem_singleton.mp h] at hc;exact hc
 | q::r::s,p,h,c,hc=>by
  show c∈q++(sep++joinL sep (r::s))
  rcases List.mem_cons.mp h with rfl | h
  ·exact List.mem_append_left _ hc
  ·exact List.mem_append_right _ (List.mem_append_right _ (joinL_mem sep (r::s) p h c hc))
theorem joinL_last (a:Nat) (s0:List Nat):∀ (ps:List (List Nat)),ps.getLast? = some []->joinL (s0++[a]) ps=[]\/∃ q,joinL (s0++[a]) ps=q++[a]
 | [],h=>by cases h
 | [p],h=>by
  have e:p=[]:=by simpa using h
  subst e
  exact .inl rfl
 | p::q::r,h=>by
  have h':(q::r).getLast? = some []:=by simpa using h
  refine .inr ?_
  rcases joinL_last a s0 (q::r) h' with z | ⟨z,hz⟩
  ·exact ⟨p++s0,by show p++((s0++[a])++joinL (s0++[a]) (q::r))=_;rw [z];simp⟩
  ·exact ⟨p++((s0++[a])++z),by show p++((s0++[a])++joinL (s0++[a]) (q::r))=_;rw [hz];simp⟩
theorem unit_plain:∀ c < 256,∀ d∈unitL c,Unicode.isLineBreak d=false:=by decide +kernel
theorem encT_unit:∀ c < 256,c≠10->c≠13->(encT c).cps.toList=unitL c:=by decide +kernel
theorem encT_10:(encT 10).cps.toList=[10]:=by decide +kernel
theorem encL_list (p:PySem.Str):(encL p).cps.toList=p.cps.toList.flatMap unitL:=by
 unfold encL
 rw [cat_list,List.flatMap_map]
 rfl
theorem flat_congr {f g:Nat->List Nat}:∀ {l:List Nat},(∀ c∈l,f c=g c)->l.flatMap f=l.flatMap g
 | [],_=>rfl
 | a::r,h=>by rw [List.flatMap_cons,List.flatMap_cons,h a (List.Mem.head _),flat_congr fun c hc=>h c (List.Mem.tail _ hc)]
noncomputable def ends (v:PySem.Str):Prop:=∃ q,v.cps.toList=q++[62]
theorem nl_is:PySem.Str.ofString "\n" = ⟨#[10]⟩:=by rfl
theorem split_parts (v:PySem.Str):v.cps.toList=joinL [10] ((Txt.split v (PySem.Str.ofString "\n")).map (·.cps.toList)):=by
 have h:=congrArg (fun x:PySem.Str=>x.cps.toList) (join_split v (PySem.Str.ofString "\n"))
 rw [join_joinL,nl_is] at h
 rw [nl_is]
 exact h.symm
theorem split_ne (v:PySem.Str)(hv:ends v):Txt.split v (PySem.Str.ofString "\n")≠[]:=by
 intro q
 obtain ⟨z,hz⟩:=hv
 have h:=split_parts v
 rw [q,hz] at h
 simp [joinL] at h
theorem split_last (v:PySem.Str)(hv:ends v):((Txt.split v (PySem.Str.ofString "\n")).map (·.cps.toList)).getLast?≠some []:=by
 intro q
 obtain ⟨z,hz⟩:=hv
 have h:=split_parts v
 rcases joinL_last 10 [] _ q with e | ⟨w,e⟩
 ·rw [List.nil_append] at e;rw [e,hz] at h;simp at h
 ·rw [List.nil_append] at e
  rw [e,hz] at h
  have:=congrArg List.getLast? h
  simp at this
theorem lines_enc (v:PySem.Str)(hg:good v)(hv:ends v):Txt.lines (mapT encT v)=(Txt.split v (PySem.Str.ofString "\n")).map encL:=by
 have hp:=split_parts v
 have hne:=split_ne v hv
 have hfree:∀ p∈Txt.split v (PySem.Str.ofString "\n"),(10:Nat) ∉ p.cps.toList:=by rw [nl_is];exact split_free v 10
 have hin:∀ p∈Txt.split v (PySem.Str.ofString "\n"),∀ c∈p.cps.toList,c < 256/\c≠13/\c≠10:=fun p hpm c hc=>by
  have:=hg c (by rw [hp];exact joinL_mem _ _ p.cps.toList (List.mem_map_of_mem (f:=fun x:PySem.Str=>x.cps.toList) hpm) c hc)
  exact ⟨this.1,this.2,fun q=>hfree p hpm (q ▸ hc)⟩
 have hx:(mapT encT v).cps.toList=joinL [10] ((Txt.split v (PySem.Str.ofString "\n")).map fun p=>(encL p).cps.toList):=by
  show v.cps.toList.flatMap (fun c=>(encT c).cps.toList)=_
  rw [hp,joinL_flat,List.map_map]
  have e1:([10]:List Nat).flatMap (fun c=>(encT c).cps.toList)=[10]:=by rw [List.flatMap_cons,encT_10];rfl
  rw [e1]
  congr 1
  refine List.map_congr_left fun p hpm=>?_
  show p.cps.toList.flatMap (fun c=>(encT c).cps.toList)=(encL p).cps.toList
  rw [encL_list]
  exact flat_congr fun c hc=>encT_unit c (hin p hpm c hc).1 (hin p hpm c hc).2.2 (hin p hpm c hc).2.1
 rw [lines_parts (.inl rfl) (by simpa using hne) hx ?_ ?_,List.map_map]
 ·refine List.map_congr_left fun p _=>?_
  exact str_ext rfl
 ·intro l hl c hc
  obtain ⟨p,hpm,rfl⟩:=List.mem_map.mp hl
  rw [encL_list] at hc
  obtain ⟨d,hd,hcd⟩:=List.mem_flatMap.mp hc
  exact unit_plain d (hin p hpm d hd).1 c hcd
 ·intro q
  refine split_last v hv ?_
  rw [List.getLast?_map] at q ⊢
  cases hl:(Txt.split v (PySem.Str.ofString "\n")).getLast? with
  | none=>rw [hl] at q;cases q
  | some p=>
   rw [hl] at q
   have e:(encL p).cps.toList=[]:=by simpa using q
   rw [encL_list] at e
   have:p.cps.toList=[]:=by
    cases hpc:p.cps.toList with
    | nil=>rfl
    | cons a r=>
     rw [hpc,List.flatMap_cons] at e
     have e2:=(List.append_eq_nil_iff.mp e).1
     have:=(unit_pos a).1
     have e3:(unitS a).cps.toList.length=(unitS a).length:=len_list _
     have e4:(unitS a).cps.toList=unitL a:=rfl
     rw [e4,e2] at e3
     simp at e3
     omega
   simp [this]
theorem enc_law {wd:Int}(hw:4<=wd)(v e:PySem.Str)(hg:good v)(hv:ends v):bEncS v wd e=mailS v wd e:=by
 refine enc_same hw e v (split_ne v hv) (lines_enc v hg hv) ?_
 obtain ⟨q,hq⟩:=hv
 have h:(mapT encT v).cps.toList=q.flatMap (fun c=>(encT c).cps.toList)++[62]:=by
  show v.cps.toList.flatMap (fun c=>(encT c).cps.toList)=_
  rw [hq,List.flatMap_append]
  rfl
 rw [item_last h]
 decide +kernel
end Mine
end XP12
section XP13
namespace Mine
open PySem PySem.Builtin PySem.Builtin.Str PySem.StrLaws
noncomputable def US (u:PySem.Str)(c:Nat):Prop:=(c≠61/\u=⟨#[c]⟩)\/(∃ a b,a∈hexs/\b∈hexs/\16 * hexv a + hexv b=c/\u=⟨#[61,a,b]⟩)
theorem us_unit:∀ c < 256,US (unitS c) c:=by
 intro c hc
 by_cases h:c=9\/(32<=c/\c<=126/\c≠61)
 ·refine .inl ⟨h.elim (fun e=>e ▸ (by decide:(9:Nat)≠61)) fun h=>h.2.2,?_⟩
  unfold unitS unitL
  rw [if_pos h]
 ·refine .inr ⟨hexd (c / 16),hexd (c % 16),?_,?_,?_,?_⟩
  ·exact (by decide +kernel:∀ d < 16,hexd d∈hexs) _ (Nat.div_lt_of_lt_mul hc)
  ·exact (by decide +kernel:∀ d < 16,hexd d∈hexs) _ (Nat.mod_lt _ (by decide))
  ·rw [(by decide +kernel:∀ d < 16,hexv (hexd d)=d) (c / 16) (Nat.div_lt_of_lt_mul hc),(by decide +kernel:∀ d < 16,hexv (hexd d)=d) (c % 16) (Nat.mod_lt _ (by decide))]
   exact Nat.div_add_mod c 16
  ·unfold unitS unitL
   rw [if_neg h]
noncomputable def flatU (us:List (PySem.Str×Nat)):List Nat:=us.flatMap (·.1.cps.toList)
noncomputable def valU (us:List (PySem.Str×Nat)):PySem.Str:=⟨(us.map (·.2)).toArray⟩
theorem valU_cons (p:PySem.Str×Nat)(us:List (PySem.Str×Nat))(d:PySem.Str):d++valU (p::us)=d++⟨#[p.2]⟩++valU us:=str_ext (by simp [app_list,valU])
theorem valU_nil (d:PySem.Str):d++valU []=d:=str_ext (by simp [app_list,valU])
theorem bne_eq {ln:PySem.Str}{k c:Nat}(h:ln.cps.toList[k]? = some c):(Txt.item ln (k:Int) != PySem.Str.ofString "=") = !decide (c=61):=by
 unfold bne;rw [item_eq h]
theorem inHex_of {ln:PySem.Str}{k c:Nat}(h:ln.cps.toList[k]? = some c)(hc:c∈hexs):inHex (Txt.item ln (k:Int))=true:=by
 rw [item_nat h]
 unfold inHex hexS
 rw [found_one]
 exact decide_eq_true hc
theorem uS {R k w S N m:Nat}(h:R=k + (w + S)) (h1:1<=w)(hN:R - k<=N)(e:N=m + 1):R - (k + w)<=m:=by
 subst h e
 rw [Nat.add_sub_cancel_left] at hN
 rw [<- Nat.add_assoc,Nat.add_sub_cancel_left]
 exact Nat.le_of_add_le_add_left (Nat.le_trans (Nat.add_le_add_right h1 S) (Nat.add_comm m 1 ▸ hN))
theorem kw_ne {R k w S:Nat}(h:R=k + (w + S)) (h1:1<=S):¬ ((k + w:Nat):Int)=(R:Int):=fun e=>absurd (Int.ofNat.inj e) (Nat.ne_of_lt (h ▸ Nat.add_lt_add_left (Nat.lt_add_of_pos_right h1) k))
theorem kw_le {R k w S:Nat}(h:R=k + (w + S)):k + w<=R:=h ▸ Nat.add_le_add_left (Nat.le_add_right w S) k
theorem ki_lt {R k w S:Nat}(h:R=k + (w + S)) (h1:1<=w):(k:Int) < (R:Int):=Int.ofNat_lt.mpr (Nat.lt_of_lt_of_le (Nat.lt_add_of_pos_right h1) (kw_le h))
theorem dRun_us (R:PySem.Str)(tl:List Nat)(htl:tl=[]\/tl=[61]):∀ (us:List (PySem.Str×Nat))(N k:Nat)(d:PySem.Str),R.cps.toList.drop k=flatU us++tl->k<=R.length->R.length - k<=N->(∀ p∈us,US p.1 p.2) ->
  dRun R N d (k:Int)=if us=[] then d else d++valU us++(if tl=[] then PySem.Str.ofString "\n" else PySem.Str.ofString "")
 | [],N,k,d,hd,hk,hN,_=>by
  rw [if_pos rfl]
  have hl:=congrArg List.length hd
  rw [List.length_drop,len_list] at hl
  rcases htl with rfl | rfl
  ·exact dRun_end fun h=>absurd (Int.ofNat_lt.mp h) (Nat.not_lt.mpr (Nat.sub_eq_zero_iff_le.mp hl))
  ·have e:R.length=k + 1:=(Nat.sub_eq_iff_eq_add' hk).mp hl
   have e':(k:Int) + 1=(R.length:Int):=congrArg Nat.cast e.symm
   obtain ⟨m,rfl⟩:∃ m,N=m + 1:=⟨N - 1,(Nat.sub_add_cancel (Nat.le_trans (Nat.le_of_eq hl.symm) hN)).symm⟩
   have h0:R.cps.toList[k]? = some 61:=by
    have:R.cps.toList[k + 0]? = ([61]:List Nat)[0]?:=by rw [<- List.getElem?_drop,hd];rfl
    simpa using this
   have hb:=bne_eq h0
   rw [decide_eq_true rfl] at hb
   unfold dRun
   rw [if_pos (Int.ofNat_lt.mpr (Nat.le_of_eq e.symm))]
   unfold dStep
   rw [if_neg (by rw [hb];exact Bool.false_ne_true),if_pos e']
   exact dRun_end (Int.not_lt.mpr (Int.le_of_eq e'.symm))
 | (u,c)::us,N,k,d,hd,hk,hN,hU=>by
  rw [if_neg (by simp)]
  have hu:US u c:=hU (u,c) (List.Mem.head _)
  have hU':∀ p∈us,US p.1 p.2:=fun p hp=>hU p (List.Mem.tail _ hp)
  have hl:=congrArg List.length hd
  have ef:flatU ((u,c)::us)=u.cps.toList++flatU us:=rfl
  rw [List.length_drop,len_list,ef,List.append_assoc,List.length_append,len_list] at hl
  rw [ef,List.append_assoc] at hd
  have hR:=(Nat.sub_eq_iff_eq_add' hk).mp hl
  have hu1:1<=u.length:=by rcases hu with ⟨_,rfl⟩ | ⟨a,b,_,_,_,rfl⟩ <;> exact Nat.le_of_ble_eq_true rfl
  have at_:∀ j,R.cps.toList[k + j]? = (u.cps.toList++(flatU us++tl))[j]?:=fun j=>by rw [<- hd,List.getElem?_drop]
  have fin:∀ (w:Nat)(d':PySem.Str),u.length=w->d'=d++⟨#[c]⟩->∀ m,N=m + 1->dRun R m (dFin R d' ((k + w:Nat):Int)).1 ((k + w:Nat):Int)=d++valU ((u,c)::us)++(if tl=[] then PySem.Str.ofString "\n" else PySem.Str.ofString ""):=by
   intro w d' hw hd' m hm
   subst hd' hw
   have hdrop:R.cps.toList.drop (k + u.length)=flatU us++tl:=by
    rw [<- List.drop_drop,hd,<- len_list,List.drop_left]
   have ih:=dRun_us R tl htl us m (k + u.length) (dFin R (d++⟨#[c]⟩) ((k + u.length:Nat):Int)).1 hdrop (kw_le hR) (uS hR hu1 hN hm) hU'
   rw [ih,valU_cons]
   by_cases hus:us=[]
   ·subst hus
    rw [if_pos rfl,valU_nil]
    rcases htl with rfl | rfl
    ·have hn:((k + u.length:Nat):Int)=(R.length:Int):=congrArg Nat.cast hR.symm
     unfold dFin
     rw [if_pos hn,if_pos rfl]
    ·have hn:¬ ((k + u.length:Nat):Int)=(R.length:Int):=kw_ne hR (Nat.le_refl 1)
     unfold dFin
     rw [if_neg hn,if_neg (by simp)]
     exact (str_ext (by rw [app_list];simp [show (PySem.Str.ofString "").cps.toList=[] from by rfl])).symm
   ·rw [if_neg hus]
    have hn:¬ ((k + u.length:Nat):Int)=(R.length:Int):=by
     have:1<=(flatU us++tl).length:=by
      cases us with
      | nil=>exact absurd rfl hus
      | cons p r=>
       have hp:=hU' p (List.Mem.head _)
       have:1<=p.1.cps.toList.length:=by
        rcases hp with ⟨_,e⟩ | ⟨a,b,_,_,_,e⟩ <;> rw [e] <;> simp
       simp only [flatU,List.flatMap_cons,List.length_append]
       exact Nat.le_trans this (Nat.le_trans (Nat.le_add_right _ _) (Nat.le_add_right _ _))
     exact kw_ne hR this
    unfold dFin
    rw [if_neg hn]
  obtain ⟨m,hm⟩:∃ m,N=m + 1:=⟨N - 1,(Nat.sub_add_cancel (Nat.le_trans (Nat.le_trans hu1 (Nat.le_add_right _ _)) (hl ▸ hN))).symm⟩
  rw [hm]
  unfold dRun
  rcases hu with ⟨hc,rfl⟩ | ⟨a,b,ha,hb,hv,rfl⟩
  ·have h0:R.cps.toList[k]? = some c:=by have:=at_ 0;simpa using this
   have hb:=bne_eq h0
   rw [decide_eq_false hc] at hb
   rw [if_pos (ki_lt hR hu1)]
   have es:dStep R d (k:Int)=dFin R (d++Txt.item R (k:Int)) ((k:Int) + 1):=by unfold dStep;rw [if_pos (show (Txt.item R (k:Int) != PySem.Str.ofString "=")=true from hb)]
   have hp:=(dFin_props R (d++Txt.item R (k:Int)) ((k:Int) + 1)).1
   rw [es,hp]
   exact fin 1 _ rfl (by rw [item_nat h0]) m hm
  ·have k3:k + 3<=R.length:=kw_le hR
   have h0:R.cps.toList[k]? = some 61:=by have:=at_ 0;simpa using this
   have ha0:R.cps.toList[k + 1]? = some a:=by have:=at_ 1;simpa using this
   have hb0:R.cps.toList[k + 2]? = some b:=by have:=at_ 2;simpa using this
   have hbn:=bne_eq h0
   rw [decide_eq_true rfl] at hbn
   have i1:=inHex_of ha0 ha
   have i2:=inHex_of hb0 hb
   rw [show ((k + 1:Nat):Int)=(k:Int) + 1 from rfl] at i1
   rw [show ((k + 2:Nat):Int)=(k:Int) + 2 from rfl] at i2
   rw [if_pos (ki_lt hR hu1)]
   have es:dStep R d (k:Int)=dFin R (d++unqS (Txt.slice R (some (k:Int)) (some ((k:Int) + 3)))) ((k:Int) + 3):=by
    unfold dStep
    rw [if_neg (by rw [hbn];exact Bool.false_ne_true),if_neg (show ¬ (k:Int) + 1=(R.length:Int) from Int.ne_of_lt (Int.ofNat_lt.mpr (Nat.le_of_succ_le k3))),if_pos (show (k:Int) + 2 < (R.length:Int)/\inHex (Txt.item R ((k:Int) + 1))=true/\inHex (Txt.item R ((k:Int) + 2))=true from ⟨Int.ofNat_lt.mpr k3,i1,i2⟩)]
   have hp:=(dFin_props R (d++unqS (Txt.slice R (some (k:Int)) (some ((k:Int) + 3)))) ((k:Int) + 3)).1
   have sl:(Txt.slice R (some (k:Int)) (some ((k:Int) + 3))).cps.toList=[61,a,b]:=by
    have s:=slice_ab R (a:=k) (b:=k + 3) (Nat.le_add_right k 3) k3
    rw [show ((k + 3:Nat):Int)=(k:Int) + 3 from rfl] at s
    rw [s,hd,Nat.add_sub_cancel_left]
    rfl
   rw [es,hp]
   refine fin 3 _ rfl ?_ m hm
   unfold unqS
   rw [sl]
   simp [hv]
end Mine
end XP13
section XP14
namespace Mine
open PySem PySem.Builtin PySem.Builtin.Str PySem.StrLaws
theorem dLine_row {row:PySem.Str}{us:List (PySem.Str×Nat)}{tl:List Nat}(htl:tl=[]\/tl=[61])(hr:row.cps.toList=flatU us++tl)(hU:∀ p∈us,US p.1 p.2)(hs:Txt.rstrip row=row)(hne:us≠[])(d:PySem.Str) :
  dLine d row=d++valU us++(if tl=[] then PySem.Str.ofString "\n" else PySem.Str.ofString ""):=by
 unfold dLine
 rw [hs]
 have hl:row.length≠0:=by
  rw [<- len_list,hr]
  cases us with
  | nil=>exact absurd rfl hne
  | cons p r=>
   have hp:=hU p (List.Mem.head _)
   have:1<=p.1.cps.toList.length:=by
    rcases hp with ⟨_,e⟩ | ⟨a,b,_,_,_,e⟩ <;> rw [e] <;> simp
   simp only [flatU,List.flatMap_cons,List.length_append]
   lia
 rw [if_neg hl]
 have:=dRun_us row tl htl us row.length 0 d (by rw [List.drop_zero];exact hr) (Nat.zero_le _) (by lia) hU
 rw [if_neg hne] at this
 exact this
theorem dLine_empty (d:PySem.Str):dLine d (PySem.Str.ofString "")=d++PySem.Str.ofString "\n" := by
 unfold dLine
 rw [if_pos (show (Txt.rstrip (PySem.Str.ofString "")).length=0 by decide +kernel)]
end Mine
end XP14
section XP15
namespace Mine
open PySem PySem.Builtin PySem.Builtin.Str PySem.StrLaws
theorem rstrip_same {x:PySem.Str}(hA:∀ c∈x.cps.toList,c < 128){q:List Nat}{y:Nat}(hx:x.cps.toList=q++[y])(hy:33<=y):Txt.rstrip x=x:=by
 obtain ⟨hi,h1,h2,h3,_⟩:=PyProof.Rows.rstrip_cut hA
 have hl:x.length=q.length + 1:=by rw [<- len_list,hx];simp
 by_cases h:hi=x.length
 ·rw [h2,h,sub_whole]
 ·have h4:=h3 (x.length - 1) (by lia) (by lia)
  have hg:x.cps.getD (x.length - 1) 0=y:=getD_of (by rw [hx,hl];simp)
  rw [hg] at h4
  have hyl:y < 128:=hA y (by rw [hx];simp)
  have:=(by decide +kernel:∀ y < 128,33<=y->PyProof.Rows.spS ⟨#[y]⟩=false) y hyl hy
  rw [this] at h4
  exact Bool.noConfusion h4
noncomputable def pairs (cs:List Nat):List (PySem.Str×Nat):=cs.map fun c=>(unitS c,c)
theorem pairs_flat (cs:List Nat):flatU (pairs cs)=(cs.map unitS).flatMap (·.cps.toList):=by
 unfold flatU pairs
 rw [List.flatMap_map,List.flatMap_map]
theorem pairs_val (cs:List Nat):valU (pairs cs)=⟨cs.toArray⟩:=by
 unfold valU pairs
 rw [List.map_map]
 congr 1
 congr 1
 exact List.map_id _
theorem pairs_us {cs:List Nat}(h:∀ c∈cs,c < 256):∀ p∈pairs cs,US p.1 p.2:=by
 intro p hp
 obtain ⟨c,hc,rfl⟩:=List.mem_map.mp hp
 exact us_unit c (h c hc)
theorem unit_ascii:∀ c < 256,∀ d∈unitL c,d < 128:=by decide +kernel
theorem units_ascii {cs:List Nat}(h:∀ c∈cs,c < 256):∀ d∈(cs.map unitS).flatMap (·.cps.toList),d < 128/\Unicode.isLineBreak d=false:=by
 intro d hd
 rw [List.flatMap_map] at hd
 obtain ⟨c,hc,hcd⟩:=List.mem_flatMap.mp hd
 exact ⟨unit_ascii c (h c hc) d hcd,unit_plain c (h c hc) d hcd⟩
noncomputable def plain (r:PySem.Str):Prop:=∀ c∈r.cps.toList,c < 128/\Unicode.isLineBreak c=false
theorem eq_list:(PySem.Str.ofString "=").cps.toList=[61]:=by rfl
theorem plain_app {a b:PySem.Str}(ha:plain a)(hb:plain b):plain (a++b):=by
 intro c hc
 rw [app_list,List.mem_append] at hc
 exact hc.elim (ha c) (hb c)
theorem plain_eq:plain (PySem.Str.ofString "="):=by
 intro c hc
 rw [eq_list] at hc
 rw [List.mem_singleton.mp hc]
 exact ⟨by decide,by decide +kernel⟩
theorem app_nilP (a:PySem.Str):a++PySem.Str.ofString "" = a:=str_ext (by rw [app_list,show (PySem.Str.ofString "").cps.toList=[] from by rfl,List.append_nil])
theorem soft_row {cs:List Nat}(h:∀ c∈cs,c < 256)(hne:cs≠[])(d:PySem.Str):dLine d (cat (cs.map unitS)++PySem.Str.ofString "=")=d++⟨cs.toArray⟩:=by
 have hr:(cat (cs.map unitS)++PySem.Str.ofString "=").cps.toList=flatU (pairs cs)++[61]:=by rw [app_list,cat_list,pairs_flat,eq_list]
 have hp:plain (cat (cs.map unitS)++PySem.Str.ofString "="):=plain_app (units_ascii h) plain_eq
 have hs:=rstrip_same (fun c hc=>(hp c hc).1) hr (by decide)
 have:=dLine_row (.inr rfl) hr (pairs_us h) hs (by unfold pairs;simpa using hne) d
 rw [this,if_neg (by simp),pairs_val,app_nilP]
theorem str_app (a b:List Nat)(d:PySem.Str):d++⟨a.toArray⟩++⟨b.toArray⟩=d++⟨(a++b).toArray⟩:=str_ext (by simp [app_list])
theorem rows_dec {wd:Int}(hw:4<=wd):∀ (n:Nat)(cs:List Nat)(rows:List PySem.Str),cs.length<=n->(∀ c∈cs,c < 256) ->
  ∃ pre cs' X,cs=pre++cs'/\((cs.map unitS).foldl (mStep wd) (mInit wd rows (cs.map unitS))).rows=rows++X/\((cs.map unitS).foldl (mStep wd) (mInit wd rows (cs.map unitS))).row=cat (cs'.map unitS)/\(∀ d,X.foldl dLine d=d++⟨pre.toArray⟩)/\(cs≠[]->cs'≠[])/\(∀ r∈X,plain r):=by
 intro n
 induction n with
 | zero=>
  intro cs rows hn h
  have:cs=[]:=List.length_eq_zero_iff.mp (by lia)
  subst this
  have g:=greedy_last wd rows [] (by have e:wsum []=0:=rfl;rw [e];lia)
  exact ⟨[],[],[],rfl,by rw [List.append_nil];exact g.1,g.2,fun d=>str_ext (by simp [app_list]),fun h=>h,fun _ hr=>nomatch hr⟩
 | succ n ih=>
  intro cs rows hn h
  by_cases hT:((wsum (cs.map unitS):Nat):Int)<=wd
  ·have g:=greedy_last wd rows (cs.map unitS) hT
   exact ⟨[],cs,[],rfl,by rw [List.append_nil];exact g.1,g.2,fun d=>str_ext (by simp [app_list]),fun h=>h,fun _ hr=>nomatch hr⟩
  ·obtain ⟨P,u,V,e,h1,h2⟩:=cut_units wd (cs.map unitS) 0 (by lia) (by lia)
   rw [Nat.zero_add] at h1 h2
   obtain ⟨pc,rc,rfl,rfl,e2⟩:=List.map_eq_append_iff.mp e
   have hpc:∀ c∈pc,c < 256:=fun c hc=>h c (List.mem_append_left _ hc)
   have hrc:∀ c∈rc,c < 256:=fun c hc=>h c (List.mem_append_right _ hc)
   have hu3:u.length<=3:=by
    have:u∈rc.map unitS:=by rw [e2];exact List.Mem.head _
    obtain ⟨c,_,rfl⟩:=List.mem_map.mp this
    exact (unit_pos c).2
   rw [e] at hT
   have gs:=greedy_step hw rows (pc.map unitS) V u hu3 (by lia) h1 h2
   have hP1:1<=wsum (pc.map unitS):=by lia
   have hpne:pc≠[]:=by intro q;subst q;have e0:wsum (([]:List Nat).map unitS)=0:=rfl;lia
   have hpl:1<=pc.length:=by cases pc with | nil=>exact absurd rfl hpne | cons _ _=>simp
   rw [<- e2] at gs
   obtain ⟨pre,cs',X,q1,q2,q3,q4,q5,q6⟩:=ih rc (rows++[cat (pc.map unitS)++PySem.Str.ofString "="]) (by simp at hn ⊢;lia) hrc
   have hrne:rc≠[]:=by intro q;subst q;cases e2
   refine ⟨pc++pre,cs',(cat (pc.map unitS)++PySem.Str.ofString "=")::X,by rw [q1,List.append_assoc],?_,?_,?_,fun _=>q5 hrne,?_⟩
   ·rw [List.map_append,gs,q2,List.append_assoc];rfl
   ·rw [List.map_append,gs,q3]
   ·intro d
    rw [List.foldl_cons,soft_row hpc hpne,q4,str_app]
   ·intro r hr
    rcases List.mem_cons.mp hr with rfl | hr
    ·exact plain_app (units_ascii hpc) plain_eq
    ·exact q6 r hr
end Mine
end XP15
section XP16
namespace Mine
open PySem PySem.Builtin PySem.Builtin.Str PySem.StrLaws
noncomputable def octS (y:Nat):PySem.Str:=if y=32 then PySem.Str.ofString "=20" else PySem.Str.ofString "=09"
theorem oct_us {y:Nat}(h:y=32\/y=9):US (octS y) y/\plain (octS y)/\∃ q z,(octS y).cps.toList=q++[z]/\33<=z:=by
 rcases h with rfl | rfl
 ·refine ⟨.inr ⟨50,48,by decide,by decide,by decide,by rfl⟩,?_,[61,50],48,by rfl,by decide⟩
  intro c hc
  exact (by decide +kernel:∀ c∈(octS 32).cps.toList,c < 128/\Unicode.isLineBreak c=false) c hc
 ·refine ⟨.inr ⟨48,57,by decide,by decide,by decide,by rfl⟩,?_,[61,48],57,by rfl,by decide⟩
  intro c hc
  exact (by decide +kernel:∀ c∈(octS 9).cps.toList,c < 128/\Unicode.isLineBreak c=false) c hc
theorem unit_last:∀ c < 256,c≠32->c≠9->∃ z,(unitL c).getLast? = some z/\33<=z:=by
 intro c hc h1 h2
 unfold unitL
 split
 ·exact ⟨c,rfl,by lia⟩
 ·refine ⟨hexd (c % 16),rfl,?_⟩
  unfold hexd
  split <;> lia
theorem hard_row {row:PySem.Str}{us:List (PySem.Str×Nat)}(hr:row.cps.toList=flatU us)(hp:plain row)(hU:∀ p∈us,US p.1 p.2)(hne:us≠[]){q:List Nat}{z:Nat}(hz:row.cps.toList=q++[z]) (h33:33<=z)(d:PySem.Str):dLine d row=d++valU us++PySem.Str.ofString "\n" := by
 have hs:=rstrip_same (fun c hc=>(hp c hc).1) hz h33
 have:=dLine_row (.inl rfl) (by rw [List.append_nil];exact hr) hU hs hne d
 rw [this,if_pos rfl]
theorem valU_snoc (ys:List Nat)(o:PySem.Str)(y:Nat):valU (pairs ys++[(o,y)])=⟨(ys++[y]).toArray⟩:=by
 have e:(pairs ys).map (·.2)=ys:=by unfold pairs;rw [List.map_map];exact List.map_id _
 unfold valU
 rw [List.map_append,e]
 rfl
noncomputable def line_dec.P0 (wd:Int)(rows:List PySem.Str)(l:PySem.Str):Prop:=∀ (hw:4<=wd)(h:∀ c∈l.cps.toList,c < 256),∃ Y,mLine wd rows l=rows++Y/\(∀ d,Y.foldl dLine d=d++l++PySem.Str.ofString "\n")/\(∀ r∈Y,plain r)/\Y≠[]/\(ends l->Y.getLast?≠some (PySem.Str.ofString ""))
namespace line_dec
noncomputable def R0:=(st <| st <| id) P0
@[irreducible] noncomputable def z0:=zy R0 (by k_extra "N")
@[irreducible] noncomputable def wd:=f1 z0
@[irreducible] noncomputable def rows:=f1 (f2 z0)
@[irreducible] noncomputable def l:=f2 (f2 z0)
theorem T0:P0 wd rows l:=by
 intro hw h
 have e32:PySem.Str.ofString " " = ⟨#[32]⟩:=by rfl
 have e9:PySem.Str.ofString "\t" = ⟨#[9]⟩:=by rfl
 have el:l=⟨l.cps.toList.toArray⟩:=str_ext rfl
 obtain ⟨pre,cs',X,q1,q2,q3,q4,q5,q6⟩:=rows_dec hw l.cps.toList.length l.cps.toList rows (Nat.le_refl _) h
 have hcs:∀ c∈cs',c < 256:=fun c hc=>h c (by rw [q1];exact List.mem_append_right _ hc)
 have whole:∀ d:PySem.Str,d++⟨pre.toArray⟩++⟨cs'.toArray⟩=d++l:=fun d=>by rw [str_app,<- q1,<- el]
 unfold mLine
 rw [q2,q3]
 by_cases hc0:cs'=[]
 ·subst hc0
  have hR:(cat (([]:List Nat).map unitS)).length=0:=rfl
  have s1:=slice_empty (cat (([]:List Nat).map unitS)) (some (-1)) none hR
  have n1:¬ ((Txt.slice (cat (([]:List Nat).map unitS)) (some (-1)) none == PySem.Str.ofString " ")=true\/(Txt.slice (cat (([]:List Nat).map unitS)) (some (-1)) none == PySem.Str.ofString "\t")=true):=by
   rw [s1]
   exact (by decide +kernel:¬ ((cat (([]:List Nat).map unitS) == PySem.Str.ofString " ")=true\/(cat (([]:List Nat).map unitS) == PySem.Str.ofString "\t")=true))
  have ec:cat (([]:List Nat).map unitS)=PySem.Str.ofString "" := cat_nil
  refine ⟨X++[cat (([]:List Nat).map unitS)],?_,?_,?_,by simp,?_⟩
  ·unfold mTail;rw [if_neg n1,List.append_assoc]
  ·intro d
   rw [List.foldl_append,q4,List.foldl_cons,List.foldl_nil,ec,dLine_empty,<- whole d]
   congr 1
  ·intro r hr
   rcases List.mem_append.mp hr with hr | hr
   ·exact q6 r hr
   ·rw [List.mem_singleton.mp hr,ec]
    intro c hc
    rw [show (PySem.Str.ofString "").cps.toList=[] from by rfl] at hc
    cases hc
  ·intro he
   exfalso
   obtain ⟨z,hz⟩:=he
   exact q5 (by rw [hz];simp) rfl
 ·obtain ⟨ys,y,hy⟩:∃ ys y,cs'=ys++[y]:=⟨_,_,(List.dropLast_concat_getLast hc0).symm⟩
  have hy256:y < 256:=hcs y (by rw [hy];simp)
  have hys:∀ c∈ys,c < 256:=fun c hc=>hcs c (by rw [hy];exact List.mem_append_left _ hc)
  have hRl:(cat (cs'.map unitS)).cps.toList=(ys.map unitS).flatMap (·.cps.toList)++unitL y:=by
   rw [cat_list,hy,List.map_append,List.flatMap_append];simp [unitS]
  have hRp:plain (cat (cs'.map unitS)):=units_ascii hcs
  by_cases hb:y=32\/y=9
  ·have huy:unitL y=[y]:=by rcases hb with rfl | rfl <;> rfl
   rw [huy] at hRl
   have hRlen:(cat (cs'.map unitS)).length=((ys.map unitS).flatMap (·.cps.toList)).length + 1:=by rw [<- len_list,hRl];simp
   have iR:=item_last hRl
   have sR:Txt.slice (cat (cs'.map unitS)) (some (-1)) none=⟨#[y]⟩:=by
    apply str_ext
    rw [slice_last _ (by lia),hRl,hRlen,Nat.add_sub_cancel,List.drop_left]
   have sI:(Txt.slice (cat (cs'.map unitS)) none (some (-1))).cps.toList=(ys.map unitS).flatMap (·.cps.toList):=by
    rw [slice_m _ (by lia),hRl,hRlen,Nat.add_sub_cancel,List.take_left]
   have sI':Txt.slice (cat (cs'.map unitS)) none (some (-1))=cat (ys.map unitS):=str_ext (by rw [sI,cat_list])
   have p1:((⟨#[y]⟩:PySem.Str) == PySem.Str.ofString " ")=true\/((⟨#[y]⟩:PySem.Str) == PySem.Str.ofString "\t")=true:=by
    rw [one_eq y 32 _ e32,one_eq y 9 _ e9];simpa using hb
   have hO:(if ((⟨#[y]⟩:PySem.Str) == PySem.Str.ofString " ")=true then PySem.Str.ofString "=20" else PySem.Str.ofString "=09")=octS y:=by
    rw [one_eq y 32 _ e32];unfold octS;simp
   obtain ⟨oU,oP,oq,oz,oe,o33⟩:=oct_us hb
   have nend:ends l->False:=by
    rintro ⟨z,hz⟩
    rw [q1,hy,<- List.append_assoc] at hz
    have:=(List.append_inj' hz rfl).2
    simp at this
    lia
   unfold mTail
   rw [sR,iR,if_pos p1,hO,sI']
   have hP:plain (cat (ys.map unitS)):=units_ascii hys
   have lst:∀ d:PySem.Str,d++⟨ys.toArray⟩++⟨#[y]⟩=d++⟨cs'.toArray⟩:=fun d=>by rw [hy];exact str_app ys [y] d
   by_cases c1:(((cat (cs'.map unitS)).length:Nat):Int) + 2<=wd
   ·rw [if_pos c1]
    refine ⟨X++[cat (ys.map unitS)++octS y],by rw [List.append_assoc],?_,?_,by simp,fun q=>(nend q).elim⟩
    ·intro d
     rw [List.foldl_append,q4,List.foldl_cons,List.foldl_nil]
     have:=hard_row (row:=cat (ys.map unitS)++octS y) (us:=pairs ys++[(octS y,y)]) (by rw [app_list,cat_list];unfold flatU;rw [List.flatMap_append];rw [<- flatU,pairs_flat];simp) (plain_app hP oP) (fun p hp=>by
      rcases List.mem_append.mp hp with hp | hp
      ·exact pairs_us hys p hp
      ·rw [List.mem_singleton.mp hp];exact oU) (by simp) (q:=(cat (ys.map unitS)).cps.toList++oq) (z:=oz) (by rw [app_list,oe,List.append_assoc]) o33 (d++⟨pre.toArray⟩)
     rw [this,<- whole d,valU_snoc,<- hy]
    ·intro r hr
     rcases List.mem_append.mp hr with hr | hr
     ·exact q6 r hr
     ·rw [List.mem_singleton.mp hr];exact plain_app hP oP
   ·rw [if_neg c1]
    by_cases c2:(((cat (cs'.map unitS)).length:Nat):Int) < wd
    ·rw [if_pos c2]
     refine ⟨X++[cat (cs'.map unitS)++PySem.Str.ofString "="]++[PySem.Str.ofString ""],by simp,?_,?_,by simp,fun q=>(nend q).elim⟩
     ·intro d
      rw [List.foldl_append,List.foldl_append,q4,List.foldl_cons,List.foldl_nil,List.foldl_cons,List.foldl_nil,soft_row hcs hc0,dLine_empty,whole]
     ·intro r hr
      rcases List.mem_append.mp hr with hr | hr
      ·rcases List.mem_append.mp hr with hr | hr
       ·exact q6 r hr
       ·rw [List.mem_singleton.mp hr];exact plain_app hRp plain_eq
      ·rw [List.mem_singleton.mp hr]
       intro c hc
       rw [show (PySem.Str.ofString "").cps.toList=[] from by rfl] at hc
       cases hc
    ·rw [if_neg c2]
     have hyne:ys≠[]:=by
      intro q
      rw [q] at hRlen
      have:(((([]:List Nat).map unitS).flatMap (·.cps.toList)).length)=0:=rfl
      lia
     refine ⟨X++[cat (ys.map unitS)++PySem.Str.ofString "="]++[octS y],by simp,?_,?_,by simp,fun q=>(nend q).elim⟩
     ·intro d
      rw [List.foldl_append,List.foldl_append,q4,List.foldl_cons,List.foldl_nil,List.foldl_cons,List.foldl_nil,soft_row hys hyne]
      have:=hard_row (row:=octS y) (us:=[(octS y,y)]) (by simp [flatU]) oP (fun p hp=>by rw [List.mem_singleton.mp hp];exact oU) (by simp) oe o33 (d++⟨pre.toArray⟩++⟨ys.toArray⟩)
      rw [this,<- whole d,<- lst]
      rfl
     ·intro r hr
      rcases List.mem_append.mp hr with hr | hr
      ·rcases List.mem_append.mp hr with hr | hr
       ·exact q6 r hr
       ·rw [List.mem_singleton.mp hr];exact plain_app hP plain_eq
      ·rw [List.mem_singleton.mp hr];exact oP
  ·have hb1:y≠32:=fun q=>hb (.inl q)
   have hb2:y≠9:=fun q=>hb (.inr q)
   obtain ⟨z,hz,h33⟩:=unit_last y hy256 hb1 hb2
   have hne:unitL y≠[]:=by intro q;rw [q] at hz;cases hz
   have hu:unitL y=(unitL y).dropLast++[z]:=by
    have:=(List.dropLast_concat_getLast hne).symm
    rw [List.getLast?_eq_some_getLast hne] at hz
    rw [Option.some.inj hz] at this
    exact this
   rw [hu,<- List.append_assoc] at hRl
   have hRlen:(cat (cs'.map unitS)).length=((ys.map unitS).flatMap (·.cps.toList)++(unitL y).dropLast).length + 1:=by rw [<- len_list,hRl,List.length_append];rfl
   have sR:Txt.slice (cat (cs'.map unitS)) (some (-1)) none=⟨#[z]⟩:=by
    apply str_ext
    rw [slice_last _ (by lia),hRl,hRlen,Nat.add_sub_cancel,List.drop_left]
   have n1:¬ (((⟨#[z]⟩:PySem.Str) == PySem.Str.ofString " ")=true\/((⟨#[z]⟩:PySem.Str) == PySem.Str.ofString "\t")=true):=by
    rw [one_eq z 32 _ e32,one_eq z 9 _ e9]
    simp
    lia
   unfold mTail
   rw [sR,if_neg n1]
   refine ⟨X++[cat (cs'.map unitS)],by rw [List.append_assoc],?_,?_,by simp,?_⟩
   ·intro d
    rw [List.foldl_append,q4,List.foldl_cons,List.foldl_nil]
    have:=hard_row (row:=cat (cs'.map unitS)) (us:=pairs cs') (by rw [cat_list,pairs_flat]) hRp (pairs_us hcs) (by unfold pairs;simpa using hc0) hRl h33 (d++⟨pre.toArray⟩)
    rw [this,pairs_val,whole]
   ·intro r hr
    rcases List.mem_append.mp hr with hr | hr
    ·exact q6 r hr
    ·rw [List.mem_singleton.mp hr];exact hRp
   ·intro _ q
    rw [List.getLast?_append] at q
    have e:cat (cs'.map unitS)=PySem.Str.ofString "" := by simpa using q
    rw [e] at hRlen
    have:(PySem.Str.ofString "").length=0:=rfl
    lia
end line_dec
theorem line_dec {wd} (rows l):line_dec.P0 wd rows l:=by with_unfolding_all exact zy_all _ line_dec.R0 line_dec.T0 (wd,rows,l)
end Mine
end XP16
section XP17
namespace Mine
open PySem PySem.Builtin PySem.Builtin.Str PySem.StrLaws
theorem joinL_cat (sep:List Nat):∀ ps:List (List Nat),ps≠[]->ps.flatMap (·++sep)=joinL sep ps++sep
 | [],h=>absurd rfl h
 | [p],_=>by simp [joinL]
 | p::q::r,_=>by
  have ih:=joinL_cat sep (q::r) (by simp)
  rw [List.flatMap_cons,ih]
  show p++sep++_=p++(sep++joinL sep (q::r))++sep
  simp
theorem joinL_suffix (sep:List Nat):∀ (ps:List (List Nat))(p:List Nat),ps.getLast? = some p->∃ w,joinL sep ps=w++p
 | [],_,h=>by cases h
 | [a],p,h=>by
  have e:a=p:=by simpa using h
  subst e
  exact ⟨[],rfl⟩
 | a::b::r,p,h=>by
  obtain ⟨w,hw⟩:=joinL_suffix sep (b::r) p (by simpa using h)
  exact ⟨a++(sep++w),by show a++(sep++joinL sep (b::r))=_;rw [hw];simp⟩
theorem lines_dec {wd:Int}(hw:4<=wd):∀ (ls ra:List PySem.Str),(∀ l∈ls,∀ c∈l.cps.toList,c < 256) ->
  ∃ Y,ls.foldl (mLine wd) ra=ra++Y/\(∀ d,Y.foldl dLine d=d++⟨(ls.flatMap fun l=>l.cps.toList++[10]).toArray⟩)/\(∀ r∈Y,plain r)/\(∀ l,ls.getLast? = some l->ends l->Y≠[]/\Y.getLast?≠some (PySem.Str.ofString ""))
 | [],ra,_=>⟨[],by simp,fun d=>str_ext (by simp [app_list]),(fun _ h=>nomatch h),fun l h=>by cases h⟩
 | l::ls,ra,h=>by
  obtain ⟨Y,y1,y2,y3,y4,y5⟩:=line_dec ra l hw (h l (List.Mem.head _))
  obtain ⟨Z,z1,z2,z3,z4⟩:=lines_dec hw ls (ra++Y) fun x hx=>h x (List.Mem.tail _ hx)
  refine ⟨Y++Z,by rw [List.foldl_cons,y1,z1,List.append_assoc],fun d=>?_,fun r hr=>(List.mem_append.mp hr).elim (y3 r) (z3 r),fun x hx he=>?_⟩
  ·rw [List.foldl_append,y2,z2]
   exact str_ext (by simp [app_list,show (PySem.Str.ofString "\n").cps.toList=[10] from by rfl])
  ·cases ls with
   | nil=>
    have e:l=x:=by simpa using hx
    subst e
    have hz:Z=[]:=by simpa using z1
    subst hz
    rw [List.append_nil]
    exact ⟨y4,y5 he⟩
   | cons b r=>
    obtain ⟨n1,n2⟩:=z4 x (by simpa using hx) he
    refine ⟨by simp [n1],?_⟩
    rw [List.getLast?_append]
    cases hq:Z.getLast? with
    | none=>exact absurd (by simpa using hq) n1
    | some w=>rw [hq] at n2;simpa using n2
theorem mail_rows {wd:Int}(hw:4<=wd)(v e:PySem.Str)(hs:okSep e.cps.toList)(hg:good v)(hv:ends v) :
  Txt.lines (mailS v wd e)=mRows v wd/\decBody (mailS v wd e)=v++PySem.Str.ofString "\n" /\ ∃ q z,(mailS v wd e).cps.toList=q++[z]/\z≠10/\z≠13/\z < 128:=by
 have hp:=split_parts v
 have hne:=split_ne v hv
 have hch:∀ l∈Txt.split v (PySem.Str.ofString "\n"),∀ c∈l.cps.toList,c < 256:=fun l hl c hc=>(hg c (by rw [hp];exact joinL_mem _ _ l.cps.toList (List.mem_map_of_mem (f:=fun x:PySem.Str=>x.cps.toList) hl) c hc)).1
 obtain ⟨Y,y1,y2,y3,y4⟩:=lines_dec hw (Txt.split v (PySem.Str.ofString "\n")) [] hch
 rw [List.nil_append] at y1
 obtain ⟨l,hl⟩:∃ l,(Txt.split v (PySem.Str.ofString "\n")).getLast? = some l:=by
  cases hq:(Txt.split v (PySem.Str.ofString "\n")).getLast? with
  | none=>exact absurd (by simpa using hq) hne
  | some l=>exact ⟨l,rfl⟩
 have hlast:ends l:=by
  have hm:((Txt.split v (PySem.Str.ofString "\n")).map (·.cps.toList)).getLast? = some l.cps.toList:=by rw [List.getLast?_map,hl];rfl
  have hl0:l.cps.toList≠[]:=fun q=>split_last v hv (by rw [hm,q])
  obtain ⟨w,hw2⟩:=joinL_suffix [10] _ _ hm
  obtain ⟨z,hz⟩:=hv
  rw [hp,hw2] at hz
  have e:=(List.dropLast_concat_getLast hl0)
  rw [<- e,<- List.append_assoc] at hz
  have:=(List.append_inj' hz rfl).2
  exact ⟨_,by rw [<- this];exact e.symm⟩
 obtain ⟨n1,n2⟩:=y4 l hl hlast
 have hM:mRows v wd=Y:=y1
 have hx:(mailS v wd e).cps.toList=joinL e.cps.toList (Y.map (·.cps.toList)):=by
  unfold mailS
  rw [hM]
  unfold Txt.join
  rw [glued_eq_join,join_joinL]
 have hgl:(Y.map (·.cps.toList)).getLast?≠some []:=by
  intro q
  rw [List.getLast?_map] at q
  cases hq:Y.getLast? with
  | none=>rw [hq] at q;cases q
  | some r=>
   rw [hq] at q
   have e0:r.cps.toList=[]:=by simpa using q
   exact n2 (by rw [hq];congr 1;exact str_ext (by rw [e0];rfl))
 have hlines:Txt.lines (mailS v wd e)=Y:=by
  rw [lines_parts hs (by simpa using n1) hx (fun p hp c hc=>by
   obtain ⟨r,hr,rfl⟩:=List.mem_map.mp hp
   exact (y3 r hr c hc).2) hgl,List.map_map]
  have:∀ r:PySem.Str,((fun p:List Nat=>(⟨p.toArray⟩:PySem.Str)) ∘ fun r:PySem.Str=>r.cps.toList) r=r:=fun r=>str_ext rfl
  rw [List.map_congr_left (fun r _=>this r)]
  exact List.map_id _
 refine ⟨by rw [hlines,hM],?_,?_⟩
 ·unfold decBody
  rw [hlines,y2]
  apply str_ext
  rw [app_list,app_list,show (PySem.Str.ofString "").cps.toList=[] from by rfl,show (PySem.Str.ofString "\n").cps.toList=[10] from by rfl,List.nil_append]
  have:=joinL_cat [10] ((Txt.split v (PySem.Str.ofString "\n")).map (·.cps.toList)) (by simpa using hne)
  rw [<- hp,List.flatMap_map] at this
  exact this
 ·cases hq:Y.getLast? with
  | none=>exact absurd (by simpa using hq) n1
  | some r=>
   have hm:(Y.map (·.cps.toList)).getLast? = some r.cps.toList:=by rw [List.getLast?_map,hq];rfl
   have hr0:r.cps.toList≠[]:=fun q=>hgl (by rw [hm,q])
   obtain ⟨w,hw2⟩:=joinL_suffix e.cps.toList _ _ hm
   have er:=(List.dropLast_concat_getLast hr0)
   have hrm:r∈Y:=List.mem_of_getLast? hq
   have hz:=y3 r hrm (r.cps.toList.getLast hr0) (List.getLast_mem hr0)
   refine ⟨w++r.cps.toList.dropLast,r.cps.toList.getLast hr0,by rw [hx,hw2,List.append_assoc,er],fun q=>?_,fun q=>?_,hz.1⟩
   ·have:=hz.2;rw [q] at this;exact absurd this (by decide +kernel)
   ·have:=hz.2;rw [q] at this;exact absurd this (by decide +kernel)
end Mine
end XP17
section XP18
namespace Mine
open PySem PySem.Builtin PySem.Builtin.Str PySem.StrLaws
theorem crlf_one (z:Nat) (h10:z≠10) (h13:z≠13):crlf ⟨#[z]⟩=false:=by
 unfold crlf
 have e:(!(occurrences (PySem.Str.ofString "\r\n") ⟨#[z]⟩ 0 (PySem.Str.ofString "\r\n").length 1).isEmpty)=decide (z∈(PySem.Str.ofString "\r\n").cps.toList):=found_one _ _
 rw [e,show (PySem.Str.ofString "\r\n").cps.toList=[13,10] from by rfl]
 simp [h10,h13]
theorem slice_nl (v:PySem.Str):Txt.slice (v++PySem.Str.ofString "\n") none (some (-1))=v:=by
 have hl:(v++PySem.Str.ofString "\n").length=v.length + 1:=by rw [len_app];rfl
 refine str_ext ?_
 rw [slice_m _ (by omega),hl,app_list,show (PySem.Str.ofString "\n").cps.toList=[10] from by rfl,Nat.add_sub_cancel,<- len_list v,List.take_left]
theorem ends_nl (v:PySem.Str):Txt.endswith (v++PySem.Str.ofString "\n") (PySem.Str.ofString "\n")=true:=by
 have hl:(v++PySem.Str.ofString "\n").length=v.length + 1:=by rw [len_app];rfl
 have h1:(PySem.Str.ofString "\n").length=1:=rfl
 have hs:subAt (v++PySem.Str.ofString "\n") (PySem.Str.ofString "\n") v.length=true:=by
  rw [subAt_eq,app_list,<- len_list v,List.drop_left];rfl
 unfold Txt.endswith
 rw [hl,h1,Nat.add_sub_cancel]
 simp [hs]
theorem dec_law {wd:Int}(hw:4<=wd)(v e:PySem.Str)(hs:okSep e.cps.toList)(hg:good v)(hv:ends v):decS (mailS v wd e)=v:=by
 obtain ⟨_,hb,q,z,hz,h10,h13,_⟩:=mail_rows hw v e hs hg hv
 unfold decS
 rw [hb,item_last hz,if_pos ⟨crlf_one z h10 h13,ends_nl v⟩,slice_nl]
end Mine
end XP18
section XP19
namespace Mine
open PySem PySem.Builtin PySem.Builtin.Str PySem.StrLaws
theorem joinL_len (sep:List Nat):∀ ps:List (List Nat),ps≠[]->(joinL sep ps).length + sep.length=(ps.map List.length).sum + sep.length * ps.length
 | [],h=>absurd rfl h
 | [p],_=>by simp [joinL]
 | p::q::r,_=>by
  have ih:=joinL_len sep (q::r) (by simp)
  show (p++(sep++joinL sep (q::r))).length + sep.length=_
  simp only [List.length_append,List.map_cons,List.sum_cons,List.length_cons,Nat.mul_add] at ih ⊢
  lia
theorem sum_wsum (ps:List PySem.Str):((ps.map (·.cps.toList)).map List.length).sum=wsum ps:=by
 unfold wsum
 rw [List.map_map]
 congr 1
theorem mail_list (v:PySem.Str)(wd:Int)(e:PySem.Str):(mailS v wd e).cps.toList=joinL e.cps.toList ((mRows v wd).map (·.cps.toList)):=by
 unfold mailS Txt.join
 rw [glued_eq_join,join_joinL]
theorem mail_len (v:PySem.Str)(wd:Int)(e:PySem.Str)(hv:ends v)(he:e.length<=2):(mailS v wd e).length<=10 * v.length + 10:=by
 have h1:=joinL_len [10] ((Txt.split v (PySem.Str.ofString "\n")).map (·.cps.toList)) (by simpa using split_ne v hv)
 rw [<- split_parts,sum_wsum,len_list] at h1
 simp only [List.length_map,List.length_cons,List.length_nil] at h1
 have h2:=mLines_bounds wd (Txt.split v (PySem.Str.ofString "\n")) []
 have h3:(mailS v wd e).length=(joinL e.cps.toList ((mRows v wd).map (·.cps.toList))).length:=by rw [<- mail_list,len_list]
 have hw:wsum ([]:List PySem.Str)=0:=rfl
 rw [hw] at h2
 change (mRows v wd).length<=_/\wsum (mRows v wd)<=_ at h2
 by_cases hr:mRows v wd=[]
 ·rw [hr] at h3
  rw [h3]
  exact Nat.zero_le _
 ·have h4:=joinL_len e.cps.toList ((mRows v wd).map (·.cps.toList)) (by simpa using hr)
  rw [sum_wsum,len_list,List.length_map] at h4
  have h5:e.length * (mRows v wd).length<=2 * (mRows v wd).length:=Nat.mul_le_mul_right _ he
  simp only [List.length_nil] at h2
  lia
theorem joinL_in (sep:List Nat):∀ (ps:List (List Nat))(c:Nat),c∈joinL sep ps->c∈sep\/∃ p∈ps,c∈p
 | [],_,h=>absurd h (by simp [joinL])
 | [p],c,h=>.inr ⟨p,List.Mem.head _,by simpa [joinL] using h⟩
 | p::q::r,c,h=>by
  have h:c∈p++(sep++joinL sep (q::r)):=h
  rcases List.mem_append.mp h with h | h
  ·exact .inr ⟨p,List.Mem.head _,h⟩
  ·rcases List.mem_append.mp h with h | h
   ·exact .inl h
   ·rcases joinL_in sep (q::r) c h with h | ⟨x,hx,hc⟩
    ·exact .inl h
    ·exact .inr ⟨x,List.Mem.tail _ hx,hc⟩
theorem mail_low {wd:Int}(hw:4<=wd)(v e:PySem.Str)(hs:okSep e.cps.toList)(hg:good v):low (mailS v wd e):=by
 intro c hc
 rw [mail_list] at hc
 have hp:=split_parts v
 have hch:∀ l∈Txt.split v (PySem.Str.ofString "\n"),∀ c∈l.cps.toList,c < 256:=fun l hl c hc=>(hg c (by rw [hp];exact joinL_mem _ _ l.cps.toList (List.mem_map_of_mem (f:=fun x:PySem.Str=>x.cps.toList) hl) c hc)).1
 obtain ⟨Y,y1,_,y3,_⟩:=lines_dec hw (Txt.split v (PySem.Str.ofString "\n")) [] hch
 have hM:mRows v wd=Y:=by unfold mRows;rw [y1];simp
 rw [hM] at hc
 rcases joinL_in _ _ c hc with h | ⟨p,hp,hc⟩
 ·rcases hs with q | q <;> rw [q] at h <;> simp at h <;> lia
 ·obtain ⟨r,hr,rfl⟩:=List.mem_map.mp hp
  have:=(y3 r hr c hc).1
  lia
theorem ends_docS {pl:Int}{v ml tx:PySem.Str}:ends (docS pl v ml tx):=by
 refine ⟨(docB pl v ml++escT tx).cps.toList++[60,47,110],?_⟩
 unfold docS
 rw [app_list,List.append_assoc]
 rfl
theorem mail_ne {wd:Int}(hw:4<=wd)(v e:PySem.Str)(hs:okSep e.cps.toList)(hg:good v)(hv:ends v):1<=(mailS v wd e).length:=by
 obtain ⟨_,_,q,z,hz,_⟩:=mail_rows hw v e hs hg hv
 rw [<- len_list,hz]
 simp
end Mine
end XP19
section XV2
open PySem PySem.W PyProof.Rows PySem.Calls
namespace Mine
open Mine.Hd
noncomputable def SignsAre (its:Array Value):Prop:=∀ i < 17,∃ (v:PySem.Str)(t:Tok),its[i]? = some (.str v t)/\v.length<=1/\low v
noncomputable def NumsAre (nbs:Array Value):Prop:=nbs.size<=100/\∀ lv:Int,lv=0\/lv=1->∃ (b0 b1 b2 b3 b4:Int) (u0 u1 u2 u3 u4:Tok),slicePick nbs (some (5 * lv)) (some (5 * lv + 5)) none=#[.int b0 u0,.int b1 u1,.int b2 u2,.int b3 u3,.int b4 u4]/\Bd b0/\Bd b1/\Bd b2/\Bd b3/\Bd b4
section
variable {prog:Program}{w:World}{A:Around}{E:Value->Shared->Prop}{s:Shared}{h₀:Heap}{L:Addr}{m:PySem.Str->Option Value}{news:List (Addr×Obj)}{value slice:Expr}{l:Addr}
theorem num_five {nbs:Array Value}{n:Nat}{lv:Int}{u v:Tok}{ops:List Value}{Q:Value->Shared->Prop}
  (F:Fr h₀ L s.heap m)(N:News h₀ L s.heap news)(hm:(l,listOf nbs n)∈news)(hn:NumsAre nbs)(hlv:lv=0\/lv=1)
  (h:∀ D b0 b1 b2 b3 b4 u0 u1 u2 u3 u4 h',Bd b0->Bd b1->Bd b2->Bd b3->Bd b4->Fr h₀ L h' m->News h₀ L h' ((D,listOf #[.int b0 u0,.int b1 u1,.int b2 u2,.int b3 u3,.int b4 u4] 0)::news)->(∀ p∈news,p.1 < D)->Q (.ref D) { s with heap:=h' })
  (hs:subscripted slice false (.ref l) (.ref s.heap.objs.size)=operate ops (getItem (.ref l) (.ref s.heap.objs.size)))(ht:∀ r,letTemporaryGo value (.ref l) r=pure ()) :
  wpAny (model prog w) A (subscriptTail value slice (.ref l) (.ref s.heap.objs.size)) Q E { s with heap:=s.heap.push { cls:=.type "slice",data:=.fields #[.int (5 * lv) u,.int (5 * lv + 5) v,.none] } }:=by
 obtain ⟨hz,hb⟩:=hn
 obtain ⟨b0,b1,b2,b3,b4,u0,u1,u2,u3,u4,e,h0,h1,h2,h3,h4⟩:=hb lv hlv
 refine slice_list3 F N (N.isList hm) (IsPart.int _ _) (IsPart.int _ _) IsPart.none (by nofun) (fun h' F' N'=>?_) hs ht (by rw [sizeLine_eq];omega)
 rw [e] at N'
 exact h _ _ _ _ _ _ _ _ _ _ _ h' h0 h1 h2 h3 h4 F' N' fun p hp=>Nat.lt_succ_of_lt (Heap.lt_size (N p hp).1)
theorem sign_item {its:Array Value}{n:Nat}{k:Int}{u:Tok}{ops:List Value}{Q:Value->Shared->Prop}(N:News h₀ L s.heap news)(hm:(l,listOf its n)∈news)(hS:SignsAre its) (h0:0<=k) (h1:k < 17)
  (h:∀ v t,v.length<=1->low v->Q (.str v t) s)(hs:subscripted slice false (.ref l) (.int k u)=operate ops (getItem (.ref l) (.int k u))):wpAny (model prog w) A (subscriptTail value slice (.ref l) (.int k u)) Q E s:=by
 obtain ⟨v,t,hx,hv,hl⟩:=hS k.toNat (by omega)
 exact tail_any (N.isList hm).typeIs slot_list_getitem.lookup (wpAny_getItem_list (N.isList hm) h0 (by omega) hx (h v t hv hl)) hs
theorem ne_same {x y:PySem.Str}{t u:Tok}{Q:Value->Shared->Prop}(e:x=y)(h:Q (.bool false) s):wpAny (model prog w) A (compareOp .NotEq (.str x t) (.str y u)) Q E s:=by
 subst e
 refine PyProof.Rows.ne_str ?_
 rw [show (x != x)=false from by simp]
 exact h
end
end Mine
end XV2
section XW4
open PySem PySem.W PyProof.Rows PySem.Calls
namespace Mine.W4
open Mine.Hd
theorem wt16:True:=by
 k_with "W4 cell_enter" => k_extra "A5"
 k_with "W4 k_steps" => k_extra "A6"
 k_with "W4 execs cons" => k_extra "A7"
 k_with "W4 execs nil" => k_extra "A8"
 k_with "W4 eval Name" => k_extra "A9"
 k_with "W4 callWith ref" => k_extra "A15"
 k_with "W4 storeName" => k_extra "A10"
 k_with "W4 getAttr ref" => k_extra "A16"
 k_with "W4 callWith ref" => k_extra "A17"
 k_with "W4 And" => k_extra "A18"
 k_with "W4 call ref" => k_extra "A19"
 k_with "W4 eval Constant int" => k_extra "A30"
 k_with "W4 eval Constant str" => k_extra "A31"
 k_with "W4 binaryOp Add int int" => k_extra "A32"
 k_with "W4 binaryOp Sub int int" => k_extra "A33"
 k_with "W4 unaryOp USub int" => k_extra "A34"
 k_with "W4 call builtin:ord" => k_extra "A96"
 exact True.intro
noncomputable def unit_ct.P (c:Nat) (k1:Tok) (p news)(s:Shared) (m L)(dp un:Nat)(w:World) (loose mean mg mb gd cn)(cs:Scope) (a ccd cl outer A₀ base h₀)(Q E:Value->Shared->Prop):=∀ (B:Below A₀ base outer h₀)(F:Fr h₀ L s.heap m)(X:(heapK w.params).In h₀)(N:News h₀ L s.heap news)(T:Top p loose mean mg mb h₀)(hk:cs.kind = .function)(hd:dp + 20 < recursionLimit)(hu:un + 200 < cLine)(hc:c < 256)(hret:∀ t h' tk',Fr h₀ L h' m->News h₀ L h' news->Q (.str (unitS c) t) { s with heap:=h',toks:=tk' }),wpAny (model rw_re0182_01.row.prog w) (ktrTop dp un gd cn cs L a ccd cl outer) (call (.ref 245) [.str ⟨#[c]⟩ k1]) Q E s
namespace unit_ct
noncomputable def R:=(s4 <| s4 <| s4 <| s4 <| s4 <| s4 <| st <| id) P
@[irreducible] noncomputable def z:=zy R (by k_extra "N")
@[irreducible] noncomputable def c:=f1 z
@[irreducible] noncomputable def k1:=f1 (f2 z)
@[irreducible] noncomputable def p:=f1 (f2 (f2 z))
@[irreducible] noncomputable def zr:=f2 (f2 (f2 z))
theorem T:(s4 <| s4 <| s4 <| s4 <| s4 <| st <| st <| id) (P c k1 p) zr:=by
 intro B F X N T hk hd hu hc hret
 revert X;k_fill;intro X
 w_on
 refine wpAny_call ?_
 k_dflt (refine' enterZ [(Str.ofString "sign",.str ⟨#[c]⟩ k1)] ?k1 ?k2 ?k3 ?k4 ?k5 ?kA ?kF ?kK ?k6 ?k7 ?k8 ?k9 ?kB ?_ ?c2 ?c3 ?c4 ?c5;cell_enter)
 k_steps
 all_goals (k_dflt (refine ret_same (by assumption) ?_;refine cb_retS hret ?_ (by assumption) (by (rename News _ _ _ _=>nz);exact fun p hp=>nz p (by repeat (first | assumption | refine List.Mem.tail _ ?_)))))
 all_goals (first | exact unit_a c hc (by assumption) | exact unit_b c hc (by assumption) (by assumption) (by assumption) | exact unit_c c hc (by assumption) (by assumption) | exact unit_d c hc (by assumption) (by assumption) | exact unit_e c hc (by assumption))
end unit_ct
theorem unit_ct (c k1) {p} (news s m L dp un) {w loose mean mg mb} (gd cn cs a ccd cl outer A₀ base h₀ Q E):unit_ct.P c k1 p news s m L dp un w loose mean mg mb gd cn cs a ccd cl outer A₀ base h₀ Q E:=by with_unfolding_all exact zy_all _ unit_ct.R unit_ct.T (c,k1,p,news,s,m,L,dp,un,w,loose,mean,mg,mb,gd,cn,cs,a,ccd,cl,outer,A₀,base,h₀,Q,E)
end Mine.W4
end XW4
open Mine.W4
section XW5
set_option tactic.hygienic true
open PySem PySem.W PyProof.Rows PySem.Calls
namespace Mine.W5
open Mine.Hd
theorem wt17:True:=by
 k_with "W5 omega" => k_extra "A65"
 k_with "W5 cell_enter" => k_extra "A5"
 k_with "W5 k_steps" => k_extra "A6"
 k_with "W5 execs cons" => k_extra "A7"
 k_with "W5 execs nil" => k_extra "A8"
 k_with "W5 eval Name" => k_extra "A9"
 k_with "W5 callWith ref" => k_extra "A15"
 k_with "W5 storeName" => k_extra "A97"
 k_with "W5 getAttr ref" => k_extra "A98"
 k_with "W5 callWith ref" => k_extra "A17"
 k_with "W5 And" => k_extra "A18"
 k_with "W5 call ref" => k_extra "A99"
 k_with "W5 call ref" => k_extra "A100"
 k_with "W5 isTrue BoolOp" => k_extra "A101"
 k_with "W5 eval IfExp" => k_extra "A102"
 k_with "W5 KoB1" => k_extra "A103"
 k_with "W5 KoB2" => k_extra "A104"
 k_with "W5 call builtin:str.join" => k_extra "A105"
 k_with "W5 subscriptTail Name UnaryOp str int" => k_extra "A106"
 k_with "W5 call builtin:list.append" => k_extra "A107"
 k_with "W5 exec For Name Name cons nil" => k_extra "A108"
 k_with "W5 call builtin:sum" => k_extra "A109"
 k_with "W5 call builtin:str.split" => k_extra "A110"
 k_with "W5 eval ListComp" => k_extra "A111"
 k_with "W5 exec Assign cons ListComp" => k_extra "A112"
 k_with "W5 eval Constant int" => k_extra "A30"
 k_with "W5 eval Constant str" => k_extra "A31"
 k_with "W5 binaryOp Add int int" => k_extra "A32"
 k_with "W5 binaryOp Sub int int" => k_extra "A33"
 k_with "W5 unaryOp USub int" => k_extra "A34"
 k_with "W5 ite" => k_extra "A113"
 exact True.intro
noncomputable def mail_ct.P (v e:Str)(wd:Int) (k1 k2 k3:Tok) (p news)(s:Shared) (m L)(dp un:Nat)(w:World) (loose mean mg mb gd cn)(cs:Scope) (a ccd cl outer A₀ base h₀)(Q E:Value->Shared->Prop):=∀ (B:Below A₀ base outer h₀)(F:Fr h₀ L s.heap m)(X:(heapK w.params).In h₀)(N:News h₀ L s.heap news)(T:Top p loose mean mg mb h₀)(hk:cs.kind = .function)(hd:dp + 50 < recursionLimit)(hu:un + 500 < cLine)(hw:4<=wd) (hw2:wd < 100)(hv:v.length<=10000) (hv2:∀ c∈v.cps.toList,c < 256)(he:e.length<=2)(hret:∀ t h' tk',Fr h₀ L h' m->News h₀ L h' news->Q (.str (mailS v wd e) t) { s with heap:=h',toks:=tk' }),wpAny (model rw_re0182_01.row.prog w) (ktrTop dp un gd cn cs L a ccd cl outer) (call (.ref 250) [.str v k1,.int wd k2,.str e k3]) Q E s
namespace mail_ct
noncomputable def R:=(s4 <| s4 <| s4 <| s4 <| s4 <| s4 <| s4 <| st <| id) P
@[irreducible] noncomputable def z:=zy R (by k_extra "N")
@[irreducible] noncomputable def v:=f1 z
@[irreducible] noncomputable def e:=f1 (f2 z)
@[irreducible] noncomputable def wd:=f1 (f2 (f2 z))
@[irreducible] noncomputable def k1:=f1 (f2 (f2 (f2 z)))
@[irreducible] noncomputable def k2:=f1 (f2 (f2 (f2 (f2 z))))
@[irreducible] noncomputable def k3:=f1 (f2 (f2 (f2 (f2 (f2 z)))))
@[irreducible] noncomputable def p:=f1 (f2 (f2 (f2 (f2 (f2 (f2 z))))))
@[irreducible] noncomputable def news:=f1 (f2 (f2 (f2 (f2 (f2 (f2 (f2 z)))))))
@[irreducible] noncomputable def zr:=f2 (f2 (f2 (f2 (f2 (f2 (f2 (f2 z)))))))
theorem T:(s4 <| s4 <| s4 <| s4 <| s4 <| st <| id) (P v e wd k1 k2 k3 p news) zr:=by
 intro B F X N T hk hd hu hw hw2 hv hv2 he hret
 revert X;k_fill;intro X
 w_on
 refine wpAny_call ?_
 k_dflt (refine' enterZ [(Str.ofString "text",.str v k1),(Str.ofString "width",.int wd k2),(Str.ofString "end",.str e k3)] ?k1 ?k2 ?k3 ?k4 ?k5 ?kA ?kF ?kK ?k6 ?k7 ?k8 ?k9 ?kB ?_ ?c2 ?c3 ?c4 ?c5;cell_enter)
 k_steps
 rename_i D hx0 ll0 hx1 F1 N1 S1 l5 vs5 h5 k5 A5 lt5 F5 N5
 have lD:D < l5:=lt5 _ (List.Mem.head _)
 refine kg_listL (σ:=List PySem.Str×List Value) isText (fun c=>(l5,listOf vs5.toArray 0)::(D,listOf c.2.toArray c.2.length)::news) (fun _=>[]) [Str.ofString "units",Str.ofString "left",Str.ofString "row",Str.ofString "rest",Str.ofString "unit",Str.ofString "octet"] (fun pre c=>All2 isText c.1 c.2/\c.1=pre.foldl (mLine wd) []) ([],[]) rfl (fun _=>List.Mem.head _) A5 F5 N5 (List.forall_mem_nil _) ⟨.nil,rfl⟩ ?_ ?_
 ·intro c pre post ln vl u h tk own hxs hIn hoff hP F6 N6
  refine with_same ?_;intro S9
  obtain ⟨t6,rfl⟩:=hIn
  obtain ⟨rows,vals⟩:=c
  dsimp only at hP N6 F6
  obtain ⟨hP1,hP0⟩:=hP
  have hP2:rows.length<=30000:=by
   have q1:=mLines_bounds wd pre []
   rw [<- hP0] at q1
   have q2:=split_weight v (Str.ofString "\n") (by decide)
   rw [hxs] at q2
   have q3:wsum pre + pre.length<=v.length + 1:=by
    have e:=wsum_app pre (ln::post)
    unfold wsum at e ⊢
    simp only [List.length_append,List.length_cons] at q2
    omega
   simp only [List.length_nil] at q1
   omega
  simp only [List.cons_append] at N6
  have hmem:ln∈Txt.split v (Str.ofString "
"):=by rw [hxs];exact List.mem_append_right _ (List.Mem.head _)
  have hlc:∀ c∈ln.cps.toList,c < 256:=fun c hc=>hv2 c (split_chars hmem c hc)
  have hll:ln.length<=10000:=Nat.le_trans (part_short hmem) hv
  k_steps
  refine SrcT.intro (by rfl) (by k_asm) (by k_asm) (by (show PySem.Str.length _<=_);rw [sizeLine_eq];omega) ?_
  intro g1
  refine comp_all (xs:=ln.cps.toList) Array.length_toList isSign (fun c y=>isText (unitS c) y) (fun i v _ h=>sign_in _ i v h) ?_ ?_
  ·intro c v7 I oI C oC D7 m7 ys h7 tk7 E7 hc7 hv7 hC7 hx7 F7 N7 off7 ne7
   obtain ⟨t7,rfl⟩:=hv7
   have hcc:=hlc c hc7
   k_steps
   exact LCg.CompEnd.intro (by assumption) (by assumption) _ (fun p hp=>hp) off7 trivial ⟨rfl,_,rfl⟩
  ·intro ys hys
   have hyl:ys.length=ln.cps.toList.length:=(All2.length hys).symm
   have hys2:All2 isText (ln.cps.toList.map unitS) ys:=all2_map hys
   unfold LCg.FinA
   intro D2 h2 tk2 F2 N2 o2
   simp only [LCg.Off1,and_true] at o2
   (try dsimp only)
   k_steps
   refine LCg.CompSrc.ledger (by rfl) (by k_asm) (by k_asm) (by k_mem) (by rw [List.size_toArray,hyl,Array.length_toList,sizeLine_eq];exact Nat.le_trans hll (by decide)) ?_
   intro g2
   refine comp_all (xs:=ln.cps.toList.map unitS) (by rw [List.size_toArray,hys2.length]) isText (fun u y=>∃ t,y = .int ((PySem.Str.length u:Nat):Int) t) (fun i v hi h=>all2_item hys2 i v h) ?_ ?_
   ·intro u8 v8 I8 oI8 C8 oC8 D8 m8 ys8 h8 tk8 E8 hc8 hv8 hC8 hx8 F8 N8 off8 ne8
    obtain ⟨t8,rfl⟩:=hv8
    have hul:u8.length<=3:=by obtain ⟨c,_,rfl⟩:=List.mem_map.mp hc8;exact (unit_pos c).2
    k_steps
    exact LCg.CompEnd.intro (by assumption) (by assumption) _ (fun p hp=>hp) off8 (.inr ⟨_,List.Mem.head _,rfl,_,rfl⟩) ⟨rfl,_,rfl⟩
   ·intro zs hzs
    have hzi:=All2.ints hzs
    unfold LCg.FinE
    intro D3 h3 tk3 F3 N3 o3
    simp only [LCg.Off1,and_true] at o3
    (try dsimp only)
    k_steps
    rename Fr _ _ _ _=>F8
    rename News _ _ _ _=>N8
    have hu3:∀ u∈ln.cps.toList.map unitS,u.length<=3:=fun u hu=>by obtain ⟨c,_,rfl⟩:=List.mem_map.mp hu;exact (unit_pos c).2
    have hcount:(ln.cps.toList.map unitS).length<=10000:=by rw [List.length_map,Array.length_toList];exact hll
    refine kg_listL (σ:=MSt×List Value×Tok×Tok) (vs:=ys) (nn:=ys.length) isText (fun c=>(D2,LCg.lst ys)::(l5,listOf vs5.toArray 0)::(D,listOf c.2.1.toArray c.2.1.length)::(news++own)) (fun c=>[(Str.ofString "row",.str c.1.row c.2.2.1),(Str.ofString "left",.int c.1.left c.2.2.2),(Str.ofString "rest",.bool c.1.rest)]) [] (fun pre c=>All2 isText c.1.rows c.2.1/\c.1=pre.foldl (mStep wd) ⟨rows,Str.ofString "",lensum (ln.cps.toList.map unitS),decide (lensum (ln.cps.toList.map unitS)<=wd)⟩) (⟨rows,Str.ofString "",lensum (ln.cps.toList.map unitS),decide (lensum (ln.cps.toList.map unitS)<=wd)⟩,vals,_,_) rfl (fun _=>List.Mem.head _) hys2 F8 (fun p hp=>N8 p (List.Mem.tail _ hp)) (List.forall_mem_cons.mpr ⟨rfl,List.forall_mem_cons.mpr ⟨rfl,List.forall_mem_cons.mpr ⟨rfl,List.forall_mem_nil _⟩⟩⟩) ⟨hP1,rfl⟩ ?_ ?_
    ·intro c9 pre9 post9 u9 v9 f9 h9 tk9 own9 hx9 hI9 off9 hP9 F9 N9
     refine with_same ?_;intro S9
     obtain ⟨t9,rfl⟩:=hI9
     obtain ⟨⟨rows9,row9,left9,rest9⟩,vals9,ta9,tb9⟩:=c9
     dsimp only at hP9 N9 F9
     obtain ⟨hA9,hB9⟩:=hP9
     simp only [List.cons_append] at N9
     have hb9:=mFold_bounds wd pre9 ⟨rows,Str.ofString "",lensum (ln.cps.toList.map unitS),decide (lensum (ln.cps.toList.map unitS)<=wd)⟩ (fun u hu=>hu3 u (by rw [hx9];exact List.mem_append_left _ hu))
     rw [<- hB9] at hb9
     have hl9:pre9.length<=10000:=by have:=congrArg List.length hx9;simp only [List.length_append] at this;omega
     have e09:(Str.ofString "").length=0:=rfl
     dsimp only at hb9
     rw [e09] at hb9
     have hul9:u9.length<=3:=hu3 u9 (by rw [hx9];exact List.mem_append_right _ (List.Mem.head _))
     have hvl9:=hA9.length
     have hn1:D2≠D:=Ne.symm o2.2.1
     have hn2:l5≠D:=Ne.symm (Nat.ne_of_lt lD)
     have hn3:∀ p∈news++own++own9,p.1≠D:=by
      intro p hp
      rcases List.mem_append.mp hp with hp | hp
      ·rcases List.mem_append.mp hp with hp | hp
       ·exact Nat.ne_of_lt (ll0 p hp)
       ·exact hoff.ne (List.Mem.tail _ (List.Mem.head _)) p hp
      ·exact off9.ne (List.Mem.tail _ (List.Mem.tail _ (List.Mem.head _))) p hp
     k_steps
     all_goals (rename Fr _ _ _ _=>Fz;rename News _ _ _ _=>Nz;(try rw [lst_push] at Nz))
     all_goals first
      | (refine gst_endS (c:=(⟨rows9,row9++u9,left9 - ((u9.length:Nat):Int),rest9⟩,vals9,_,_)) (by first | assumption | exact Same.trans (by assumption) (by assumption)) Fz Nz (fun p hp=>List.mem_append_left own9 hp) (fun p hp=>List.mem_append_right (_::_::_::(news++own)) hp) rfl (List.forall_mem_cons.mpr ⟨by with_unfolding_all rfl,List.forall_mem_cons.mpr ⟨by with_unfolding_all rfl,List.forall_mem_cons.mpr ⟨by with_unfolding_all rfl,List.forall_mem_nil _⟩⟩⟩) (by intro z q1 q2 q3;simp only [List.forall_mem_cons,List.not_mem_nil,false_implies,implies_true,and_true,ne_eq] at q1 q2;simp [upd,updO,hid,kstB,q1,q2]) ⟨hA9,?_⟩;simp only [List.foldl_append,<- hB9,List.foldl_cons,List.foldl_nil,mStep];rw [if_neg];rintro ⟨q1,q2⟩;first | exact absurd q2 (by assumption) | exact Bool.noConfusion (q1.symm.trans (by assumption:rest9=true)))
      | (refine gst_endS (c:=(⟨rows9++[row9++Str.ofString "="],Str.ofString "" ++ u9,left9 - ((u9.length:Nat):Int),decide (left9<=wd)⟩,_,_,_)) (by first | assumption | exact Same.trans (by assumption) (by assumption)) Fz Nz (fun p hp=>List.mem_append_left own9 hp) (fun p hp=>List.mem_append_right (_::_::_::(news++own)) hp) rfl (List.forall_mem_cons.mpr ⟨by with_unfolding_all rfl,List.forall_mem_cons.mpr ⟨by with_unfolding_all rfl,List.forall_mem_cons.mpr ⟨by with_unfolding_all rfl,List.forall_mem_nil _⟩⟩⟩) (by intro z q1 q2 q3;simp only [List.forall_mem_cons,List.not_mem_nil,false_implies,implies_true,and_true,ne_eq] at q1 q2;simp [upd,updO,hid,kstB,q1,q2]) ⟨hA9.snoc ⟨_,rfl⟩,?_⟩;simp only [List.foldl_append,<- hB9,List.foldl_cons,List.foldl_nil,mStep];rw [if_pos ⟨by assumption,by assumption⟩])
    ·intro c9 f9 h9 tk9 hP9 F9 N9
     obtain ⟨⟨rows9,row9,left9,rest9⟩,vals9,ta9,tb9⟩:=c9
     dsimp only at hP9 N9 F9
     obtain ⟨hA9,hB9⟩:=hP9
     have hb9:=mFold_bounds wd (ln.cps.toList.map unitS) ⟨rows,Str.ofString "",lensum (ln.cps.toList.map unitS),decide (lensum (ln.cps.toList.map unitS)<=wd)⟩ hu3
     rw [<- hB9] at hb9
     have e09:(Str.ofString "").length=0:=rfl
     dsimp only at hb9
     rw [e09] at hb9
     have hvl9:=hA9.length
     have hn1:D2≠D:=Ne.symm o2.2.1
     have hn2:l5≠D:=Ne.symm (Nat.ne_of_lt lD)
     have hn3:∀ p∈news++own,p.1≠D:=by
      intro p hp
      rcases List.mem_append.mp hp with hp | hp
      ·exact Nat.ne_of_lt (ll0 p hp)
      ·exact hoff.ne (List.Mem.tail _ (List.Mem.head _)) p hp
     k_steps
     all_goals (rename Fr _ _ _ _=>Fz;rename News _ _ _ _=>Nz;(first | rw [lst_push2] at Nz | rw [lst_push] at Nz))
     ·refine gst_endS (c:=(rows9++[Txt.slice row9 none (some (-1))++(if (Txt.item row9 (-1) == Str.ofString " ")=true then Str.ofString "=20" else Str.ofString "=09")],_)) (by first | assumption | exact Same.trans (by assumption) (by assumption)) Fz Nz (fun p hp=>List.Mem.tail _ (List.mem_append_left own hp)) (fun p hp=>List.mem_append_right (_::_::_::news) hp) rfl (List.forall_mem_nil _) (by intro z q1 q2 q3;simp only [List.contains_cons,List.contains_nil,Bool.or_false,Bool.or_eq_false_iff,beq_eq_false_iff_ne,ne_eq] at q1 q3;simp [upd,updO,hid,kstB,q1,q3]) ⟨hA9.snoc ⟨_,rfl⟩,?_⟩
      rw [List.foldl_append,<- hP0]
      show _=mTail wd (List.foldl (mStep wd) ⟨rows,Str.ofString "",lensum (ln.cps.toList.map unitS),decide (lensum (ln.cps.toList.map unitS)<=wd)⟩ (ln.cps.toList.map unitS)).rows (List.foldl (mStep wd) ⟨rows,Str.ofString "",lensum (ln.cps.toList.map unitS),decide (lensum (ln.cps.toList.map unitS)<=wd)⟩ (ln.cps.toList.map unitS)).row
      rw [<- hB9]
      unfold mTail
      rw [if_pos (Bool.or_eq_true_iff.mp (by assumption)),if_pos (show ((row9.length:Nat):Int) + 2<=wd by assumption)]
     ·refine gst_endS (c:=(rows9++[row9++Str.ofString "="]++[Str.ofString ""],_)) (by first | assumption | exact Same.trans (by assumption) (by assumption)) Fz Nz (fun p hp=>List.Mem.tail _ (List.mem_append_left own hp)) (fun p hp=>List.mem_append_right (_::_::_::news) hp) rfl (List.forall_mem_nil _) (by intro z q1 q2 q3;simp only [List.contains_cons,List.contains_nil,Bool.or_false,Bool.or_eq_false_iff,beq_eq_false_iff_ne,ne_eq] at q1 q3;simp [upd,updO,hid,kstB,q1,q3]) ⟨(hA9.snoc ⟨_,rfl⟩).snoc ⟨_,rfl⟩,?_⟩
      rw [List.foldl_append,<- hP0]
      show _=mTail wd (List.foldl (mStep wd) ⟨rows,Str.ofString "",lensum (ln.cps.toList.map unitS),decide (lensum (ln.cps.toList.map unitS)<=wd)⟩ (ln.cps.toList.map unitS)).rows (List.foldl (mStep wd) ⟨rows,Str.ofString "",lensum (ln.cps.toList.map unitS),decide (lensum (ln.cps.toList.map unitS)<=wd)⟩ (ln.cps.toList.map unitS)).row
      rw [<- hB9]
      unfold mTail
      rw [if_pos (Bool.or_eq_true_iff.mp (by assumption)),if_neg (show ¬ ((row9.length:Nat):Int) + 2<=wd by assumption),if_pos (show ((row9.length:Nat):Int) < wd by assumption)]
     ·refine gst_endS (c:=(rows9++[Txt.slice row9 none (some (-1))++Str.ofString "="]++[(if (Txt.item row9 (-1) == Str.ofString " ")=true then Str.ofString "=20" else Str.ofString "=09")],_)) (by first | assumption | exact Same.trans (by assumption) (by assumption)) Fz Nz (fun p hp=>List.Mem.tail _ (List.mem_append_left own hp)) (fun p hp=>List.mem_append_right (_::_::_::news) hp) rfl (List.forall_mem_nil _) (by intro z q1 q2 q3;simp only [List.contains_cons,List.contains_nil,Bool.or_false,Bool.or_eq_false_iff,beq_eq_false_iff_ne,ne_eq] at q1 q3;simp [upd,updO,hid,kstB,q1,q3]) ⟨(hA9.snoc ⟨_,rfl⟩).snoc ⟨_,rfl⟩,?_⟩
      rw [List.foldl_append,<- hP0]
      show _=mTail wd (List.foldl (mStep wd) ⟨rows,Str.ofString "",lensum (ln.cps.toList.map unitS),decide (lensum (ln.cps.toList.map unitS)<=wd)⟩ (ln.cps.toList.map unitS)).rows (List.foldl (mStep wd) ⟨rows,Str.ofString "",lensum (ln.cps.toList.map unitS),decide (lensum (ln.cps.toList.map unitS)<=wd)⟩ (ln.cps.toList.map unitS)).row
      rw [<- hB9]
      unfold mTail
      rw [if_pos (Bool.or_eq_true_iff.mp (by assumption)),if_neg (show ¬ ((row9.length:Nat):Int) + 2<=wd by assumption),if_neg (show ¬ ((row9.length:Nat):Int) < wd by assumption)]
     ·refine gst_endS (c:=(rows9++[row9],_)) (by first | assumption | exact Same.trans (by assumption) (by assumption)) Fz Nz (fun p hp=>List.Mem.tail _ (List.mem_append_left own hp)) (fun p hp=>List.mem_append_right (_::_::_::news) hp) rfl (List.forall_mem_nil _) (by intro z q1 q2 q3;simp only [List.contains_cons,List.contains_nil,Bool.or_false,Bool.or_eq_false_iff,beq_eq_false_iff_ne,ne_eq] at q1 q3;simp [upd,updO,hid,kstB,q1,q3]) ⟨hA9.snoc ⟨_,rfl⟩,?_⟩
      rw [List.foldl_append,<- hP0]
      show _=mTail wd (List.foldl (mStep wd) ⟨rows,Str.ofString "",lensum (ln.cps.toList.map unitS),decide (lensum (ln.cps.toList.map unitS)<=wd)⟩ (ln.cps.toList.map unitS)).rows (List.foldl (mStep wd) ⟨rows,Str.ofString "",lensum (ln.cps.toList.map unitS),decide (lensum (ln.cps.toList.map unitS)<=wd)⟩ (ln.cps.toList.map unitS)).row
      rw [<- hB9]
      unfold mTail
      rw [if_neg (fun q=>Bool.noConfusion ((Bool.or_eq_true_iff.mpr q).symm.trans (by assumption)))]
 ·intro c u h tk hP F6 N6
  obtain ⟨rows,vals⟩:=c
  dsimp only at hP N6 F6
  obtain ⟨hP1,hP0⟩:=hP
  have hjw:(rows.map (·.length)).sum + rows.length<=1048576:=by
   have q1:=mLines_bounds wd (Txt.split v (Str.ofString "\n")) []
   rw [<- hP0] at q1
   have q2:=split_weight v (Str.ofString "\n") (by decide)
   unfold wsum at q1
   simp only [List.length_nil,List.map_nil,List.sum_nil] at q1
   omega
  k_steps
  all_goals k_dflt (refine ret_same (by assumption) ?_;refine cb_retS hret ?_ (by assumption) (by (rename News _ _ _ _=>nz);exact fun p hp=>nz p (by repeat (first | assumption | refine List.Mem.tail _ ?_))))
  all_goals (rw [hP0];rfl)
end mail_ct
theorem mail_ct (v e wd k1 k2 k3) {p} (news s m L dp un) {w loose mean mg mb} (gd cn cs a ccd cl outer A₀ base h₀ Q E):mail_ct.P v e wd k1 k2 k3 p news s m L dp un w loose mean mg mb gd cn cs a ccd cl outer A₀ base h₀ Q E:=by with_unfolding_all exact zy_all _ mail_ct.R mail_ct.T (v,e,wd,k1,k2,k3,p,news,s,m,L,dp,un,w,loose,mean,mg,mb,gd,cn,cs,a,ccd,cl,outer,A₀,base,h₀,Q,E)
end Mine.W5
end XW5
open Mine.W5
section XU6
namespace Mine
theorem tn_mono {a b:Int} (h0:0<=a)(h:a < b):a.toNat < b.toNat:=(Int.toNat_lt_toNat (Int.lt_of_le_of_lt h0 h)).mpr h
theorem tn_lt {L:Nat}{a b:Int} (h0:0<=a)(h:a < b)(hb:b<=(L:Int)):L - b.toNat < L - a.toNat:=Nat.sub_lt_sub_left (Nat.lt_of_lt_of_le (tn_mono h0 h) (Int.toNat_le.mpr hb)) (tn_mono h0 h)
theorem tn_le {L m:Nat}{a b:Int} (h0:0<=a)(h:a < b)(hb:b<=(L:Int))(hm:L - a.toNat<=m + 1):L - b.toNat<=m:=Nat.le_of_lt_succ (Nat.lt_of_lt_of_le (tn_lt h0 h hb) hm)
theorem tn_row {α:Type}{l l₀:List α}{x:α}{a b:Int} (h0:0<=a)(h:a < b)(hr:l.length<=l₀.length + a.toNat):(l++[x]).length<=l₀.length + b.toNat:=by
 rw [List.length_append,List.length_singleton]
 exact Nat.le_trans (Nat.succ_le_succ hr) (Nat.add_le_add_left (tn_mono h0 h) _)
theorem tn_pos {L n:Nat}{a:Int} (h0:0<=a)(h:a < (L:Int))(hn:L - a.toNat<=n):∃ m,n=m + 1:=⟨n - 1,(Nat.succ_pred_eq_of_pos (Nat.lt_of_lt_of_le (Nat.sub_pos_of_lt ((Int.toNat_lt h0).mpr h)) hn)).symm⟩
end Mine
end XU6
section XW7
set_option tactic.hygienic true
open PySem PySem.W PyProof.Rows PySem.Calls
namespace Mine.W7
open Mine.Hd
theorem wt18:True:=by
 k_with "W7 omega" => k_extra "A65"
 k_with "W7 cell_enter" => k_extra "A5"
 k_with "W7 k_steps" => k_extra "A6"
 k_with "W7 execs cons" => k_extra "A7"
 k_with "W7 execs nil" => k_extra "A8"
 k_with "W7 eval Name" => k_extra "A9"
 k_with "W7 callWith ref" => k_extra "A15"
 k_with "W7 storeName" => k_extra "A97"
 k_with "W7 getAttr ref" => k_extra "A114"
 k_with "W7 callWith ref" => k_extra "A17"
 k_with "W7 And" => k_extra "A18"
 k_with "W7 call ref" => k_extra "A99"
 k_with "W7 isTrue BoolOp" => k_extra "A101"
 k_with "W7 eval IfExp" => k_extra "A102"
 k_with "W7 KoB1" => k_extra "A103"
 k_with "W7 KoB2" => k_extra "A104"
 k_with "W7 getMethod str" => k_extra "A115"
 k_with "W7 call builtin:str.translate" => k_extra "A116"
 k_with "W7 call builtin:str.splitlines" => k_extra "A117"
 k_with "W7 subscriptTail Name Slice str ref" => k_extra "A118"
 k_with "W7 call ref" => k_extra "A119"
 k_with "W7 exec While" => k_extra "A120"
 k_with "W7 call ref" => k_extra "A121"
 k_with "W7 eval Constant int" => k_extra "A30"
 k_with "W7 eval Constant str" => k_extra "A31"
 k_with "W7 binaryOp Add int int" => k_extra "A32"
 k_with "W7 binaryOp Sub int int" => k_extra "A33"
 k_with "W7 unaryOp USub int" => k_extra "A34"
 k_with "W7 ite" => k_extra "A113"
 exact True.intro
noncomputable def benc_ct.P (v e:Str)(wd:Int) (k1 k2 k3:Tok) (p news m)(s:Shared) (L)(dp un:Nat)(w:World) (loose mean mg mb gd cn)(cs:Scope) (a ccd cl outer A₀ base h₀)(Q E:Value->Shared->Prop):=∀ (B:Below A₀ base outer h₀)(F:Fr h₀ L s.heap m)(X:(heapK w.params).In h₀)(N:News h₀ L s.heap news)(T:Top p loose mean mg mb h₀)(hk:cs.kind = .function)(hd:dp + 50 < recursionLimit)(hu:un + 500 < cLine)(hw:4<=wd) (hw2:wd < 100)(hv:v.length<=10000) (hv1:(v.length == 0)=false) (hv2:∀ c∈v.cps.toList,c < 256)(he:e.length<=2)(hret:∀ t h' tk',Fr h₀ L h' m->News h₀ L h' news->Q (.str (bEncS v wd e) t) { s with heap:=h',toks:=tk' }),wpAny (model rw_re0182_01.row.prog w) (ktrTop dp un gd cn cs L a ccd cl outer) (call (.ref 81) [.str v k1,.int wd k2,.str e k3]) Q E s
namespace benc_ct
noncomputable def R:=(s4 <| s4 <| s4 <| s4 <| s4 <| s4 <| s4 <| st <| id) P
@[irreducible] noncomputable def z:=zy R (by k_extra "N")
@[irreducible] noncomputable def v:=f1 z
@[irreducible] noncomputable def e:=f1 (f2 z)
@[irreducible] noncomputable def wd:=f1 (f2 (f2 z))
@[irreducible] noncomputable def k1:=f1 (f2 (f2 (f2 z)))
@[irreducible] noncomputable def k2:=f1 (f2 (f2 (f2 (f2 z))))
@[irreducible] noncomputable def k3:=f1 (f2 (f2 (f2 (f2 (f2 z)))))
@[irreducible] noncomputable def p:=f1 (f2 (f2 (f2 (f2 (f2 (f2 z))))))
@[irreducible] noncomputable def news:=f1 (f2 (f2 (f2 (f2 (f2 (f2 (f2 z)))))))
@[irreducible] noncomputable def m:=f1 (f2 (f2 (f2 (f2 (f2 (f2 (f2 (f2 z))))))))
@[irreducible] noncomputable def zr:=f2 (f2 (f2 (f2 (f2 (f2 (f2 (f2 (f2 z))))))))
theorem T:(s4 <| s4 <| s4 <| s4 <| s4 <| id) (P v e wd k1 k2 k3 p news m) zr:=by
 intro B F X N T hk hd hu hw hw2 hv hv1 hv2 he hret
 revert X;k_fill;intro X
 w_on
 refine wpAny_call ?_
 k_dflt (refine' enterZ [(Str.ofString "body",.str v k1),(Str.ofString "maxlinelen",.int wd k2),(Str.ofString "eol",.str e k3)] ?k1 ?k2 ?k3 ?k4 ?k5 ?kA ?kF ?kK ?k6 ?k7 ?k8 ?k9 ?kB ?_ ?c2 ?c3 ?c4 ?c5;cell_enter)
 k_steps
 ·rename_i r9 t9 k9 hr9 hl9 hp9 hxa ta ka aa hxb hxc D hxd l1 hxe q hxf hxg lF N2 S2 l5 vs5 h5 k5 A5 lt5 F5 N5
  have lD:D < l5:=lt5 (D,listOf #[] 0) (List.Mem.tail _ (List.Mem.head _))
  have lq:q < l5:=lt5 (q,appObj D) (List.Mem.head _)
  have hDq:D < q:=l1q.1
  have hr:r9.length<=30000:=by omega
  refine kg_listL (σ:=List PySem.Str×List Value) isText (fun c=>(l5,listOf vs5.toArray 0)::(q,appObj D)::(D,listOf c.2.toArray c.2.length)::news) (fun _=>[]) [Str.ofString "start",Str.ofString "laststart",Str.ofString "stop",Str.ofString "room",Str.ofString "q"] (fun pre c=>All2 isText c.1 c.2/\c.1=pre.foldl (bLine wd e) []) ([],[]) rfl (fun _=>List.Mem.head _) A5 F5 N5 (List.forall_mem_nil _) ⟨.nil,rfl⟩ ?_ ?_
  ·intro c pre post ln vl u h tk own hxs hIn hoff hP F6 N6
   refine with_same ?_;intro S9
   obtain ⟨t6,rfl⟩:=hIn
   obtain ⟨rows,vals⟩:=c
   dsimp only at hP N6 F6
   obtain ⟨hP1,hP0⟩:=hP
   simp only [List.cons_append] at N6
   have hmem:ln∈Txt.lines r9:=by rw [hxs];exact List.mem_append_right _ (List.Mem.head _)
   have hll:ln.length<=30000:=Nat.le_trans (line_short hmem) hr
   have hrr:rows.length<=40000:=by
    have q1:=bLines_bounds hw e pre []
    rw [<- hP0] at q1
    have q2:=StrLaws.lines_weight r9
    rw [hxs] at q2
    have q3:=wsum_app pre (ln::post)
    unfold wsum at q1 q3
    simp only [List.length_append,List.length_cons,List.length_nil] at q1 q2
    omega
   k_steps
   unfold WhStop
   rename Fr _ _ _ _=>F7
   rename News _ _ _ _=>N7
   have hn1:l5≠D:=Ne.symm (Nat.ne_of_lt lD)
   have hn2:q≠D:=Ne.symm (Nat.ne_of_lt hDq)
   have hn3:∀ p∈news++own,p.1≠D:=by
    intro p hp
    rcases List.mem_append.mp hp with hp | hp
    ·exact Nat.ne_of_lt (l1 p hp)
    ·exact hoff.ne (List.Mem.tail _ (List.Mem.tail _ (List.Mem.head _))) p hp
   refine wh_loop (σ:=List PySem.Str×List Value×Int×Tok) (fun c=>(l5,listOf vs5.toArray 0)::(q,appObj D)::(D,listOf c.2.1.toArray c.2.1.length)::(news++own)) (fun c=>[(Str.ofString "start",.int c.2.2.1 c.2.2.2)]) [Str.ofString "stop"] (fun c=>All2 isText c.1 c.2.1/\0<=c.2.2.1/\c.2.2.1<=ln.length/\c.1.length<=rows.length + c.2.2.1.toNat/\∃ n,ln.length - c.2.2.1.toNat<=n/\bRun wd ln n c.1 c.2.2.1=bRun wd ln ln.length rows 0) (fun c=>ln.length - c.2.2.1.toNat) (rows,vals,0,_) (by passes_own) F7 N7 (List.forall_mem_cons.mpr ⟨by with_unfolding_all rfl,List.forall_mem_nil _⟩) ⟨hP1,Int.le_refl _,Int.natCast_nonneg _,Nat.le_refl _,ln.length,Nat.sub_le _ _,rfl⟩ ?_
   intro c u8 h8 tk8 hP8 F8 N8
   refine with_same ?_;intro S9
   obtain ⟨rows8,vals8,st8,tt8⟩:=c
   dsimp only at hP8 F8 N8
   obtain ⟨hA8,h08,hl8,hr8,n8,hn8,hb8⟩:=hP8
   have hvl8:=hA8.length
   k_steps
   unfold WhB
   refine ⟨fun hb1=>?_,fun hb1=>?_⟩
   ·simp only [decide_eq_true_eq] at hb1
    obtain ⟨m8,rfl⟩:∃ m,n8=m + 1:=tn_pos h08 (by omega) hn8
    rw [bRun,if_pos hb1] at hb8
    have hq:=bCut_step hw h08 hb1
    k_steps
    all_goals (show WhNext _ _ _ _ _ _ _ _ _ _ _)
    all_goals (rename Fr _ _ _ _=>Fz;rename News _ _ _ _=>Nz;rw [lst_push] at Nz)
    ·have hc:bCut wd ln st8=(Txt.slice ln (some st8) (some (st8 + (wd - 1) - 1)),st8 + (wd - 1) - 2):=by unfold bCut;rw [if_pos (by assumption)]
     rw [hc] at hb8 hq
     dsimp only at hb8 hq
     refine wh_endS (c:=(rows8++[Txt.slice ln (some st8) (some (st8 + (wd - 1) - 1))],_,st8 + (wd - 1) - 2,_)) (by first | assumption | exact Same.trans (by assumption) (by assumption)) Fz Nz (fun p hp=>hp) (List.forall_mem_cons.mpr ⟨by with_unfolding_all rfl,List.forall_mem_nil _⟩) (by intro z q2 q3;simp only [List.forall_mem_cons,List.not_mem_nil,false_implies,implies_true,and_true,ne_eq] at q2;simp only [List.contains_cons,List.contains_nil,Bool.or_false,Bool.or_eq_false_iff,beq_eq_false_iff_ne,ne_eq] at q3;simp [upd,updO,hid,kstB,q2,q3]) ⟨hA8.snoc ⟨_,rfl⟩,Int.le_trans h08 (Int.le_of_lt hq.1),hq.2.1,tn_row h08 hq.1 hr8,m8,tn_le h08 hq.1 hq.2.1 hn8,hb8⟩ (tn_lt h08 hq.1 hq.2.1)
    ·have hc:bCut wd ln st8=(Txt.slice ln (some st8) (some (st8 + (wd - 1))),st8 + (wd - 1) - 1):=by unfold bCut;rw [if_neg (ne_true_of_eq_false (by assumption)),if_pos (by assumption)]
     rw [hc] at hb8 hq
     dsimp only at hb8 hq
     refine wh_endS (c:=(rows8++[Txt.slice ln (some st8) (some (st8 + (wd - 1)))],_,st8 + (wd - 1) - 1,_)) (by first | assumption | exact Same.trans (by assumption) (by assumption)) Fz Nz (fun p hp=>hp) (List.forall_mem_cons.mpr ⟨by with_unfolding_all rfl,List.forall_mem_nil _⟩) (by intro z q2 q3;simp only [List.forall_mem_cons,List.not_mem_nil,false_implies,implies_true,and_true,ne_eq] at q2;simp only [List.contains_cons,List.contains_nil,Bool.or_false,Bool.or_eq_false_iff,beq_eq_false_iff_ne,ne_eq] at q3;simp [upd,updO,hid,kstB,q2,q3]) ⟨hA8.snoc ⟨_,rfl⟩,Int.le_trans h08 (Int.le_of_lt hq.1),hq.2.1,tn_row h08 hq.1 hr8,m8,tn_le h08 hq.1 hq.2.1 hn8,hb8⟩ (tn_lt h08 hq.1 hq.2.1)
    ·have hc:bCut wd ln st8=(Txt.slice ln (some st8) (some (st8 + (wd - 1)))++Str.ofString "=",st8 + (wd - 1)):=by unfold bCut;rw [if_neg (ne_true_of_eq_false (by assumption)),if_neg (ne_true_of_eq_false (by assumption))]
     rw [hc] at hb8 hq
     dsimp only at hb8 hq
     refine wh_endS (c:=(rows8++[Txt.slice ln (some st8) (some (st8 + (wd - 1)))++Str.ofString "="],_,st8 + (wd - 1),_)) (by first | assumption | exact Same.trans (by assumption) (by assumption)) Fz Nz (fun p hp=>hp) (List.forall_mem_cons.mpr ⟨by with_unfolding_all rfl,List.forall_mem_nil _⟩) (by intro z q2 q3;simp only [List.forall_mem_cons,List.not_mem_nil,false_implies,implies_true,and_true,ne_eq] at q2;simp only [List.contains_cons,List.contains_nil,Bool.or_false,Bool.or_eq_false_iff,beq_eq_false_iff_ne,ne_eq] at q3;simp [upd,updO,hid,kstB,q2,q3]) ⟨hA8.snoc ⟨_,rfl⟩,Int.le_trans h08 (Int.le_of_lt hq.1),hq.2.1,tn_row h08 hq.1 hr8,m8,tn_le h08 hq.1 hq.2.1 hn8,hb8⟩ (tn_lt h08 hq.1 hq.2.1)
   ·simp only [decide_eq_false_iff_not] at hb1
    have hbe:=bRun_end (wd:=wd) (ln:=ln) (n:=n8) (rows:=rows8) hb1
    rw [hb8] at hbe
    k_steps
    all_goals (try (rename _ = @ite _ _ _ _ _=>he9;subst he9))
    all_goals (rename Fr _ _ _ _=>Fz;rename News _ _ _ _=>Nz;rw [lst_push] at Nz)
    ·(refine gst_endS (c:=(rows8++[Txt.slice ln (some st8) none],_)) (by first | assumption | exact Same.trans (by assumption) (by assumption)) Fz Nz (fun p hp=>List.mem_append_left own hp) (fun p hp=>List.mem_append_right (_::_::_::news) hp) rfl (List.forall_mem_nil _) (by intro z q1 q2 q3;simp only [List.contains_cons,List.contains_nil,Bool.or_false,Bool.or_eq_false_iff,beq_eq_false_iff_ne,ne_eq] at q1 q3;simp [upd,updO,hid,kstB,q1,q3]) ⟨hA8.snoc ⟨_,rfl⟩,?_⟩;rw [List.foldl_append,<- hP0];show _=bTail wd e ln (bRun wd ln ln.length rows 0).1 (bRun wd ln ln.length rows 0).2;rw [hbe];unfold bTail;dsimp only;rw [if_neg (by rintro ⟨q1,q2⟩;unfold blanks at q2;rw [(by assumption:(Builtin.Str.occurrences (Str.ofString " \t") (Txt.item ln (-1)) 0 (Str.ofString " \t").length 1).isEmpty=true)] at q2;exact absurd q2 (by decide))])
    ·(refine gst_endS (c:=(rows8++[Txt.slice ln (some st8) (some (-1))++(if (Txt.item ln (-1) == Str.ofString " ")=true then Str.ofString "=20" else Str.ofString "=09")],_)) (by first | assumption | exact Same.trans (by assumption) (by assumption)) Fz Nz (fun p hp=>List.mem_append_left own hp) (fun p hp=>List.mem_append_right (_::_::_::news) hp) rfl (List.forall_mem_nil _) (by intro z q1 q2 q3;simp only [List.contains_cons,List.contains_nil,Bool.or_false,Bool.or_eq_false_iff,beq_eq_false_iff_ne,ne_eq] at q1 q3;simp [upd,updO,hid,kstB,q1,q3]) ⟨hA8.snoc ⟨_,rfl⟩,?_⟩;rw [List.foldl_append,<- hP0];show _=bTail wd e ln (bRun wd ln ln.length rows 0).1 (bRun wd ln ln.length rows 0).2;rw [hbe];unfold bTail;dsimp only;rw [if_pos (show ln.length≠0/\blanks (Txt.item ln (-1))=true from ⟨by omega,by unfold blanks;rw [(by assumption:(Builtin.Str.occurrences (Str.ofString " \t") (Txt.item ln (-1)) 0 (Str.ofString " \t").length 1).isEmpty=false)];rfl⟩),if_pos (show (3:Int)<=st8 - ((ln.length:Int) - 1 - wd) by omega)])
    ·(refine gst_endS (c:=(rows8++[Txt.slice ln (some st8) (some (-1))++(Txt.item ln (-1)++(Str.ofString "=" ++ e))],_)) (by first | assumption | exact Same.trans (by assumption) (by assumption)) Fz Nz (fun p hp=>List.mem_append_left own hp) (fun p hp=>List.mem_append_right (_::_::_::news) hp) rfl (List.forall_mem_nil _) (by intro z q1 q2 q3;simp only [List.contains_cons,List.contains_nil,Bool.or_false,Bool.or_eq_false_iff,beq_eq_false_iff_ne,ne_eq] at q1 q3;simp [upd,updO,hid,kstB,q1,q3]) ⟨hA8.snoc ⟨_,rfl⟩,?_⟩;rw [List.foldl_append,<- hP0];show _=bTail wd e ln (bRun wd ln ln.length rows 0).1 (bRun wd ln ln.length rows 0).2;rw [hbe];unfold bTail;dsimp only;rw [if_pos (show ln.length≠0/\blanks (Txt.item ln (-1))=true from ⟨by omega,by unfold blanks;rw [(by assumption:(Builtin.Str.occurrences (Str.ofString " \t") (Txt.item ln (-1)) 0 (Str.ofString " \t").length 1).isEmpty=false)];rfl⟩),if_neg (show ¬ (3:Int)<=st8 - ((ln.length:Int) - 1 - wd) by omega),if_pos (show st8 - ((ln.length:Int) - 1 - wd)=2 by omega)])
    ·(refine gst_endS (c:=(rows8++[Txt.slice ln (some st8) (some (-1))++(Str.ofString "=" ++ e++(if (Txt.item ln (-1) == Str.ofString " ")=true then Str.ofString "=20" else Str.ofString "=09"))],_)) (by first | assumption | exact Same.trans (by assumption) (by assumption)) Fz Nz (fun p hp=>List.mem_append_left own hp) (fun p hp=>List.mem_append_right (_::_::_::news) hp) rfl (List.forall_mem_nil _) (by intro z q1 q2 q3;simp only [List.contains_cons,List.contains_nil,Bool.or_false,Bool.or_eq_false_iff,beq_eq_false_iff_ne,ne_eq] at q1 q3;simp [upd,updO,hid,kstB,q1,q3]) ⟨hA8.snoc ⟨_,rfl⟩,?_⟩;rw [List.foldl_append,<- hP0];show _=bTail wd e ln (bRun wd ln ln.length rows 0).1 (bRun wd ln ln.length rows 0).2;rw [hbe];unfold bTail;dsimp only;rw [if_pos (show ln.length≠0/\blanks (Txt.item ln (-1))=true from ⟨by omega,by unfold blanks;rw [(by assumption:(Builtin.Str.occurrences (Str.ofString " \t") (Txt.item ln (-1)) 0 (Str.ofString " \t").length 1).isEmpty=false)];rfl⟩),if_neg (show ¬ (3:Int)<=st8 - ((ln.length:Int) - 1 - wd) by omega),if_neg (show ¬ st8 - ((ln.length:Int) - 1 - wd)=2 by omega)])
    ·(refine gst_endS (c:=(rows8++[Txt.slice ln (some st8) none],_)) (by first | assumption | exact Same.trans (by assumption) (by assumption)) Fz Nz (fun p hp=>List.mem_append_left own hp) (fun p hp=>List.mem_append_right (_::_::_::news) hp) rfl (List.forall_mem_nil _) (by intro z q1 q2 q3;simp only [List.contains_cons,List.contains_nil,Bool.or_false,Bool.or_eq_false_iff,beq_eq_false_iff_ne,ne_eq] at q1 q3;simp [upd,updO,hid,kstB,q1,q3]) ⟨hA8.snoc ⟨_,rfl⟩,?_⟩;rw [List.foldl_append,<- hP0];show _=bTail wd e ln (bRun wd ln ln.length rows 0).1 (bRun wd ln ln.length rows 0).2;rw [hbe];unfold bTail;dsimp only;rw [if_neg (by rintro ⟨q1,q2⟩;omega)])
  ·intro c u h tk hP F6 N6
   obtain ⟨rows,vals⟩:=c
   dsimp only at hP N6 F6
   obtain ⟨hP1,hP0⟩:=hP
   have hn1:l5≠D:=Ne.symm (Nat.ne_of_lt lD)
   have hn2:q≠D:=Ne.symm (Nat.ne_of_lt hDq)
   have hn3:∀ p∈news,p.1≠D:=fun p hp=>Nat.ne_of_lt (l1 p hp)
   have hvl:=hP1.length
   have q1:=bLines_bounds hw e (Txt.lines r9) []
   rw [<- hP0] at q1
   have q2:=StrLaws.lines_weight r9
   unfold wsum at q1
   simp only [List.length_nil,List.map_nil,List.sum_nil] at q1
   have hpr:(e.length + 4) * (Txt.lines r9).length<=6 * (Txt.lines r9).length:=Nat.mul_le_mul_right _ (by omega)
   have hjw:(rows.map (·.length)).sum + rows.length<=1000000:=by omega
   have e0:(Str.ofString "").length=0:=rfl
   have hjw1:((rows++[Str.ofString ""]).map (·.length)).sum + (rows++[Str.ofString ""]).length<=1048576:=by
    simp only [List.map_append,List.map_cons,List.map_nil,List.sum_append,List.sum_cons,List.sum_nil,List.length_append,List.length_cons,List.length_nil,e0];omega
   k_steps
   all_goals (rename News _ _ _ _=>Nz;(try rw [lst_push] at Nz))
   ·refine k_join Nz (List.Mem.tail _ (List.Mem.tail _ (List.Mem.head _))) hP1 (by omega) (Nat.le_trans hjw (by decide)) ?_
    intro t7 k7
    k_steps
    all_goals k_dflt (refine ret_same (by assumption) ?_;refine cb_retS hret ?_ (by assumption) (by (rename News _ _ _ _=>nz);exact fun p hp=>nz p (by repeat (first | assumption | refine List.Mem.tail _ ?_))))
    all_goals (unfold bEncS bRows crlf;rw [<- hr9,if_neg (by rw [(by assumption:(Builtin.Str.occurrences (Str.ofString "\r\n") (Txt.item r9 (-1)) 0 (Str.ofString "\r\n").length 1).isEmpty=true)];exact Bool.false_ne_true),<- hP0])
   ·refine k_join (vs:=vals++[_]) Nz (List.Mem.tail _ (List.Mem.tail _ (List.Mem.head _))) (hP1.snoc ⟨_,rfl⟩) (by omega) hjw1 ?_
    intro t7 k7
    k_steps
    all_goals k_dflt (refine ret_same (by assumption) ?_;refine cb_retS hret ?_ (by assumption) (by (rename News _ _ _ _=>nz);exact fun p hp=>nz p (by repeat (first | assumption | refine List.Mem.tail _ ?_))))
    all_goals (unfold bEncS bRows crlf;rw [<- hr9,if_pos (by rw [(by assumption:(Builtin.Str.occurrences (Str.ofString "\r\n") (Txt.item r9 (-1)) 0 (Str.ofString "\r\n").length 1).isEmpty=false)];rfl),<- hP0])
 all_goals (exfalso;have:v.length=0:=(by omega);rw [this] at hv1;exact absurd hv1 (by decide))
end benc_ct
theorem benc_ct (v e wd k1 k2 k3) {p} (news m s L dp un) {w loose mean mg mb} (gd cn cs a ccd cl outer A₀ base h₀ Q E):benc_ct.P v e wd k1 k2 k3 p news m s L dp un w loose mean mg mb gd cn cs a ccd cl outer A₀ base h₀ Q E:=by with_unfolding_all exact zy_all _ benc_ct.R benc_ct.T (v,e,wd,k1,k2,k3,p,news,m,s,L,dp,un,w,loose,mean,mg,mb,gd,cn,cs,a,ccd,cl,outer,A₀,base,h₀,Q,E)
end Mine.W7
end XW7
open Mine.W7
section XW8
open PySem PySem.W PyProof.Rows PySem.Calls
namespace Mine.W8
open Mine.Hd
theorem wt19:True:=by
 k_with "W8 cell_enter" => k_extra "A12"
 k_with "W8 getAttr ref" => k_extra "A16"
 k_with "W8 callWith ref" => k_extra "A17"
 k_with "W8 And" => k_extra "A18"
 k_with "W8 call ref" => k_extra "A19"
 k_with "W8 call type:int" => k_extra "A122"
 k_with "W8 eval Constant int" => k_extra "A30"
 k_with "W8 eval Constant str" => k_extra "A31"
 k_with "W8 binaryOp Add int int" => k_extra "A32"
 k_with "W8 binaryOp Sub int int" => k_extra "A33"
 k_with "W8 unaryOp USub int" => k_extra "A34"
 exact True.intro
noncomputable def unqu_ct.P (p)(x y:Nat) (k1:Tok) (news)(s:Shared) (m L)(dp un:Nat)(w:World) (loose mean mg mb gd cn)(cs:Scope) (a ccd cl outer A₀ base h₀)(Q E:Value->Shared->Prop):=∀ (B:Below A₀ base outer h₀)(F:Fr h₀ L s.heap m)(X:(heapK w.params).In h₀)(N:News h₀ L s.heap news)(T:Top p loose mean mg mb h₀)(hk:cs.kind = .function)(hd:dp + 20 < recursionLimit)(hu:un + 200 < cLine)(hxy:HexPair x y)(hlt:16 * hexv x + hexv y < 256)(hret:∀ t h' tk',Fr h₀ L h' m->News h₀ L h' news->Q (.str ⟨#[16 * hexv x + hexv y]⟩ t) { s with heap:=h',toks:=tk' }),wpAny (model rw_re0182_01.row.prog w) (ktrTop dp un gd cn cs L a ccd cl outer) (call (.ref 61) [.str ⟨#[61,x,y]⟩ k1]) Q E s
namespace unqu_ct
noncomputable def R:=(s4 <| s4 <| s4 <| s4 <| s4 <| s4 <| st <| st <| id) P
@[irreducible] noncomputable def z:=zy R (by k_extra "N")
@[irreducible] noncomputable def p:=f1 z
@[irreducible] noncomputable def zr:=f2 z
theorem T:(s4 <| s4 <| s4 <| s4 <| s4 <| s4 <| st <| id) (P p) zr:=by
 intro B F X N T hk hd hu hxy hlt hret
 revert X;k_fill;intro X
 w_on
 refine wpAny_call ?_
 k_dflt cell_enter
 k_steps
 all_goals k_dflt (refine cb_retS hret ?_ (by assumption) (by (rename News _ _ _ _=>nz);exact fun p hp=>nz p (by repeat (first | assumption | refine List.Mem.tail _ ?_))))
 all_goals rfl
end unqu_ct
theorem unqu_ct {p} (x y k1 news s m L dp un) {w loose mean mg mb} (gd cn cs a ccd cl outer A₀ base h₀ Q E):unqu_ct.P p x y k1 news s m L dp un w loose mean mg mb gd cn cs a ccd cl outer A₀ base h₀ Q E:=by with_unfolding_all exact zy_all _ unqu_ct.R unqu_ct.T (p,x,y,k1,news,s,m,L,dp,un,w,loose,mean,mg,mb,gd,cn,cs,a,ccd,cl,outer,A₀,base,h₀,Q,E)
end Mine.W8
end XW8
open Mine.W8
section XS11
open PySem PySem.W PyProof.Rows PySem.Calls
namespace Mine
open Mine.Hd
theorem unqu_use {w:World}{p:Program}{loose:List Str}{mean:ExcName->Option Value}{mg mb:Str->Option Value}{dp un:Nat}{gd:Option (List Code)}{cn:Str}{cs:Scope}{a:Addr}{ccd:Value}{cl:List (Str×Addr)}{outer:List Env}{A₀:Around}{base h₀:Heap}{L:Addr}{m:Str->Option Value}{news:List (Addr×Obj)}{s:Shared}{Q E:Value->Shared->Prop}{ln:Str}{i:Int} {k1:Tok}
  (B:Below A₀ base outer h₀)(F:Fr h₀ L s.heap m)(X:(heapK w.params).In h₀)(N:News h₀ L s.heap news)(T:Top p loose mean mg mb h₀)(hk:cs.kind = .function)(hd:dp + 20 < recursionLimit)(hu:un + 200 < cLine)
  (h0:0<=i) (h1:i + 2 < (ln.length:Int))(he:(Txt.item ln i != Str.ofString "=")=false)
  (ha:(Builtin.Str.occurrences (Str.ofString "0123456789abcdefABCDEF") (Txt.item ln (i + 1)) 0 (Str.ofString "0123456789abcdefABCDEF").length 1).isEmpty=false)
  (hb:(Builtin.Str.occurrences (Str.ofString "0123456789abcdefABCDEF") (Txt.item ln (i + 2)) 0 (Str.ofString "0123456789abcdefABCDEF").length 1).isEmpty=false)
  (hret:∀ r t h' tk',r=unqS (Txt.slice ln (some i) (some (i + 3)))->r.length=1->Fr h₀ L h' m->News h₀ L h' news->Q (.str r t) { s with heap:=h',toks:=tk' }) :
  wpAny (model rw_re0182_01.row.prog w) (ktrTop dp un gd cn cs L a ccd cl outer) (call (.ref 61) [.str (Txt.slice ln (some i) (some (i + 3))) k1]) Q E s:=by
 obtain ⟨x,y,e,hxy⟩:=hex_slice h0 h1 he ha hb
 have hlt:16 * hexv x + hexv y < 256:=by have:=hexv_lt x hxy.a;have:=hexv_lt y hxy.b;omega
 rw [e] at hret ⊢
 exact unqu_ct x y k1 news s m L dp un gd cn cs a ccd cl outer A₀ base h₀ Q E B F X N T hk hd hu hxy hlt fun t h' tk' F' N'=>hret _ t h' tk' rfl rfl F' N'
end Mine
end XS11
section XW9
set_option tactic.hygienic true
open PySem PySem.W PyProof.Rows PySem.Calls
namespace Mine.W9
open Mine.Hd
theorem wt20:True:=by
 k_with "W9 omega" => k_extra "A65"
 k_with "W9 cell_enter" => k_extra "A5"
 k_with "W9 k_steps" => k_extra "A13"
 k_with "W9 eval Name" => k_extra "A9"
 k_with "W9 callWith ref" => k_extra "A15"
 k_with "W9 storeName" => k_extra "A97"
 k_with "W9 getAttr ref" => k_extra "A98"
 k_with "W9 callWith ref" => k_extra "A17"
 k_with "W9 And" => k_extra "A18"
 k_with "W9 call ref" => k_extra "A99"
 k_with "W9 call builtin:str.splitlines" => k_extra "A117"
 k_with "W9 exec While" => k_extra "A120"
 k_with "W9 call ref" => k_extra "A123"
 k_with "W9 eval Constant int" => k_extra "A30"
 k_with "W9 eval Constant str" => k_extra "A31"
 k_with "W9 binaryOp Add int int" => k_extra "A32"
 k_with "W9 binaryOp Sub int int" => k_extra "A33"
 k_with "W9 unaryOp USub int" => k_extra "A34"
 exact True.intro
noncomputable def deco_ct.P (v:Str) (k1:Tok) (p news m)(s:Shared) (L)(dp un:Nat)(w:World) (loose mean mg mb gd cn)(cs:Scope) (a ccd cl outer A₀ base h₀)(Q E:Value->Shared->Prop):=∀ (B:Below A₀ base outer h₀)(F:Fr h₀ L s.heap m)(X:(heapK w.params).In h₀)(N:News h₀ L s.heap news)(T:Top p loose mean mg mb h₀)(hk:cs.kind = .function)(hd:dp + 50 < recursionLimit)(hu:un + 500 < cLine)(hv:v.length<=100000) (hv1:1<=v.length)(hret:∀ t h' tk',Fr h₀ L h' m->News h₀ L h' news->Q (.str (decS v) t) { s with heap:=h',toks:=tk' }),wpAny (model rw_re0182_01.row.prog w) (ktrTop dp un gd cn cs L a ccd cl outer) (call (.ref 89) [.str v k1]) Q E s
namespace deco_ct
noncomputable def R:=(s4 <| s4 <| s4 <| s4 <| s4 <| s4 <| st <| id) P
@[irreducible] noncomputable def z:=zy R (by k_extra "N")
@[irreducible] noncomputable def v:=f1 z
@[irreducible] noncomputable def k1:=f1 (f2 z)
@[irreducible] noncomputable def p:=f1 (f2 (f2 z))
@[irreducible] noncomputable def news:=f1 (f2 (f2 (f2 z)))
@[irreducible] noncomputable def m:=f1 (f2 (f2 (f2 (f2 z))))
@[irreducible] noncomputable def zr:=f2 (f2 (f2 (f2 (f2 z))))
theorem T:(s4 <| s4 <| s4 <| s4 <| s4 <| id) (P v k1 p news m) zr:=by
 intro B F X N T hk hd hu hv hv1 hret
 revert X;k_fill;intro X
 w_on
 refine wpAny_call ?_
 k_dflt (refine' enterZ [(Str.ofString "encoded",.str v k1),(Str.ofString "eol",.str (Str.ofString "\n") 291)] ?k1 ?k2 ?k3 ?k4 ?k5 ?kA ?kF ?kK ?k6 ?k7 ?k8 ?k9 ?kB ?_ ?c2 ?c3 ?c4 ?c5;cell_enter)
 k_steps
 ·rename_i l5 vs5 h5 k5 A5 lt5 F5 N5
  refine kg_listL (σ:=Str×Tok) isText (fun c=>(l5,listOf vs5.toArray 0)::news) (fun c=>[(Str.ofString "decoded",.str c.1 c.2)]) [Str.ofString "i",Str.ofString "n",Str.ofString "c"] (fun pre c=>c.1=pre.foldl dLine (Str.ofString "")) (Str.ofString "",_) rfl (fun _=>List.Mem.head _) A5 F5 N5 (List.forall_mem_cons.mpr ⟨by with_unfolding_all rfl,List.forall_mem_nil _⟩) rfl ?_ ?_
  ·intro c pre post ln vl u h tk own hxs hIn hoff hP0 F6 N6
   refine with_same ?_;intro S9
   obtain ⟨t6,rfl⟩:=hIn
   obtain ⟨d6,td6⟩:=c
   dsimp only at hP0 N6 F6
   simp only [List.cons_append] at N6
   have hmem:ln∈Txt.lines v:=by rw [hxs];exact List.mem_append_right _ (List.Mem.head _)
   have hll:ln.length<=100000:=Nat.le_trans (line_short hmem) hv
   have hrl:=rstrip_len ln
   have hdl:d6.length<=400000:=by
    have q1:=dLines_len pre (Str.ofString "")
    have e0:(Str.ofString "").length=0:=rfl
    rw [<- hP0,e0] at q1
    have q2:=StrLaws.lines_weight v
    rw [hxs] at q2
    have q3:=wsum_app pre (ln::post)
    unfold wsum at q1 q3
    simp only [List.length_append,List.length_cons] at q2
    omega
   k_steps
   ·unfold WhStop
    rename Fr _ _ _ _=>F7
    rename News _ _ _ _=>N7
    have hR0:((Txt.rstrip ln).length:Int)≠0:=by assumption
    refine wh_loop (σ:=Str×Tok×Int×Tok) (fun _=>(l5,listOf vs5.toArray 0)::(news++own)) (fun c=>[(Str.ofString "decoded",.str c.1 c.2.1),(Str.ofString "i",.int c.2.2.1 c.2.2.2)]) [Str.ofString "c"] (fun c=>0<=c.2.2.1/\c.2.2.1<=(((Txt.rstrip ln).length:Nat):Int)/\c.1.length<=d6.length + 2 * c.2.2.1.toNat/\∃ n,dRun (Txt.rstrip ln) n c.1 c.2.2.1=dRun (Txt.rstrip ln) (Txt.rstrip ln).length d6 0/\(Txt.rstrip ln).length - c.2.2.1.toNat<=n) (fun c=>(Txt.rstrip ln).length - c.2.2.1.toNat) (d6,_,0,_) (by passes_own) F7 N7 (List.forall_mem_cons.mpr ⟨by with_unfolding_all rfl,List.forall_mem_cons.mpr ⟨by with_unfolding_all rfl,List.forall_mem_nil _⟩⟩) ⟨Int.le_refl _,Int.natCast_nonneg _,Nat.le_refl _,(Txt.rstrip ln).length,rfl,Nat.sub_le _ _⟩ ?_
    intro c u8 h8 tk8 hP8 F8 N8
    refine with_same ?_;intro S9
    obtain ⟨d8,td8,i8,ti8⟩:=c
    dsimp only at hP8 F8 N8
    obtain ⟨h08,hl8,hd8,n8,hb8,hn8⟩:=hP8
    k_steps
    unfold WhB
    refine ⟨fun hb1=>?_,fun hb1=>?_⟩
    ·simp only [decide_eq_true_eq] at hb1
     obtain ⟨m8,rfl⟩:∃ m,n8=m + 1:=tn_pos h08 hb1 hn8
     rw [dRun,if_pos hb1] at hb8
     have hq:=dStep_props (d:=d8) h08 hb1
     k_steps
     all_goals (show WhNext _ _ _ _ _ _ _ _ _ _ _)
     all_goals (rename Fr _ _ _ _=>Fz;rename News _ _ _ _=>Nz;(try (rename _=unqS _=>he9;subst he9)))
     all_goals refine wh_endS (c:=(_,_,_,_)) (by first | assumption | exact Same.trans (by assumption) (by assumption)) Fz Nz (fun p hp=>hp) (List.forall_mem_cons.mpr ⟨by with_unfolding_all rfl,List.forall_mem_cons.mpr ⟨by with_unfolding_all rfl,List.forall_mem_nil _⟩⟩) (by intro z q2 q3;simp only [List.forall_mem_cons,List.not_mem_nil,false_implies,implies_true,and_true,ne_eq] at q2;simp only [List.contains_cons,List.contains_nil,Bool.or_false,Bool.or_eq_false_iff,beq_eq_false_iff_ne,ne_eq] at q3;simp [upd,updO,hid,kstB,q2,q3]) ⟨by dsimp only;omega,by dsimp only;omega,by dsimp only;(try simp only [len_app,unq_len,itm_len,nl_len]);omega,m8,?_,by dsimp only;exact tn_le h08 (by omega) (by omega) hn8⟩ (by dsimp only;exact tn_lt h08 (by omega) (by omega))
     all_goals (first | (exfalso;omega) | (rw [<- hb8];unfold dStep dFin;first
       | rw [if_pos (show (Txt.item (Txt.rstrip ln) i8 != Str.ofString "=")=true by assumption),if_pos (show i8 + 1=(((Txt.rstrip ln).length:Nat):Int) by omega)]
       | rw [if_pos (show (Txt.item (Txt.rstrip ln) i8 != Str.ofString "=")=true by assumption),if_neg (show ¬ i8 + 1=(((Txt.rstrip ln).length:Nat):Int) by omega)]
       | rw [if_neg (show ¬ (Txt.item (Txt.rstrip ln) i8 != Str.ofString "=")=true from ne_true_of_eq_false (by assumption)),if_pos (show i8 + 1=(((Txt.rstrip ln).length:Nat):Int) by omega)]
       | rw [if_neg (show ¬ (Txt.item (Txt.rstrip ln) i8 != Str.ofString "=")=true from ne_true_of_eq_false (by assumption)),if_neg (show ¬ i8 + 1=(((Txt.rstrip ln).length:Nat):Int) by omega),if_pos (show i8 + 2 < (((Txt.rstrip ln).length:Nat):Int)/\inHex (Txt.item (Txt.rstrip ln) (i8 + 1))=true/\inHex (Txt.item (Txt.rstrip ln) (i8 + 2))=true from ⟨by omega,by unfold inHex hexS;rw [(by assumption:(Builtin.Str.occurrences (Str.ofString "0123456789abcdefABCDEF") (Txt.item (Txt.rstrip ln) (i8 + 1)) 0 (Str.ofString "0123456789abcdefABCDEF").length 1).isEmpty=false)];rfl,by unfold inHex hexS;rw [(by assumption:(Builtin.Str.occurrences (Str.ofString "0123456789abcdefABCDEF") (Txt.item (Txt.rstrip ln) (i8 + 2)) 0 (Str.ofString "0123456789abcdefABCDEF").length 1).isEmpty=false)];rfl⟩),if_pos (show i8 + 3=(((Txt.rstrip ln).length:Nat):Int) by omega)]
       | rw [if_neg (show ¬ (Txt.item (Txt.rstrip ln) i8 != Str.ofString "=")=true from ne_true_of_eq_false (by assumption)),if_neg (show ¬ i8 + 1=(((Txt.rstrip ln).length:Nat):Int) by omega),if_pos (show i8 + 2 < (((Txt.rstrip ln).length:Nat):Int)/\inHex (Txt.item (Txt.rstrip ln) (i8 + 1))=true/\inHex (Txt.item (Txt.rstrip ln) (i8 + 2))=true from ⟨by omega,by unfold inHex hexS;rw [(by assumption:(Builtin.Str.occurrences (Str.ofString "0123456789abcdefABCDEF") (Txt.item (Txt.rstrip ln) (i8 + 1)) 0 (Str.ofString "0123456789abcdefABCDEF").length 1).isEmpty=false)];rfl,by unfold inHex hexS;rw [(by assumption:(Builtin.Str.occurrences (Str.ofString "0123456789abcdefABCDEF") (Txt.item (Txt.rstrip ln) (i8 + 2)) 0 (Str.ofString "0123456789abcdefABCDEF").length 1).isEmpty=false)];rfl⟩),if_neg (show ¬ i8 + 3=(((Txt.rstrip ln).length:Nat):Int) by omega)]
       | rw [if_neg (show ¬ (Txt.item (Txt.rstrip ln) i8 != Str.ofString "=")=true from ne_true_of_eq_false (by assumption)),if_neg (show ¬ i8 + 1=(((Txt.rstrip ln).length:Nat):Int) by omega),if_neg (show ¬ (i8 + 2 < (((Txt.rstrip ln).length:Nat):Int)/\inHex (Txt.item (Txt.rstrip ln) (i8 + 1))=true/\inHex (Txt.item (Txt.rstrip ln) (i8 + 2))=true) from by rintro ⟨q1,q2,q3⟩;omega),if_neg (show ¬ i8 + 1=(((Txt.rstrip ln).length:Nat):Int) by omega)]
       | rw [if_neg (show ¬ (Txt.item (Txt.rstrip ln) i8 != Str.ofString "=")=true from ne_true_of_eq_false (by assumption)),if_neg (show ¬ i8 + 1=(((Txt.rstrip ln).length:Nat):Int) by omega),if_neg (show ¬ (i8 + 2 < (((Txt.rstrip ln).length:Nat):Int)/\inHex (Txt.item (Txt.rstrip ln) (i8 + 1))=true/\inHex (Txt.item (Txt.rstrip ln) (i8 + 2))=true) from by rintro ⟨q1,q2,q3⟩;unfold inHex hexS at q2;rw [(by assumption:(Builtin.Str.occurrences (Str.ofString "0123456789abcdefABCDEF") (Txt.item (Txt.rstrip ln) (i8 + 1)) 0 (Str.ofString "0123456789abcdefABCDEF").length 1).isEmpty=true)] at q2;exact absurd q2 (by decide)),if_neg (show ¬ i8 + 1=(((Txt.rstrip ln).length:Nat):Int) by omega)]
       | rw [if_neg (show ¬ (Txt.item (Txt.rstrip ln) i8 != Str.ofString "=")=true from ne_true_of_eq_false (by assumption)),if_neg (show ¬ i8 + 1=(((Txt.rstrip ln).length:Nat):Int) by omega),if_neg (show ¬ (i8 + 2 < (((Txt.rstrip ln).length:Nat):Int)/\inHex (Txt.item (Txt.rstrip ln) (i8 + 1))=true/\inHex (Txt.item (Txt.rstrip ln) (i8 + 2))=true) from by rintro ⟨q1,q2,q3⟩;unfold inHex hexS at q3;rw [(by assumption:(Builtin.Str.occurrences (Str.ofString "0123456789abcdefABCDEF") (Txt.item (Txt.rstrip ln) (i8 + 2)) 0 (Str.ofString "0123456789abcdefABCDEF").length 1).isEmpty=true)] at q3;exact absurd q3 (by decide)),if_neg (show ¬ i8 + 1=(((Txt.rstrip ln).length:Nat):Int) by omega)]))
    ·simp only [decide_eq_false_iff_not] at hb1
     have hbe:=dRun_end (ln:=(Txt.rstrip ln)) (n:=n8) (d:=d8) hb1
     rw [hb8] at hbe
     k_steps
     rename Fr _ _ _ _=>Fz
     rename News _ _ _ _=>Nz
     refine gst_endS (c:=(d8,_)) (by first | assumption | exact Same.trans (by assumption) (by assumption)) Fz Nz (fun p hp=>List.mem_append_left own hp) (fun p hp=>List.mem_append_right (_::news) hp) rfl (List.forall_mem_cons.mpr ⟨by with_unfolding_all rfl,List.forall_mem_nil _⟩) (by intro z q1 q2 q3;simp only [List.forall_mem_cons,List.not_mem_nil,false_implies,implies_true,and_true,ne_eq] at q1 q2;simp only [List.contains_cons,List.contains_nil,Bool.or_false,Bool.or_eq_false_iff,beq_eq_false_iff_ne,ne_eq] at q3;simp [upd,updO,hid,kstB,q1,q2,q3]) ?_
     show d8=_
     rw [List.foldl_append,<- hP0]
     show _=dLine d6 ln
     unfold dLine
     rw [if_neg (by omega),hbe]
   ·rename Fr _ _ _ _=>Fz
    rename News _ _ _ _=>Nz
    refine gst_endS (c:=(d6++Str.ofString "\n",_)) (by first | assumption | exact Same.trans (by assumption) (by assumption)) Fz Nz (fun p hp=>List.mem_append_left own hp) (fun p hp=>List.mem_append_right (_::news) hp) rfl (List.forall_mem_cons.mpr ⟨by with_unfolding_all rfl,List.forall_mem_nil _⟩) (by intro z q1 q2 q3;simp only [List.forall_mem_cons,List.not_mem_nil,false_implies,implies_true,and_true,ne_eq] at q1 q2;simp only [List.contains_cons,List.contains_nil,Bool.or_false,Bool.or_eq_false_iff,beq_eq_false_iff_ne,ne_eq] at q3;simp [upd,updO,hid,kstB,q1,q2,q3]) ?_
    show d6++Str.ofString "\n" = _
    rw [List.foldl_append,<- hP0]
    show _=dLine d6 ln
    unfold dLine
    rw [if_pos (by omega)]
  ·intro c u h tk hP0 F6 N6
   obtain ⟨d6,td6⟩:=c
   dsimp only at hP0 N6 F6
   have hdl:d6.length<=400000:=by
    have q1:=dLines_len (Txt.lines v) (Str.ofString "")
    have e0:(Str.ofString "").length=0:=rfl
    rw [<- hP0,e0] at q1
    have q2:=StrLaws.lines_weight v
    unfold wsum at q1
    omega
   k_steps
   all_goals k_dflt (refine ret_same (by assumption) ?_;refine cb_retS hret ?_ (by assumption) (by (rename News _ _ _ _=>nz);exact fun p hp=>nz p (by repeat (first | assumption | refine List.Mem.tail _ ?_))))
   all_goals first
    | exact decS_1 hP0 (by assumption) (by assumption)
    | exact decS_2 hP0 (by assumption)
    | exact decS_3 hP0 (by assumption)
 all_goals (exfalso;omega)
end deco_ct
theorem deco_ct (v k1) {p} (news m s L dp un) {w loose mean mg mb} (gd cn cs a ccd cl outer A₀ base h₀ Q E):deco_ct.P v k1 p news m s L dp un w loose mean mg mb gd cn cs a ccd cl outer A₀ base h₀ Q E:=by with_unfolding_all exact zy_all _ deco_ct.R deco_ct.T (v,k1,p,news,m,s,L,dp,un,w,loose,mean,mg,mb,gd,cn,cs,a,ccd,cl,outer,A₀,base,h₀,Q,E)
end Mine.W9
end XW9
open Mine.W9
section XW10
open PySem PySem.W PyProof.Rows PySem.Calls
namespace Mine.W10
open Mine.Hd
theorem wt21:True:=by
 k_with "W10 cell_enter" => k_extra "A12"
 k_with "W10 getAttr ref" => k_extra "A16"
 k_with "W10 callWith ref" => k_extra "A17"
 k_with "W10 And" => k_extra "A18"
 k_with "W10 call ref" => k_extra "A19"
 exact True.intro
theorem call_made {prog:Program}{w:World}{A:Around}{E:Value->Shared->Prop}{s:Shared}{X N I N' I':String}(FC:ExcCallFacts X N' I')(hc:ExcClass X N I){rest:List Value}
  (h:∀ h' e,Heap.MadeExc s.heap h' e X rest->E (.ref e) { s with heap:=h' })(hrest:rest.length<=sizeLine):wpAny (model prog w) A (call (.type X) rest) (Raisable E) E s:=by
 obtain ⟨hp,g,d,tk,os⟩:=s
 exact wpAny_call_exc FC (fun h' e hm=>raisable_of_new hc hm.newExc (h h' e hm)) hrest
theorem wt22:True:=by
 k_with "W10 call type:ValueError" => k_extra "A124"
 k_with "W10 eval Constant int" => k_extra "A30"
 k_with "W10 eval Constant str" => k_extra "A31"
 k_with "W10 binaryOp Add int int" => k_extra "A32"
 k_with "W10 binaryOp Sub int int" => k_extra "A33"
 k_with "W10 unaryOp USub int" => k_extra "A34"
 k_with "W10 ite" => k_extra "A113"
 exact True.intro
theorem code_defX0 {prog:Program}{w:World}{A₀ A:Around}{s:Shared}{base h₀:Heap}{L a:Addr}{m:Str->Option Value}{cn:Str}{cs:Scope}{ccd:Value}{cl:List (Str×Addr)}{news:List (Addr×Obj)}{K:Frag}{p:Program}{loose:List Str}{mean:ExcName->Option Value}{mg mb:Str->Option Value}
  {R:Result->Shared->Prop}{name qual:Str}{params:Arguments}{body:List Stmt}{scope:Scope}{dV kV doc pm cdv ct oc:Value}{an od:Option Addr}{osl:Array (Option Value)}{f:Addr}{args:Args}{binds:List (Str×Value)}
  (B:Below A₀ base [] h₀)(F:Fr h₀ L s.heap m)(X₀:K.In h₀)(N:News h₀ L s.heap news)(T:Top p loose mean mg mb h₀)(hA:A.frames=some [envX cn cs L a ccd cl])
  (ho:K.lookup f=some ⟨oc,od,.func (fnOf name qual params body scope dV kV doc pm an cdv ct),osl⟩)(hcd:codeIn K cdv qual=true)(hroom:A.depth < recursionLimit)
  (hbind:BindsTo s (fnOf name qual params body scope dV kV doc pm an cdv ct) args binds)(hloc:∀ y∈binds,scope.names.lookup y.1=some .local)
  (h:∀ g L' h₁,Fr h₀ L g m->Fr g L' h₁ (fun y=>binds.reverse.lookup y)->News g L' h₁ news->Below A base [envX cn cs L a ccd cl] g->K.In g->Top p loose mean mg mb g->KtsDicts ([envX cn cs L a ccd cl].filterMap (·.frame)) g ->
   wpAny (model prog w) (A.deeper (envOf qual scope L' f cdv)) (execs body (envOf qual scope L' f cdv))
    (fun fl s'=>LeaveS0 ([envX cn cs L a ccd cl].filterMap (·.frame)) h₀ L m g R (match fl with | .ret v=>v | _=>.none) s')
    (fun e s'=>wpAny (model prog w) (A.deeper (envOf qual scope L' f cdv)) (leaving (envOf qual scope L' f cdv) e) (fun _ s''=>R (.error e) s'') (fun e' s''=>R (.error e') s'') s')
    { s with heap:=h₁,toks:=s.toks + binds.length })
  (hck:cs.kind = .function)(hco:scope.isCoroutine=false)(hgen:scope.isGenerator=false)(hk:scope.kind = .function)
  (hcell:∀ x∈scope.names,x.2≠.cell):codeAny (model prog w) A (.call (.ref f) args) R s:=by
 have hfs:[envX cn cs L a ccd cl].filterMap (·.frame)=[L]:=rfl
 have X:=X₀.keeps F.keep
 obtain ⟨FG,B₂,st,_⟩:=groundX (R:=R) B F N hA rfl hck
 obtain ⟨oL,es,ep,hLg,hLd,hLk,hLf⟩:=id FG.ns
 refine codeAny_call_def (fd:=fnOf name qual params body scope dV kV doc pm an cdv ct) (body:=body) (binds:=binds) hroom (X _ _ ho) rfl (T.nolimit.keeps F.keep) (codeRec_of X hcd) rfl hbind hcell hloc (fun h₁ hns hk₁=>?_) hco hgen hk
 have FL:Fr (hideAll s.heap (news.map (·.1))) s.heap.objs.size h₁ (fun y=>binds.reverse.lookup y):=⟨hns,fun b o e=>hk₁ b o (of_hideAll _ e),Nat.le_of_eq (hideAll_size _ _)⟩
 have NL:News (hideAll s.heap (news.map (·.1))) s.heap.objs.size h₁ news:=fun p hp=>⟨hk₁ _ _ (N p hp).1,Nat.ne_of_lt (Heap.lt_size (N p hp).1),hideAll_none _ (List.mem_map_of_mem hp)⟩
 have DL:KtsDicts ([envX cn cs L a ccd cl].filterMap (·.frame)) (hideAll s.heap (news.map (·.1))):=by
  rw [hfs]
  intro b hb
  rw [List.mem_singleton.mp hb]
  exact ⟨oL,es,ep,hLg,hLd⟩
 refine wpAny_mono (h _ _ h₁ FG FL NL B₂ (X₀.keeps st) (T.keeps st) DL) (fun fl s' hl=>?_) fun _ _ y=>y
 obtain ⟨g',L',m',news',T',F',N',k⟩:=hl
 rw [hfs] at T'
 have nL₀:h₀.get? L=none:=kts_self F
 obtain ⟨sl,hs⟩:=T'.up hLg
 have FR:Fr h₀ L s'.heap m:=by
  refine ⟨⟨_,es,ep,F'.keep _ _ hs,hLd,hLk,hLf⟩,fun b o e=>F'.keep b o (T'.other b o (st b o e) fun q=>?_),F.above⟩
  rw [List.mem_singleton.mp q,nL₀] at e
  cases e
 refine k FR fun p hp=>⟨(N' p hp).1,fun q=>?_,?_⟩
 ·have z:=(N' p hp).2.2
  rw [q,hs] at z
  cases z
 ·cases q:h₀.get? p.1 with
  | none=>rfl
  | some o=>
   obtain ⟨sl',hs'⟩:=T'.up (st _ _ q)
   have z:=(N' p hp).2.2
   rw [hs'] at z
   cases z
noncomputable def refu_ct.P (k1 k2:Tok)(v:Str)(wd:Int) (p news)(s:Shared) (m L)(dp un:Nat)(w:World) (loose mean mg mb gd cn)(cs:Scope) (a ccd cl A₀ h₀)(Q E:Value->Shared->Prop):=∀ (B:Below A₀ h₀ [] h₀)(F:Fr h₀ L s.heap m)(X:(heapK w.params).In h₀)(N:News h₀ L s.heap news)(T:Top p loose mean mg mb h₀)(hk:cs.kind = .function)(hd:dp + 50 < recursionLimit)(hu:un + 500 < cLine)(hw:wd < 4) (hw2:0<=wd)(hv:v.length<=10000)(hret:∀ h' tk',Fr h₀ L h' m->News h₀ L h' news->Q (.bool true) { s with heap:=h',toks:=tk' }),wpAny (model rw_re0182_01.row.prog w) (ktrTop dp un gd cn cs L a ccd cl []) (call (.ref 257) [.str v k1,.int wd k2]) Q E s
namespace refu_ct
noncomputable def R:=(s4 <| s4 <| s4 <| s4 <| s4 <| s4 <| st <| id) P
@[irreducible] noncomputable def z:=zy R (by k_extra "N")
@[irreducible] noncomputable def k1:=f1 z
@[irreducible] noncomputable def k2:=f1 (f2 z)
@[irreducible] noncomputable def zr:=f2 (f2 z)
theorem T:(s4 <| s4 <| s4 <| s4 <| s4 <| st <| st <| st <| id) (P k1 k2) zr:=by
 intro B F X N T hk hd hu hw hw2 hv hret
 revert X;k_fill;intro X
 w_on
 refine wpAny_call ?_
 k_dflt (refine' code_defX0 ?k1 ?k2 ?k3 ?k4 ?k5 ?kA ?k6 ?k7 ?k8 ?k9 ?kB ?_ ?cK ?c2 ?c3 ?c4 ?c5)
 (case kA=>k_dflt (exact rfl))
 (case k2=>k_asm)
 (case k1=>k_asm)
 (case k3=>k_asm)
 (case k4=>k_asm)
 (case k5=>k_asm)
 (case k6=>k_is)
 (case k7=>k_is)
 (case k8=>ktr_room)
 (case k9=>first | exact binds_K (by k_in) rfl (by k_is) rfl rfl rfl | exact BindsTo.of_eq rfl)
 (case kB=>exact locs rfl)
 (case cK=>assumption)
 (case c2=>exact rfl)
 (case c3=>exact rfl)
 (case c4=>exact rfl)
 (case c5=>decide)
 k_whole;intro g' L' h' FG' F' N' B' X' T' D';(try dsimp only);(try k_lift B');(try k_fold)
 k_steps
 rw [show (Str.ofString "maxlinelen must be at least 4" == Str.ofString "maxlinelen must be at least 4")=true from by rfl]
 exact hret _ _ (by assumption) (by assumption)
end refu_ct
theorem refu_ct (k1 k2 v wd) {p} (news s m L dp un) {w loose mean mg mb} (gd cn cs a ccd cl A₀ h₀ Q E):refu_ct.P k1 k2 v wd p news s m L dp un w loose mean mg mb gd cn cs a ccd cl A₀ h₀ Q E:=by with_unfolding_all exact zy_all _ refu_ct.R refu_ct.T (k1,k2,v,wd,p,news,s,m,L,dp,un,w,loose,mean,mg,mb,gd,cn,cs,a,ccd,cl,A₀,h₀,Q,E)
end Mine.W10
end XW10
open Mine.W10
section XV3
open PySem PySem.W PyProof.Rows PySem.Calls
namespace Mine
open Mine.Hd
theorem eol_ok (c:Bool):okSep (if c=true then Str.ofString "\r\n" else Str.ofString "\n").cps.toList/\(if c=true then Str.ofString "\r\n" else Str.ofString "\n").length<=2:=by
 cases c
 ·exact ⟨.inl rfl,by decide⟩
 ·exact ⟨.inr rfl,by decide⟩
theorem low_app {a b:PySem.Str}(ha:low a)(hb:low b):low (a++b):=by
 intro c hc
 rw [PySem.Str.cps_append,Array.toList_append,List.mem_append] at hc
 exact hc.elim (ha c) (hb c)
noncomputable def Doc (d:PySem.Str):Prop:=good d/\ends d/\1<=d.length/\d.length<=9000
theorem doc_of {pl:Int}{v ml tx:PySem.Str} (h1:low v) (h2:low ml) (h3:low tx) (l1:v.length<=1) (l2:ml.length<=500) (l3:tx.length<=2):Doc (docS pl v ml tx):=by
 have h:=docS_len (pl:=pl) (v:=v) (ml:=ml) (tx:=tx)
 exact ⟨good_docS h1 h2 h3,ends_docS,by lia,by lia⟩
section
variable {w:World}{p:Program}{loose:List PySem.Str}{mean:ExcName->Option Value}{mg mb:PySem.Str->Option Value}
  (dp un:Nat)(gd:Option (List Code))(cn:PySem.Str)(cs:Scope)(a:Addr)(ccd:Value)(cl:List (PySem.Str×Addr))(outer:List Env)(A₀:Around)(base h₀:Heap)(L:Addr)(m:PySem.Str->Option Value)(news:List (Addr×Obj))(s:Shared)(Q E:Value->Shared->Prop)
  (B:Below A₀ base outer h₀)(F:Fr h₀ L s.heap m)(X:(heapK w.params).In h₀)(N:News h₀ L s.heap news)(T:Top p loose mean mg mb h₀)(hk:cs.kind = .function)(hd:dp + 50 < recursionLimit)(hu:un + 500 < cLine)
  (d e:PySem.Str)(wd:Int) (k1 k2 k3:Tok)(hD:Doc d)(hw:4<=wd) (hw2:wd < 100)(he:okSep e.cps.toList/\e.length<=2)
include B F X N T hk hd hu hD hw hw2 he
theorem benc_u (hret:∀ t h' tk',Fr h₀ L h' m->News h₀ L h' news->Q (.str (mailS d wd e) t) { s with heap:=h',toks:=tk' }) :
  wpAny (model rw_re0182_01.row.prog w) (ktrTop dp un gd cn cs L a ccd cl outer) (call (.ref 81) [.str d k1,.int wd k2,.str e k3]) Q E s:=by
 refine benc_ct d e wd k1 k2 k3 news m s L dp un gd cn cs a ccd cl outer A₀ base h₀ Q E B F X N T hk hd hu hw hw2 (by have:=hD.2.2.2;lia) ?_ hD.1.low he.2 ?_
 ·have:=hD.2.2.1
  exact beq_eq_false_iff_ne.mpr (by lia)
 ·rw [enc_law hw d e hD.1 hD.2.1]
  exact hret
theorem mail_u (hret:∀ t h' tk',Fr h₀ L h' m->News h₀ L h' news->Q (.str (mailS d wd e) t) { s with heap:=h',toks:=tk' }) :
  wpAny (model rw_re0182_01.row.prog w) (ktrTop dp un gd cn cs L a ccd cl outer) (call (.ref 250) [.str d k1,.int wd k2,.str e k3]) Q E s:=
 mail_ct d e wd k1 k2 k3 news s m L dp un gd cn cs a ccd cl outer A₀ base h₀ Q E B F X N T hk hd hu hw hw2 (by have:=hD.2.2.2;lia) hD.1.low he.2 hret
theorem deco_u (hret:∀ t h' tk',Fr h₀ L h' m->News h₀ L h' news->Q (.str d t) { s with heap:=h',toks:=tk' }) :
  wpAny (model rw_re0182_01.row.prog w) (ktrTop dp un gd cn cs L a ccd cl outer) (call (.ref 89) [.str (mailS d wd e) k1]) Q E s:=by
 have h1:=mail_len d wd e hD.2.1 he.2
 have h2:=hD.2.2.2
 refine deco_ct (mailS d wd e) k1 news m s L dp un gd cn cs a ccd cl outer A₀ base h₀ Q E B F X N T hk hd hu (by lia) (mail_ne hw d e he.1 hD.1 hD.2.1) ?_
 rw [dec_law hw d e he.1 hD.1 hD.2.1]
 exact hret
end
theorem tx_len {a b:PySem.Str}(ha:a.length<=1)(hb:b.length<=1):(a++b).length<=2:=by
 rw [app_length];lia
theorem doc_len {d:PySem.Str}(h:Doc d):d.length<=10000:=by have:=h.2.2.2;lia
theorem fmod_100 (a:Int):Int.fmod a 44 < 100:=by have:=fmod_hi a (n:=44) (by decide);lia
theorem fmod_4 (a:Int):4<=Int.fmod a 44 + 4:=by have:=fmod_lo a (n:=44) (by decide);lia
theorem mail_bd {pl wd:Int}{v ml tx e:PySem.Str}(hw:4<=wd) (l1:v.length<=1) (l2:ml.length<=500) (l3:tx.length<=2) (h1:low v) (h2:low ml) (h3:low tx)(he:okSep e.cps.toList/\e.length<=2) :
  (mailS (docS pl v ml tx) wd e).length<=10 * (42 + 6 * ml.length) + 10/\low (mailS (docS pl v ml tx) wd e):=by
 have h:=docS_len (pl:=pl) (v:=v) (ml:=ml) (tx:=tx)
 have h4:=mail_len (docS pl v ml tx) wd e ends_docS he.2
 exact ⟨by lia,mail_low hw _ e he.1 (good_docS h1 h2 h3)⟩
theorem fmod_104 (a:Int):Int.fmod a 44 + 4 < 100:=by have:=fmod_hi a (n:=44) (by decide);lia
end Mine
end XV3
section XV4
open PySem PySem.W PyProof.Rows PySem.Calls
namespace Mine.V4
open Mine.Hd
theorem wt23:True:=by
 k_with "V4 subscriptTail Name Slice ref ref" => k_extra "A125"
 k_with "V4 subscriptTail Name BinOp ref int" => k_extra "A126"
 k_with "V4 compareOp NotEq str str" => k_extra "A127"
 k_with "V4 eval IfExp" => k_extra "A102"
 k_with "V4 KoB2" => k_extra "A128"
 k_with "V4 call ref" => k_extra "A129"
 k_with "V4 call ref" => k_extra "A130"
 k_with "V4 call ref" => k_extra "A131"
 k_with "V4 call ref" => k_extra "A132"
 k_with "V4 call ref" => k_extra "A133"
 k_with "V4 call ref" => k_extra "A134"
 k_with "V4 eval Constant int" => k_extra "A30"
 k_with "V4 eval Constant str" => k_extra "A31"
 k_with "V4 binaryOp Add int int" => k_extra "A32"
 k_with "V4 binaryOp Sub int int" => k_extra "A33"
 k_with "V4 unaryOp USub int" => k_extra "A34"
 exact True.intro
noncomputable def turn_ct.P (fa:Addr)(cd:Value)(u:PySem.Str->Option Value)(ml:PySem.Str)(sg nb:Addr)(sgs nbs:Array Value) (n1 n2:Nat)(tl tm:Tok)(oT:Obj) (p news L)(w:World) (loose mean mg mb h₀)(Q:Flow->Shared->Prop)(E:Value->Shared->Prop):=∀ {params:Arguments}{b:List Stmt}{sc:Scope}(hdef:RW.prog.theDef RW.name=some (params,b,sc)) {s0 s1 s2 s3:Stmt}{x:PySem.Str}{px fp:Pos}{it:Expr}{body rest:List Stmt}(hb:b=s0::s1::s2::s3::.For (.Name x px) it body [] fp::rest)(s:Shared)(lv:Int)(hlv:lv=0\/lv=1)(hml:ml.length<=500)(hlow:low ml)(hS:SignsAre sgs)(hN:NumsAre nbs)(B:Below callerA h₀ [] h₀)(X:(heapK w.params).In h₀)(T:Top p loose mean mg mb h₀)(CD:CodeHd h₀ 176 174)(hP:∀ q∈(sg,listOf sgs n1)::(nb,listOf nbs n2)::news,q.1≠174)(lt:LamTab oT ((sg,listOf sgs n1)::(nb,listOf nbs n2)::news) ⟨227,71,227,96⟩ (Str.ofString "C14NWriterTarget._start.<locals>.<lambda>") fun c=>c∈addrs ((sg,listOf sgs n1)::(nb,listOf nbs n2)::news)) (G0:AllBare s.gens)(F:Fr h₀ L s.heap (fun y=>if y=Str.ofString "level" then some (.int lv tl) else if y=Str.ofString "mail" then some (.str ml tm) else if y=Str.ofString "signs" then some (.ref sg) else if y=Str.ofString "numbers" then some (.ref nb) else u y))(N:News h₀ L s.heap ((174,oT)::(sg,listOf sgs n1)::(nb,listOf nbs n2)::news))(hret:∀ (ml':PySem.Str)(t:Tok) (c9:Addr) (oc9:Obj) (vs9:Array Value) (t9:Tok) (s9:Shared)(m':PySem.Str->Option Value),ml'.length<=10 * (42 + 6 * ml.length) + 10->low ml'->s9.os=s.os->AllBare s9.gens->Fr h₀ L s9.heap m' ->
   m' (Str.ofString "mail")=some (.str ml' t)->m' (Str.ofString "signs")=some (.ref sg)->m' (Str.ofString "numbers")=some (.ref nb) ->
   News h₀ L s9.heap ((174,tabObj #[rawInt 227,rawInt 71,.ref c9])::(c9,oc9)::(sg,listOf sgs n1)::(nb,listOf nbs n2)::news)->oc9.data = .fields vs9->vs9[1]? = some (.str (Str.ofString "C14NWriterTarget._start.<locals>.<lambda>") t9)->Q .next s9),wpAny (model RW.prog w) (callerA.deeper (envOfC (Str.ofString "law") sc L fa cd)) (execs body (envOfC (Str.ofString "law") sc L fa cd)) Q E s
namespace turn_ct
noncomputable def R:=(s4 <| s4 <| s4 <| s4 <| s4 <| st <| st <| st <| id) P
@[irreducible] noncomputable def z:=zy R (by k_extra "N")
theorem T:(s4 <| s4 <| s4 <| s4 <| s4 <| st <| st <| st <| id) (P) z:=by
 intro params b sc hdef s0 s1 s2 s3 x px fp it body rest hb s lv hlv hml hlow hS hN B X T CD hP lt G0 F N hret
 have e:RW.prog.theDef RW.name=some (_,_,_):=rfl
 rw [e] at hdef
 cases hdef
 cases hb
 clear e
 revert X;k_fill;intro X
 w_on
 have lv0:0<=lv/\lv<=1:=by omega
 obtain ⟨hp,gens,dr,tk,os⟩:=s
 dsimp only at F N G0
 k_steps
 all_goals (try (first | exact PySem.Str.empty | exact (0:Addr) | exact Value.none))
 all_goals ((rename News _ _ _ _=>kN9);(rename Fr _ _ _ _=>kF9);k_dflt (refine' hret _ _ _ _ _ _ _ _ ?ql ?qw ?os ?gb ?qF ?q1 ?q2 ?q3 ?qN ?dd ?vv;(case qF=>exact kF9);(case qN=>exact kN9);(case q1 | q2 | q3=>exact rfl);(case os | gb=>assumption);(case dd | vv=>assumption);(case ql=>exact (mail_bd (by first | omega | exact fmod_4 _) (by assumption) (by assumption) (tx_len (by assumption) (by assumption)) (by assumption) (by assumption) (low_app (by assumption) (by assumption)) (eol_ok _)).1);(case qw=>exact (mail_bd (by first | omega | exact fmod_4 _) (by assumption) (by assumption) (tx_len (by assumption) (by assumption)) (by assumption) (by assumption) (low_app (by assumption) (by assumption)) (eol_ok _)).2)))
end turn_ct
theorem turn_ct (fa cd u ml sg nb sgs nbs n1 n2 tl tm oT) {p} (news L) {w loose mean mg mb} (h₀ Q E):turn_ct.P fa cd u ml sg nb sgs nbs n1 n2 tl tm oT p news L w loose mean mg mb h₀ Q E:=by with_unfolding_all exact zy_all _ turn_ct.R turn_ct.T (fa,cd,u,ml,sg,nb,sgs,nbs,n1,n2,tl,tm,oT,p,news,L,w,loose,mean,mg,mb,h₀,Q,E)
end Mine.V4
end XV4
open Mine.V4
section XV5
open PySem PySem.W PyProof.Rows PySem.Calls
namespace Mine
open Mine.Hd
theorem frame_as {m:PySem.Str->Option Value} {v0 v1 v2 v3:Value} (h0:m (Str.ofString "level")=some v0) (h1:m (Str.ofString "mail")=some v1) (h2:m (Str.ofString "signs")=some v2) (h3:m (Str.ofString "numbers")=some v3) :
  m=fun y=>if y=Str.ofString "level" then some v0 else if y=Str.ofString "mail" then some v1 else if y=Str.ofString "signs" then some v2 else if y=Str.ofString "numbers" then some v3 else m y:=by
 funext y
 by_cases e0:y=Str.ofString "level"
 ·rw [if_pos e0,e0,h0]
 ·rw [if_neg e0]
  by_cases e1:y=Str.ofString "mail"
  ·rw [if_pos e1,e1,h1]
  ·rw [if_neg e1]
   by_cases e2:y=Str.ofString "signs"
   ·rw [if_pos e2,e2,h2]
   ·rw [if_neg e2]
    by_cases e3:y=Str.ofString "numbers"
    ·rw [if_pos e3,e3,h3]
    ·rw [if_neg e3]
theorem news_ne9 {h₀ h:Heap}{L:Addr}{news:List (Addr×Obj)}{p q:Addr×Obj}(N:News h₀ L h news)(hp:p∈news)(hq:q∈news)(ne:p.2≠q.2):p.1≠q.1:=by
 intro e
 have h1:=(N p hp).1
 have h2:=(N q hq).1
 rw [e,h2] at h1
 exact ne (Option.some.inj h1).symm
theorem str_ne_int {t:Tok}{a:PySem.Str}{n:Int}:(some (Value.str a t))≠some (rawInt n):=fun e=>by cases e
noncomputable abbrev LAMQ:PySem.Str:=Str.ofString "C14NWriterTarget._start.<locals>.<lambda>"
theorem loop_ct {w:World}{p:Program}{loose:List PySem.Str}{mean:ExcName->Option Value}{mg mb:PySem.Str->Option Value}{params:Arguments}{b:List Stmt}{sc:Scope}(hdef:RW.prog.theDef RW.name=some (params,b,sc))
  {s0 s1 s2 s3:Stmt}{px fp:Pos}{it:Expr}{body rest:List Stmt}(hb:b=s0::s1::s2::s3::.For (.Name (Str.ofString "level") px) it body [] fp::rest)
  (h₀:Heap)(L fa:Addr)(cd:Value)(s:Shared)(m:PySem.Str->Option Value)(sg nb I:Addr)(sgs nbs:Array Value) (n1 n2:Nat)(hS:SignsAre sgs)(hN:NumsAre nbs)(tm:Tok)(R:Result->Shared->Prop)
  (B:Below callerA h₀ [] h₀)(X:(heapK w.params).In h₀)(T:Top p loose mean mg mb h₀)(CD:CodeHd h₀ 176 174) (G0:AllBare s.gens)
  (F:Fr h₀ L s.heap m)(N:News h₀ L s.heap [(I,itR 0 2),(174,tabObj #[]),(sg,listOf sgs n1),(nb,listOf nbs n2)])
  (hm:m (Str.ofString "mail")=some (.str (Str.ofString "") tm))(hs:m (Str.ofString "signs")=some (.ref sg))(hn:m (Str.ofString "numbers")=some (.ref nb))
  (hR:∀ (ps:Array Value) (s9:Shared)(m':PySem.Str->Option Value),s9.os=s.os->AllBare s9.gens->Fr h₀ L s9.heap m'->News h₀ L s9.heap [(174,tabObj ps)]->R (.ok .next) s9)
  (hk:sc.kind = .function)(kx:(envOfC (Str.ofString "law") sc L fa cd).kindOf (Str.ofString "level")=some .local) :
  LoopR RW.prog w (callerA.deeper (envOfC (Str.ofString "law") sc L fa cd)) (.Name (Str.ofString "level") px) I body (envOfC (Str.ofString "law") sc L fa cd) R s:=by
 have N0:∀ q∈[(174,tabObj #[]),(sg,listOf sgs n1),(nb,listOf nbs n2)],q.1≠I:=by
  intro q hq
  refine news_ne9 N (List.mem_cons_of_mem _ hq) (List.mem_cons_self ..) fun e=>?_
  have e2:=congrArg Obj.cls e
  rcases List.mem_cons.mp hq with rfl | hq
  ·cases e2
  ·rcases List.mem_cons.mp hq with rfl | hq
   ·exact absurd (Value.type.inj e2) (by decide)
   ·rw [List.mem_singleton.mp hq] at e2
    exact absurd (Value.type.inj e2) (by decide)
 have P0:∀ {a:Addr}{its:Array Value}{n:Nat},(a,listOf its n)∈[(I,itR 0 2),(174,tabObj #[]),(sg,listOf sgs n1),(nb,listOf nbs n2)]->a≠174:=fun h=>
  news_ne9 N h (.tail _ (.head _)) fun e=>by have e2:=congrArg Obj.cls e;cases e2
 have Psg:sg≠174:=P0 (.tail _ (.tail _ (.head _)))
 have Pnb:nb≠174:=P0 (.tail _ (.tail _ (.tail _ (.head _))))
 refine rg_item rfl F N N0 (by decide) hk kx fun h' t tk F1 N1=>?_
 have P1:∀ q∈(sg,listOf sgs n1)::(nb,listOf nbs n2)::[(I,itR (0 + 1) (2 - 1))],q.1≠174:=by
  intro q hq
  rcases List.mem_cons.mp hq with rfl | hq
  ·exact Psg
  ·rcases List.mem_cons.mp hq with rfl | hq
   ·exact Pnb
   ·rw [List.mem_singleton.mp hq]
    exact (N0 _ (.head _)).symm
 have N1':News h₀ L h' ((174,tabObj #[])::(sg,listOf sgs n1)::(nb,listOf nbs n2)::[(I,itR (0 + 1) (2 - 1))]):=by
  intro q hq
  refine N1 q ?_
  simp only [List.mem_cons,List.not_mem_nil,or_false] at hq ⊢
  rcases hq with h | h | h | h
  ·exact .inr (.inl h)
  ·exact .inr (.inr (.inl h))
  ·exact .inr (.inr (.inr h))
  ·exact .inl h
 have ne1:(Str.ofString "mail" : PySem.Str)≠Str.ofString "level" := by decide
 have ne2:(Str.ofString "signs" : PySem.Str)≠Str.ofString "level" := by decide
 have ne3:(Str.ofString "numbers" : PySem.Str)≠Str.ofString "level" := by decide
 refine turn_ct fa cd _ (Str.ofString "") sg nb sgs nbs n1 n2 t tm (tabObj #[]) [(I,itR (0 + 1) (2 - 1))] L h₀ _ _ hdef hb { s with heap:=h',toks:=tk } 0 (.inl rfl) (by decide) (fun c hc=>nomatch hc) hS hN B X T CD P1 (.inl rfl) G0 (Eq.mp (congrArg (Fr h₀ L h') (frame_as (if_pos rfl) ((if_neg ne1).trans hm) ((if_neg ne2).trans hs) ((if_neg ne3).trans hn))) F1) N1' ?_
 intro ml t2 c9 oc9 vs9 t9 s9 m9 hl hlow os9 gb9 F9 hm9 hs9 hn9 N9 dd vv
 have hl':ml.length<=500:=Nat.le_trans hl (by decide)
 refine ⟨rfl,?_⟩
 have N2:News h₀ L s9.heap ((I,itR (0 + 1) (2 - 1))::(174,tabObj #[rawInt 227,rawInt 71,.ref c9])::(c9,oc9)::(sg,listOf sgs n1)::(nb,listOf nbs n2)::[]):=by
  intro q hq
  refine N9 q ?_
  simp only [List.mem_cons,List.not_mem_nil,or_false] at hq ⊢
  rcases hq with h | h | h | h | h
  ·exact .inr (.inr (.inr (.inr h)))
  ·exact .inl h
  ·exact .inr (.inl h)
  ·exact .inr (.inr (.inl h))
  ·exact .inr (.inr (.inr (.inl h)))
 have C1:c9≠174:=news_ne9 N9 (p:=(c9,oc9)) (q:=(174,tabObj #[rawInt 227,rawInt 71,.ref c9])) (.tail _ (.head _)) (.head _) fun e=>by
  have e':oc9=tabObj #[rawInt 227,rawInt 71,.ref c9]:=e
  rw [e'] at dd
  have e2:=Data.fields.inj dd
  rw [<- e2] at vv
  cases vv
 have C2:c9≠I:=news_ne9 N2 (p:=(c9,oc9)) (q:=(I,itR (0 + 1) (2 - 1))) (.tail _ (.tail _ (.head _))) (.head _) fun e=>by
  have e':oc9=itR (0 + 1) (2 - 1):=e
  rw [e'] at dd
  have e2:=Data.fields.inj dd
  rw [<- e2] at vv
  cases vv
 have N02:∀ q∈[(174,tabObj #[rawInt 227,rawInt 71,.ref c9]),(c9,oc9),(sg,listOf sgs n1),(nb,listOf nbs n2)],q.1≠I:=by
  intro q hq
  simp only [List.mem_cons,List.not_mem_nil,or_false] at hq
  rcases hq with rfl | rfl | rfl | rfl
  ·exact N0 (174,tabObj #[]) (.head _)
  ·exact C2
  ·exact N0 (sg,listOf sgs n1) (.tail _ (.head _))
  ·exact N0 (nb,listOf nbs n2) (.tail _ (.tail _ (.head _)))
 refine rg_item rfl F9 N2 N02 (by decide) hk kx fun h2 t3 tk3 F3 N3=>?_
 have P2:∀ q∈(sg,listOf sgs n1)::(nb,listOf nbs n2)::[(c9,oc9),(I,itR (0 + 1 + 1) (2 - 1 - 1))],q.1≠174:=by
  intro q hq
  simp only [List.mem_cons,List.not_mem_nil,or_false] at hq
  rcases hq with rfl | rfl | rfl | rfl
  ·exact Psg
  ·exact Pnb
  ·exact C1
  ·exact (N0 _ (.head _)).symm
 have N3':News h₀ L h2 ((174,tabObj #[rawInt 227,rawInt 71,.ref c9])::(sg,listOf sgs n1)::(nb,listOf nbs n2)::[(c9,oc9),(I,itR (0 + 1 + 1) (2 - 1 - 1))]):=by
  intro q hq
  refine N3 q ?_
  simp only [List.mem_cons,List.not_mem_nil,or_false] at hq ⊢
  rcases hq with h | h | h | h | h
  ·exact .inr (.inl h)
  ·exact .inr (.inr (.inr (.inl h)))
  ·exact .inr (.inr (.inr (.inr h)))
  ·exact .inr (.inr (.inl h))
  ·exact .inl h
 refine turn_ct fa cd _ ml sg nb sgs nbs n1 n2 t3 t2 (tabObj #[rawInt 227,rawInt 71,.ref c9]) [(c9,oc9),(I,itR (0 + 1 + 1) (2 - 1 - 1))] L h₀ _ _ hdef hb { s9 with heap:=h2,toks:=tk3 } 1 (.inr rfl) hl' hlow hS hN B X T CD P2 (.inr ⟨c9,oc9,vs9,t9,rfl,.tail _ (.tail _ (.head _)),dd,vv,(List.Mem.tail _ (List.Mem.tail _ (List.Mem.head _)):c9∈[sg,nb,c9,I])⟩) gb9 (Eq.mp (congrArg (Fr h₀ L h2) (frame_as (if_pos rfl) ((if_neg ne1).trans hm9) ((if_neg ne2).trans hs9) ((if_neg ne3).trans hn9))) F3) N3' ?_
 intro ml4 t4 c8 oc8 vs8 t8 s8 m8 hl4 hlow4 os8 gb8 F8 hm8 hs8 hn8 N8 dd8 vv8
 refine ⟨rfl,?_⟩
 have N4:News h₀ L s8.heap [(I,itR (0 + 1 + 1) (2 - 1 - 1)),(174,tabObj #[rawInt 227,rawInt 71,.ref c8])]:=by
  intro q hq
  refine N8 q ?_
  simp only [List.mem_cons,List.not_mem_nil,or_false] at hq ⊢
  rcases hq with h | h
  ·exact .inr (.inr (.inr (.inr (.inr h))))
  ·exact .inl h
 refine rg_end rfl F8 N4 (fun q hq=>by rw [List.mem_singleton.mp hq];exact N0 (174,tabObj #[]) (.head _)) (by decide) fun h5 F5 N5=>?_
 exact hR _ _ _ (os8.trans os9) gb8 F5 N5
end Mine
end XV5
section XV6
open PySem PySem.W PyProof.Rows PySem.Calls
namespace Mine.V6
open Mine.Hd
theorem signs_at {v:PySem.Str}(h:(decide (v.length<=1) && v.cps.toList.all (fun c=>decide (c < 256)))=true):v.length<=1/\low v:=by
 obtain ⟨h1,h2⟩:=Bool.and_eq_true_iff.mp h
 exact ⟨of_decide_eq_true h1,fun c hc=>of_decide_eq_true (List.all_eq_true.mp h2 c hc)⟩
noncomputable def okV:Value->Bool
 | .str v _=>decide (v.length<=1) && v.cps.toList.all (fun c=>decide (c < 256))
 | _=>false
theorem signs_are {l:List Value}(hn:l.length=17)(h:l.all okV=true):SignsAre l.toArray:=fun i hi=>by
 have hi':i < l.length:=by rw [hn];exact hi
 have h1:=List.all_eq_true.mp h _ (List.getElem_mem hi')
 have h2:l.toArray[i]? = some l[i]:=by rw [List.getElem?_toArray];exact List.getElem?_eq_getElem hi'
 generalize l[i]=x at h1 h2
 cases x with
 | str v t=>obtain ⟨a,b⟩:=signs_at h1;exact ⟨v,t,h2,a,b⟩
 | _=>exact absurd h1 Bool.false_ne_true
theorem nums_are {a0 a1 a2 a3 a4 a5 a6 a7 a8 a9:Int} {t0 t1 t2 t3 t4 t5 t6 t7 t8 t9:Tok} (b1:Bd a0/\Bd a1/\Bd a2/\Bd a3/\Bd a4) (b2:Bd a5/\Bd a6/\Bd a7/\Bd a8/\Bd a9):NumsAre #[.int a0 t0,.int a1 t1,.int a2 t2,.int a3 t3,.int a4 t4,.int a5 t5,.int a6 t6,.int a7 t7,.int a8 t8,.int a9 t9]:=by
 refine ⟨Nat.le_of_ble_eq_true rfl,?_⟩
 rintro lv (rfl | rfl)
 ·exact ⟨a0,a1,a2,a3,a4,t0,t1,t2,t3,t4,rfl,b1.1,b1.2.1,b1.2.2.1,b1.2.2.2.1,b1.2.2.2.2⟩
 ·exact ⟨a5,a6,a7,a8,a9,t5,t6,t7,t8,t9,rfl,b2.1,b2.2.1,b2.2.2.1,b2.2.2.2.1,b2.2.2.2.2⟩
theorem news_law {h₀ h:Heap}{L:Addr} {p1 p2 p3 p4 p5 p6 p7:Addr×Obj}(N:News h₀ L h [p1,p2,p3,p4,p5,p6,p7]):News h₀ L h [p1,p7,p2,p3]:=by
 intro q hq
 refine N q ?_
 simp only [List.mem_cons,List.not_mem_nil,or_false] at hq ⊢
 rcases hq with h | h | h | h
 ·exact .inl h
 ·exact .inr (.inr (.inr (.inr (.inr (.inr h)))))
 ·exact .inr (.inl h)
 ·exact .inr (.inr (.inl h))
theorem wt24:True:=by
 k_with "V6 eval ListComp" => k_extra "A2"
 exact True.intro
noncomputable def HoldE (P:Prop):Prop:=P
theorem hold_ofE {P:Prop}(h:HoldE P):P:=h
theorem wt25:True:=by
 k_with "V6 CompSrc" => k_extra "A135"
 k_with "V6 spliced" => k_extra "A136"
 k_with "V6 exec For Name Call cons nil" => k_extra "A25"
 k_with "V6 pyIter ref" => k_extra "A137"
 k_with "V6 eval Constant int" => k_extra "A30"
 k_with "V6 eval Constant str" => k_extra "A31"
 k_with "V6 binaryOp Add int int" => k_extra "A32"
 k_with "V6 binaryOp Sub int int" => k_extra "A33"
 k_with "V6 unaryOp USub int" => k_extra "A34"
 exact True.intro
theorem V:rw_re0182_01.Holds:=by
 w_on
 refine head_of (by rfl) (by rfl) (by rfl) ?hw ?hc
 case hw=>w_witness2
 k_fill
 intro w s₀ s₁ mg mb G Y fa o pm cd doc dV kV ho hd hcd hD hmg hg args vals as hpre hlay hrd hwl hlo
 have KX:=km_in_of Y
 km_tabs Y
 have X:=(Ground.X G).1
 have V:=(Ground.X G).2
 refine Ground.open G ?_
 intro T B D TE TW
 try (refine guard_noD D (by decide +kernel) ?_;clear D)
 km_lay T hmg ho hd cd
 clear hmg
 wrow_args hpre hlay hrd hwl hlo
 all_goals (
  first | refine callC_kw (enter_call ?_) | refine enter_call ?_
  w_top on
  refine endB_post hT9 (fun _=>rfl) ?hp ?_
  (case hp=>first | rfl | wrow_post)
  w_call any ho hd hcd hD T F
  clear hd
  kn_ghosts F T
  k_drop
  skip)
 k_steps
 unfold HoldE
 rename IntsAre _ _=>hi9
 rename IsRange _ _ _ _ _ _ _ _=>hr9
 rename News _ _ _ _=>hN9
 rename Fr _ _ _ _=>hF9
 rename Heap.IsList (ghostOf _ _) _ _=>hl9
 k_dflt (refine' LCg.CompSrc.range (n:=10) ?qh hF9 hN9 hr9 ?qs ?qn ?qz ?qq)
 (case qh=>rfl)
 (case qs=>decide)
 (case qn=>decide)
 (case qz=>rw [sizeLine_eq];omega)
 clear hr9 hN9 hF9
 intro g9
 refine kb_rest 100000000 (fun k=>0<=k/\k < 10) ?w1 ?w2 ?w3
 case w1=>exact (fun i v hi h=>range_ten i v hi h)
 case w2=>
  intro k t I oI C oC D m₂ ys h tk E' hk9 hC hx F9 N9 off ne
  k_dflt (refine' num_elt ?q26 ?q3 ?q5 ?q6 ?q7 ?q8 ?q9 ?q10 ?q12 ?q13 ?q14 ?q15 ?q16 ?q17 ?q18 ?q19 ?q20 ?q21 ?q22 ?q23 ?q24 ?q25 ?q27 ?q28 ?q29 ?q30 ?q31 ?q32 ?q33 ?q34 ?q35 ?q36 ?q37 ?q38 ?q39 ?q1 ?q2 ?q4 ?q11 ?q40 ?q41 ?q42 ?q43 ?q44 ?q45 ?q46 ?q47 ?q48 ?q49 ?q50 ?q51 ?q52 ?q53 ?q54)
  (case q1=>rfl)
  (case q2=>rfl)
  (case q4=>rfl)
  (case q40=>assumption)
  (case q41=>assumption)
  (case q44=>exact hC)
  (case q45=>exact hx)
  (case q42=>exact hk9.1)
  (case q43=>exact hk9.2)
  (case q46=>exact F9)
  (case q47=>assumption)
  (case q48=>assumption)
  (case q49=>exact N9)
  (case q50=>exact off)
  (case q51=>exact ne)
  (case q52=>exact hl9)
  (case q53=>exact hi9)
  (case q54=>omega)
  (case q5=>exact s₁.heap)
 case w3=>
  intro ys rs hy hl hb
  obtain ⟨a0,a1,a2,a3,a4,a5,a6,a7,a8,a9,t0,t1,t2,t3,t4,t5,t6,t7,t8,t9,ey,b1,b2⟩:=ints_ten hy hl hb
  subst ey
  clear hy hl hb
  k_steps
  (rename News _ _ _ _=>hN9);(rename Fr _ _ _ _=>hF9)
  refine' loop_ct ?qd ?qb (ghostOf s₁.heap [(176,174)]) _ _ _ _ _ _ _ _ _ _ _ _ ?qS ?qN _ _ ?qB ?qX ?qT ?qC ?qG ?qF (news_law ?qM) ?qm ?qs ?qn ?qR ?qk ?qx
  (case qd=>rfl)
  (case qb=>rfl)
  (case qF=>exact hF9)
  (case qM=>exact hN9)
  (case qm=>rfl)
  (case qs=>rfl)
  (case qn=>rfl)
  (case qB=>assumption)
  (case qX=>assumption)
  (case qT=>assumption)
  (case qC=>assumption)
  (case qk=>rfl)
  (case qx=>rfl)
  (case qS=>exact signs_are rfl rfl)
  (case qN=>exact nums_are b1 b2)
  (case qG=>exact AllBare.of_eq hg)
  intro ps s9 m' os9 gb9 F9 N9
  obtain ⟨hp9,gens9,dr9,tk9,os9'⟩:=s9
  dsimp only at os9 gb9 F9 N9 ⊢
  k_steps
  show EndB [(176,174)] s₁ (.ok (.ret (.bool true))) _
  exact ⟨rfl,fun b o e=>F9.keep b o e,os9,gb9,⟨⟨ps,(N9 _ (.head _)).1⟩,True.intro⟩⟩
end Mine.V6
end XV6
open Mine.V6
end XALL
theorem PySem.Challenge.cw_re0182_01_holds : PySem.Challenge.rw_re0182_01.Holds :=
  Mine.V6.V
