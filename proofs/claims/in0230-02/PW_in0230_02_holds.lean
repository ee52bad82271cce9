import PyProof.Rows.All
import Wide.All
import OpenK.AllK
import Wide.FinOn
import Lean
import PySem.Challenge.RW_in0230_02
set_option Elab.async false
set_option maxRecDepth 100000
set_option maxHeartbeats 0
set_option linter.all false
namespace Mine
open _root_ renaming Nat.le_trans→AA,List→U,Option.some→B,PySem.wpAny_bind→AB,Nat→Z,Or.elim→AC,Bool.false→AD,PySem.Shared→AE,PySem.Value→AF,List.getD_eq_getElem?_getD→AG,PySem.wpAny_pure→AH,Option.none→AJ,List.length_map→AL,List.mem_singleton→AM,Nat.le_refl→AN,Bool.true→AO,List.getElem?_eq_getElem→AP,List.mem_cons_self→AQ,PySem.Heap.get?_push_of_some→AR,List.forall_mem_cons→AT,List.mem_cons_of_mem→AU,And.intro→AV,PySem.Addr→AW,Option→AX,Nat.lt_of_lt_of_le→AY,List.length_append→AZ,if_neg→Ab,List.mem_append_right→Ac,PySem.wpAny_mono→Ad,List.mem_cons→Ae,Option.some.inj→Af,PySem.Heap.get?_push_size→Ag,List.length_cons→Ah,Int→O,List.mem_append→Ai,PySem.wpAny→Aj,List.mem_append_left→Ak,List.lookup_cons→Am,Nat.lt_of_le_of_lt→An,Nat.zero_le→Ao,if_pos→Ap,congrArg→Aq,List.range→Ar,Nat.le_add_right→As,Nat.add_le_add_left→Av,Nat.succ_le_succ→Ax,PySem.sizeLine→Ay,List.getElem?_eq_some_iff→Az,Option.bind_eq_some_iff→B1,List.getElem?_map→B3,Nat.lt_succ_self→B5,Nat.le_of_eq→B6,absurd→B8,Decidable.decide→B9,PySem.Str→BA,PySem.wpAny_of_eq→BB,Bool→BC,beq_eq_false_iff_ne→BD,Nat.le_of_lt→BE,PySem.model→BF,beq_iff_eq→BG,Nat.le_succ→BH,PySem.rawInt→BI,PySem.Heap→BJ,Option.map_eq_some_iff→BK,PySem.Expr→BL,List.size_toArray→BN,List.mem_map→BO,PySem.builtinLookup_eq_fast→BP,PySem.Around→BQ,PySem.Str.ofString→BR,Int.natCast_nonneg→BS,List.length_nil→BU,List.append_nil→BW,Nat.sub_lt_sub_left→BX,List.drop_eq_nil_of_le→BY,Nat.le_of_lt_succ→BZ,List.flatten_cons→Ba,Array→Bc,Array.getD_eq_getD_getElem?→Bf,PySem.Heap.lt_size→Bg,List.length_drop→Bh,List.all_eq_true→Bi,trivial→Bl,Nat.lt_succ_of_lt→Bm,PySem.starEach→Bn,List.map_cons→Bo,Nat.le_add_left→Bp,of_decide_eq_true→Bq,PySem.Builtin.Range.rangeSize→Br,Bool.and_eq_true→Bs,Option.isSome_iff_exists→Bt,Int.ofNat_lt→Bu,List.append_assoc→Bw,Nat.le_of_not_lt→Bx,List.mem_of_getElem?→By,Pure.pure→Bz,List.mem_filter→C0,PySem.typeLookup_type→CB,Nat.lt_trans→CC,PySem.partValue→CD,Nat.mul_le_mul_left→CE,PySem.wpAny_execs_cons→CH,Nat.lt_irrefl→CI,Nat.lt_or_ge→CJ,Nat.add_comm→CK,PySem.wpAny_toks→CM,List.flatten_append→CP,Nat.ne_of_lt→CQ,Nat.add_le_add→CR,PySem.builtinsNs→CU,PySem.Obj.mapSeq→CV,List.length_range→CW,PySem.Heap.get?_update_self→Ca,PySem.mainGlobals→Cc,Nat.sub_le→Cd,List.take_of_length_le→Ce,Nat.add_le_add_right→Cg,List.length_take→Ci,Nat.min_eq_left→Ck,Nat.le_succ_of_le→Cm,PySem.wpAny_holding→Co,List.mem_range→Cp,Nat.add_sub_cancel_left→Cr,Nat.add_assoc→Ct,List.drop_eq_getElem_cons→Cu,PySem.Scope→Cw,Nat.le_antisymm→Cy,PySem.Heap.get?_update_ne→D0,Option.casesOn→D1,Nat.lt_succ_of_le→DA,Nat.le_of_ble_eq_true→DE,List.length→DF,PySem.Program→DH,List.map_append→DI,List.forIn_cons→DJ,List.flatten_nil→DK,List.take_add_one→DM,Nat.sub_one_lt_of_lt→DP,Nat.ne_of_gt→DR,List.set_cons_zero→DS,Int.le_trans→DT,decide_eq_true→DW,PySem.DictEntry→DX,PySem.Value.type→DZ,Nat.min_le_right→Db,Bool.noConfusion→Dc,List.forall_mem_nil→De,Int.toNat_natCast→Dj,PySem.Arguments→Dl,False→Dp,PySem.wpAny_ite_false→Dr,ForInStep.yield→Ds,Bool.eq_iff_iff→Dt,PySem.again→Du,List.not_mem_nil→Dv,List.cons_append→Dw,PySem.wpAny_standAt→Dx,PySem.seg_bind_wrap→Dy,Nat.add_lt_add_left→E0,PyProof.Rows.callWith_method1→E2,Nat.le_of_succ_le→E3,List.getLast?_eq_some_getLast→E4,PySem.cellsFrom→E5,PySem.FuncData→EA,List.drop_drop→EB,PySem.typeLookup→ED,List.map_map→EE,PySem.wpAny_Assign_Name→EF,PySem.sliceBounds→EG,PySem.Heap.ExtBut→EH,decide_eq_decide→EN,PySem.Heap.size_push→EO,Nat.lt_of_not_le→EP,PySem.Pos→EQ,PySem.bindArgs→ES,Nat.zero_add→ET,Nat.lt_of_succ_lt→EU,Min.min→EV,List.toArray→EW,PySem.mem_of_lookup→Ea,PySem.NameKind.cell→Ej,PySem.isSubtype_type→Ek,PySem.foldedSetIterable→El,PySem.World→Em,Nat.add_lt_of_lt_sub'→En,PySem.strValues→Eo,PySem.codeAmong→Ep,Option.map→Es,Option.getD_some→Et,Nat.sub_add_cancel→Eu,Nat.add_right_comm→Ev,PySem.wpAny_with_toks→Ey,PySem.wpAny_execs_nil→Ez,Nat.not_succ_le_zero→F1,Nat.le_add_of_sub_le→F3,List.eq_nil_of_length_eq_zero→F4,PySem.wpAny_Constant_str→FA,PySem.storeName→FC,PySem.W.X.Mem→FF,Nat.lt_add_of_pos_right→FG,PySem.Challenge.pw_in0230_02→FH,Bool.or_eq_true→FI,PySem.codeAny_call_builtin→FN,List.map_congr_left→FO,List.getElem?_range→FP,List.pairwise_lt_range→FQ,beq_self_eq_true→FR,PySem.PyData.eqv→FS,PySem.W.emptyDict→FW,PySem.Builtin.Range.small→FY,Nat.lt_of_lt_of_eq→FZ,Bool.false_eq_true→Fa,List.getElem?_eq_none→Fc,List.contains_iff_mem→Fd,LawfulBEq.eq_of_beq→Fe,PySem.wpAny_Call_method_late→Ff,PySem.backTo→Fg,PySem.NameKind.free→Fk,PySem.wpAny_items_cons→Fl,List.getLastD_eq_getLast?→Fm,Option.map_some→Fw,Nat.not_lt_zero→Fy,List.nil_append→Fz,PySem.typeIs_str→G0,PySem.Stmt→G1,PySem.NameKind→G2,Ne.symm→G3,Nat.le_sub_one_of_lt→G4,Bool.eq_false_iff→G6,PySem.F.slot_list_append→G7,PyProof.Rows.assign_Name→G8,PySem.wpAny_items_nil→GI,PySem.seqIndex?→GJ,Nat.add_sub_cancel'→GK,PySem.wpAny_newObj_type→GW,PySem.wpAny_loadName_local→GX,PySem.wpAny_assign_Name→GY,List.take_length→GZ,List.replicate→Ga,List.mem_flatten→Gb,List.getElem_mem→Gc,Array.toList_inj→Gd,PySem.wpAny_load→Gl,PySem.wpAny_call→Gm,PySem.wpAny_Name→Gn,PySem.eval→Gp,PySem.Obj→Gq,Nat.le_of_succ_le_succ→Gs,List.pairwise_cons→Gu,List.contains_cons→Gv,Int.ofNat_le→Gw,PySem.aRefKeyMayBeTheName→HA,PySem.wpAny_loadPart→HB,PySem.entryFor_of_tree→HC,PySem.Value.ref→HD,PySem.Challenge.rw_in0230_02→HE,PySem.Builtin.Str.occurrences→HF,Nat.min_le_left→HG,List.range_succ→HH,List.find?_cons→HI,Nat.sub_le_iff_le_add→HS,Nat.sub_eq_zero_of_le→HT,List.length_filter_le→HU,List.getElem?_toArray→HV,decide_eq_true_eq→HY,PySem.codeAny→HZ,PySem.call→Hi,PySem.anyOpaqueLoaded→Hj,PySem.Obj.data→Hk,Nat.add_lt_add_right→Hl,List.getElem?_append_right→Hm,List.exists_cons_of_ne_nil→Hn,PySem.attributeBase→Hr,PySem.wpAny_storeName_local→Hx,PySem.Obj.mapSeq_push_plain→Hy,List.drop_subset→Hz,Int.ofNat→I0,Nat.sub_lt_left_of_lt_add→I1,List.getElem?_append_left→I3,Nat.sub_le_sub_left→I4,List.getD_cons_succ→I5,Int.toNat_of_nonneg→I6,PySem.wpAny_rule→IJ,PySem.wpAny_newFunctionEnv→IK,PySem.Value.none→IL,PySem.Operator→IM,PySem.Obj.putName→IN,Nat.sub_lt_sub_iff_right→IP,List.sum_cons→IQ,List.range'_eq_map_range→IR,Array.replicate→IT,of_decide_eq_false→IV,PySem.wpAny_Call_NameR→IW,PySem.Keyword→IX,Nat.lt_of_le_of_ne→IY,Nat.eq_zero_or_pos→IZ,List.set_cons_succ→Ia,List.getElem?_take→Ib,List.getElem?_drop→Ic,PyProof.Rows.seen→Iu,List.lookup→Iv,or_false→JA,PySem.cStatics→JB,PySem.F.plainAttrs_str→JC,List.mem_range'_1→JD,List.length_eq_one_iff→JE,List.filter_congr→JF,Int.fmod_nonneg_of_pos→JG,Bool.not_eq_true'→JH,PySem.codeAny_builtin→JQ,PySem.closureFor→JS,PySem.sizeLine_eq→Jb,PySem.fromIndex→Jc,PySem.Tok→Jd,PySem.F.slot_str_find→Je,Nat.le_of_sub_eq_zero→Jf,List.take_append_drop→Jg,PySem.F.slot_list_getattribute→Jj,PyProof.Rows.callWith_builtin1→Jk,Nat.succ_lt_succ→Jl,Nat.not_lt_of_le→Jm,if_true→KH,PySem.Builtin.Str.tooLong→KI,Bool.and_true→KJ,if_false→KL,PySem.wpAny_truthy_bool→KN,PySem.wpAny_seqItems→KO,PySem.slot_list_getitem→KP,Nat.lt_sub_of_add_lt→KQ,List.drop_append_of_le_length→KR,List.Pairwise.filter→KU,decide_eq_false→Kd,PySem.W.kas_desc→Ke,Option.map_none→Kf,PySem.codeAny_call_function→Ks,List.mem_map_of_mem→Kt,List.length_take_le→Ku,List.getElem_of_mem→Kv,List.filterMap_cons→Kw,Function.comp_apply→Kx,List.map_nil→Ky,Int.ediv_one→Kz,Eq.symm→L3,Unit→LL,PySem.wpAny_ite_true→LM,PySem.keywordEach→LN,PySem.callEnvC→LP,PySem.F.slot_range_iterator_next→LQ,Nat.not_lt→LR,Nat.lt_or_eq_of_le→LS,List.forIn_toArray→LU,List.drop_zero→LV,List.drop_take→LW,Int.sub_add_cancel→LX,Bool.false_and→LY,PySem.W.kas_asc→Ll,PySem.letOwnedTupleGo→Lo,PySem.StrLaws.occBody→Lp,List.getLast?_eq_getElem?→Lq,PySem.Heap.SameBut.update→Lu,PySem.CmpOp→Lw,Nat.sub_pos_of_lt→Lx,List.reverse_cons→Ly,List.range'→Lz,List.foldl_append→M0,Function.comp_def→MA,PySem.codeAny_mono→MC,PySem.PyData.depth→MD,Nat.lt_succ_iff_lt_or_eq→ME,List.contains_eq_any_beq→MF,List.cons.inj→MG,Int.ofNat_inj→MH,PySem.isSubtype→Mi,PySem.sysModules→Mx,PySem.PyData.canLay0→My,PySem.FuncBody→Mz,PySem.F.plainAttrs_list→N1,Option.getD_none→N2,Option.bind_some→N3,Nat.min_eq_right→N4,Nat.eq_of_le_of_lt_succ→N5,List.map_fst_zip→N6,List.filter_cons→N7,PySem.W.specialIn→N9,PySem.W.tabObj→NM,Nat.succ_pos→NN,Nat.sub_self→NO,Nat.sub_le_iff_le_add'→NP,Nat.lt_of_add_right_lt→NQ,List.getElem?_eraseIdx→NR,List.casesOn→NS,PySem.wpAny_pyIter_list→Nj,PySem.wpAny_nsGet→Nk,PySem.wpAny_builtinsFor→Nl,PySem.setGen_self→Nn,PySem.interactive→No,PySem.Txt.replace→Np,List.lookup_nil→Nq,Int.zero_lt_one→Nr,True→Nt,PySem.wpAny_getItem_list_slice→Nu,PySem.Obj.mapFields→Nv,PySem.F.slot_str_join→Nw,PySem.Env→Nx,Nat.lt_of_sub_eq_succ→Ny,Nat.le_add_left_of_le→Nz,List.mem_iff_getElem?→O0,PySem.W.instObj→Od,PySem.Sre.forSearch→Oe,PySem.wpAny_isInstance→Of,PySem.wpAny_askSetting→Og,PySem.wpAny_Call_method1_late→Oh,PySem.type_list_append→Oi,PySem.Builtin.Str.tableLookup→Oj,PySem.Builtin.Slots.givesWeak→Ol,Nat.sub_sub→Om,Nat.mul_le_mul_right→On,Nat.add_right_cancel→Oo,Nat.add_lt_of_lt_sub→Oq,List.length_take_le'→Ot,List.length_dropLast→Ou,List.forIn_nil→Ov,Int.add_le_add_right→Ow,PySem.wpAny_mkText→Q7,PySem.wpAny_getItem_list_neg→Q8,PySem.wpAny_List→Q9,PySem.call_meets→QA,PySem.W.kas_sort→QB,PySem.W.kas_place→QC,List.length_flatten→QD,Int.toNat_of_nonpos→QE,Array.length_toList→QF,List.any_cons→QR,Int.toNat_sub→QS,Bool.or_false→QT,PySem.W.kas_rev→Qc,Nat.add_sub_cancel→Qd,List.mem_filterMap→Qe,Int.sub_eq_add_neg→Qf,Int.not_lt→Qg,Int.lt_of_le_of_lt→Qh,Int.fmod_lt_of_pos→Qi,Bool.false_ne_true→Qj,PySem.Builtin.Re.reRunToEnd→Rt,Max.max→Ru,PySem.wpAny_mkStr→Rv,PySem.slicePicked→Rw,PySem.recursionLimit→Ry,PySem.lookup_relabel_local→Rz,PySem.entryFor→SA,PySem.backToKw→SD,PySem.Keeps→SE,PySem.GenOnly.setGen→SF,Nat.succ_mul→SG,Nat.add_zero→SH,Nat.add_sub_of_le→SJ,List.pairwise_map→SK,List.getElem?_set→SM,List.any_eq_false→SN,Int.sub_pos_of_lt→SO,Int.le_of_lt→SP,Int.add_comm→SQ,PySem.Sem.onRaise_eq_wrap→Tf,PySem.Manifest.signature?→Tg,Nat.succ_ne_zero→Th,Nat.sub_sub_self→Ti,Nat.one_le_of_lt→Tj,List.take_subset→Tk,List.nil_sublist→Tm,List.isEmpty_nil→Tn,List.isEmpty_iff→To,PySem.wpAny_newList→Ug,PySem.swappedStores→Uh,PySem.behindInMarks→Ui,PySem.W.sub→Uj,PyProof.Rows.seqObj→Uk,ne_of_beq_false→Un,PySem.wpAny_pyIter_range→Uo,PySem.wpAny_newTextTuple→Uq,PySem.wpAny_getItem_list→Ur,PySem.typeOf→Us,PySem.sliceRange→Ut,PySem.qualnameIn→Uu,PySem.ScopeKind.function→Uv,PySem.Code.quiet_builtin→Uw,PySem.Builtin.Slots.read→Ux,PySem.Builtin.ObjectAttr.dataDescriptor?→Uy,List.nodup_cons→Uz,List.length_set→V0,List.dropLast_concat_getLast→V1,PySem.SeqAt.compareEq_reads→WD,PyProof.Rows.Attribute_name→WF,PySem.standAt→WH,PySem.getItem→WI,PySem.functionCode→WK,PySem.compTurn→WL,PySem.codeAny_func→WM,PySem.Str.join→WN,PySem.PyData.canLayAll0→WO,PySem.F.slot_str_translate→WP,PUnit.unit→WQ,Nat.lt_of_add_lt_add_right→WR,List.foldl_map→WU,List.find?_map→WV,Int.lt_sub_right_of_add_lt→WW,Int.add_lt_of_lt_sub_right→WX,ForIn.forIn→WY,PySem.Builtin.Re.reDrive→Xf,PyProof.Rows.tail_any→Xg,Nat.le_of_add_le_add_left→Xh,PySem.wpAny_updatePart→YY,PySem.slicePick→YZ,PySem.argsOk→Yb,PySem.W.kas_descPart→Yd,PySem.TriplesOk→Ye,PySem.Sre.M.admitted→Yg,PySem.F.type_str_replace→Yh,PySem.F.slot_str_replace→Yi,PySem.F.slot_str_getitem→Yj,PySem.ClassData→Yk,PySem.Builtin.mroHook?→Yl,Nat.succ_add_eq_add_succ→Ym,List.take_nil→Yn,List.all_cons→Yo,Int.toNat_lt'→Yp,Int.neg_ofNat_le_natCast→Yq,Bool.or_assoc→Yr,Array.swapIfInBounds_def→Ys,Array.extract→Yt,gt_iff_lt→aA,PySem.subscripted→aB,PySem.Fin→aC,PySem.Builtin.noteSubclassOfBuiltin→aD,List.drop→aE,ForInStep→aF,PySem.wpAny_specialOf→aI,PySem.codeAny_of_tree→aJ,PySem.W.typeIn→aK,PySem.W.kas_tail3→aL,PySem.W.kas_count→aM,PySem.W.findIn→aN,PySem.PyData.depthAll→aO,PySem.F.entry_str_find→aP,PySem.Builtin.Re.reRawOf→aQ,PyProof.noPylong_small→aR,PyProof.Rows.listUpdate_at→aS,Nat.succ.inj→aT,Nat.le_of_add_right_le→aU,Nat.le.intro→aV,List.append_eq_nil_iff→aW,Int.toNat_lt→aX,PySem.relabel→dQ,PySem.getAttr→dR,PySem.W.looks_field→dS,PySem.F.type_str_join→dT,PySem.F.type_str_find→dU,PySem.F.slot_int_rmul→dW,PySem.Builtin.notOverATurnedClass→dX,PyProof.Rows.Subscript_→dY,Nat.sub_eq_iff_eq_add→dZ,Nat.le_div_iff_mul_le→da,List.pairwise_flatten→db,List.filterMap_append→dc,Acc→de,PySem.wpAny_newTuple→dj,PySem.wpAny_newFunctionEnv_cells→dm,PySem.wpAny_fieldsOf→dp,PySem.wpAny_Expr→dq,PySem.localSet→dt,PySem.Str.append→du,PySem.Sre.Seen→dw,PySem.Model→eD,PySem.Builtin.List.listFitsIndex→eE,Nat.succ_lt_succ_iff→eF,Nat.sub_lt_sub_right→eG,Nat.sub_le_of_le_add→eH,Nat.mul_two→eJ,Nat.mul_one→eK,Nat.le_zero→eM,Nat.le_sub_of_add_le→eO,Nat.div_lt_of_lt_mul→eP,Nat.add_sub_add_left→eQ,List.rec→eR,List.mem_of_mem_drop→eU,List.getLast?_concat→eV,List.dropLast_subset→eW,Int.sub_sub→eX,Int.sub_nonpos_of_le→eY,Nat.pos_iff_ne_zero→gc,List.length_pos_iff→gd,PySem.wpAny_comprehension_free→iE,PySem.wpAny_attempt→iF,PySem.step→iG,PySem.plainId_quiet→iH,PySem.W.KasT.ret→iI,PySem.P.append_list→iJ,PySem.Data→iK,Or.inl→iL,Option.toList_some→iM,Nat.sub_lt→iN,List.getElem_range→iO,List.filter_filter→iP,List.filterMap_nil→iQ,Int.add_sub_cancel→iR,bne_self_eq_false→jt,PySem.wpAny_list_append_plain→ju,PySem.wpAny_callSpecial?_slot→jw,PySem.swapsWith→jx,PySem.setSlotAt→jy,PySem.seg_again→jz,PySem.compStart→kA,Nat.zero_lt_of_lt→kB,Nat.lt_of_succ_le→kC,Nat.add_sub_assoc→kD,Nat.add_left_comm→kF,List.zip_nil_left→kG,List.getLast?_map→kH,List.flatMap_cons→kI,List.ext_getElem?→kJ,PySem.wpAny_pyNext_list_item→kW,PySem.spliced→kX,PySem.pyNext→kY,PySem.pyIter→kZ,PySem.nsSetByValue→ka,PySem.holding→kb,PySem.genEnv→ke,PySem.codeAny_compStart_list→kf,PySem.bootBuiltins→kg,PySem.Txt.contains→kh,PySem.Sre.M.runFor→kj,PySem.ItemsOf→kl,Nat.zero_lt_succ→km,Nat.succ_ne_self→kq,Nat.not_le_of_lt→kt,Nat.le_of_not_le→ku,Nat.le_of_not_ge→l4,List.mem_reverse→l5,List.getElem_map→l6,List.cons_ne_nil→l7,Int.toNat→l8,beq_false_of_ne→nX,PySem.wpAny_pyNext_list_end→nY,PySem.wpAny_pyIter_listiter→nZ,PySem.wpAny_isTrue_Compare1→na,PySem.StrLaws.glued_eq_join→nc,PySem.Builtin.Slots.varSize→nd,PySem.Builtin.Slots.install→nf,PyProof.Rows.get?_update_seq→ng,Nat.ToInt.of_le→nh,List.sum_append→nj,List.set_append→nk,List.of_mem_zip→nl,List.foldl_cons→no,Int.min_eq_left→nq,lt_of_eq_of_lt→oG,le_of_le_of_eq→oH,ite→oJ,String→oK,PySem.wpAny_storeName_cell→oL,PySem.wpAny_pyNext_genexpQ→oM,PySem.wpAny_point→oN,PySem.wpAny_mkInt→oO,PySem.wpAny_alloc→oP,PySem.wpAny_Slice→oQ,PySem.table→oR,PySem.loadName→oU,PySem.dictEntries→oV,PySem.Walks.range→oW,PySem.W.KasT→oY,PySem.W.KF.slot_mset→oZ,PySem.W.CodeHd→oa,PySem.Value.isInt→oe,PySem.IsRangeIter→og,PySem.Calls.evalArgs_plain→oh,PySem.Builtin.extendedBase→oi,PySem.Bind.madeBy→oj,PUnit→ol,Nat.sub_add_eq→on,Nat.lt_one_iff→oq,Nat.lt_add_one→ou,List.take_take→oy,Eq.trans→oz,Bool.and_false→pA,BEq.comm→pB
section
set_option autoImplicit false
theorem Aa{c H:Prop}{G:Prop}(h:c/\H)(k:c->H->G):G:=k  h.1 h.2
theorem Aw{b:Type}{c:b->Prop}{G:Prop}(h:∃f,c f)(k:∀f,c f->G):G:=h.elim λf h=>k f h
theorem B7{c H q:Prop}{G:Prop}(h:c/\H/\q)(k:c->H->q->G):G:=k  h.1 h.2.1 h.2.2
theorem Cf{c H q:Prop}(h0:c)(W:H)(C:q):c/\H/\q:=⟨h0,W,C⟩
theorem AI{b:Type}{c H:b->Prop}{G:Prop}(h:∃f,c f/\H f)(k:∀f,c f->H f->G):G:=h.elim λf h=>k f h.1 h.2
theorem AK{b:Type}{c H:b->Prop}(f:b)(h0:c f)(W:H f):∃f,c f/\H f:=⟨f,h0,W⟩
theorem Eh{b d:Type}{c:b->d->Prop}{G:Prop}(h:∃f z,c f z)(k:∀f z,c f z->G):G:=h.elim λf h=>h.elim λz h=>k f z h
theorem Io{b d:Type}{c:b->d->Prop}(f:b)(z:d)(h0:c f z):∃f z,c f z:=⟨f,z,h0⟩
theorem Fb{c H q p:Prop}{G:Prop}(h:c/\H/\q/\p)(k:c->H->q->p->G):G:=k  h.1 h.2.1 h.2.2.1 h.2.2.2
theorem Le{c H q p:Prop}(h0:c)(W:H)(C:q)(T:p):c/\H/\q/\p:=⟨h0,W,C,T⟩
theorem CF{b:Type}{c H q:b->Prop}{G:Prop}(h:∃f,c f/\H f/\q f)(k:∀f,c f->H f->q f->G):G:=h.elim λf h=>k f h.1 h.2.1 h.2.2
theorem F8{b:Type}{c H q:b->Prop}(f:b)(h0:c f)(W:H f)(C:q f):∃f,c f/\H f/\q f:=⟨f,h0,W,C⟩
theorem Au{b d:Type}{c H:b->d->Prop}{G:Prop}(h:∃f z,c f z/\H f z)(k:∀f z,c f z->H f z->G):G:=h.elim λf h=>h.elim λz h=>k f z h.1 h.2
theorem FK{b d:Type}{c H:b->d->Prop}(f:b)(z:d)(h0:c f z)(W:H f z):∃f z,c f z/\H f z:=⟨f,z,h0,W⟩
theorem jI{b d e:Type}{c:b->d->e->Prop}{G:Prop}(h:∃f z F,c f z F)(k:∀f z F,c f z F->G):G:=h.elim λf h=>h.elim λz h=>h.elim λF h=>k f z F h
theorem jQ{b d e:Type}{c:b->d->e->Prop}(f:b)(z:d)(F:e)(h0:c f z F):∃f z F,c f z F:=⟨f,z,F,h0⟩
theorem UB{c H q p L:Prop}{G:Prop}(h:c/\H/\q/\p/\L)(k:c->H->q->p->L->G):G:=k  h.1 h.2.1 h.2.2.1 h.2.2.2.1 h.2.2.2.2
theorem X5{c H q p L:Prop}(h0:c)(W:H)(C:q)(T:p)(F:L):c/\H/\q/\p/\L:=⟨h0,W,C,T,F⟩
theorem DU{b:Type}{c H q p:b->Prop}{G:Prop}(h:∃f,c f/\H f/\q f/\p f)(k:∀f,c f->H f->q f->p f->G):G:=h.elim λf h=>k f h.1 h.2.1 h.2.2.1 h.2.2.2
theorem IE{b:Type}{c H q p:b->Prop}(f:b)(h0:c f)(W:H f)(C:q f)(T:p f):∃f,c f/\H f/\q f/\p f:=⟨f,h0,W,C,T⟩
theorem Cj{b d:Type}{c H q:b->d->Prop}{G:Prop}(h:∃f z,c f z/\H f z/\q f z)(k:∀f z,c f z->H f z->q f z->G):G:=h.elim λf h=>h.elim λz h=>k f z h.1 h.2.1 h.2.2
theorem Fs{b d:Type}{c H q:b->d->Prop}(f:b)(z:d)(h0:c f z)(W:H f z)(C:q f z):∃f z,c f z/\H f z/\q f z:=⟨f,z,h0,W,C⟩
theorem H4{b d e:Type}{c H:b->d->e->Prop}{G:Prop}(h:∃f z F,c f z F/\H f z F)(k:∀f z F,c f z F->H f z F->G):G:=h.elim λf h=>h.elim λz h=>h.elim λF h=>k f z F h.1 h.2
theorem R8{b d e:Type}{c H:b->d->e->Prop}(f:b)(z:d)(F:e)(h0:c f z F)(W:H f z F):∃f z F,c f z F/\H f z F:=⟨f,z,F,h0,W⟩
theorem jH{b d e i:Type}{c:b->d->e->i->Prop}{G:Prop}(h:∃f z F w,c f z F w)(k:∀f z F w,c f z F w->G):G:=h.elim λf h=>h.elim λz h=>h.elim λF h=>h.elim λw h=>k f z F w h
theorem jK{c H q p L m:Prop}{G:Prop}(h:c/\H/\q/\p/\L/\m)(k:c->H->q->p->L->m->G):G:=k  h.1 h.2.1 h.2.2.1 h.2.2.2.1 h.2.2.2.2.1 h.2.2.2.2.2
theorem ba{b:Type}{c H q p L:b->Prop}{G:Prop}(h:∃f,c f/\H f/\q f/\p f/\L f)(k:∀f,c f->H f->q f->p f->L f->G):G:=h.elim λf h=>k f h.1 h.2.1 h.2.2.1 h.2.2.2.1 h.2.2.2.2
theorem jS{b:Type}{c H q p L:b->Prop}(f:b)(h0:c f)(W:H f)(C:q f)(T:p f)(F:L f):∃f,c f/\H f/\q f/\p f/\L f:=⟨f,h0,W,C,T,F⟩
theorem Dg{b d:Type}{c H q p:b->d->Prop}{G:Prop}(h:∃f z,c f z/\H f z/\q f z/\p f z)(k:∀f z,c f z->H f z->q f z->p f z->G):G:=h.elim λf h=>h.elim λz h=>k f z h.1 h.2.1 h.2.2.1 h.2.2.2
theorem Dm{b d:Type}{c H q p:b->d->Prop}(f:b)(z:d)(h0:c f z)(W:H f z)(C:q f z)(T:p f z):∃f z,c f z/\H f z/\q f z/\p f z:=⟨f,z,h0,W,C,T⟩
theorem Na{b d e:Type}{c H q:b->d->e->Prop}{G:Prop}(h:∃f z F,c f z F/\H f z F/\q f z F)(k:∀f z F,c f z F->H f z F->q f z F->G):G:=h.elim λf h=>h.elim λz h=>h.elim λF h=>k f z F h.1 h.2.1 h.2.2
theorem bp{b d e:Type}{c H q:b->d->e->Prop}(f:b)(z:d)(F:e)(h0:c f z F)(W:H f z F)(C:q f z F):∃f z F,c f z F/\H f z F/\q f z F:=⟨f,z,F,h0,W,C⟩
theorem Ge{b d e i:Type}{c H:b->d->e->i->Prop}{G:Prop}(h:∃f z F w,c f z F w/\H f z F w)(k:∀f z F w,c f z F w->H f z F w->G):G:=h.elim λf h=>h.elim λz h=>h.elim λF h=>h.elim λw h=>k f z F w h.1 h.2
theorem MR{b d e i:Type}{c H:b->d->e->i->Prop}(f:b)(z:d)(F:e)(w:i)(h0:c f z F w)(W:H f z F w):∃f z F w,c f z F w/\H f z F w:=⟨f,z,F,w,h0,W⟩
theorem Jt{b d:Type}{c H q p L:b->d->Prop}{G:Prop}(h:∃f z,c f z/\H f z/\q f z/\p f z/\L f z)(k:∀f z,c f z->H f z->q f z->p f z->L f z->G):G:=h.elim λf h=>h.elim λz h=>k f z h.1 h.2.1 h.2.2.1 h.2.2.2.1 h.2.2.2.2
theorem Ju{b d:Type}{c H q p L:b->d->Prop}(f:b)(z:d)(h0:c f z)(W:H f z)(C:q f z)(T:p f z)(F:L f z):∃f z,c f z/\H f z/\q f z/\p f z/\L f z:=⟨f,z,h0,W,C,T,F⟩
theorem Lc{b d e:Type}{c H q p:b->d->e->Prop}{G:Prop}(h:∃f z F,c f z F/\H f z F/\q f z F/\p f z F)(k:∀f z F,c f z F->H f z F->q f z F->p f z F->G):G:=h.elim λf h=>h.elim λz h=>h.elim λF h=>k f z F h.1 h.2.1 h.2.2.1 h.2.2.2
theorem UE{b d e:Type}{c H q p:b->d->e->Prop}(f:b)(z:d)(F:e)(h0:c f z F)(W:H f z F)(C:q f z F)(T:p f z F):∃f z F,c f z F/\H f z F/\q f z F/\p f z F:=⟨f,z,F,h0,W,C,T⟩
theorem MO{b d e i:Type}{c H q:b->d->e->i->Prop}{G:Prop}(h:∃f z F w,c f z F w/\H f z F w/\q f z F w)(k:∀f z F w,c f z F w->H f z F w->q f z F w->G):G:=h.elim λf h=>h.elim λz h=>h.elim λF h=>h.elim λw h=>k f z F w h.1 h.2.1 h.2.2
theorem PL{b d e i:Type}{c H q:b->d->e->i->Prop}(f:b)(z:d)(F:e)(w:i)(h0:c f z F w)(W:H f z F w)(C:q f z F w):∃f z F w,c f z F w/\H f z F w/\q f z F w:=⟨f,z,F,w,h0,W,C⟩
theorem PI{b d e i j:Type}{c H:b->d->e->i->j->Prop}{G:Prop}(h:∃f z F w y,c f z F w y/\H f z F w y)(k:∀f z F w y,c f z F w y->H f z F w y->G):G:=h.elim λf h=>h.elim λz h=>h.elim λF h=>h.elim λw h=>h.elim λy h=>k f z F w y h.1 h.2
theorem jJ{c H q p L m v I:Prop}{G:Prop}(h:c/\H/\q/\p/\L/\m/\v/\I)(k:c->H->q->p->L->m->v->I->G):G:=k  h.1 h.2.1 h.2.2.1 h.2.2.2.1 h.2.2.2.2.1 h.2.2.2.2.2.1 h.2.2.2.2.2.2.1 h.2.2.2.2.2.2.2
theorem PJ{b d:Type}{c H q p L m:b->d->Prop}{G:Prop}(h:∃f z,c f z/\H f z/\q f z/\p f z/\L f z/\m f z)(k:∀f z,c f z->H f z->q f z->p f z->L f z->m f z->G):G:=h.elim λf h=>h.elim λz h=>k f z h.1 h.2.1 h.2.2.1 h.2.2.2.1 h.2.2.2.2.1 h.2.2.2.2.2
theorem Ld{b d:Type}{c H q p L m:b->d->Prop}(f:b)(z:d)(h0:c f z)(W:H f z)(C:q f z)(T:p f z)(F:L f z)(y:m f z):∃f z,c f z/\H f z/\q f z/\p f z/\L f z/\m f z:=⟨f,z,h0,W,C,T,F,y⟩
theorem UA{b d e:Type}{c H q p L:b->d->e->Prop}{G:Prop}(h:∃f z F,c f z F/\H f z F/\q f z F/\p f z F/\L f z F)(k:∀f z F,c f z F->H f z F->q f z F->p f z F->L f z F->G):G:=h.elim λf h=>h.elim λz h=>h.elim λF h=>k f z F h.1 h.2.1 h.2.2.1 h.2.2.2.1 h.2.2.2.2
theorem bo{b d e:Type}{c H q p L:b->d->e->Prop}(f:b)(z:d)(F:e)(h0:c f z F)(W:H f z F)(C:q f z F)(T:p f z F)(a:L f z F):∃f z F,c f z F/\H f z F/\q f z F/\p f z F/\L f z F:=⟨f,z,F,h0,W,C,T,a⟩
theorem Km{b d e i:Type}{c H q p:b->d->e->i->Prop}{G:Prop}(h:∃f z F w,c f z F w/\H f z F w/\q f z F w/\p f z F w)(k:∀f z F w,c f z F w->H f z F w->q f z F w->p f z F w->G):G:=h.elim λf h=>h.elim λz h=>h.elim λF h=>h.elim λw h=>k f z F w h.1 h.2.1 h.2.2.1 h.2.2.2
theorem UD{b d e i:Type}{c H q p:b->d->e->i->Prop}(f:b)(z:d)(F:e)(w:i)(h0:c f z F w)(W:H f z F w)(C:q f z F w)(T:p f z F w):∃f z F w,c f z F w/\H f z F w/\q f z F w/\p f z F w:=⟨f,z,F,w,h0,W,C,T⟩
theorem bZ{b d e i j n o:Type}{c:b->d->e->i->j->n->o->Prop}{G:Prop}(h:∃f z F w y a g,c f z F w y a g)(k:∀f z F w y a g,c f z F w y a g->G):G:=h.elim λf h=>h.elim λz h=>h.elim λF h=>h.elim λw h=>h.elim λy h=>h.elim λa h=>h.elim λg h=>k f z F w y a g h
theorem X1{b d:Type}{c H q p L m v:b->d->Prop}{G:Prop}(h:∃f z,c f z/\H f z/\q f z/\p f z/\L f z/\m f z/\v f z)(k:∀f z,c f z->H f z->q f z->p f z->L f z->m f z->v f z->G):G:=h.elim λf h=>h.elim λz h=>k f z h.1 h.2.1 h.2.2.1 h.2.2.2.1 h.2.2.2.2.1 h.2.2.2.2.2.1 h.2.2.2.2.2.2
theorem jR{b d:Type}{c H q p L m v:b->d->Prop}(f:b)(z:d)(h0:c f z)(W:H f z)(C:q f z)(T:p f z)(F:L f z)(y:m f z)(P:v f z):∃f z,c f z/\H f z/\q f z/\p f z/\L f z/\m f z/\v f z:=⟨f,z,h0,W,C,T,F,y,P⟩
theorem U9{b d e:Type}{c H q p L m:b->d->e->Prop}{G:Prop}(h:∃f z F,c f z F/\H f z F/\q f z F/\p f z F/\L f z F/\m f z F)(k:∀f z F,c f z F->H f z F->q f z F->p f z F->L f z F->m f z F->G):G:=h.elim λf h=>h.elim λz h=>h.elim λF h=>k f z F h.1 h.2.1 h.2.2.1 h.2.2.2.1 h.2.2.2.2.1 h.2.2.2.2.2
theorem jF{b d e i j:Type}{c H q p:b->d->e->i->j->Prop}{G:Prop}(h:∃f z F w y,c f z F w y/\H f z F w y/\q f z F w y/\p f z F w y)(k:∀f z F w y,c f z F w y->H f z F w y->q f z F w y->p f z F w y->G):G:=h.elim λf h=>h.elim λz h=>h.elim λF h=>h.elim λw h=>h.elim λy h=>k f z F w y h.1 h.2.1 h.2.2.1 h.2.2.2
theorem jP{b d e i j:Type}{c H q p:b->d->e->i->j->Prop}(f:b)(z:d)(F:e)(w:i)(y:j)(h0:c f z F w y)(W:H f z F w y)(C:q f z F w y)(T:p f z F w y):∃f z F w y,c f z F w y/\H f z F w y/\q f z F w y/\p f z F w y:=⟨f,z,F,w,y,h0,W,C,T⟩
theorem U8{b d e:Type}{c H q p L m v:b->d->e->Prop}{G:Prop}(h:∃f z F,c f z F/\H f z F/\q f z F/\p f z F/\L f z F/\m f z F/\v f z F)(k:∀f z F,c f z F->H f z F->q f z F->p f z F->L f z F->m f z F->v f z F->G):G:=h.elim λf h=>h.elim λz h=>h.elim λF h=>k f z F h.1 h.2.1 h.2.2.1 h.2.2.2.1 h.2.2.2.2.1 h.2.2.2.2.2.1 h.2.2.2.2.2.2
theorem R5{b d e i j:Type}{c H q p L:b->d->e->i->j->Prop}{G:Prop}(h:∃f z F w y,c f z F w y/\H f z F w y/\q f z F w y/\p f z F w y/\L f z F w y)(k:∀f z F w y,c f z F w y->H f z F w y->q f z F w y->p f z F w y->L f z F w y->G):G:=h.elim λf h=>h.elim λz h=>h.elim λF h=>h.elim λw h=>h.elim λy h=>k f z F w y h.1 h.2.1 h.2.2.1 h.2.2.2.1 h.2.2.2.2
theorem R7{b d e i j:Type}{c H q p L:b->d->e->i->j->Prop}(f:b)(z:d)(F:e)(w:i)(y:j)(h0:c f z F w y)(W:H f z F w y)(C:q f z F w y)(T:p f z F w y)(a:L f z F w y):∃f z F w y,c f z F w y/\H f z F w y/\q f z F w y/\p f z F w y/\L f z F w y:=⟨f,z,F,w,y,h0,W,C,T,a⟩
theorem bY{b d e i j n o s:Type}{c H:b->d->e->i->j->n->o->s->Prop}{G:Prop}(h:∃f z F w y a g l,c f z F w y a g l/\H f z F w y a g l)(k:∀f z F w y a g l,c f z F w y a g l->H f z F w y a g l->G):G:=h.elim λf h=>h.elim λz h=>h.elim λF h=>h.elim λw h=>h.elim λy h=>h.elim λa h=>h.elim λg h=>h.elim λl h=>k f z F w y a g l h.1 h.2
theorem jB{b d e i j n o:Type}{c H q p:b->d->e->i->j->n->o->Prop}{G:Prop}(h:∃f z F w y a g,c f z F w y a g/\H f z F w y a g/\q f z F w y a g/\p f z F w y a g)(k:∀f z F w y a g,c f z F w y a g->H f z F w y a g->q f z F w y a g->p f z F w y a g->G):G:=h.elim λf h=>h.elim λz h=>h.elim λF h=>h.elim λw h=>h.elim λy h=>h.elim λa h=>h.elim λg h=>k f z F w y a g h.1 h.2.1 h.2.2.1 h.2.2.2
theorem j8{b d e i j n o s:Type}{c H q:b->d->e->i->j->n->o->s->Prop}{G:Prop}(h:∃f z F w y a g l,c f z F w y a g l/\H f z F w y a g l/\q f z F w y a g l)(k:∀f z F w y a g l,c f z F w y a g l->H f z F w y a g l->q f z F w y a g l->G):G:=h.elim λf h=>h.elim λz h=>h.elim λF h=>h.elim λw h=>h.elim λy h=>h.elim λa h=>h.elim λg h=>h.elim λl h=>k f z F w y a g l h.1 h.2.1 h.2.2
theorem fQ{b d e i j n o s u A:Type}{c:b->d->e->i->j->n->o->s->u->A->Prop}{G:Prop}(h:∃f z F w y a g l x S,c f z F w y a g l x S)(k:∀f z F w y a g l x S,c f z F w y a g l x S->G):G:=h.elim λf h=>h.elim λz h=>h.elim λF h=>h.elim λw h=>h.elim λy h=>h.elim λa h=>h.elim λg h=>h.elim λl h=>h.elim λx h=>h.elim λS h=>k f z F w y a g l x S h
theorem jG{b d e i:Type}{c H q p L m v I:b->d->e->i->Prop}{G:Prop}(h:∃f z F w,c f z F w/\H f z F w/\q f z F w/\p f z F w/\L f z F w/\m f z F w/\v f z F w/\I f z F w)(k:∀f z F w,c f z F w->H f z F w->q f z F w->p f z F w->L f z F w->m f z F w->v f z F w->I f z F w->G):G:=h.elim λf h=>h.elim λz h=>h.elim λF h=>h.elim λw h=>k f z F w h.1 h.2.1 h.2.2.1 h.2.2.2.1 h.2.2.2.2.1 h.2.2.2.2.2.1 h.2.2.2.2.2.2.1 h.2.2.2.2.2.2.2
theorem jA{b d e i j n o:Type}{c H q p L:b->d->e->i->j->n->o->Prop}{G:Prop}(h:∃f z F w y a g,c f z F w y a g/\H f z F w y a g/\q f z F w y a g/\p f z F w y a g/\L f z F w y a g)(k:∀f z F w y a g,c f z F w y a g->H f z F w y a g->q f z F w y a g->p f z F w y a g->L f z F w y a g->G):G:=h.elim λf h=>h.elim λz h=>h.elim λF h=>h.elim λw h=>h.elim λy h=>h.elim λa h=>h.elim λg h=>k f z F w y a g h.1 h.2.1 h.2.2.1 h.2.2.2.1 h.2.2.2.2
theorem U7{b d e i j n o s:Type}{c H q p:b->d->e->i->j->n->o->s->Prop}{G:Prop}(h:∃f z F w y a g l,c f z F w y a g l/\H f z F w y a g l/\q f z F w y a g l/\p f z F w y a g l)(k:∀f z F w y a g l,c f z F w y a g l->H f z F w y a g l->q f z F w y a g l->p f z F w y a g l->G):G:=h.elim λf h=>h.elim λz h=>h.elim λF h=>h.elim λw h=>h.elim λy h=>h.elim λa h=>h.elim λg h=>h.elim λl h=>k f z F w y a g l h.1 h.2.1 h.2.2.1 h.2.2.2
theorem jO{b d e i j n o s:Type}{c H q p:b->d->e->i->j->n->o->s->Prop}(f:b)(z:d)(F:e)(w:i)(y:j)(a:n)(g:o)(l:s)(h0:c f z F w y a g l)(W:H f z F w y a g l)(C:q f z F w y a g l)(T:p f z F w y a g l):∃f z F w y a g l,c f z F w y a g l/\H f z F w y a g l/\q f z F w y a g l/\p f z F w y a g l:=⟨f,z,F,w,y,a,g,l,h0,W,C,T⟩
theorem j7{b d e i j n o s:Type}{c H q p L:b->d->e->i->j->n->o->s->Prop}{G:Prop}(h:∃f z F w y a g l,c f z F w y a g l/\H f z F w y a g l/\q f z F w y a g l/\p f z F w y a g l/\L f z F w y a g l)(k:∀f z F w y a g l,c f z F w y a g l->H f z F w y a g l->q f z F w y a g l->p f z F w y a g l->L f z F w y a g l->G):G:=h.elim λf h=>h.elim λz h=>h.elim λF h=>h.elim λw h=>h.elim λy h=>h.elim λa h=>h.elim λg h=>h.elim λl h=>k f z F w y a g l h.1 h.2.1 h.2.2.1 h.2.2.2.1 h.2.2.2.2
theorem bX{b d e i j n o s u:Type}{c H q p:b->d->e->i->j->n->o->s->u->Prop}{G:Prop}(h:∃f z F w y a g l x,c f z F w y a g l x/\H f z F w y a g l x/\q f z F w y a g l x/\p f z F w y a g l x)(k:∀f z F w y a g l x,c f z F w y a g l x->H f z F w y a g l x->q f z F w y a g l x->p f z F w y a g l x->G):G:=h.elim λf h=>h.elim λz h=>h.elim λF h=>h.elim λw h=>h.elim λy h=>h.elim λa h=>h.elim λg h=>h.elim λl h=>h.elim λx h=>k f z F w y a g l x h.1 h.2.1 h.2.2.1 h.2.2.2
theorem bn{b d e i j n o s u:Type}{c H q p:b->d->e->i->j->n->o->s->u->Prop}(f:b)(z:d)(F:e)(w:i)(y:j)(a:n)(g:o)(l:s)(x:u)(h0:c f z F w y a g l x)(W:H f z F w y a g l x)(C:q f z F w y a g l x)(T:p f z F w y a g l x):∃f z F w y a g l x,c f z F w y a g l x/\H f z F w y a g l x/\q f z F w y a g l x/\p f z F w y a g l x:=⟨f,z,F,w,y,a,g,l,x,h0,W,C,T⟩
theorem jE{b d e i j:Type}{c H q p L m v I r:b->d->e->i->j->Prop}{G:Prop}(h:∃f z F w y,c f z F w y/\H f z F w y/\q f z F w y/\p f z F w y/\L f z F w y/\m f z F w y/\v f z F w y/\I f z F w y/\r f z F w y)(k:∀f z F w y,c f z F w y->H f z F w y->q f z F w y->p f z F w y->L f z F w y->m f z F w y->v f z F w y->I f z F w y->r f z F w y->G):G:=h.elim λf h=>h.elim λz h=>h.elim λF h=>h.elim λw h=>h.elim λy h=>k f z F w y h.1 h.2.1 h.2.2.1 h.2.2.2.1 h.2.2.2.2.1 h.2.2.2.2.2.1 h.2.2.2.2.2.2.1 h.2.2.2.2.2.2.2.1 h.2.2.2.2.2.2.2.2
theorem jD{b d e i j n:Type}{c H q p L m v I:b->d->e->i->j->n->Prop}{G:Prop}(h:∃f z F w y a,c f z F w y a/\H f z F w y a/\q f z F w y a/\p f z F w y a/\L f z F w y a/\m f z F w y a/\v f z F w y a/\I f z F w y a)(k:∀f z F w y a,c f z F w y a->H f z F w y a->q f z F w y a->p f z F w y a->L f z F w y a->m f z F w y a->v f z F w y a->I f z F w y a->G):G:=h.elim λf h=>h.elim λz h=>h.elim λF h=>h.elim λw h=>h.elim λy h=>h.elim λa h=>k f z F w y a h.1 h.2.1 h.2.2.1 h.2.2.2.1 h.2.2.2.2.1 h.2.2.2.2.2.1 h.2.2.2.2.2.2.1 h.2.2.2.2.2.2.2
theorem R4{b d e i j n o s:Type}{c H q p L m:b->d->e->i->j->n->o->s->Prop}{G:Prop}(h:∃f z F w y a g l,c f z F w y a g l/\H f z F w y a g l/\q f z F w y a g l/\p f z F w y a g l/\L f z F w y a g l/\m f z F w y a g l)(k:∀f z F w y a g l,c f z F w y a g l->H f z F w y a g l->q f z F w y a g l->p f z F w y a g l->L f z F w y a g l->m f z F w y a g l->G):G:=h.elim λf h=>h.elim λz h=>h.elim λF h=>h.elim λw h=>h.elim λy h=>h.elim λa h=>h.elim λg h=>h.elim λl h=>k f z F w y a g l h.1 h.2.1 h.2.2.1 h.2.2.2.1 h.2.2.2.2.1 h.2.2.2.2.2
theorem jC{b d e i j n:Type}{c H q p L m v I r:b->d->e->i->j->n->Prop}{G:Prop}(h:∃f z F w y a,c f z F w y a/\H f z F w y a/\q f z F w y a/\p f z F w y a/\L f z F w y a/\m f z F w y a/\v f z F w y a/\I f z F w y a/\r f z F w y a)(k:∀f z F w y a,c f z F w y a->H f z F w y a->q f z F w y a->p f z F w y a->L f z F w y a->m f z F w y a->v f z F w y a->I f z F w y a->r f z F w y a->G):G:=h.elim λf h=>h.elim λz h=>h.elim λF h=>h.elim λw h=>h.elim λy h=>h.elim λa h=>k f z F w y a h.1 h.2.1 h.2.2.1 h.2.2.2.1 h.2.2.2.2.1 h.2.2.2.2.2.1 h.2.2.2.2.2.2.1 h.2.2.2.2.2.2.2.1 h.2.2.2.2.2.2.2.2
theorem j9{b d e i j n o:Type}{c H q p L m v I r:b->d->e->i->j->n->o->Prop}{G:Prop}(h:∃f z F w y a g,c f z F w y a g/\H f z F w y a g/\q f z F w y a g/\p f z F w y a g/\L f z F w y a g/\m f z F w y a g/\v f z F w y a g/\I f z F w y a g/\r f z F w y a g)(k:∀f z F w y a g,c f z F w y a g->H f z F w y a g->q f z F w y a g->p f z F w y a g->L f z F w y a g->m f z F w y a g->v f z F w y a g->I f z F w y a g->r f z F w y a g->G):G:=h.elim λf h=>h.elim λz h=>h.elim λF h=>h.elim λw h=>h.elim λy h=>h.elim λa h=>h.elim λg h=>k f z F w y a g h.1 h.2.1 h.2.2.1 h.2.2.2.1 h.2.2.2.2.1 h.2.2.2.2.2.1 h.2.2.2.2.2.2.1 h.2.2.2.2.2.2.2.1 h.2.2.2.2.2.2.2.2
theorem Xw{b d e i j n o s:Type}{c H q p L m v I r R:b->d->e->i->j->n->o->s->Prop}{G:Prop}(h:∃f z F w y a g l,c f z F w y a g l/\H f z F w y a g l/\q f z F w y a g l/\p f z F w y a g l/\L f z F w y a g l/\m f z F w y a g l/\v f z F w y a g l/\I f z F w y a g l/\r f z F w y a g l/\R f z F w y a g l)(k:∀f z F w y a g l,c f z F w y a g l->H f z F w y a g l->q f z F w y a g l->p f z F w y a g l->L f z F w y a g l->m f z F w y a g l->v f z F w y a g l->I f z F w y a g l->r f z F w y a g l->R f z F w y a g l->G):G:=h.elim λf h=>h.elim λz h=>h.elim λF h=>h.elim λw h=>h.elim λy h=>h.elim λa h=>h.elim λg h=>h.elim λl h=>k f z F w y a g l h.1 h.2.1 h.2.2.1 h.2.2.2.1 h.2.2.2.2.1 h.2.2.2.2.2.1 h.2.2.2.2.2.2.1 h.2.2.2.2.2.2.2.1 h.2.2.2.2.2.2.2.2.1 h.2.2.2.2.2.2.2.2.2
theorem Y0{b d e i j n o s:Type}{c H q p L m v I r R:b->d->e->i->j->n->o->s->Prop}(f:b)(z:d)(F:e)(w:i)(y:j)(a:n)(g:o)(l:s)(h0:c f z F w y a g l)(W:H f z F w y a g l)(C:q f z F w y a g l)(T:p f z F w y a g l)(h:L f z F w y a g l)(t:m f z F w y a g l)(P:v f z F w y a g l)(k:I f z F w y a g l)(K:r f z F w y a g l)(M:R f z F w y a g l):∃f z F w y a g l,c f z F w y a g l/\H f z F w y a g l/\q f z F w y a g l/\p f z F w y a g l/\L f z F w y a g l/\m f z F w y a g l/\v f z F w y a g l/\I f z F w y a g l/\r f z F w y a g l/\R f z F w y a g l:=⟨f,z,F,w,y,a,g,l,h0,W,C,T,h,t,P,k,K,M⟩
theorem bb{b d e i j n o s u A:Type}{c H q p L m v I r R t:b->d->e->i->j->n->o->s->u->A->Prop}{G:Prop}(h:∃f z F w y a g l x S,c f z F w y a g l x S/\H f z F w y a g l x S/\q f z F w y a g l x S/\p f z F w y a g l x S/\L f z F w y a g l x S/\m f z F w y a g l x S/\v f z F w y a g l x S/\I f z F w y a g l x S/\r f z F w y a g l x S/\R f z F w y a g l x S/\t f z F w y a g l x S)(k:∀f z F w y a g l x S,c f z F w y a g l x S->H f z F w y a g l x S->q f z F w y a g l x S->p f z F w y a g l x S->L f z F w y a g l x S->m f z F w y a g l x S->v f z F w y a g l x S->I f z F w y a g l x S->r f z F w y a g l x S->R f z F w y a g l x S->t f z F w y a g l x S->G):G:=h.elim λf h=>h.elim λz h=>h.elim λF h=>h.elim λw h=>h.elim λy h=>h.elim λa h=>h.elim λg h=>h.elim λl h=>h.elim λx h=>h.elim λS h=>k f z F w y a g l x S h.1 h.2.1 h.2.2.1 h.2.2.2.1 h.2.2.2.2.1 h.2.2.2.2.2.1 h.2.2.2.2.2.2.1 h.2.2.2.2.2.2.2.1 h.2.2.2.2.2.2.2.2.1 h.2.2.2.2.2.2.2.2.2.1 h.2.2.2.2.2.2.2.2.2.2
theorem QX{b d e i j n o:Type}{c H q p L m v I r R t Y S A D E:b->d->e->i->j->n->o->Prop}{G:Prop}(h:∃f z F w y a g,c f z F w y a g/\H f z F w y a g/\q f z F w y a g/\p f z F w y a g/\L f z F w y a g/\m f z F w y a g/\v f z F w y a g/\I f z F w y a g/\r f z F w y a g/\R f z F w y a g/\t f z F w y a g/\Y f z F w y a g/\S f z F w y a g/\A f z F w y a g/\D f z F w y a g/\E f z F w y a g)(k:∀f z F w y a g,c f z F w y a g->H f z F w y a g->q f z F w y a g->p f z F w y a g->L f z F w y a g->m f z F w y a g->v f z F w y a g->I f z F w y a g->r f z F w y a g->R f z F w y a g->t f z F w y a g->Y f z F w y a g->S f z F w y a g->A f z F w y a g->D f z F w y a g->E f z F w y a g->G):G:=h.elim λf h=>h.elim λz h=>h.elim λF h=>h.elim λw h=>h.elim λy h=>h.elim λa h=>h.elim λg h=>k f z F w y a g h.1 h.2.1 h.2.2.1 h.2.2.2.1 h.2.2.2.2.1 h.2.2.2.2.2.1 h.2.2.2.2.2.2.1 h.2.2.2.2.2.2.2.1 h.2.2.2.2.2.2.2.2.1 h.2.2.2.2.2.2.2.2.2.1 h.2.2.2.2.2.2.2.2.2.2.1 h.2.2.2.2.2.2.2.2.2.2.2.1 h.2.2.2.2.2.2.2.2.2.2.2.2.1 h.2.2.2.2.2.2.2.2.2.2.2.2.2.1 h.2.2.2.2.2.2.2.2.2.2.2.2.2.2.1 h.2.2.2.2.2.2.2.2.2.2.2.2.2.2.2
theorem Y1{b d e i j n o:Type}{c H q p L m v I r R t Y S A D E:b->d->e->i->j->n->o->Prop}(f:b)(z:d)(F:e)(w:i)(y:j)(a:n)(g:o)(h0:c f z F w y a g)(W:H f z F w y a g)(C:q f z F w y a g)(T:p f z F w y a g)(G:L f z F w y a g)(N:m f z F w y a g)(P:v f z F w y a g)(k:I f z F w y a g)(K:r f z F w y a g)(M:R f z F w y a g)(X:t f z F w y a g)(h:Y f z F w y a g)(l:S f z F w y a g)(x:A f z F w y a g)(s:D f z F w y a g)(u:E f z F w y a g):∃f z F w y a g,c f z F w y a g/\H f z F w y a g/\q f z F w y a g/\p f z F w y a g/\L f z F w y a g/\m f z F w y a g/\v f z F w y a g/\I f z F w y a g/\r f z F w y a g/\R f z F w y a g/\t f z F w y a g/\Y f z F w y a g/\S f z F w y a g/\A f z F w y a g/\D f z F w y a g/\E f z F w y a g:=⟨f,z,F,w,y,a,g,h0,W,C,T,G,N,P,k,K,M,X,h,l,x,s,u⟩
theorem NI{G:Prop}(h:AO=AD):G:=nomatch h
theorem J2{G:Prop}(h:AD=AO):G:=nomatch h
theorem Eb{A:Type}{a:A}{G:Prop}(h:AJ=B a):G:=nomatch h
theorem jc{A:Type}{a:A}{G:Prop}(h:B a=AJ):G:=nomatch h
theorem cNC{A:Type}{a:A}{l:U A}{G:Prop}(h:[]=a::l):G:=nomatch h
theorem di{A:Type}{a:A}{l:U A}{G:Prop}(h:a::l=[]):G:=nomatch h
theorem JZ{A:Type}{a:A}{G:Prop}(h:a∈[]):G:=nomatch h
theorem EC{A:Type}{a:A}{m:∀b,a=b->Prop}(c:m a rfl){b:A}(e:a=b):m b e:=e.rec c
theorem Tb{A:Type}{b:A}{m:∀a,a=b->Prop}(c:m b rfl){a:A}(e:a=b):m a e:=by subst e;exact c
theorem EY{A:Type}{a b:A}(h:B a=B b):a=b:=Af h
theorem nQ{A s:Type}{a x:A}{b y:s}{G:Prop}(h:(a,b)=(x,y))(k:a=x->b=y->G):G:=k (Aq Prod.fst h) (Aq Prod.snd h)
theorem dh{A s C:Type}{a x:A}{b y:s}{c z:C}{G:Prop}(h:(a,b,c)=(x,y,z))(k:a=x->b=y->c=z->G):G:=nQ h λp q=>nQ q (k p)
theorem kO{A:Type}{a b:A}{l m:U A}{G:Prop}(h:a::l=b::m)(k:a=b->l=m->G):G:=k (MG h).1 (MG h).2
@[elab_as_elim]theorem J{A:Sort _}{a:A}{P:A->Prop}{b:A}(h:a=b)(p:P b):P a:=h▸p
@[elab_as_elim]theorem CS{A:Sort _}{a:A}{P:A->Prop}{b:A}(h:b=a)(p:P b):P a:=h▸p
@[elab_as_elim]theorem Iz{a:Prop}{P:Prop->Prop}{b:Prop}(h:a↔b)(p:P b):P a:=propext h▸p
@[elab_as_elim]theorem rwj{a:Prop}{P:Prop->Prop}{b:Prop}(h:b↔a)(p:P b):P a:=propext h▸p
end
section
set_option autoImplicit false
theorem z0{a b:Z}(h0:a+1<=b+1):a<=b:=BZ h0
theorem z1{a:Z}(h0:a<=1000):a<=16777216:=by lia
theorem z2{a b:Z}(h0:a<=b):a<=b:=oK.Pos.Raw.mk_le_mk.mp h0
theorem z3{a b:Z}(h0:a+1<=b):a<=b:=E3 h0
theorem z4{a b:Z}(h0:a<b):a<b+1:=Z.lt_add_right 1 h0
theorem z5{a:Z}:1<=a+1:=Bp 1 a
theorem z7{a:Z}:a<a+1:=ou a
theorem z8{a b c:Z}(h0:a+(c+1)=b):a+1<=b:=by lia
theorem z9{a:Z}(h0:a<=1000):(↑a:O)<(2:O)^63:=by lia
theorem Yv{a b c:Z}(h0:c+b=a+1)(W:b<a):a-b<c:=WR (n:=b) (by rw[Eu (BE W),h0];exact B5 a)
theorem iX{a b:Z}(h0:b<a):a-b+(b+1)=a+1:=Aq Z.succ (Eu (BE h0))
theorem iW{a b:Z}(h0:¬a<b)(W:a<=b):a=b:=by lia
theorem gj{a:Z}(h0:a+1<=64):a<=64:=E3 h0
theorem z16{a b:Z}(h0:a<=b):a<=b+1:=Z.le_add_right_of_le h0
theorem ek{a b c:Z}(h0:a+(b+1)=c):a+1+b=c:=by lia
theorem lY{a b:Z}(h0:¬b<=a):a<=b:=l4 h0
theorem iU{a b c:Z}(h0:a+1<=b+1):a<=b+(c+1):=AA (Gs h0) (As b (c+1))
theorem lW{a b:Z}(h0:a+1<b):a<b:=EU h0
theorem nz{a b:Z}(h0:¬b<a):a<=b:=Bx h0
theorem kL{a b:Z}(h0:a<b+1)(W:a>=b):a=b:=N5 W h0
theorem iT{a b c:Z}(h0:a+(c+1)=b):a<b:=FZ (FG (NN c)) h0
theorem gi{a b:Z}(h0:a+1<=b):a<b:=kC h0
theorem vp{a:Z}:-(2:O)^40<=(↑a:O):=Yq (2^40) a
theorem gh{a b:Z}(h0:a<=b):a+(b-a)=b:=SJ h0
theorem z28:-(2:O)^40<=(0:O):=by decide
theorem z29:(0:O)<=(2:O)^40:=by decide
theorem ny{a:Z}:¬(↑a:O)<(0:O):=O.not_ofNat_neg a
theorem aG{a b:Z}(h0:a<b)(W:b<=1000):a<2^63:=AY h0 (AA W (by decide))
theorem z32{a:Z}(h0:a<=11/\3<=a):a<=1000:=by omega
theorem nv{a b:Z}(h0:a=b):a<b+1:=by lia
theorem nu{a b:Z}(h0:b<a-1):a-1<a:=DP (AY h0 (Cd _ _))
theorem z36{a b:Z}(h0:a<b):a+1+(b-(a+1))=b:=SJ h0
theorem nt{a b:Z}(h0:a<=b):a<b+1:=DA h0
theorem tR{a b:Z}(h0:a<b):a<=b:=z3 h0
theorem tM{a b:Z}(h0:b=a+1):a≠b:=by lia
theorem tL{a:O}(h0:-(2:O)^63<=a)(W:a<(2:O)^63):(-9223372036854775808:O)<=a/\a<(9223372036854775808:O):=⟨h0,W⟩
theorem z41{a:Z}(h0:a<=100):a<=16777216:=by lia
theorem z43{a b:Z}(h0:a<b):a+1<=b:=Z.succ_le_of_lt h0
theorem z47{a:Z}(h0:2<=a):1<=a:=Tj h0
theorem sG{a:Z}(h0:1<=a):1<=a:=Tj h0
theorem z50{a:Z}(h0:a<=0):a=0:=Z.eq_zero_of_le_zero h0
theorem sB{a b:Z}(h0:a>=b-1)(W:a<b):a=b-1:=Cy (G4 W) h0
theorem kK{a b:Z}(h0:a<b):a<b:=gi h0
theorem rh{a b c:Z}(h0:a<c)(W:c<b):a<b:=CC h0 W
theorem lG{a b:Z}(h0:b+1<=a):1<=a:=Tj h0
theorem rZ{a b c:Z}(h0:a+(b+1+1)<c+1):a+(b+1)<c:=eF.mp h0
theorem rU{a b c:Z}(h0:a+1<=b+(c+1+1)):a<=b+(c+1):=z0 h0
theorem rK{a b:Z}(h0:a<b+1):a<=b:=BZ h0
theorem rA{a b c:Z}(h0:b<=c-a)(W:a<=c):a+b<=c:=(Z.le_sub_iff_add_le' W).mp h0
theorem nr{a b:Z}:a<=a+b:=As a b
theorem qe{a:Z}(h0:a<=11/\3<=a):1<=a:=by omega
theorem z63{a:Z}:-(2:O)^63<=(↑a:O):=Yq (2^63) a
theorem q7{a c:Z}{b:O}(h0:((0:O)<=b+(↑a:O)/\b+(↑a:O)<(↑a:O))/\(b+(↑a:O)).toNat=c):-(↑a:O)<=b:=O.zero_sub (a:O)▸O.sub_right_le_of_le_add h0.1.1
theorem pu{b c:Z}{a:O}(h0:((0:O)<=a+(↑b:O)/\a+(↑b:O)<(↑b:O))/\(a+(↑b:O)).toNat=c):(a+(↑b:O)).toNat=c:=h0.2
theorem pj{a:O}(h0:¬a<(0:O)):(0:O)<=a:=Qg.mp h0
theorem pX{b c:Z}{a:O}(h0:((0:O)<=a/\a<(↑c:O))/\a.toNat=b):a.toNat=b:=h0.2
theorem pV{a b c d:Z}(h0:a+30*0+30<d)(W:b+1<=20):a+1+EV b c<d:=An (AA (Av (HG b c) (a+1)) (Ct a 1 b▸Av (AA (CK 1 b▸W) (by decide:20<=30)) a)) h0
theorem z70{a b:Z}:a+1<=a+1-b+b:=F3 (AN _)
theorem pU{a b c:Z}(h0:a<=b-(c+1)):a<=b:=AA h0 (Cd _ _)
theorem z73{a b:Z}(h0:EV a b=0)(W:1<=a/\a<b):Dp:=DR W.1 ((Ck (BE W.2)).symm.trans h0)
theorem pT{a b:Z}(h0:a<=2*b):0+1+1+a<=2*(b+1):=by lia
theorem pQ{a b:Z}(h0:a<=2*b):0+1+a<=2*(b+1):=by lia
theorem z76{a b c:Z}(h0:a<=c)(W:b=c):a<=b:=oH h0 (id (L3 W))
theorem pM{a:Z}:2<=a+2:=Bp 2 a
theorem pL{a b:Z}(h0:a=b)(W:b<64):a<=16777216:=by lia
theorem pK{a b:Z}(h0:a=b)(W:2<=b):2<=a:=oH W (id (L3 h0))
theorem pJ{a:Z}(h0:2<=a):0<a:=kB h0
theorem z81{a:Z}:a<=a+1:=nr
theorem pI{a b c d:Z}(h0:c<=b+1)(W:a=c-(d+1)):a<=b:=W▸AA (I4 (Bp 1 d) c) (eH h0)
theorem pH{a b:Z}(h0:a+1+1<=b):a<=b:=by lia
theorem z88{a b c:Z}(h0:c<=a/\a<c+(b-c)):a<b:=(IP h0.1).mp (I1 h0.1 h0.2)
theorem z90{a b c:Z}:a+b+c=a+(b+c):=Ct a b c
theorem z92{a:Z}:EV 8 a<=8:=HG 8 a
theorem z94{a b:Z}(h0:b<a):0+a-1-b<a:=by rw[ET];exact An (Cd _ _) (DP h0)
theorem z95{a b:Z}(h0:b<=a):¬(0<=a/\a<b):=by omega
theorem z96{a b c:Z}(h0:c<b)(W:b<a):0+a-1-b<0+a-1-c:=BX (AY h0 (G4 (by rw[ET];exact W))) h0
theorem z97{a:Z}(h0:¬a>0):a=0:=Z.eq_zero_of_not_pos h0
theorem pG{a b c:Z}(h0:c<a):0+a-1-b<a:=by rw[ET];exact An (Cd _ _) (DP h0)
theorem z99{a b c:Z}(h0:c<a):a<=a-(b+1)+a-1-c+(b+1):=F3 (eO (G4 (E0 h0 _)))
theorem mQ{a b c d:Z}(h0:a<b\/a=b/\c<d):a<=b:=h0.elim BE λp=>B6 p.1
theorem mP{a b c:Z}(h0:¬a-(b+1)<=c):¬(a-(b+1)<=c/\c<a):=not_and.mpr λd a=>h0 d
theorem mO{a b c:Z}(h0:¬c-(b+1)<=a):a+(b+1)<c:=Oq (EP h0)
theorem mN{a b c d e:Z}(h0:a<c)(W:c<b\/c=b/\d<e):a<b:=W.elim (CC h0) λp=>p.1▸h0
theorem en{a b:Z}(h0:b<1)(W:a<b):Dp:=B8 (AY W (BZ h0)) (Fy a)
theorem mM{a b c:Z}(h0:a+1+b<=c):a+(b+1)<=c:=AA (B6 (by rw[Ev];rfl)) h0
theorem mL{a b c:Z}(h0:a+(b+1)<=c):a+1+b<=c:=by lia
theorem mK{a b c:Z}(h0:a<=b):a<=b-c+c:=AA h0 (F3 (AN _))
theorem mJ{a b c:Z}(h0:a=c)(W:b=c):a=b:=by lia
theorem ig{a b c d:Z}(h0:a=c)(W:c<d)(C:b=d):a<b:=C▸h0▸W
theorem ic{a b c:Z}(h0:c=b)(W:a<c):a<b:=FZ W h0
theorem ia{a b:Z}(h0:b<=a)(W:b>=a):a=b:=Cy W h0
theorem mI{a b c:Z}(h0:c<a/\a<=b):a-1<b:=AY (DP h0.1) h0.2
theorem mH{a b c:Z}(h0:a<b+1)(W:¬(c<a/\a<=b))(C:b-(b-c)=c)(T:¬a=c):a<b:=AY (IY (Bx λh=>W ⟨h,BZ h0⟩) T) (C▸Cd _ _)
theorem iZ{a b:O}(h0:b<a):a-b-(1:O)+(1:O)=(↑(a-b).toNat:O):=(LX (a-b) 1).trans (I6 (SP (SO h0))).symm
theorem iY{a b:O}(h0:¬b<a):(0:O)=(↑(a-b).toNat:O):=Aq I0 (QE (eY (Qg.mp h0))).symm
theorem z116{a:Z}(h0:a<=11/\3<=a):0<a:=by lia
theorem mG{a:Z}:a+1<a+2:=ou (a+1)
theorem mF{a b:Z}(h0:a<b+2)(W:a>=b+1):a=b+1:=N5 W h0
theorem z119{a b c:Z}(h0:c=a+1)(W:b=c+1):a≠b:=by lia
theorem mE{b:Z}{a:O}(h0:a<(0:O)):Ru (0:O) (EV (a+(↑b:O)) (↑b:O))=(↑(a+(↑b:O)).toNat:O):=by rw[nq (DT (Ow (SP h0) _) (O.le_of_eq (O.zero_add _))),O.max_comm];exact(O.ofNat_toNat _).symm
theorem mD{b:Z}{a:O}:Ru (0:O) (EV a (↑b:O))=(↑(EV a.toNat b):O):=by
 rcases O.le_total 0 a with h|h;· obtain⟨n,e⟩:=O.eq_ofNat_of_zero_le h;rw[e,show EV (n:O) (b:O)=((EV n b:Z):O)by omega];exact O.max_eq_right (BS _)
 ·rw[QE h,Z.zero_min,nq (DT h (BS b)),O.max_eq_left h];rfl
theorem mC{a:Z}(h0:a<=0+1):a<=20:=by lia
theorem mB{a b c d:Z}(h0:a+30*0+30<d)(W:b<=20):a+EV b c<d:=An (Av (AA (HG b c) (AA W (by decide:20<=30))) a) h0
theorem mA{a b:Z}(h0:a<=b):a+1<=b+1:=Cg h0 1
theorem m9{a:Z}:(0:O)<=(↑a:O):=BS a
theorem m8{a:Z}:(Ru (0:O) (↑a:O)).toNat=a:=SH a
theorem m7{a:Z}:0+a=a:=ET a
theorem m6{a b:Z}(h0:b>=a):a-b=0:=HT h0
theorem m5{a b:Z}(h0:a<b):a<=b/\¬b-a=0:=⟨BE h0,Z.sub_ne_zero_of_lt h0⟩
theorem m0{a b:Z}(h0:¬b=a)(W:a<=b):a+1<=b:=by lia
theorem z132{a:Z}(h0:a<=1000):1+a<=16777216:=by lia
theorem lz{a b c d:Z}(h0:b<EV d c-a):a+b<c:=AY (En h0) (Db _ _)
theorem ly{a b c:Z}(h0:a<=2*c)(W:c<b)(C:b<=1000000):a<=16777216:=AA h0 (AA (CE 2 (AA (BE W) C)) (by decide))
theorem z139{a b c:Z}(h0:1<=0/\0<c):a=b:=by omega
theorem z140{a:Z}(h0:a<64):a<=16777216:=by lia
theorem lx{a b:Z}(h0:a=b)(W:2<=b):¬a<2:=by lia
theorem lw{a b:Z}(h0:a=b)(W:b<64):a<64:=oG h0 W
theorem z145{a:Z}(h0:a<=1000000):a<=16777216:=by lia
theorem iV{a:Z}(h0:a<=64):a<=1000:=by lia
theorem lv{a:Z}(h0:a<=3):a<=1000:=by lia
theorem lu{a b:Z}(h0:b+1<=64):EV a b<=64:=AA (Db a b) (E3 h0)
theorem lr{a b:Z}(h0:a+1<=64):a<=64+(b+1):=AA (E3 h0) (As 64 (b+1))
theorem z157{a:Z}(h0:a+10=a):Dp:=by lia
theorem lq{a b c d:Z}(h0:b<=c*d)(W:a<=d):a+b<=c*d+d:=AA (B6 (CK a b)) (CR h0 W)
theorem z162{a b:Z}(h0:¬a=b):¬(↑a:O)=(↑b:O):=Z.ToInt.of_diseq rfl rfl h0
theorem ln{a:Z}:a≠a+1:=tM rfl
theorem lm{a b:Z}(h0:b<a):a+1-(b+1)<a+1-b:=BX (Bm h0) (B5 b)
theorem z168{a b:Z}(h0:a+1<b):a<b-1:=KQ h0
theorem ll{a b c:Z}(h0:a-b=c+1):a-(b+1)=c:=Aq Z.pred h0
theorem z170{a b c:Z}(h0:a<=c):a<=b+c:=Nz h0
theorem lj{a b:Z}:a+1+b=a+b+1:=Ev a 1 b
theorem lh{a b:Z}(h0:a+1+1<=b+1):a+1<=b:=BZ h0
theorem lg{a b:Z}(h0:a<b):a≠b/\a≠b+1:=⟨CQ h0,CQ (Bm h0)⟩
theorem lc(h0:92=33):Dp:=by lia
theorem lb(h0:92=94):Dp:=by lia
theorem la(h0:92=91):Dp:=by lia
theorem lZ{a b:Z}(h0:a<=b)(W:b+7<=1000000):0+(0+1+1+1+1+1+1)+a+(0+1)<=2^24:=by lia
theorem lX{a:Z}(h0:a+7<=1000000):0+(0+1+1+1+1)+a+(0+1+1+1)<=2^24:=AA (B6 (by rw[ET,CK 4 a])) (AA h0 (by decide))
theorem we{a b c:Z}:a-(b+c)=a-b-c:=on a b c
theorem wd{a b c d e f:Z}(h0:a<e\/a=e/\c<f)(W:e<b\/e=b/\f<d):a<b\/a=b/\c<d:=h0.elim (λp=>W.elim (λq=>.inl (CC p q)) λq=>.inl (q.1▸p)) λp=>W.elim (λq=>.inl (p.1▸q)) λq=>.inr ⟨p.1.trans q.1,CC p.2 q.2⟩
theorem wc{a b:Z}(h0:a+0=b):¬a<b:=h0▸CI a
theorem wb{a:O}(h0:(0:O)<=a):a=(↑a.toNat:O):=O.eq_natCast_toNat.mpr h0
theorem wa{a:O}(h0:a.toNat<55296):a.toNat<1114112:=AY h0 (by decide)
theorem wZ{a:O}(h0:(0:O)<=a/\a<(16:O)):a.toNat<16:=(aX h0.1).mpr h0.2
theorem wY{a:O}(h0:(0:O)<=a/\a<(1112064:O)):a.toNat+2048<1114112:=(aX h0.1).mpr h0.2|>λh=>AY (Hl h 2048) (by decide)
theorem lV{a:Z}(h0:1<=a):a-1<a:=DP h0
theorem wX{a b c d e:Z}(h0:¬b<a)(W:d=e)(C:c<e):a<b\/a=b/\c<d:=W▸(LS (Bx h0)).elim .inl λp=>.inr ⟨p,C⟩
theorem wW{a b c:Z}(h0:a<c)(W:c<b):a+(0+1)<b:=An h0 W
theorem wV{a b:Z}(h0:b+1>=a):a<=b+(0+1):=z2 h0
theorem wU{a b c:Z}(h0:a-(b+1)<=c/\c<a):a-(b+1)+a-1-c<a:=by rw[kD (An (Ao c) h0.2)];exact An (AA (I4 h0.1 _) (B6 (Cr ..))) (DP h0.2)
theorem wT{a b c:Z}(h0:a<=c):¬(a-(b+1)<=c/\c<a):=by lia
theorem wS{a b c d:Z}(h0:a-(b+1)<=d)(W:d<c):a-(b+1)<=c:=AA h0 (BE W)
theorem wR{a b c:Z}(h0:a+c<b):a<b:=NQ h0
theorem wQ{a b c:Z}(h0:a+30*c+30<b):a<b:=An (AA (As a (30*c)) (As _ 30)) h0
theorem wP{a b c:Z}(h0:a+(b+1)<c):a+b<c:=EU h0
theorem wO{a b c:Z}(h0:a+(b+1)<c):a+1+b<c:=An (B6 (by rw[Ct,CK 1 b])) h0
theorem wN{a b:Z}(h0:a+(0+1)<b+1):a<b:=eF.mp h0
theorem wM{a b c d:Z}(h0:a+d<c)(W:b<=d):a+b<c:=An (Av W a) h0
theorem wL{a b c:Z}(h0:a+30*(b+1)+30<c):a+3+30*b+30<c:=by
 have e:a+3+30*b<=a+30*(b+1):=by rw[Z.mul_succ,Ev,Ct];exact Av (Av (by decide) _) a
 exact An (Cg e 30) h0
theorem wK{a b c:Z}(h0:a+30*(b+1)+30<c):a+1+30*b+30<c:=by
 have e:a+1+30*b<=a+30*(b+1):=by rw[Z.mul_succ,Ev,Ct];exact Av (Av (by decide) _) a
 exact An (Cg e 30) h0
theorem wJ{a b:Z}(h0:a<=b)(W:a≠b):a<b:=IY h0 W
theorem wI{a b c d e f g:Z}(h0:e+1<=f+(0+1))(W:g<e+1)(C:f<g):a=b/\c<d:=B8 (AY C (AA (BZ W) (Gs h0))) (CI f)
theorem wH{a b c d:Z}(h0:a+30*d+30<c)(W:30*b<=30*d):a+30*b+30<c:=An (Cg (Av W a) 30) h0
theorem wG{a b:Z}:¬(a-(b+1)<=a/\a<a):=by lia
theorem wF{a b c d:Z}(h0:d<c)(W:c<a):a-(b+1)+a-1-c<a-(b+1)+a-1-d:=BX (AY h0 (G4 (AY W (Bp a _)))) h0
theorem wE{a b:Z}(h0:b+1<=a+(0+1))(W:a<b+1):a=b:=by lia
theorem wD{a b:Z}(h0:b+1<=a):a-(b+1)<=a-1/\a-1<a:=⟨I4 (Bp 1 b) a,DP h0⟩
theorem lU{a b c d:Z}(h0:a-(b+1)<=c)(W:d<a):a-(b+1)+a-1-c<a:=by rw[kD (An (Ao d) W)];exact An (AA (I4 h0 _) (B6 (Cr ..))) (DP W)
theorem wC{a b:Z}:a<=a-(b+1)+(b+1):=F3 (AN _)
theorem wB{a b:Z}(h0:b+1<=a)(W:b>0):a-(b+1)<a-1:=BX (AY (Jl W) h0) (Jl W)
theorem lT{a b:Z}(h0:b+1<=a):a-1<a:=DP h0
theorem wA{a b:Z}(h0:a+(0+1)<b+1)(W:a>=b-1):a=b-1:=Cy (G4 (Z.lt_of_succ_lt_succ h0)) W
theorem w9{a b c:Z}(h0:a<=b)(W:¬c<b)(C:c<=a):a=b:=Cy h0 (AA (Bx W) C)
theorem w8{a b:Z}:a-(b+1)+a-1-(a-1)=a-(b+1):=by cases a with|zero=>rw[Z.zero_sub]|succ a=>exact Qd ..
theorem w7{a:Z}:¬(0<=a/\a<a):=by omega
theorem w0{a b:Z}(h0:¬a<b)(W:¬b<a):a=b:=by lia
theorem vz{a:Z}(h0:¬a>1)(W:1<=a):a=1:=Cy (Bx h0) W
theorem vw{a b:Z}(h0:a+1<=b):a+1+1<=b+1:=Cg h0 1
theorem vv{a b:Z}:a<=a-1+(b+1):=AA (F3 (AN (a-1))) (Av (Ax (Ao b)) _)
theorem vu{a b c:Z}(h0:b=c)(W:a<c):a<b:=FZ W (id (L3 h0))
theorem vt{a b:Z}:a+1+b=a+(b+1):=Ym a b
theorem vq{a b c d:Z}(h0:b<d+1-c-a):a<=a+b/\a+b+c<=d:=⟨As a b,BZ (Oq (En h0))⟩
theorem lS{a b:Z}:a+(b+1)=a+1+b:=L3 (Ym a b)
theorem lR{a b:Z}(h0:b-a=0)(W:a<=b):a=b:=Cy W (Jf h0)
theorem lQ{a b c d:Z}(h0:a+d<=c)(W:b<=a):a-b<c+1-d-b:=eG W (KQ (DA h0))
theorem vn{a:Z}(h0:0=a+1):Dp:=by lia
theorem vm{a b:Z}(h0:a+1=b+1):a=b:=Oo h0
theorem vl{a b:Z}(h0:0<b\/a=0)(W:b=0):a=0:=by lia
theorem vk{a b c:Z}(h0:a+1=c+1)(W:¬a<b)(C:c<b):Dp:=W (aT h0▸C)
theorem vj{a b c d e:Z}(h0:d+1<e\/a+b=c)(W:d+1=e):a+b=c:=h0.elim (λh=>B8 W (CQ h)) id
theorem vh{a:Z}(h0:¬a=0):0<a:=Z.zero_lt_of_ne_zero h0
theorem vg{a b c:Z}(h0:a+1+b=c):a+(b+1)=c:=by lia
theorem ve{a b c:Z}(h0:a+(c+1+1)=b):a+1<b:=AY (E0 (Jl (NN c)) a) (B6 h0)
theorem vd{a b c:Z}(h0:b<c):a+b<a+c:=E0 h0 a
theorem vZ{a b c:Z}(h0:a+(c+1)<=b):a<b:=NQ h0
theorem vY{a b c:Z}(h0:b=c+1)(W:a<=c):a<b:=h0▸DA W
theorem lP{a b c:Z}(h0:c<=b)(W:a<=c):a<=b:=AA W h0
theorem vX{a b:Z}(h0:b=a):a<=b:=B6 (id (L3 h0))
theorem vW{a b c:Z}(h0:a+c<=b):a<=b:=aU h0
theorem vV{a b c d:Z}(h0:d+b<=c)(W:a<=d):a+b<=c:=AA (Cg W b) h0
theorem vU{a b:Z}(h0:b+1=0):a=0:=by lia
theorem lO{a b:Z}(h0:a+0=b):a=b:=Oo h0
theorem vR{a b c d:Z}:a+b+(c+d)=a+c+(b+d):=Z.add_add_add_comm a b c d
theorem vQ{a b:Z}(h0:a-b<=0)(W:b<=a):a=b:=Cy (Jf (eM.mp h0)) W
theorem vO{a b:Z}(h0:1<=b)(W:a<1):a<b:=AY W h0
theorem vN{a:Z}:a-0<=a:=Cd a 0
theorem vM{a b c:Z}(h0:c<0):a<=b:=by omega
theorem vL{a:Z}:a+1=1+a:=CK a 1
theorem vK{a b c d:Z}(h0:c<=d)(W:d<c):a<b:=by omega
theorem vJ{a b:Z}(h0:¬a<b+1)(W:a=b):1+(1+0)=0:=by lia
theorem vI{a b c:Z}(h0:a<Ru 0 1)(W:c<b):a<b:=AY h0 (Z.max_le.mpr ⟨Ao b,An (Ao c) W⟩)
theorem vH:1+(0+0)=1:=by decide
theorem vG{a:Z}:a=0+a:=L3 (ET a)
theorem vF{a b:Z}(h0:¬a<b+1)(W:a<b):1+(0+0)=0:=by omega
theorem vD{a b:Z}(h0:a<a\/a=a/\b<b):Dp:=by lia
theorem vC{a:Z}:1+a=a+1:=CK 1 a
theorem vB{a b:Z}(h0:¬a<b+1)(W:a=b):0+(1+0)=0:=by omega
theorem vA{a b:Z}:a-b<=a:=Cd a b
theorem v9{a b:Z}(h0:a<b+1)(W:¬a<b)(C:¬a=b):0+(0+0)=1:=B8 (LS (BZ h0)) (λh=>h.elim W C)
theorem v8:0+(0+0)=0:=by decide
theorem v7{a b:Z}(h0:a<b):Ru a 1+(b-Ru a 1)=b:=SJ (Z.max_le.mpr ⟨BE h0,An (Ao a) h0⟩)
theorem v6{a b:Z}(h0:¬a<b)(W:a<=b):a=b:=by lia
theorem v1{a b:Z}(h0:¬a>=b):a<=(a+b)/2:=(da (by decide)).mpr (eJ a▸Av (BE (EP h0)) a)
theorem uz{a b:Z}(h0:b<=a):a-(a-b)=b:=Ti h0
theorem uy{a b c:Z}(h0:¬a>=b)(W:b<=c):(a+b)/2<=c:=AA (BZ (Ax (BE (eP (by rw[Z.two_mul];exact Hl (EP h0) b))))) W
theorem ux{a b c:Z}(h0:b-a<=c+1):(a+b)/2-a<=c:=HS.mpr (BZ ((Z.div_lt_iff_lt_mul (by decide)).mpr (eJ (c+a+1)▸Z.add_lt_add_of_lt_of_le (DA (Bp a c)) (Ev c 1 a▸HS.mp h0))))
theorem lN{a b:Z}(h0:¬a>=b):(a+b)/2+1<=b:=eP (by rw[Z.two_mul];exact Hl (EP h0) b)
theorem uw{a b c:Z}(h0:c-(c-b)=b)(W:c+1<=a):¬a=b:=λe=>B8 (AY W (e▸h0▸Cd _ _)) (CI c)
theorem uv{a b c:Z}(h0:c+1<=b):¬(a<b/\b<=c):=by lia
theorem uu{a b c:Z}(h0:a-b<=c+1):a-((b+a)/2+1)<=c:=HS.mpr (AA (HS.mp ((da (by decide)).mpr (eJ (a-(c+1))▸CR (NP.mpr (HS.mp h0)) (Cd a (c+1))))) (B6 (kF _ c 1)))
theorem iS{a b c:Z}(h0:c<a)(W:c=b):¬a=b:=by lia
theorem ut{a b c:Z}(h0:¬a>=b)(W:b<=c):(a+b)/2<c:=AY (lN h0) W
theorem lM{a b c:Z}(h0:c<b)(W:c=a):a<b:=oG (id (L3 W)) h0
theorem ur{a b c d e:Z}(h0:¬b<c)(W:a<c\/a=c/\d<e):a<=b:=W.elim (λp=>AA (BE p) (Bx h0)) λp=>p.1▸Bx h0
theorem uq{a b c:Z}(h0:c<b)(W:c=a):a<=b-1:=G4 (W▸h0)
theorem uo{a b c:Z}(h0:a<(b+c)/2+1)(W:a>=(b+c)/2):a=(b+c)/2:=N5 W h0
theorem lL{a b c:Z}(h0:a<b+1)(W:c<a):a-1<b:=AY (DP W) (BZ h0)
theorem ul{a b c d:Z}(h0:c<a)(W:b<c/\c<=d):¬a=b:=DR (CC W.1 h0)
theorem uk{a b c d:Z}(h0:c<b)(W:a<c/\c<=d):a<b:=CC W.1 h0
theorem uj{a b c d:Z}(h0:a<b)(W:c<a/\a<=d):a-1<b-1:=eG (An (Ao c) W.1) h0
theorem ui{a b c:Z}(h0:c<b+1)(W:a<c):a<b:=by lia
theorem uh{a b c d e:Z}(h0:a<=b)(W:d=e)(C:c<e):a<b\/a=b/\c<d:=(LS h0).imp_right λe=>⟨e,W▸C⟩
theorem ug{a b c d:Z}(h0:a<b)(W:¬a=c)(C:¬(c<a/\a<=d))(T:c<b/\b<=d):a<b-1:=KQ (An (IY (Bx λh=>C ⟨h,AA (BE h0) T.2⟩) W) T.1)
theorem uf{a b:Z}(h0:¬b<=a):a≠b:=by omega
theorem lK{a b:Z}(h0:a<b)(W:a=b):Dp:=by omega
theorem lJ{a b:Z}(h0:a<b)(W:b<a):Dp:=by omega
theorem lI{a b:Z}:a-b<a+1:=Z.sub_lt_succ a b
theorem ue{a b:Z}(h0:b<a):a≠b:=G3 (CQ h0)
theorem ud{a:Z}(h0:a<1):a=0:=oq.mp h0
theorem uc{a b c d:Z}(h0:c<d\/c=d/\b<a)(W:d<c\/d=c/\a<b):a=b:=h0.elim (λp=>W.elim (λq=>B8 (CC p q) (CI c)) λq=>B8 (q.1▸p) (CI _)) λp=>W.elim (λq=>B8 (p.1▸q) (CI _)) λq=>B8 (CC p.2 q.2) (CI b)
theorem ub{a b c:Z}(h0:c<b)(W:a=c):a<b:=lM h0 (id (L3 W))
theorem ua{a b c d e f:Z}(h0:a<e)(W:e<b\/e=b/\f<d):a<b\/a=b/\c+1<d:=W.elim (λp=>.inl (CC h0 p)) λp=>.inl (p.1▸h0)
theorem uZ{a:Z}(h0:a<2^62):(↑a:O)<(2:O)^63:=by lia
theorem uY{a:Z}(h0:a<2^62):¬(↑a:O)>=(2:O)^63:=by lia
theorem uX{a:Z}:¬(↑a:O)+(1:O)=(0:O):=not_eq_of_beq_eq_false rfl
theorem uW:-(2:O)^63<=(-1:O):=by decide
theorem uV:(-1:O)<(2:O)^63:=by decide
theorem uU{a:O}(h0:a<(2:O)^63):a.toNat<2^63:=(Yp (by decide)).mpr h0
theorem uT{a:Z}(h0:a<2^63):(↑a:O)<(2:O)^63:=O.lt_toNat.mp h0
theorem uS{a:Z}:((0:O)<=(-1:O)+((↑a:O)+(1:O))/\(-1:O)+((↑a:O)+(1:O))<(↑a:O)+(1:O))/\((-1:O)+((↑a:O)+(1:O))).toNat=a:=by
 rw[show(-1:O)+((↑a:O)+1)=a from(SQ ..).trans (O.add_neg_cancel_right ..)];exact⟨⟨BS a,O.lt_add_one_of_le (O.le_refl _)⟩,Dj a⟩
theorem uR{b:Z}{a:O}(h0:a<(0:O)):(a+(↑b:O)).toNat<=b:=O.toNat_le.mpr (O.add_le_of_le_sub_right (SP (by rw[O.sub_self];exact h0)))
theorem uQ{a b c:Z}:EV a b<=b+c:=AA (Db a b) (As b c)
theorem uP{a b c d:Z}(h0:b<d-a)(W:d<=c):a+b<c:=AY (En h0) W
theorem uO{b:Z}{a:O}:EV a.toNat b<=b:=Db a.toNat b
theorem uN{a b c:Z}(h0:b<c-a):a+b<c:=En h0
theorem uM{a b c:Z}(h0:¬b<c-a):¬a+b<c:=λh=>h0 (KQ (CK a b▸h))
theorem uL{a b c:Z}(h0:¬b<a-c):a<=b+c:=F3 (Bx h0)
theorem uK{a b c d:Z}(h0:a<=b)(W:d=a-c)(C:d=b):EV a b-c=b:=by rw[Ck h0,<-W,C]
theorem uJ{a b c:Z}(h0:EV c b-a=b):a=0\/b=0:=(IZ b).elim .inr λhb=>(IZ a).elim .inl λP=>B8 (An (AA (B6 h0.symm) (Z.sub_le_sub_right (Db c b) a)) (iN hb P)) (CI b)
theorem uI{a b c:Z}(h0:EV b a-c=a):a<=b:=AA (B6 h0.symm) (AA (Cd _ _) (HG b a))
theorem uH{a b c:Z}(h0:a<=c)(W:b<=c):Ru a b<=c:=Z.max_le_of_le_of_le h0 W
theorem uG{a b:Z}(h0:a+30*0+30<b):a+1<b:=An (Av (by decide) a) h0
theorem uF{a:Z}{b:O}(h0:a*b.toNat<=2^24):¬a*b.toNat>(2^63-1)/8:=Jm (AA h0 (by decide))
theorem uE{a b:Z}(h0:a+30*0+30<b):a<b:=NQ h0
theorem uD{a:Z}(h0:(↑a:O)<(2:O)^63):¬(↑a:O)>=(2:O)^63:=O.not_le.mpr h0
theorem uC{a:Z}(h0:a<=1114111):(↑a:O)<=(1114111:O):=nh rfl rfl h0
theorem uB{a:O}(h0:(0:O)<a):a-(0:O)-(1:O)+(1:O)=(↑(a-(0:O)).toNat:O):=iZ h0
theorem uA{a:O}(h0:¬(0:O)<a):(0:O)=(↑(a-(0:O)).toNat:O):=iY h0
theorem u9{a:O}(h0:a<=(2:O)^24):(a-(0:O)).toNat<=(2:Z)^24:=by rw[O.sub_zero];exact O.toNat_le.mpr (DT h0 (by decide))
theorem u8{a:Z}(h0:a<=2^30):(↑a:O)<=(2:O)^40:=by lia
theorem u7{a:Z}(h0:a<=1000000):(↑a:O)<=(1000000:O):=nh rfl rfl h0
theorem u6{a b:Z}(h0:EV 1 (b-a)=1):a+1<=b:=BZ (Jl (Z.lt_of_sub_pos (AA (B6 h0.symm) (Db 1 _))))
theorem ty{a b:Z}(h0:b<=a):a+1-b=a-b+1:=Z.sub_add_comm h0
theorem tw{a b c:Z}(h0:c<=a/\a<c+(b-c)):a+1<=b:=(IP h0.1).mp (I1 h0.1 h0.2)
theorem tv{a b:Z}(h0:¬b<=a):a+1-b=0:=HT (EP h0)
theorem tq{a b:Z}(h0:¬b<=a):a-b=0:=HT (ku h0)
theorem tj{a:Z}(h0:2<=a):¬a=1:=iS h0 rfl
theorem ti{a:Z}(h0:¬a<256):¬a=38:=by lia
theorem th{a:Z}(h0:¬a<256):¬a=124:=by lia
theorem te{a b:Z}(h0:a+1<=0+b)(W:b<=a):Dp:=by lia
theorem td{a:Z}(h0:¬a<256):¬a=126:=λe=>h0 (by rw[e];decide)
theorem tZ{a b:Z}:a<a+(b+1):=by lia
theorem tY{a b:Z}(h0:a<=b)(W:b<a):Dp:=CI b (AY W h0)
theorem tX{a b c:Z}(h0:a<b+1+c):a<b+(c+1):=FZ h0 (by rw[Ev];rfl)
theorem tW{a b:Z}(h0:¬b>=a):a-b=a-(b+1)+1:=(Z.succ_pred_eq_of_pos (Lx (EP h0))).symm
theorem tV{a b c:Z}(h0:a+1<=b+1+c):a+1<=b+(c+1):=by lia
theorem tU{a b:Z}(h0:¬a>=b):a+1<=b:=by omega
theorem tT{a b:Z}(h0:¬b<a):a<b\/a-b=0:=.inr (HT (Bx h0))
theorem tS{a b:Z}(h0:a<b):¬a>=b:=kt h0
theorem tQ{a b:Z}(h0:a<=b+1)(W:b<=19):a<=20:=by lia
theorem tP{a b c:Z}(h0:¬b<=a):a<=b-c+c:=AA (BE (EP h0)) (F3 (AN _))
theorem tO{a b:Z}:EV a b<=b:=Db a b
theorem tN{a b c:Z}(h0:a+1+(c+1+1)=b):a+2<b:=AY (E0 (Jl (NN c)) (a+1)) (B6 h0)
theorem tK{a b c:Z}(h0:a<c+(b-c))(W:c<=a):a<b:=(IP W).mp (I1 W h0)
theorem tJ{a b c:Z}(h0:a<=2*c)(W:c<b):a+1<=2*b:=AA (Ax h0) (AA (BH _) (CE 2 W))
theorem tI{a b c d:Z}(h0:b<EV c d-a):a+b<c:=AY (En h0) (HG _ _)
theorem tH{a b:Z}(h0:a<=2*b):a+1<=2*(b+1):=AA (Ax h0) (BH (2*b+1))
theorem tG{a b c d:Z}(h0:c=b)(W:a<d+(c-d))(C:d<=a):a<b:=h0▸(IP C).mp (I1 C W)
theorem tF{a b c d:Z}(h0:b<a)(W:a-d=c)(C:d<=b):a-(b+1)<c:=W▸BX (An C h0) (DA C)
theorem tE{a b c:Z}(h0:c<=1000000):EV (a-b) (c-b)<=16777216:=AA (Db _ _) (AA (Cd c b) (AA h0 (by decide)))
theorem tD{a b c d:Z}(h0:a<=2*d)(W:d<c)(C:c<b)(T:b<=1000000):a<=16777216:=AA h0 (AA (CE 2 (AA (BE (CC W C)) T)) (by decide))
theorem tC{a b:Z}(h0:b<a+0)(W:a<=b):Dp:=by lia
theorem tB{a b c:Z}(h0:a<b+(c+1)):a<b+1+c:=AY h0 (B6 (by rw[Ct,CK 1 c]))
theorem tA{a b:Z}(h0:a<=2*b)(W:b<=1000000):a<=16777216:=by lia
theorem sy{a b:Z}(h0:a<=1000000):a<=16777216+b:=AA h0 (AA (by decide) (As 16777216 b))
theorem sx{a b c d:Z}(h0:c=d)(W:a<d):a<b+(c-b):=AY (h0▸W) (NP.mp (AN _))
theorem sw{a:O}(h0:a<(55296:O)):a.toNat<55296:=(Yp (by decide)).mpr h0
theorem sv{a:O}(h0:¬a<(55296:O)):¬a.toNat<55296:=λh=>h0 ((Yp (by decide)).mp h)
theorem sq{a:O}(h0:a.toNat<55296):a.toNat<=1114111:=by lia
theorem so{a:O}(h0:a<(1112064:O)):a.toNat+2048<=1114111:=by lia
theorem sm{a b c d:Z}(h0:b<d+1-c-a):a+b+c<=d:=BZ (Oq (En h0))
theorem sk{a b c:Z}(h0:a<=1000):a+1<=1001+b+c:=AA (Ax h0) (AA (As 1001 b) (As _ c))
theorem sj{a b c:Z}:((↑a:O)-(↑b:O)+(1:O)-(↑c:O)).toNat=a+(1:Z)-b-c:=by
 rw[Qf (a:=(a:O)) (b:=b),O.add_right_comm,<-Qf,eX];exact(QS (a+1) (b+c)).trans (Om ..).symm
theorem si{a b:Z}(h0:a<=b)(W:b<=1000):(↑a:O)<=(2:O)^40:=by lia
theorem sh{a b:Z}(h0:b<=1000):-(2:O)^40<=(↑a:O)-(↑b:O)+(1:O):=DT (by decide:-(2:O)^40<=0-1000+1) (Ow (O.sub_le_sub (BS a) (Gw.mpr h0)) 1)
theorem sg{a b:Z}(h0:a<=1000):(↑a:O)-(↑b:O)+(1:O)<=(2:O)^40:=DT (Ow (DT (O.sub_le_self _ (BS b)) (Gw.mpr h0)) 1) (by decide)
theorem sf{a b c d:Z}(h0:1<=d/\d<c)(W:a<d):a<b+(c-b):=AY (CC W h0.2) (NP.mp (AN _))
theorem se{a b:Z}(h0:a<b)(W:a=b):Dp:=lK h0 W
theorem sd{a b:Z}(h0:a<b)(W:b<a):Dp:=lJ h0 W
theorem sa{a b:Z}(h0:a<b):a+2<b+2:=Hl h0 2
theorem sZ{a b:Z}(h0:1<=a/\a<b):a=a-1+1:=(Eu h0.1).symm
theorem sY{a b:Z}(h0:a<b):a+1<b+1:=Hl h0 1
theorem sX{a b:Z}(h0:3<=b):3<=a+b:=Nz h0
theorem sW{a b:Z}:a+(b+3)<=a+b+3:=AN (a+(b+3))
theorem sV{a b:Z}:a+(b+3)=a+b+3:=L3 lS
theorem sU{a b:Z}(h0:b<=0)(W:a+1<=b):Dp:=by lia
theorem sS{a b c:Z}(h0:a+1<=c)(W:c<=b+1):a<=b:=by lia
theorem sR{a b c:Z}(h0:a=b)(W:b+(c+1)<64):a<64:=h0▸An (As b (c+1)) W
theorem sQ{a b:Z}(h0:a+(b+1)<64):a+1+b<64:=An (B6 (by rw[Ct,CK 1 b])) h0
theorem sP{a:Z}(h0:a<64):a+1<=16777216+1:=by lia
theorem sO{a:Z}:a+1<=a+2:=BH (a+1)
theorem sN{a b c:Z}(h0:b=c)(W:a=c):a=b:=by lia
theorem sM{a b c:Z}(h0:a=c)(W:c=b)(C:b<64):a<=16777216+1:=BE (AY (h0▸W▸C) (by decide))
theorem sL{a:Z}:(↑a:O)-(0:O)-(1:O)+(1:O)=(↑a:O):=LX (↑a-0) 1
theorem sK{a:Z}(h0:¬(0:O)<(↑a:O)):(0:O)=(↑a:O):=O.le_antisymm (BS a) (O.le_of_not_gt h0)
theorem sJ{a:Z}(h0:a<64):(↑a:O)<=(2:O)^40:=Gw.mpr (AA (BE h0) (by decide))
theorem lH{a:Z}(h0:a<64):a<=2^24:=by lia
theorem sI{a b c:Z}(h0:a+(c+1)=b):a+0<=b:=aV h0
theorem sH{a:Z}(h0:a<4):a=0\/a=1\/a=2\/a=3:=ME.mp h0|>.elim (λh=>ME.mp h|>.elim (λh=>ME.mp h|>.elim (λh=>.inl (oq.mp h)) λh=>.inr (.inl h)) λh=>.inr (.inr (.inl h))) λh=>.inr (.inr (.inr h))
theorem sF{a:Z}(h0:a<=64):a<=65:=Cm h0
theorem sD{a b:Z}(h0:b<=63)(W:a<=3):a-1+b<=1000:=AA (CR (AA (Cd a 1) W) h0) (by decide)
theorem sC{b:Z}{a:O}(h0:a<(↑b:O))(W:b<=1000):a<(2:O)^63:=by lia
theorem sA{b:Z}{a:O}(h0:a<(↑b:O))(W:(0:O)<=a):a.toNat<b:=(aX W).mpr h0
theorem ry{a:Z}(h0:a+10=a+8):Dp:=by lia
theorem rx{a b:Z}(h0:a<b+1):a<b+2:=Bm h0
theorem ru{a:Z}:1<=a+2+1:=Bp 1 (a+2)
theorem rt{a b c:Z}(h0:c<b)(W:a<c):(↑a:O)<(↑b:O):=Bu.mpr (CC W h0)
theorem rq{a b:Z}(h0:a<b):(↑a:O)<(↑b:O):=Bu.mpr h0
theorem rp{a:Z}(h0:a<=11/\3<=a):a<=100:=by lia
theorem rm{a:Z}(h0:a<=6):a<=1000:=by lia
theorem rl{a:Z}(h0:0<a):-(↑a:O)<(0:O):=by omega
theorem rj{a b:Z}:(-(↑a:O)+(↑b:O)).toNat=b-a:=by rw[SQ];exact QS b a
theorem rg{a:Z}(h0:a<100):a<16777216:=AY h0 (by decide)
theorem rY{a:Z}(h0:a<2^20):a<1073741824:=AA (BE h0) (by decide:2^20<=1073741823)|>DA
theorem rX{a b:Z}(h0:a+2<b):a+1<b:=EU h0
theorem rW{a:Z}{b:O}(h0:a-1-b.toNat<1000):¬a-1-b.toNat>=16777216:=Z.not_le.mpr (CC h0 (by decide))
theorem rV{a:Z}:a<=a+2+1:=by lia
theorem rT{a b:O}(h0:a>b):a-b-(1:O)+(1:O)=(↑(a-b).toNat:O):=(LX (a-b) 1).trans (I6 (SP (SO h0))).symm
theorem rS{a b:O}(h0:¬a>b):(0:O)=(↑(a-b).toNat:O):=Aq I0 (QE (eY (Qg.mp h0))).symm
theorem rR{a b:Z}(h0:b<=a):a+1-b+b=a+1:=Eu (Cm h0)
theorem rQ{a b:Z}(h0:b-a=0)(W:a<=b):a=b:=Cy W (Jf h0)
theorem rP{a b c:Z}(h0:b-a=c+1):a<b:=Ny h0
theorem rO{a b:Z}(h0:b<=a)(W:1<=b):1<=a:=AA W h0
theorem rN{a b:Z}(h0:a<=b):a-b=0:=HT h0
theorem rM{a b:Z}(h0:¬b<a):a<=b+1:=l4 h0
theorem rL{a b:Z}(h0:b<a):a-b=a-b-1+1:=(Eu (Lx h0)).symm
theorem lF{a b:Z}(h0:b<a):a-b=a-(b+1)+1:=(Eu (Lx h0)).symm
theorem rJ{a b:Z}(h0:a<=b):EV a b=a:=Ck h0
theorem rI{a b c d:Z}(h0:a+c<=d):a+EV b c<=d:=AA (Av (Db b c) a) h0
theorem rH{a b c d:Z}(h0:c=b+1)(W:d=c+1)(C:a<b):a≠b/\a≠c/\a≠d:=⟨CQ C,h0▸CQ (Bm C),W▸h0▸CQ (Bm (Bm C))⟩
theorem rG{a b:Z}(h0:a<b+(0+1))(W:¬a<b):a=b:=Z.eq_of_lt_succ_of_not_lt h0 W
theorem rF{a b c:Z}(h0:c<=a)(W:b<=c)(C:1<=b):1<=a:=AA C (AA W h0)
theorem rE{a b c:Z}(h0:a-c=b+1):a-1-(b+1-1)=c:=by show a-1-b=c;rw[Om,(dZ (BE (Ny h0))).mp h0,CK b 1];exact Cr ..
theorem rD{a:Z}:a<=a:=AN a
theorem rC{a b:Z}(h0:b<a):¬a=b:=Z.ne_of_lt' h0
theorem rB{a b c:Z}(h0:b=c-1)(W:a<c-1):a<b:=ig rfl W h0
theorem qz{a:Z}:0<a+1:=km a
theorem qy{a b c:Z}(h0:a-c=b+1):a-1-b=c:=by rw[Om,(dZ (BE (Ny h0))).mp h0,CK b 1];exact Cr ..
theorem qx{a:Z}(h0:1<=a):¬a=0:=iS h0 rfl
theorem qw{a b:Z}(h0:a<b-1):a<b-1:=kC h0
theorem qv{a b:Z}(h0:a<b-1):a<b:=Z.lt_of_lt_pred h0
theorem qu{a:Z}(h0:1<=a-1):0<a-1:=kB h0
theorem qt{a b:Z}(h0:2<=a):1<=a-1+b:=AA (eO h0) (As _ b)
theorem qr{a b:Z}(h0:a<b):a≠b:=CQ h0
theorem qq{a b c d e f:Z}(h0:e<=b/\f<=d)(W:a<=e/\c<=f):a<=b/\c<=d:=⟨AA W.1 h0.1,AA W.2 h0.2⟩
theorem qp{a b:Z}(h0:a+1<b):EV a b=a:=by lia
theorem qo{a b c:Z}(h0:a<=2*c)(W:c<=2*b):a<=4*b:=AA h0 (AA (CE 2 W) (B6 (Z.mul_assoc 2 2 b).symm))
theorem qm{a b c d:Z}(h0:b<=4*d)(W:a<=4*c):a+b<=4*(c+d):=AA (CR W h0) (B6 (Z.mul_add 4 c d).symm)
theorem qk{a b:Z}(h0:a<=2*b)(W:b<=1000):a<=20000:=by lia
theorem qj{a b c d:Z}(h0:c=a+b):a+(b+(0+1))<=c+d+1:=AA (B6 (by rw[h0,<-Ct])) (Ax (As c d))
theorem qi{a b c d e:Z}(h0:c<=d+e*b):a+b+c<=a+d+(e*b+b):=AA (Av h0 (a+b)) (B6 (by rw[Ct,Ct,kF b d,CK b]))
theorem qh{a b:Z}:a<=a+b+1:=by lia
theorem qg{a b c d e f:Z}:a+(b-1+(c-1)+d)<=a+(b+(c+d))/\e+(f+1)<=e+(f+1+1):=⟨Av (by rw[<-Ct b c d];exact Cg (CR (Cd b 1) (Cd c 1)) d) a,Av (BH _) e⟩
theorem qf{a b c:Z}(h0:a+c=b):a<=b:=aV h0
theorem qd{a b c d e f:Z}(h0:d<=c)(W:a=e)(C:e+f<=d)(T:b=f):a+b<=c:=W▸T▸AA C h0
theorem qc{a:Z}(h0:a<=1000000):a<=2^24:=by lia
theorem qb{a b:Z}(h0:a<b)(W:b<=1000000):a<2^63:=by lia
theorem qa{a:Z}(h0:a<=999993):a+7<=1000000:=by lia
theorem qZ{a b:Z}(h0:b<a):(0:O)<(↑a:O)-(↑b:O):=SO (Bu.mpr h0)
theorem qY{b:Z}{a:O}:a+((↑b:O)+(1:O))*(1:O)=a+(↑b:O)*(1:O)+(1:O):=by lia
theorem qX{a b:Z}:(↑a:O)-((↑b:O)+(1:O))=(↑a:O)-(↑b:O)-(1:O):=L3 (eX (↑a) (↑b) 1)
theorem qW{a:O}(h0:(0:O)<a):¬a<=(0:O):=O.not_le.mpr h0
theorem qV{a:Z}:((↑a:O)-(1:O)-(-1:O)-(-1:O)-(1:O)).toNat=a:=by rw[O.sub_neg,iR,O.sub_neg,LX];rfl
theorem qU{a b:Z}(h0:b+1<=a):a-1-b<a:=Z.sub_one_sub_lt_of_lt h0
theorem qT{a:Z}(h0:¬(↑a:O)-(1:O)>(-1:O)):l8 (0:O)=a:=by lia
theorem qS{a b:Z}:a-(b+1)=a-1-b:=by lia
theorem qR{a b:Z}:((↑a:O)-(1:O)+(-1:O)*(↑b:O)).toNat=a-(1:Z)-b:=by
 rw[O.neg_mul,O.one_mul,<-Qf,eX];exact(QS a (1+b)).trans (Om a 1 b).symm
theorem qQ{a b:Z}(h0:b+1<=a):a-1-b+1=a-b:=by rw[Om,CK 1 b];exact(lF h0).symm
theorem qP{a b:Z}(h0:a<=b):a<=2*b:=by lia
theorem qO{a b:Z}(h0:a<=2*b)(W:b<=64):a<=400:=AA h0 (AA (CE 2 W) (by decide))
theorem qN{a b c:Z}(h0:a<=c+4)(W:c<=2*b)(C:b<=400):a<=804:=AA h0 (AA (Cg (AA W (CE 2 C)) 4) (by decide))
theorem lE{a b:Z}(h0:a<=b)(W:b<=64):a<=64:=AA h0 W
theorem qM{a:Z}:0+1+(0+1+(a-1))+(0+1)<=a+4:=AA (Cg (Av (Av (Cd a 1) (0+1)) (0+1)) (0+1)) (by
show 1+(1+a)+1<=a+4;rw[<-Ct 1 1 a,CK (1+1) a];exact BH (a+3))
theorem qL{a b c:Z}(h0:c+1<=b+1)(W:a<=c):a<=b:=by lia
theorem qK{a:Z}:0+1+(0+1+a)+(0+1)<=a+4:=by lia
theorem qJ{a:Z}:0+1+a+(0+1)<=a+4:=by lia
theorem qI{a b c d:Z}(h0:b+c=d):a+b+c=a+d:=by rw[Ct,h0]
theorem qH{a b c:Z}(h0:a+c=b):0+1+1+a<=10+b:=AA (B6 (by rw[ET,CK])) (AA (CR (h0▸As a c) (by decide)) (B6 (CK b 10)))
theorem qG{a b c d:Z}(h0:a+d=c)(W:b<=d):0+1+1+1+1+1+1+a+(0+1)+b<=10+c:=by
 rw[<-h0];exact AA (Av W _) (AA (B6 (show 6+a+1+d=7+(a+d)by rw[Ev 6 a 1,Ct])) (Cg (by decide) _))
theorem qF{a b c d e:Z}(h0:b<=e)(W:a+e=c)(C:c<=d*804)(T:d*804<=64*804):0+1+1+1+1+(a+b)+(0+1+1+1)<=100000:=by
 have h:=AA (Av h0 a) (AA (B6 W) (AA C T));exact AA (Cg (Av h 4) 3) (by decide)
theorem qE{a b:Z}(h0:a+1=b):a+1=b:=lO h0
theorem qD{a b:Z}(h0:¬a+1=b):¬a+1=b:=Ne.intro h0
theorem qC{a:Z}(h0:a+1+1=1):Dp:=by lia
theorem qB{a b:Z}(h0:b+1=a):a<=b+1:=B6 (id (L3 h0))
theorem qA{a b:Z}(h0:a=b):a=b:=Oo (congrFun (Aq HAdd.hAdd h0) a)
theorem q9{a b:Z}(h0:¬a=b):¬a=b:=Ne.intro h0
theorem q8{a b:Z}(h0:¬b<=a):a<b:=EP h0
theorem q6{a b c:Z}(h0:c+(0+1+1+a)=b):a<=b:=h0▸AA (Bp a _) (Bp _ c)
theorem q3{a b c d:Z}(h0:c+(0+1+1+1+1+1+1+a+(0+1)+d)=b):a<=b:=h0▸AA (AA (Bp a 6) (AA (As _ 1) (As _ d))) (Bp _ c)
theorem pw{a b:Z}(h0:a<=b)(W:b+7<=1000000):a<=1000000:=by lia
theorem pv{a:Z}:1<=a+1+1+1:=ru
theorem pt{a b:Z}(h0:a+1+1+1<=b):a<=b:=AA (As a 3) h0
theorem lD{a:Z}(h0:a<=1000000):a+(a+1)*2<=16777216:=AA (CR h0 (On 2 (Ax h0))) (by decide)
theorem pr{a b:Z}(h0:b<=a)(W:1<=b):1<=a:=AA W h0
theorem pq{a b:Z}(h0:a<=2*b)(W:b<=1000000):a+(a+1)*2<=16777216:=AA (CR (AA h0 (CE 2 W)) (On 2 (Ax (AA h0 (CE 2 W))))) (by decide)
theorem pn{a b:Z}(h0:b-a=0)(W:a<=b)(C:a≠b):Dp:=C (Cy W (Jf h0))
theorem pk{a b:Z}(h0:a<=b)(W:b+7<=1000000):a<=2^24:=by lia
theorem pg{a b:Z}(h0:a<=b)(W:b+7<=1000000):0+(0+1+1+1+1+1+1)+a<=2^24:=AA (B6 (by rw[ET,CK])) (AA (CR h0 (by decide)) (AA W (by decide)))
theorem pf{a:Z}(h0:a+7<=1000000):a<=1000000:=aU h0
theorem pb{a:Z}(h0:a+7<=1000000):a<=2^24:=by lia
theorem pZ{a:Z}(h0:a+7<=1000000):0+(0+1+1+1+1)+a<=2^24:=AA (B6 (by rw[ET];exact CK 4 a)) (AA (Av (by decide) a) (AA h0 (by decide)))
theorem pY{a b:Z}(h0:b<a):(↑a:O)+(↑b:O)*(-1:O)=(↑(a-b):O):=by rw[O.mul_neg_one];exact(O.natCast_sub (BE h0)).symm
theorem pW{a:Z}:((-1:O)+(↑a:O)).toNat=a-(1:Z):=by rw[SQ];exact QS a 1
theorem pS{a b:Z}(h0:b<=100000/\a<=64):a<=1000000:=by lia
theorem pR{a b:Z}(h0:a<=100000/\b<=64):a<=1000000:=by lia
theorem pP{a b:Z}(h0:3<=b):3<=a+(b+1):=AA h0 (AA (BH b) (Bp _ a))
theorem pO{a b:Z}(h0:¬a<=3):a-(1+b)<a:=iN (An (Ao 3) (EP h0)) (CK 1 b▸NN b)
theorem pN{a b:Z}(h0:¬b+3<a):a-b<=3:=eH (CK b 3▸Bx h0)
theorem Wh{a b:Z}:(a:O)-b<0↔a<b:=⟨λh=>Bu.mp (O.lt_of_sub_neg h),λh=>O.sub_neg_of_lt (Bu.mpr h)⟩
end
open PySem PySem.W PyProof.Rows PySem.Calls
section
set_option genInjectivity false
set_option genSizeOf false
noncomputable def tx(l:U Z):BA:=⟨l.toArray⟩
@[simp]theorem aj(l:U Z):(tx l).cps=l.toArray:=rfl
theorem EL(l:U Z):(tx l).length=l.length:=rfl
theorem We{a b:U Z}(h:tx a=tx b):a=b:=by
 have :=Aq Str.cps h;simpa[tx]using this
noncomputable def fG{X:Type}(s:G1)(f:Dl->U G1->Cw->EQ->X)(k:U G1->Cw->U BA->EQ->X)(d:X):X:=Stmt.casesOn (motive_2:=λM=>X) s (λM a b M M M s M M p=>f a b s p) (λM M M M M M M M M M=>d) (λM M M b M M sc M M st p=>k b sc st p) (λM M=>d) (λM M=>d) (λM M M=>d) (λM M M M M M M=>d) (λM M M M=>d) (λM M M M M=>d) (λM M M M M=>d) (λM M M M M=>d) (λM M M M=>d) (λM M M M=>d) (λM M M=>d) (λM M M=>d) (λM M M=>d) (λM M M=>d) (λM M M M M=>d) (λM M M M M=>d) (λM M M=>d) (λM M=>d) (λM M M M=>d) (λM M=>d) (λM M=>d) (λM M=>d) (λM=>d) (λM=>d) (λM=>d)
theorem MQ{d:iK}(h:Z.beq d.ctorIdx 9=AD:=by rfl):∀S,d≠.fields S:=λS e=>by rw[e]at h;exact Dc h
theorem F7{v:AF}(h:Z.beq v.ctorIdx 0=AD:=by rfl):v≠.none:=λe=>by rw[e]at h;exact Dc h
noncomputable abbrev EJ:=AW->AX Gq
noncomputable def dN(o:Gq):Prop:=o.cls≠.none\/∀S,o.data≠.fields S
noncomputable def MB(G p:EJ):Prop:=∀b o,G b=B o->dN o->p b=B o
theorem MB.refl(G:EJ):MB G G:=λM M e M=>e
theorem MB.trans{G p c:EJ}(a:MB G p)(b:MB p c):MB G c:=λx o e h=>b x o (a x o e h) h
noncomputable def Sr(R:EJ->AF->Prop):Prop:=∀G p v,MB G p->R G v->R p v
set_option genInjectivity true in
inductive V where|none|bool(b:BC)|int(i:O)|str(l:U Z)|list(xs:U V)|tup(xs:U V)|abs(R:EJ->AF->Prop)
noncomputable abbrev BM(S:U AF)(n:Z):Gq:={cls:=.type "list",dict:=AJ,data:=.seq S.toArray n,slots:=#[]}
noncomputable abbrev Qq(S:U AF)(n:Z):Gq:={cls:=.type "tuple",dict:=AJ,data:=.seq S.toArray n,slots:=#[]}
mutual
inductive Rd(G:EJ):V->AF->Prop|none:Rd G .none .none|bool(b:BC):Rd G (.bool b) (.bool b)|int(i:O)(t:Jd):Rd G (.int i) (.int i t)|str(l:U Z)(t:Jd):Rd G (.str l) (.str (tx l) t)|list{xs:U V}{vs:U AF}{a:AW}{n:Z}:G a=B (BM vs n)->C3 G xs vs->Rd G (.list xs) (.ref a)|tup{xs:U V}{vs:U AF}{a:AW}{n:Z}:G a=B (Qq vs n)->C3 G xs vs->Rd G (.tup xs) (.ref a)|abs{R:EJ->AF->Prop}{v:AF}:Sr R->R G v->Rd G (.abs R) v
inductive C3(G:EJ):U V->U AF->Prop|nil:C3 G [] []|cons{d:V}{v:AF}{ds:U V}{vs:U AF}:Rd G d v->C3 G ds vs->C3 G (d::ds) (v::vs)end
noncomputable def Rd.I(G:EJ)(v:AF):V->Prop|.none=>v=.none|.bool b=>v=.bool b|.int i=>∃t,v=.int i t|.str l=>∃t,v=.str (tx l) t|.list xs=>∃S a n,v=.ref a/\G a=B (BM S n)/\C3 G xs S|.tup xs=>∃S a n,v=.ref a/\G a=B (Qq S n)/\C3 G xs S|.abs R=>Sr R/\R G v
theorem Rd.inv{G:EJ}{d:V}{v:AF}(h:Rd G d v):Rd.I G v d:=Rd.casesOn h rfl (λM=>rfl) (λM t=>⟨t,rfl⟩) (λM t=>⟨t,rfl⟩) (λe r=>⟨_,_,_,rfl,e,r⟩) (λe r=>⟨_,_,_,rfl,e,r⟩) λm r=>⟨m,r⟩
noncomputable def C3.I(G:EJ)(S:U AF):U V->Prop|[]=>S=[]|d::u=>∃v k,S=v::k/\Rd G d v/\C3 G u k
theorem C3.inv{G:EJ}{u:U V}{S:U AF}(h:C3 G u S):C3.I G S u:=C3.casesOn h rfl λa b=>⟨_,_,rfl,a,b⟩
theorem Rd.eN{G:EJ}{m:∀v,Rd G .none v->Prop}(AJ:m .none .none){v:AF}(h:Rd G .none v):m v h:=by have e:=h.inv;subst e;exact AJ
theorem Rd.eB{G:EJ}{b:BC}{m:∀v,Rd G (.bool b) v->Prop}(bool:m (.bool b) (.bool b)){v:AF}(h:Rd G (.bool b) v):m v h:=by have e:=h.inv;subst e;exact bool
theorem Rd.eI{G:EJ}{i:O}{m:∀v,Rd G (.int i) v->Prop}(int:∀t,m (.int i t) (.int i t)){v:AF}(h:Rd G (.int i) v):m v h:=by obtain⟨t,e⟩:∃t,v=.int i t:=h.inv;subst e;exact int t
theorem Rd.eS{G:EJ}{l:U Z}{m:∀v,Rd G (.str l) v->Prop}(str:∀t,m (.str (tx l) t) (.str l t)){v:AF}(h:Rd G (.str l) v):m v h:=by obtain⟨t,e⟩:∃t,v=.str (tx l) t:=h.inv;subst e;exact str t
theorem Rd.eL{G:EJ}{xs:U V}{m:∀v,Rd G (.list xs) v->Prop}(list:∀{S a n}(e:G a=B (BM S n))(r:C3 G xs S),m (.ref a) (.list e r)){v:AF}(h:Rd G (.list xs) v):m v h:=by obtain⟨S,a,n,e,p,q⟩:∃S a n,v=.ref a/\G a=B (BM S n)/\C3 G xs S:=h.inv;subst e;exact list p q
theorem Rd.eT{G:EJ}{xs:U V}{m:∀v,Rd G (.tup xs) v->Prop}(tup:∀{S a n}(e:G a=B (Qq S n))(r:C3 G xs S),m (.ref a) (.tup e r)){v:AF}(h:Rd G (.tup xs) v):m v h:=by obtain⟨S,a,n,e,p,q⟩:∃S a n,v=.ref a/\G a=B (Qq S n)/\C3 G xs S:=h.inv;subst e;exact tup p q
theorem Rd.eA{G:EJ}{R:EJ->AF->Prop}{m:∀v,Rd G (.abs R) v->Prop}(abs:∀{v}(a:Sr R)(r:R G v),m v (.abs a r)){v:AF}(h:Rd G (.abs R) v):m v h:=abs h.inv.1 h.inv.2
theorem C3.eN{G:EJ}{m:∀v,C3 G [] v->Prop}(nil:m [] .nil){v:U AF}(h:C3 G [] v):m v h:=by have e:=h.inv;subst e;exact nil
theorem C3.eC{G:EJ}{d:V}{u:U V}{m:∀v,C3 G (d::u) v->Prop}(cons:∀{v S}(a:Rd G d v)(b:C3 G u S),m (v::S) (.cons a b)){v:U AF}(h:C3 G (d::u) v):m v h:=by obtain⟨w,k,e,p,q⟩:∃w k,v=w::k/\Rd G d w/\C3 G u k:=h.inv;subst e;exact cons p q
theorem Rd.sub{G p:EJ}(L:MB G p){d:V}{v:AF}(h:Rd G d v):Rd p d v:=Rd.rec .none .bool .int .str (λe M r=>.list (L _ _ e (.inl (by intro W;cases(W)))) r) (λe M r=>.tup (L _ _ e (.inl (by intro W;cases(W)))) r) (λm r=>.abs m (m _ _ _ L r)) .nil (λM M a b=>.cons a b) h
theorem C3.ind{G:EJ}{P:U V->U AF->Prop}(n:P [] [])(c:∀{d v u S},Rd G d v->C3 G u S->P u S->P (d::u) (v::S)):∀{u:U V}{S:U AF},C3 G u S->P u S:=by
 intro u;induction u with|nil=>intro S h;exact C3.eN (m:=λv M=>P [] v) n h|cons d u I=>intro S h;exact C3.eC (m:=λv M=>P (d::u) v) (λa b=>c a b (I b)) h
theorem C3.sub{G p:EJ}(L:MB G p){u:U V}{S:U AF}(h:C3 G u S):C3 p u S:=h.ind .nil λa M b=>.cons (a.sub L) b
theorem C3.length{G:EJ}{u:U V}{S:U AF}(h:C3 G u S):u.length=S.length:=h.ind (P:=λu S=>u.length=S.length) rfl λM M b=>Aq Z.succ b
theorem C3.get{G:EJ}{u:U V}{S:U AF}(h:C3 G u S):∀{i:Z}{d:V},u[i]?=B d->∃v,S[i]?=B v/\Rd G d v:=h.ind (P:=λu S=>∀{i:Z}{d:V},u[i]?=B d->∃v,S[i]?=B v/\Rd G d v) (λ{_ _}h=>Eb h) λ{e v u S}a _ b{i d}q=>by
 cases i with|zero=>exact AK v rfl (Af q▸a)|succ i=>exact b q
theorem C3.append{G:EJ}{u:U V}{S:U AF}{c:U V}{P:U AF}(h:C3 G u S)(g:C3 G c P):C3 G (u++c) (S++P):=h.ind (P:=λu S=>C3 G (u++c) (S++P)) g λa M b=>.cons a b
theorem C3.drop{G:EJ}{u:U V}{S:U AF}(k:Z)(h:C3 G u S):C3 G (u.drop k) (S.drop k):=h.ind (P:=λu S=>C3 G u S->∀k,C3 G (u.drop k) (S.drop k)) (λh k=>by refine J U.drop_nil (J U.drop_nil h)) (λM q b h k=>by cases k with|zero=>exact h|succ k=>exact b q k) h k
theorem C3.take{G:EJ}{u:U V}{S:U AF}(k:Z)(h:C3 G u S):C3 G (u.take k) (S.take k):=h.ind (P:=λu S=>∀k,C3 G (u.take k) (S.take k)) (λk=>by refine J Yn (J Yn (.nil))) (λa M b k=>by cases k with|zero=>exact .nil|succ k=>exact .cons a (b k)) k
theorem C3.set{G:EJ}{u:U V}{S:U AF}(k:Z){d:V}{v:AF}(h:C3 G u S)(g:Rd G d v):C3 G (u.set k d) (S.set k v):=h.ind (P:=λu S=>∀k,C3 G (u.set k d) (S.set k v)) (λM=>.nil) (λa q b k=>by cases k with|zero=>exact .cons g q|succ k=>exact .cons a (b k)) k
theorem C3.eraseIdx{G:EJ}{u:U V}{S:U AF}(k:Z)(h:C3 G u S):C3 G (u.eraseIdx k) (S.eraseIdx k):=h.ind (P:=λu S=>∀k,C3 G (u.eraseIdx k) (S.eraseIdx k)) (λM=>.nil) (λa q b k=>by cases k with|zero=>exact q|succ k=>exact .cons a (b k)) k
theorem C3.reverse{G:EJ}{u:U V}{S:U AF}(h:C3 G u S):C3 G u.reverse S.reverse:=h.ind (P:=λu S=>C3 G u.reverse S.reverse) .nil λa M b=>by refine J Ly (J Ly (b.append (.cons a .nil)))
noncomputable def Vf(hB:BJ)(b:AW):Prop:=hB.get? b=AJ\/isCodeTable hB b
noncomputable def Bk(hB h h':BJ):Prop:=∀b o,h.get? b=B o->h'.get? b=B o\/(Vf hB b/\o.cls=.none/\∃S Y,o.data=.fields S/\h'.get? b=B {o with data:=.fields (S++Y)})
theorem Bk.of_keep{hB h h':BJ}(k:∀b o,h.get? b=B o->h'.get? b=B o):Bk hB h h':=λb o e=>.inl (k b o e)
theorem Bk.refl(hB h:BJ):Bk hB h h:=.of_keep λM M e=>e
theorem Bk.trans{hB h h' I:BJ}(a:Bk hB h h')(b:Bk hB h' I):Bk hB h I:=by
 intro x o e;refine AC (a x o e) (λz=>(b x o z)) λX=>?_;· refine B7 X λi f G=>Au G λS Y hd z=>AC (b x _ z) (λd=>(.inr ⟨i,f,S,Y,hd,d⟩)) λX=>?_;· refine B7 X λM M G=>Au G λR c W d=>?_;cases(W);exact .inr ⟨i,f,S,Y++c,hd,by refine J d ?_;simp⟩
theorem Bk.get{hB h h':BJ}(g:Bk hB h h'){b:AW}{o:Gq}(e:h.get? b=B o)(f:o.cls≠.none):h'.get? b=B o:=by
 refine AC (g b o e) (λz=>z) λX=>(B7 X λM d M=>B8 d f)
theorem Bk.Gk{hB h h':BJ}(g:Bk hB h h'){b:AW}{o:Gq}(e:h.get? b=B o)(hd:∀S,o.data≠.fields S):h'.get? b=B o:=by
 refine AC (g b o e) (λz=>z) λX=>(B7 X λM M G=>Au G λS M h M=>B8 h (hd S))
theorem Bk.Nc{hB h h':BJ}(g:Bk hB h h'){b:AW}{o:Gq}(e:h.get? b=B o)(f:dN o):h'.get? b=B o:=f.elim (g.get e) (g.Gk e)
theorem Bk.isSome{hB h h':BJ}(g:Bk hB h h'){b:AW}(e:(h.get? b).isSome):(h'.get? b).isSome:=by
 refine Aw (Bt.mp e) λo ho=>?_;focus(refine AC (g b o ho) ?_ ?_;rotate_left;(focus(intro X;refine B7 X λM M G=>Au G λM M M z=>?_));rotate_right;(focus(intro z)))<;>refine J z ?_<;>rfl
theorem Bk.none{hB h h':BJ}(g:Bk hB h h'){b:AW}(e:h'.get? b=AJ):h.get? b=AJ:=by
 cases W:h.get? b with|none=>rfl|some o=>have :=g.isSome (by refine J W ?_;rfl);rw[e]at this;exact J2 this
theorem Bk.push{hB h:BJ}(o:Gq):Bk hB h (h.push o):=.of_keep λM M e=>AR _ e
theorem Ns.grow{hB h h':BJ}(g:Bk hB h h'){a:AW}{m}(x:h.Ns a m):h'.Ns a m:=by
 refine Na x λo es E ho hd r=>bp o es E (g.Gk ho (by refine J hd λM W=>?_;cases(W))) hd r
theorem IsCell.grow{hB h h':BJ}(g:Bk hB h h'){c:AW}{v}(x:h.IsCell c v):h'.IsCell c v:=by
 refine AI x λo ho hd=>AK o (g.Gk ho (by refine J hd λM W=>?_;cases(W))) hd
theorem NoLimit.grow{hB h h':BJ}(g:Bk hB h h')(x:h.NoLimit):h'.NoLimit:=by
 refine AI x λz p K=>AK z (Ns.grow g p) K
noncomputable def fz(X:U AW)(h:BJ):EJ:=λb=>if b∈X then AJ else h.get? b
theorem Al{X:U AW}{h:BJ}{b:AW}{o:Gq}:fz X h b=B o↔b∉X/\h.get? b=B o:=by
 unfold fz;by_cases hb:b∈X<;>simp[hb]
theorem DB{hB h h':BJ}(g:Bk hB h h')(X:U AW):MB (fz X h) (fz X h'):=by
 intro b o e f;rw[Al]at e⊢;exact⟨e.1,g.Nc e.2 f⟩
theorem Ed{X Y:U AW}(L:∀a∈Y,a∈X)(h:BJ):MB (fz X h) (fz Y h):=by
 intro b o e M;rw[Al]at e⊢;exact⟨λK=>e.1 (L b K),e.2⟩
end
section
set_option genInjectivity false
set_option genSizeOf false
structure Cx where
prog:DH
w:Em
hB:BJ
os:OsState
mg:BA->AX AF
mb:BA->AX AF
noncomputable def Kr(h:BJ)(c:AW):Prop:=∃o S,h.get? c=B o/\o.cls=.type "code"/\o.data=.fields S
noncomputable def EX(v:AF):BC:=v==.none||v==.type "code"
noncomputable def Rs(h h':BJ):Prop:=∀b o S,h.get? b=B o->o.data=.fields S->EX o.cls=AO->h'.get? b=B o
theorem CodeRec.H5{h h':BJ}{c:AW}{q:BA}(R:Rs h h')(i:Kr h c)(x:h.CodeRec (.ref c) q):h'.CodeRec (.ref c) q:=by
 refine Cj i λo k ho f hd=>MO x λC o' S t e g r=>?_;cases(e);have  :=Af (g.symm.trans ho);subst this;exact PL _ _ S t rfl (R _ _ _ g hd (by refine J f rfl)) r
structure Ja(hB h:BJ)(ck P:AW)(qn:Z->Z->BA)(ps:Bc AF):Prop where
hd:oa h ck P
tab:h.get? P=B (NM ps)ok:Ye ps.toList
is:Vf hB P
recs:∀pos cv,Ep pos ps.toList=B cv->∃c',cv=.ref c'/\Kr h c'/\h.CodeRec cv (qn pos.line pos.col)
noncomputable def qnC(_ _:Z):BA:="cmp_to_key.<locals>.K"
noncomputable def dg(l _:Z):BA:="cmp_to_key.<locals>.K."++(if l==9 then"__init__"else if l==12 then"__lt__"else if l==15 then"__gt__"else if l==18 then"__eq__"else if l==21 then"__le__"else"__ge__":BA)
noncomputable def KIn(hB h:BJ)(c:AW):Prop:=∃P ps,Ja hB h c P dg ps/\P≠33/\P≠73/\P≠144
noncomputable def Wa(hB h:BJ):Prop:=∃ps,Ja hB h 37 33 qnC ps/\∀pos C,Ep pos ps.toList=B (.ref C)->KIn hB h C
noncomputable def qnT(l _:Z):BA:=if l==101 then"_translate.<locals>.<genexpr>"else"_translate.<locals>.<lambda>"
noncomputable def qnL(_ _:Z):BA:="law.<locals>.<lambda>"
structure JP(hB h:BJ):Prop where
key:Wa hB h
tr:∃ps,Ja hB h 77 73 qnT ps
law:∃ps,Ja hB h 146 144 qnL ps
structure St(c:Cx)(s:AE):Prop where
grow:Bk c.hB c.hB s.heap
os:s.os=c.os
bare:AllBare s.gens
tabs:JP c.hB s.heap
toks:1<=s.toks
structure FD(A:BQ)(n:Z):Prop where
handled:A.handled=AJ
depth:A.depth+n<Ry
units:A.units+30*n+30<cLine
theorem FD.deeper{A:BQ}{n:Z}(g:FD A (n+1))(env:Nx):FD (A.deeper env) n:=⟨g.handled,by have :=g.depth;refine(?_:A.depth+1+n<_);exact wO ‹_›,by have :=g.units;refine(?_:A.units+3+30*n+30<_);exact wL ‹_›⟩
theorem FD.room{A:BQ}{n:Z}(g:FD A n):A.depth<Ry:=by have :=g.depth;exact wR ‹_›
theorem FD.unit{A:BQ}{n:Z}(g:FD A n):A.units<cLine:=by have :=g.units;exact wQ ‹_›
theorem FD.in1{A:BQ}{n:Z}(g:FD A (n+1)):FD A.in1 n:=⟨g.handled,by have :=g.depth;exact wP ‹_›,by have :=g.units;exact wK ‹_›⟩
theorem FD.less{A:BQ}{n m:Z}(g:FD A n)(h:m<=n):FD A m:=⟨g.handled,by have :=g.depth;exact wM ‹_› ‹_›,by have :=g.units;have :30*m<=30*n:=CE _ h;exact wH ‹_› ‹_›⟩
inductive Sl where|v(d:V)|own(a:AW)(xs:U V)
noncomputable abbrev AS:=U (BA×Sl)
noncomputable def AS.put(x:BA)(sl:Sl):AS->AS|[]=>[(x,sl)]|(y,s)::r=>if(y==x)=AO then(y,sl)::r else(y,s)::AS.put x sl r
noncomputable def CT:AS->U AW|[]=>[]|(_,.v _)::r=>CT r|(_,.own a _)::r=>a::CT r
theorem AS.DD(x:BA)(sl:Sl):∀(σ:AS)(y:BA),(AS.put x sl σ).lookup y=if y=x then B sl else σ.lookup y:=by
 intro σ
 induction σ with|nil=>
    intro y;simp only[AS.put,Am,Nq];by_cases h:y=x;·simp[h]
    ·simp[h,BD.mpr h]|cons c r I=>
    rcases c with⟨z,s⟩;intro y;have I:=I y;simp only[AS.put];by_cases H:z=x
    · clear I;subst H;simp only[FR,KH,Am];by_cases h:y=z;·simp[h]
      ·simp[h,BD.mpr h]
    · refine J (Ab (by simpa using H)) (J Am (J Am (J I ?_)));by_cases h:y=z;·subst h;simp[H]
      ·simp[BD.mpr h]
noncomputable def Hd(x:BA):BC:=x.cps[0]?==B 0
noncomputable def kU(env:Nx)(h:BJ)(x:BA)(v:AF):Prop:=(env.kindOf x=B .local/\∃m,h.Ns env.locals m/\m x=B v)\/(env.kindOf x=B .cell/\∃k,env.cells.lookup x=B k/\h.IsCell k (B v))\/((env.kindOf x=B .free/\(x==("__classdict__":BA))=AD)/\∃k,env.cells.lookup x=B k/\h.IsCell k (B v))
noncomputable def At(env:Nx)(h:BJ)(x:BA)(v:AF):Prop:=Hd x=AD->kU env h x v
noncomputable def oF(X:U AW)(h:BJ):Sl->AF->Prop|.v d,v=>Rd (fz X h) d v|.own a xs,v=>v=.ref a/\a∈X/\∃S n,h.get? a=B (BM S n)/\C3 (fz X h) xs S
noncomputable def Lv(h:BJ)(a:AW):Prop:=(h.get? a).isSome=AO/\¬Kr h a
theorem Lv.at{h:BJ}{a:AW}{o:Gq}(e:h.get? a=B o)(hd:EX o.cls=AD\/∀S,o.data≠.fields S):Lv h a:=by
 refine⟨by refine J e rfl,λH=>?_⟩;refine Cj H λo' S z f b=>?_;rw[e]at z;replace z:=EY z;induction z using EC;refine AC hd (λh=>?_) λh=>(h _ b);·rw[f]at h;exact NI h
theorem Lv.keep{h h':BJ}{a:AW}(l:Lv h a)(k:∀o,h.get? a=B o->h'.get? a=B o):Lv h' a:=by
 refine Aw (Bt.mp l.1) λo e=>?_;have z:=k o e;refine⟨by refine J z rfl,λH=>?_⟩;refine Cj H λo' S I f hd=>?_;rw[z]at I;replace I:=EY I;induction I using EC;exact l.2 ⟨o,S,e,f,hd⟩
theorem Lv.same{h h':BJ}{a:AW}(l:Lv h a)(e:h'.get? a=h.get? a):Lv h' a:=l.keep λo q=>e.trans q
theorem Lv.grow{hB h h':BJ}{a:AW}(g:Bk hB h h')(l:Lv h a):Lv h' a:=by
 refine Aw (Bt.mp l.1) λo e=>AC (g a o e) (λz=>(l.keep λo' q=>by rw[e]at q;replace q:=EY q;induction q using EC;exact z)) λX=>?_;· refine B7 X λM f G=>Au G λS Y hd z=>⟨by refine J z ?_;rfl,λH=>?_⟩;refine Cj H λv R I i M=>?_;rw[z]at I;replace I:=EY I;induction I using EC;exact B8 (f.symm.trans i) (by decide)
theorem Lv.ns{h:BJ}{a:AW}{m}(n:h.Ns a m):Lv h a:=by refine Na n λM M M e hd M=>.at e (.inr λS q=>by rw[hd]at q;cases(q))
theorem Lv.cell{h:BJ}{a:AW}{u}(n:h.IsCell a u):Lv h a:=by refine AI n λM e hd=>.at e (.inr λS q=>by rw[hd]at q;cases(q))
structure dO(env:Nx):Prop where
kind:env.scope.kind=.function
glob:env.globals=Cc
bi:env.builtins=CU
structure Pd(env:Nx)(σ:AS)(X:U AW)(h:BJ):Prop where
ok:dO env
ns:∃m,h.Ns env.locals m
cell:∀x k,env.cells.lookup x=B k->∃u,h.IsCell k u
inj:∀x y k,env.cells.lookup x=B k->env.cells.lookup y=B k->x=y
slot:∀x sl,σ.lookup x=B sl->∃v,At env h x v/\oF X h sl v
live:∀a∈X,Lv h a
apart:∀x y a xs ys,σ.lookup x=B (.own a xs)->σ.lookup y=B (.own a ys)->x=y
theorem kU.grow{hB h h':BJ}(g:Bk hB h h'){env:Nx}{x:BA}{v:AF}(a:kU env h x v):kU env h' x v:=by
 refine AC a (λX=>(Aa X λk G=>AI G λm p K=>.inl ⟨k,m,Ns.grow g p,K⟩)) λX=>AC X (λX=>(Aa X λk G=>AI G λc f n=>.inr (.inl ⟨k,c,f,IsCell.grow g n⟩))) λX=>(Aa X λk G=>AI G λc f n=>.inr (.inr ⟨k,c,f,IsCell.grow g n⟩))
theorem At.grow{hB h h':BJ}(g:Bk hB h h'){env:Nx}{x:BA}{v:AF}(a:At env h x v):At env h' x v:=λhg=>(a hg).grow g
theorem oF.grow{hB h h':BJ}(g:Bk hB h h'){X:U AW}{sl:Sl}{v:AF}(a:oF X h sl v):oF X h' sl v:=by
 cases sl with|v d=>exact Rd.sub (DB g X) a|own b xs=>refine B7 a λe hb G=>Au G λS n ho r=>⟨e,hb,S,n,g.get ho F7,C3.sub (DB g X) r⟩
theorem Pd.grow{hB h h':BJ}(g:Bk hB h h'){env:Nx}{σ:AS}{X:U AW}(R:Pd env σ X h):Pd env σ X h' where
 ok:=R.ok
 ns:=by refine Aw R.ns λm p=>⟨m,Ns.grow g p⟩
 cell:=λx k e=>by refine Aw (R.cell x k e) λu i=>⟨u,IsCell.grow g i⟩
 inj:=R.inj
 slot:=λx sl e=>by refine AI (R.slot x sl e) λv a b=>AK v (a.grow g) (b.grow g)
 live:=λa P=>(R.live a P).grow g
 apart:=R.apart
section
variable{M:eD}{A:BQ}{E:AF->AE->Prop}{s:AE}
theorem kU.load{env:Nx}{x:BA}{v:AF}{Q:AF->AE->Prop}(R:env.scope.kind=.function)(a:kU env s.heap x v)(h:Q v s):Aj M A (oU env x) Q E s:=by
 refine AC a (λX=>(Aa X λk G=>AI G λm p K=>GX R k p K h)) λX=>AC X (λX=>(Aa X λk G=>AI G λc f n=>wpAny_loadName_cell R k f n h)) λX=>(Aa X λk G=>AI G λc f n=>wpAny_loadName_free R k.1 f n h k.2)
end
structure Fx where
c:Cx
n:Z
env:Nx
Mu:U AW
Yc:U AW
section
variable(F:Fx)
noncomputable def Fx.Xo(F:Fx):U AW:=F.Mu++F.Yc
noncomputable abbrev Fx.M(F:Fx):eD:=BF F.c.prog F.c.w
noncomputable def Fx.X(F:Fx)(σ:AS):U AW:=F.Xo++CT σ
noncomputable def Gr(F:Fx)(Y:U AW)(s:AE)(Q:V->Prop)(r:AF)(s':AE):Prop:=St F.c s'/\Bk F.c.hB s.heap s'.heap/\∃d,Rd (fz Y s'.heap) d r/\Q d
noncomputable def Rp(F:Fx)(s:AE)(Q:BC->Prop)(r:BC)(s':AE):Prop:=St F.c s'/\Bk F.c.hB s.heap s'.heap/\Q r
noncomputable def nS(F:Fx)(Y:U AW)(s:AE)(Q:U V->Prop)(r:U AF)(s':AE):Prop:=St F.c s'/\Bk F.c.hB s.heap s'.heap/\∃u,C3 (fz Y s'.heap) u r/\Q u
noncomputable def WE(F:Fx)(σ:AS)(Y:U AW)(e:BL)(Q:V->Prop):Prop:=∀A E s,FD A F.n->St F.c s->Pd F.env σ (F.X σ) s.heap->Aj F.M A (Gp e F.env) (Gr F Y s Q) E s
noncomputable def WT(F:Fx)(σ:AS)(e:BL)(Q:BC->Prop):Prop:=∀A E s,FD A F.n->St F.c s->Pd F.env σ (F.X σ) s.heap->Aj F.M A (isTrue e F.env (Gp e F.env)) (Rp F s Q) E s
noncomputable def OV(F:Fx)(σ:AS)(Y:U AW)(es:U BL)(Q:U V->Prop):Prop:=∀A E s pos,FD A F.n->St F.c s->Pd F.env σ (F.X σ) s.heap->Aj F.M A (kX (Fg pos (Bn es F.env))) (nS F Y s Q) E s
end
variable{F:Fx}{σ:AS}{Y:U AW}
theorem WE.mono{e:BL}{Q C:V->Prop}(h:WE F σ Y e Q)(u:∀d,Q d->C d):WE F σ Y e C:=λA E s N j T=>Ad (h A E s N j T) (λr s' X=>by refine B7 X λa b G=>AI G λd m q=>⟨a,b,d,m,u d q⟩) λM M x=>x
theorem WT.mono{e:BL}{Q C:BC->Prop}(h:WT F σ e Q)(u:∀d,Q d->C d):WT F σ e C:=λA E s N j T=>Ad (h A E s N j T) (λr s' X=>by refine B7 X λa b q=>Cf a b (u r q)) λM M x=>x
theorem Kr.H5{h h':BJ}(R:Rs h h'){c:AW}(i:Kr h c):Kr h' c:=by refine Cj i λo S a b d=>Fs o S (R _ _ _ a d (by refine J b rfl)) b d
theorem CodeHd.H5{h h':BJ}(R:Rs h h'){c P:AW}(x:oa h c P):oa h' c P:=by refine bX x λo S f k e l i u z a b d r=>bn o S f k e l i u z (R _ _ _ a d (by refine J b rfl)) b d r
theorem Ja.H5{hB h h':BJ}(R:Rs h h'){ck P:AW}{T:Z->Z->BA}{ps:Bc AF}(t:Ja hB h ck P T ps):Ja hB h' ck P T ps where
 hd:=CodeHd.H5 R t.hd
 tab:=R _ _ _ t.tab rfl rfl
 ok:=t.ok
 is:=t.is
 recs:=λpos cv e=>by refine CF (t.recs pos cv e) λC e1 i r=>F8 C e1 (i.H5 R) (by subst e1;exact CodeRec.H5 R i r)
theorem Wa.H5{hB h h':BJ}(R:Rs h h')(x:Wa hB h):Wa hB h':=by refine AI x λps t r=>AK ps (t.H5 R) (λpos C e=>by refine Au (r pos C e) λP m a n=>FK P m (a.H5 R) n)
theorem JP.H5{hB h h':BJ}(R:Rs h h')(t:JP hB h):JP hB h' where
 key:=t.key.H5 R
 tr:=by refine Aw t.tr λps x=>⟨ps,x.H5 R⟩
 law:=by refine Aw t.law λps x=>⟨ps,x.H5 R⟩
theorem St.keep{c:Cx}{s:AE}{h':BJ}{tk:Z}(S:St c s)(k:∀b o,s.heap.get? b=B o->h'.get? b=B o)(i:s.toks<=tk):St c {s with heap:=h',toks:=tk}:=⟨S.grow.trans (.of_keep k),S.os,S.bare,S.tabs.H5 λb o M e M M=>k b o e,AA S.toks i⟩
noncomputable def Kp(s s':AE):Prop:=SE s s'/\s.toks<=s'.toks
theorem St.keeps{c:Cx}{s s':AE}(S:St c s)(k:Kp s s'):St c s':=by
 refine Aa k λd i=>?_;clear k;refine Au d λh' tk P k=>?_;clear d;subst P;exact S.keep k i
theorem B4{hB:BJ}{s s':AE}(k:Kp s s'):Bk hB s.heap s'.heap:=by
 refine Aa k λd M=>Au d λh' tk H k=>J H (.of_keep k)
theorem Keeps.refl(s:AE):SE s s:=⟨s.heap,s.toks,rfl,λM M e=>e⟩
theorem Keeps.tok(s:AE)(n:Z):SE s {s with toks:=n}:=⟨s.heap,n,rfl,λM M e=>e⟩
theorem Kp.refl(s:AE):Kp s s:=⟨Keeps.refl s,AN _⟩
theorem Kp.tok(s:AE){n:Z}(h:s.toks<=n):Kp s {s with toks:=n}:=⟨Keeps.tok s n,h⟩
theorem Kp.push(s:AE)(o:Gq):Kp s {s with heap:=s.heap.push o}:=⟨⟨_,s.toks,rfl,λM M e=>AR _ e⟩,AN _⟩
theorem Keeps.push(s:AE)(o:Gq):SE s {s with heap:=s.heap.push o}:=⟨_,s.toks,rfl,λM M e=>AR _ e⟩
theorem Gr.of{Q:V->Prop}{s s₁ y:AE}{r:AF}{d:V}(S:St F.c s₁)(g:Bk F.c.hB s.heap s₁.heap)(k:Kp s₁ y)(m:Rd (fz Y y.heap) d r)(q:Q d):Gr F Y s Q r y:=⟨S.keeps k,g.trans (B4 k),d,m,q⟩
theorem Rp.of{Q:BC->Prop}{s s₁ y:AE}{r:BC}(S:St F.c s₁)(g:Bk F.c.hB s.heap s₁.heap)(k:Kp s₁ y)(q:Q r):Rp F s Q r y:=⟨S.keeps k,g.trans (B4 k),q⟩
theorem WE.bind{e:BL}{P:V->Prop}{A:BQ}{E:AF->AE->Prop}{s:AE}{Q:AF->AE->Prop}(h:WE F σ Y e P)(N:FD A F.n)(j:St F.c s)(T:Pd F.env σ (F.X σ) s.heap)(k:∀r s' d,St F.c s'->Bk F.c.hB s.heap s'.heap->Pd F.env σ (F.X σ) s'.heap->Rd (fz Y s'.heap) d r->P d->Q r s'):Aj F.M A (Gp e F.env) Q E s:=Ad (h A E s N j T) (λr s' X=>by refine B7 X λa b G=>AI G λd m q=>k r s' d a b (T.grow b) m q) λM M x=>x
theorem WT.bind{e:BL}{P:BC->Prop}{A:BQ}{E:AF->AE->Prop}{s:AE}{Q:BC->AE->Prop}(h:WT F σ e P)(N:FD A F.n)(j:St F.c s)(T:Pd F.env σ (F.X σ) s.heap)(k:∀r s',St F.c s'->Bk F.c.hB s.heap s'.heap->Pd F.env σ (F.X σ) s'.heap->P r->Q r s'):Aj F.M A (isTrue e F.env (Gp e F.env)) Q E s:=Ad (h A E s N j T) (λr s' X=>by refine B7 X λa b q=>k r s' a b (T.grow b) q) λM M x=>x
theorem OV.bind{es:U BL}{P:U V->Prop}{A:BQ}{E:AF->AE->Prop}{s:AE}{pos:EQ}{Q:U AF->AE->Prop}(h:OV F σ Y es P)(N:FD A F.n)(j:St F.c s)(T:Pd F.env σ (F.X σ) s.heap)(k:∀r s' u,St F.c s'->Bk F.c.hB s.heap s'.heap->Pd F.env σ (F.X σ) s'.heap->C3 (fz Y s'.heap) u r->P u->Q r s'):Aj F.M A (kX (Fg pos (Bn es F.env))) Q E s:=Ad (h A E s pos N j T) (λr s' X=>by refine B7 X λa b G=>AI G λd m q=>k r s' d a b (T.grow b) m q) λM M x=>x
theorem E9{x:BA}{pos:EQ}{d:V}{Q:V->Prop}(D:σ.lookup x=B (.v d))(K:∀a∈Y,a∈F.X σ)(q:Q d)(hd:(x==("__debug__":BA))=AD:=by decide)(hg:Hd x=AD:=by decide):WE F σ Y (.Name x pos) Q:=by
 intro A E s N j T;refine AI (T.slot x _ D) λv a r=>Gn ((a hg).load T.ok.kind ⟨j,.refl _ _,d,Rd.sub (Ed K _) r,q⟩) hd
theorem Di{x:BA}{pos:EQ}{b:AW}{xs:U V}{Q:V->Prop}(D:σ.lookup x=B (.own b xs))(K:∀a∈Y,a∈F.X σ)(hb:b∉Y)(q:Q (.list xs))(hd:(x==("__debug__":BA))=AD:=by decide)(hg:Hd x=AD:=by decide):WE F σ Y (.Name x pos) Q:=by
 intro A E s N j T;refine DU (T.slot x _ D) λv a P M G=>Au G λS n ho r=>?_;subst P;exact Gn ((a hg).load T.ok.kind ⟨j,.refl _ _,_,.list (Al.mpr ⟨hb,ho⟩) (C3.sub (Ed K _) r),q⟩) hd
theorem XX{i:O}{k:Z}{pos:EQ}{Q:V->Prop}(q:Q (.int i)):WE F σ Y (.Constant (.int i) k pos) Q:=λA E s N j T=>wpAny_Constant_int (Gr.of j (.refl _ _) (Kp.tok _ (BH _)) (.int _ _) q)
theorem gV{b:BC}{k:Z}{pos:EQ}{Q:V->Prop}(q:Q (.bool b)):WE F σ Y (.Constant (.bool b) k pos) Q:=λA E s N j T=>wpAny_Constant_bool (Gr.of j (.refl _ _) (Kp.refl _) (.bool _) q)
theorem gT{k:Z}{pos:EQ}{Q:V->Prop}(q:Q .none):WE F σ Y (.Constant .none k pos) Q:=λA E s N j T=>wpAny_Constant_none (Gr.of j (.refl _ _) (Kp.refl _) .none q)
theorem dF{x:BA}{k:Z}{pos:EQ}{Q:V->Prop}(q:Q (.str x.cps.toList)):WE F σ Y (.Constant (.str x) k pos) Q:=λA E s N j T=>FA (Gr.of j (.refl _ _) (Kp.tok _ (BH _)) (by
have :x=tx x.cps.toList:=by clear q;cases(x);rfl
conv=>arg 3;rw[this]
exact .str _ _) q)
theorem Er{Q:U V->Prop}(q:Q []):OV F σ Y [] Q:=λA E s pos N j T=>GI ⟨j,.refl _ _,[],.nil,q⟩
theorem Cz{e:BL}{es:U BL}{Q:U V->Prop}(h:WE F σ Y e λd=>OV F σ Y es λu=>Q (d::u))(he:∀env,Bn (e::es) env=(AD,Gp e env)::Bn es env:=by intro env;rfl):OV F σ Y (e::es) Q:=by
 intro A E s pos N j T;refine Fl (h.bind N j T λr s₁ d D w G a C=>?_) (he _);refine C.bind N D G λb y u g z t c q=>⟨g,w.trans z,d::u,.cons (Rd.sub (DB z _) a) c,q⟩
noncomputable def Hf(Y:U AW)(h:BJ):Prop:=∀a∈Y,Lv h a
theorem Hf.fresh{Y:U AW}{h:BJ}(l:Hf Y h){a:AW}(P:h.get? a=AJ):a∉Y:=λK=>by have :=(l a K).1;rw[P]at this;exact J2 this
theorem Hf.size{Y:U AW}{h:BJ}(l:Hf Y h):h.objs.size∉Y:=l.fresh (by
cases e:h.get? h.objs.size with|none=>rfl|some o=>exact B8 (Bg e) (CI _))
theorem Hf.grow{hB:BJ}{Y:U AW}{h h':BJ}(l:Hf Y h)(g:Bk hB h h'):Hf Y h':=λa P=>(l a P).grow g
theorem Pd.Ft{X:U AW}{h:BJ}(R:Pd F.env σ X h)(K:∀a∈Y,a∈X):Hf Y h:=λa P=>R.live a (K a P)
noncomputable def Xc(c:Cx)(s:AE)(t:Sem AF)(P:AF->AE->Prop):Prop:=∀A E,FD A 0->Aj (BF c.prog c.w) A t (λr s'=>SE s s'/\P r s') E s
noncomputable def HR(c:Cx)(u:IM)(a b d:V):Prop:=∀Y s m I,St c s->Hf Y s.heap->Rd (fz Y s.heap) a m->Rd (fz Y s.heap) b I->Xc c s (binaryOp u m I) λr s'=>Rd (fz Y s'.heap) d r
theorem Lj{l r:BL}{u:IM}{pos:EQ}{Q:V->Prop}(K:∀a∈Y,a∈F.X σ)(h:WE F σ Y l λa=>WE F σ Y r λb=>∃d,HR F.c u a b d/\Q d):WE F σ Y (.BinOp l u r pos) Q:=by
 intro A E s N j T;refine wpAny_BinOp (h.bind N j T λc s₁ a D w G L C=>C.bind N D G λI y b g z t e H=>?_);refine AI H λd ok q=>Ad (CM (ok Y y c I g (t.Ft K) (Rd.sub (DB z _) L) e A E (N.less (Ao _)))) (λx W X=>by refine B7 X λi k m=>Gr.of g (w.trans z) ⟨k,i⟩ m q) λM M x=>x.2
noncomputable def Bv(c:Cx)(u:Lw)(a b:V)(r:BC):Prop:=∀s m I,St c s->Rd s.heap.get? a m->Rd s.heap.get? b I->Xc c s (compareOp u m I) λv M=>v=.bool r
theorem JN{Y:U AW}{h:BJ}:MB (fz Y h) h.get?:=by
 intro b o e M;exact(Al.mp e).2
theorem XY{l r:BL}{u:Lw}{pos:EQ}{Q:V->Prop}(h:WE F σ F.Xo l λa=>WE F σ F.Xo r λb=>∃d,Bv F.c u a b d/\Q (.bool d))(K:Ui u r=AD:=by with_unfolding_all rfl):WE F σ Y (.Compare l [u] [r] pos) Q:=by
 intro A E s N j T;refine wpAny_Compare1 (h.bind N j T λm s₁ a D w G L C=>C.bind N D G λI y b g z t X H=>?_) K;refine AI H λd ok q=>Ad (CM (ok y m I g (Rd.sub (JN) (Rd.sub (DB z _) L)) (Rd.sub JN X) A E (N.less (Ao _)))) (λx W H=>?_) λM M x=>x.2;refine B7 H λi k e=>J e (Gr.of g (w.trans z) ⟨k,i⟩ (.bool _) q)
theorem Kq{l r:BL}{u:Lw}{pos:EQ}{Q:BC->Prop}(h:WE F σ F.Xo l λa=>WE F σ F.Xo r λb=>∃d,Bv F.c u a b d/\Q d)(K:Ui u r=AD:=by with_unfolding_all rfl):WT F σ (.Compare l [u] [r] pos) Q:=by
 intro A E s N j T;refine na (h.bind N j T λm s₁ a D w G L C=>C.bind N D G λI y b g z t X H=>?_) K;refine AI H λd ok q=>Ad (CM (ok y m I g (Rd.sub (JN) (Rd.sub (DB z _) L)) (Rd.sub JN X) A E (N.less (Ao _)))) (λx W H=>?_) λM M x=>x.2;refine B7 H λi k e=>J e (KN (Rp.of g (w.trans z) ⟨k,i⟩ q))
noncomputable def FM(c:Cx)(a:V)(r:BC):Prop:=∀s m A E,FD A 0->St c s->Rd s.heap.get? a m->Aj (BF c.prog c.w) A (truthy m) (λb s'=>SE s s'/\b=r) E s
theorem H9{e:BL}{Q:BC->Prop}(h:WE F σ F.Xo e λa=>∃b,FM F.c a b/\Q b)(he:∀env c,isTrue e env c=(do let v<-c;WH e.pos;kb [v] (truthy v)):=by intro M M;rfl):WT F σ e Q:=by
 intro A E s N j T;refine wpAny_isTrue_value (h.bind N j T λm s₁ a D w G L H=>?_) (he _ _);refine AI H λb ok q=>Ad (CM (ok s₁ m A E (N.less (Ao _)) D (Rd.sub JN L))) (λx y X=>by refine B7 X λi k e=>by refine J e (Rp.of D w ⟨k,i⟩ q)) λM M x=>x.2
theorem UY{e:BL}{pos:EQ}{Q:BC->Prop}(h:WT F σ e λb=>Q (!b)):WT F σ (.UnaryOp .Not e pos) Q:=by
 intro A E s N j T;exact wpAny_isTrue_Not (h.bind N j T λb s₁ D w M q=>⟨D,w,q⟩)
theorem jj{e:BL}{pos:EQ}{Q:V->Prop}(h:WE F σ F.Xo e λa=>∃b,FM F.c a b/\Q (.bool (!b))):WE F σ Y (.UnaryOp .Not e pos) Q:=by
 intro A E s N j T;refine wpAny_UnaryOp (h.bind N j T λm s₁ a D w G L H=>?_);refine AI H λb ok q=>not_of (Ad (CM (ok s₁ m A E (N.less (Ao _)) D (Rd.sub JN L))) (λx y X=>by refine B7 X λi k e=>by refine J e (Gr.of D w ⟨k,i⟩ (.bool _) q)) λM M x=>x.2)
noncomputable def Pb(F:Fx)(σ:AS)(u:BoolOp)(es:U BL)(Q:BC->Prop):Prop:=∀A E s,FD A F.n->St F.c s->Pd F.env σ (F.X σ) s.heap->Aj F.M A (allTrue u es F.env) (Rp F s Q) E s
theorem DQ{u:BoolOp}{es:U BL}{pos:EQ}{Q:BC->Prop}(h:Pb F σ u es Q):WT F σ (.BoolOp u es pos) Q:=λA E s N j T=>wpAny_isTrue_BoolOp (h A E s N j T)
theorem Ue{Q:BC->Prop}(q:Q AO):Pb F σ .And [] Q:=λA E s N j T=>wpAny_allTrue_And_nil ⟨j,.refl _ _,q⟩
theorem WA{Q:BC->Prop}(q:Q AD):Pb F σ .Or [] Q:=λA E s N j T=>wpAny_allTrue_Or_nil ⟨j,.refl _ _,q⟩
theorem WB{e:BL}{es:U BL}{Q:BC->Prop}(h:WT F σ e λb=>(b=AO->Pb F σ .And es Q)/\(b=AD->Q AD)):Pb F σ .And (e::es) Q:=by
 intro A E s N j T;refine wpAny_allTrue_And_cons (h.bind N j T λb s₁ D w G H=>?_);refine Aa H λq1 u=>?_;clear H;cases b with|true=>exact Ad (q1 rfl A E s₁ N D G) (λb y X=>by refine B7 X λa g q=>Cf a (w.trans g) q) λM M x=>x|false=>exact Cf D w (u rfl)
theorem YV{e:BL}{es:U BL}{Q:BC->Prop}(h:WT F σ e λb=>(b=AD->Pb F σ .Or es Q)/\(b=AO->Q AO)):Pb F σ .Or (e::es) Q:=by
 intro A E s N j T;refine wpAny_allTrue_Or_cons (h.bind N j T λb s₁ D w G H=>?_);refine Aa H λq1 u=>?_;clear H;cases b with|false=>exact Ad (q1 rfl A E s₁ N D G) (λb y X=>by refine B7 X λa g q=>Cf a (w.trans g) q) λM M x=>x|true=>exact Cf D w (u rfl)
theorem W8{t b o:BL}{pos:EQ}{Q:V->Prop}(h:WT F σ t λc=>(c=AO->WE F σ Y b Q)/\(c=AD->WE F σ Y o Q)):WE F σ Y (.IfExp t b o pos) Q:=by
 intro A E s N j T;refine wpAny_IfExp (h.bind N j T λc s₁ D w G H=>?_);refine Aa H λq1 u=>?_;clear H;cases c with|true=>exact(q1 rfl).bind N D G λr y d g z M m q=>⟨g,w.trans z,d,m,q⟩|false=>exact(u rfl).bind N D G λr y d g z M m q=>⟨g,w.trans z,d,m,q⟩
end
section
set_option genInjectivity false
set_option genSizeOf false
inductive Ha where|next|brk|cont|ret(d:V)
structure FX(F:Fx)(h₀:BJ)(σ:AS)(s:AE):Prop where
st:St F.c s
rep:Pd F.env σ (F.X σ) s.heap
grow:Bk F.c.hB h₀ s.heap
base:Bk F.c.hB F.c.hB h₀
fresh:∀b,b∈F.Mu\/b∈CT σ->h₀.get? b=AJ
noncomputable def Nh(F:Fx)(s:AE)(L:Flow)(o:Ha):Prop:=L.casesOn (o.casesOn Nt Dp Dp λM=>Dp) (o.casesOn Dp Nt Dp λM=>Dp) (o.casesOn Dp Dp Nt λM=>Dp) λv=>o.casesOn Dp Dp Dp λd=>Rd (fz F.Xo s.heap) d v
noncomputable def J9(hB:BJ)(s:U AW)(h h':BJ):Prop:=∀b o,b∉s->h.get? b=B o->h'.get? b=B o\/(Vf hB b/\o.cls=.none/\∃S Y,o.data=.fields S/\h'.get? b=B {o with data:=.fields (S++Y)})
theorem Bk.mU{hB h h':BJ}(g:Bk hB h h')(s:U AW):J9 hB s h h':=λb o M e=>g b o e
theorem J9.trans{hB h h' I:BJ}{s g:U AW}(a:J9 hB s h h')(b:J9 hB g h' I)(L:∀x∈g,x∈s\/h.get? x=AJ):J9 hB s h I:=by
 intro x o D e;have m:=λK=>by
  refine AC (L x K) (λh=>(D h)) λh=>?_;·rw[h]at e;exact Eb e
 refine AC (a x o D e) (λz=>(b x o m z)) λX=>?_;· refine B7 X λi f G=>Au G λS Y hd z=>AC (b x _ m z) (λd=>(.inr ⟨i,f,S,Y,hd,d⟩)) λX=>?_;· refine B7 X λM M G=>Au G λR c W d=>?_;cases(W);exact .inr ⟨i,f,S,Y++c,hd,by refine J d ?_;simp⟩
theorem J9.get{hB h h':BJ}{s:U AW}(g:J9 hB s h h'){b:AW}{o:Gq}(e:h.get? b=B o)(hb:b∉s)(f:o.cls≠.none):h'.get? b=B o:=by
 refine AC (g b o hb e) (λz=>z) λX=>(B7 X λM d M=>B8 d f)
theorem J9.Nc{hB h h':BJ}{s:U AW}(g:J9 hB s h h'){b:AW}{o:Gq}(e:h.get? b=B o)(hb:b∉s)(f:dN o):h'.get? b=B o:=by
 refine AC (g b o hb e) (λz=>z) λX=>(B7 X λM d G=>Au G λS M hd M=>AC f (λh=>(B8 d h)) λh=>(B8 hd (h _)))
structure CZ(F:Fx)(σ σ':AS)(s s':AE):Prop where
grow:J9 F.c.hB (F.Mu++CT σ) s.heap s'.heap
own:∀b∈CT σ',b∈CT σ\/s.heap.get? b=AJ
theorem CZ.DO{F:Fx}{σ:AS}{s s':AE}(g:Bk F.c.hB s.heap s'.heap):CZ F σ σ s s':=⟨g.mU _,λM h=>.inl h⟩
theorem CZ.refl(F:Fx)(σ:AS)(s:AE):CZ F σ σ s s:=.DO (.refl _ _)
theorem J9.none{hB h h':BJ}{s:U AW}(g:J9 hB s h h'){b:AW}(hb:b∉s)(e:h'.get? b=AJ):h.get? b=AJ:=by
 cases W:h.get? b with|none=>rfl|some o=>focus(refine AC (g b o hb W) ?_ ?_;rotate_left;(focus(intro X;refine B7 X λM M G=>Au G λM M M z=>?_));rotate_right;(focus(intro z)))<;>(rw[z]at e;exact jc e)
theorem FX.X9{F:Fx}{h₀:BJ}{σ:AS}{s:AE}(T:FX F h₀ σ s){x:AW}(D:x∈F.Mu):s.heap.get? x≠AJ:=λe=>by
 have :=(T.rep.live x (Ak _ (Ak _ D))).1;rw[e]at this;exact J2 this
theorem CZ.trans{F:Fx}{h₀:BJ}{σ σ₁ l:AS}{s s₁ y:AE}(T:FX F h₀ σ₁ s₁)(a:CZ F σ σ₁ s s₁)(b:CZ F σ₁ l s₁ y):CZ F σ l s y:=by
  refine⟨a.grow.trans b.grow λx D=>(AC (Ai.mp D) (λh=>(.inl (Ak _ h))) λh=>((a.own x h).imp (Ac _) id)),λx D=>?_⟩
  · refine AC (b.own x D) (λh=>(a.own x h)) λh=>?_
    · by_cases K:x∈CT σ;·exact .inl K
      · by_cases A:x∈F.Mu;·exact B8 h (T.X9 A)
        ·exact .inr (a.grow.none (by simp[K,A]) h)
noncomputable def Ob(F:Fx)(h₀:BJ)(σ:AS)(s:AE)(Q:Ha->AS->Prop)(L:Flow)(s':AE):Prop:=∃C σ',FX F h₀ σ' s'/\CZ F σ σ' s s'/\Nh F s' L C/\Q C σ'
noncomputable def W1(F:Fx)(h₀:BJ)(σ:AS)(st:G1)(Q:Ha->AS->Prop):Prop:=∀A E s,FD A F.n->FX F h₀ σ s->Aj F.M A (exec st F.env) (Ob F h₀ σ s Q) E s
noncomputable def WS(F:Fx)(h₀:BJ)(σ:AS)(c:U G1)(Q:Ha->AS->Prop):Prop:=∀A E s,FD A F.n->FX F h₀ σ s->Aj F.M A (execs c F.env) (Ob F h₀ σ s Q) E s
variable{F:Fx}{h₀:BJ}{σ:AS}{Y:U AW}
theorem FX.next{s s':AE}(T:FX F h₀ σ s)(S:St F.c s')(g:Bk F.c.hB s.heap s'.heap):FX F h₀ σ s':=⟨S,T.rep.grow g,T.grow.trans g,T.base,T.fresh⟩
theorem WS.mono{c:U G1}{Q C:Ha->AS->Prop}(h:WS F h₀ σ c Q)(u:∀o σ',Q o σ'->C o σ'):WS F h₀ σ c C:=λA E s N V=>Ad (h A E s N V) (λL s' X=>by refine Dg X λo σ' a m b q=>Dm o σ' a m b (u o σ' q)) λM M x=>x
theorem W1.mono{st:G1}{Q C:Ha->AS->Prop}(h:W1 F h₀ σ st Q)(u:∀o σ',Q o σ'->C o σ'):W1 F h₀ σ st C:=λA E s N V=>Ad (h A E s N V) (λL s' X=>by refine Dg X λo σ' a m b q=>Dm o σ' a m b (u o σ' q)) λM M x=>x
theorem Ng{Q:Ha->AS->Prop}(q:Q .next σ):WS F h₀ σ [] Q:=λA E s N V=>Ez ⟨.next,σ,V,.refl _ _ _,Bl,q⟩
noncomputable def Then(F:Fx)(h₀:BJ)(R:U G1)(Q:Ha->AS->Prop):Ha->AS->Prop|.next,σ'=>WS F h₀ σ' R Q|o,σ'=>Q o σ'
theorem FL{st:G1}{R:U G1}{Q:Ha->AS->Prop}(h:W1 F h₀ σ st (Then F h₀ R Q)):WS F h₀ σ (st::R) Q:=by
 intro A E s N V;refine CH (Ad (h A E s N V) (λL s' H=>?_) λM M x=>x);refine Dg H λo σ' T m r q=>?_;clear H;cases(L)<;>cases(o)<;>simp only[Nh]at r<;>try exact r.elim
 ·exact Ad (q A E s' N T) (λL y X=>by refine Dg X λo l Y k p a=>Dm o l Y (m.trans T k) p a) λM M x=>x
 ·exact Dm .brk σ' T m Bl q
 ·exact Dm .cont σ' T m Bl q
 ·exact Dm (.ret _) σ' T m r q
theorem FX.gm{s:AE}{b:AW}{o:Gq}{h':BJ}{tk:Z}(T:FX F h₀ σ s)(hb:h₀.get? b=AJ)(ho:s.heap.get? b=B o)(hd:∀S,o.data≠.fields S)(L:∀x,x≠b->h'.get? x=s.heap.get? x)(i:s.toks<=tk):St F.c {s with heap:=h',toks:=tk}/\Bk F.c.hB h₀ h':=by
 have l:∀(h:BJ),Bk F.c.hB h s.heap->h.get? b=AJ->Bk F.c.hB h h':=by
  intro h g p x o' e;have D:x≠b:=λq=>by rw[q,p]at e;exact Eb e
  refine J (L x D) (g x o' e)
 refine⟨⟨l _ T.st.grow (T.base.none hb),T.st.os,T.st.bare,T.st.tabs.H5 λx o' S e m M=>?_,AA T.st.toks i⟩,l _ T.grow hb⟩;have D:x≠b:=λq=>by
  rw[q,ho]at e;replace e:=EY e;induction e using EC;exact hd _ m
 refine J (L x D) e
theorem Cn{σ:AS}{a:AW}{xs:U V}:∀{x:BA},σ.lookup x=B (.own a xs)->a∈CT σ:=by
 induction σ with|nil=>intro x h;simp at h|cons p r I=>intro x h;rcases p with⟨y,sl⟩;rw[Am]at h;cases e:x==y with|true=>rw[e]at h;replace h:=EY h;induction h using Tb;exact AQ|false=>rw[e]at h;have :=I h;clear h;cases sl with|v d=>exact this|own b ys=>exact AU _ this
theorem GG(x:BA)(sl:Sl):∀(σ:AS)(a:AW),a∈CT (σ.put x sl)->a∈CT σ\/∃xs,sl=.own a xs:=by
 intro σ;induction σ with
 |nil=>intro a h;cases sl with|v d=>exact JZ h|own b ys=>simp[AS.put,CT]at h;subst h;exact .inr ⟨ys,rfl⟩
 |cons c r I=>
rcases c with⟨y,s⟩;intro a h;have I:=I a;unfold AS.put at h;by_cases t:(y==x)=AO;· rw[Ap t]at h;clear I;cases sl with
|v d=>have h':=h;left;cases s with|v d=>exact h'|own b ys=>exact AU _ h'
|own b ys=>
 have h':=h;clear h;refine AC (Ae.mp h') ?_ λh'=>?_;intro X;subst X;·exact .inr ⟨ys,rfl⟩
 ·left;cases s with|v d=>exact h'|own b ys=>exact AU _ h'
· rw[Ab t]at h;cases s with|v d=>exact I h|own b ys=>have h':a∈b::CT (AS.put x sl r):=h;refine AC (Ae.mp h') (λX=>?_) λh'=>(AC (I h') (λh=>(.inl (AU _ h))) λh=>(.inr h));·subst X;exact .inl AQ
noncomputable def DG(F:Fx)(x:BA):Prop:=(F.env.kindOf x=B .local/\F.env.locals∈F.Mu)\/(F.env.kindOf x=B .cell/\∃k,F.env.cells.lookup x=B k/\k∈F.Mu)
theorem Z7{F:Fx}{x:BA}{M:U AW}(h:F.env.kindOf x=B .local)(m:F.Mu=F.env.locals::M):DG F x:=.inl ⟨h,by refine J m (AQ)⟩
theorem Z6{F:Fx}{x:BA}{k a:AW}{M:U AW}(h:F.env.kindOf x=B .cell)(l:F.env.cells.lookup x=B k)(m:F.Mu=a::k::M):DG F x:=.inr ⟨h,k,l,by refine J m (.tail _ (.head _))⟩
theorem iq{F:Fx}{x:BA}{k a b:AW}{M:U AW}(h:F.env.kindOf x=B .cell)(l:F.env.cells.lookup x=B k)(m:F.Mu=a::b::k::M):DG F x:=.inr ⟨h,k,l,by refine J m (.tail _ (.tail _ (.head _)))⟩
theorem ee{F:Fx}{x:BA}{k:AW}(h:F.env.kindOf x=B .cell)(l:F.env.cells.lookup x=B k)(m:k∈F.Mu):DG F x:=.inr ⟨h,k,l,m⟩
theorem ip{F:Fx}{x:BA}{k a b d:AW}{M:U AW}(h:F.env.kindOf x=B .cell)(l:F.env.cells.lookup x=B k)(m:F.Mu=a::b::d::k::M):DG F x:=.inr ⟨h,k,l,by refine J m (.tail _ (.tail _ (.tail _ (.head _))))⟩
noncomputable def X2(F:Fx)(σ:AS):Sl->U AW|.v _=>F.X σ|.own a _=>a::F.X σ
noncomputable def pF(F:Fx)(h₀:BJ)(σ:AS)(h:BJ):Sl->AF->Prop|.v d,v=>Rd (fz (F.X σ) h) d v|.own a xs,v=>v=.ref a/\h₀.get? a=AJ/\a∉F.X σ/\∃S n,h.get? a=B (BM S n)/\C3 (fz (a::F.X σ) h) xs S
theorem Qa{X:U AW}{h h':BJ}{b:AW}(hb:b∈X)(L:∀x,x≠b->h'.get? x=h.get? x):MB (fz X h) (fz X h'):=by
 intro x o e M;rw[Al]at e⊢;exact⟨e.1,(L x λq=>e.1 (q▸hb)).trans e.2⟩
theorem XT(F:Fx)(σ:AS)(x:BA)(sl:Sl):∀a∈F.X (σ.put x sl),a∈X2 F σ sl:=by
 intro a P;cases sl with|v d=>refine AC (Ai.mp P) (λh=>(Ak _ h)) λh=>?_;· refine AC (GG x _ σ a h) (λh=>(Ac _ h)) λX=>?_;·refine Aw X λxs h=>?_;cases(h)|own b ys=>
    refine AC (Ai.mp P) (λh=>(AU _ (Ak _ h))) λh=>?_
    · clear P;focus(refine AC (GG x _ σ a h) ?_ ?_;rotate_left;(focus(intro X;refine Aw X λxs h=>?_;clear X));rotate_right;(focus(intro h)))
      ·exact AU _ (Ac _ h)
      ·cases(h);exact AQ
theorem Ew{A:BQ}{E:AF->AE->Prop}{s:AE}{x:BA}{sl:Sl}{v:AF}{Q:LL->AE->Prop}(T:FX F h₀ σ s)(R2:Pd F.env σ (X2 F σ sl) s.heap)(D:DG F x)(V:pF F h₀ σ s.heap sl v)(k:∀s',FX F h₀ (σ.put x sl) s'->J9 F.c.hB F.Mu s.heap s'.heap->Q () s'):Aj F.M A (FC F.env x v) Q E s:=by
  have gb:∀(b:AW)(h':BJ),b∈F.Mu->(∀y,y≠b->h'.get? y=s.heap.get? y)->J9 F.c.hB F.Mu s.heap h':=λb h' hb L y o t e=>.inl ((L y λq=>t (q▸hb)).trans e);have wv:∀(b:AW)(h':BJ)(tk:Z)(o:Gq),b∈F.Mu->s.heap.get? b=B o->(∀S,o.data≠.fields S)->(∀xs n,o.data≠.seq xs n)->Lv h' b->(∀y,y≠b->h'.get? y=s.heap.get? y)->(∃m,h'.Ns F.env.locals m)->(∀y k,F.env.cells.lookup y=B k->∃u,h'.IsCell k u)->At F.env h' x v->(∀y w,y≠x->At F.env s.heap y w->At F.env h' y w)->s.toks<=tk->FX F h₀ (σ.put x sl) {s with heap:=h',toks:=tk}:=by
    intro b h' tk o wx ho hd wy x9 L wm wo wz wj xA;clear D k;refine Aa (T.gm (T.fresh b (.inl wx)) ho hd L xA) λxB xC=>?_;have wl:b∈F.X (σ.put x sl):=Ak _ (Ak _ wx);have wh:=(Ed (XT F σ x sl) _).trans (Qa wl L);refine⟨xB,⟨R2.ok,wm,wo,R2.inj,?_,?_,?_⟩,xC,T.base,?_⟩
    · intro y x8 e;rw[AS.DD]at e;clear hd wl;by_cases t:y=x;· rw[Ap t]at e;clear R2 wj;replace e:=EY e;induction e using EC;subst t;refine AK v wz ?_;clear wz;cases sl with|v d=>exact Rd.sub wh V|own a xs=>
       refine Fb V λwr h0 hX G=>?_;clear V;refine Au G λS n g hr=>?_;subst wr;have Y:a≠b:=λq=>by rw[q,ho]at g;clear ho;replace g:=EY g;induction g using Tb;exact wy _ _ rfl
       refine⟨rfl,?_,S,n,(L a Y).trans g,C3.sub wh hr⟩;refine Ac _ (Cn (x:=y) (xs:=xs) ?_);rewrite[AS.DD];refine J (Ap rfl) rfl
      · rw[Ab t]at e;refine AI (R2.slot y x8 e) λw p sr=>AK w (wj y w t p) ?_;cases x8 with|v d=>exact Rd.sub wh sr|own a xs=>
       refine B7 sr λwr hX G=>?_;clear sr;refine Au G λS n g hr=>?_;subst wr;have Y:a≠b:=λq=>by rw[q,ho]at g;clear ho;replace g:=EY g;induction g using Tb;exact wy _ _ rfl
       refine⟨rfl,?_,S,n,(L a Y).trans g,C3.sub wh hr⟩;refine Ac _ (Cn (x:=y) (xs:=xs) ?_);rewrite[AS.DD];refine J (Ab t) e
    · intro a P;by_cases Y:a=b;·refine J Y x9
      ·exact(R2.live a (XT F σ x sl a P)).same (L a Y)
    · intro y z a xs ys e1 I;rw[AS.DD]at e1 I;clear wl wh;by_cases t:y=x
      · rw[Ap t]at e1;clear R2;by_cases H:z=x;·refine J t (J H ?_);rfl
        · rw[Ab H]at I;replace e1:=EY e1;induction e1 using Tb;exfalso;refine Fb V λM M hX M=>hX (Ac _ (Cn I))
      · rw[Ab t]at e1;by_cases H:z=x;· rw[Ap H]at I;clear R2;replace I:=EY I;induction I using Tb;exfalso;refine Fb V λM M hX M=>hX (Ac _ (Cn e1))
        · rw[Ab H]at I;exact R2.apart y z a xs ys e1 I
    · intro a P;clear R2 wl wh;refine AC P (λP=>(T.fresh a (.inl P))) λP=>?_;· refine AC (GG x sl σ a P) (λh=>(T.fresh a (.inr h))) λX=>?_;·refine Aw X λxs xD=>?_;clear X;subst xD;exact V.2.1
  refine AC D (λX=>?_) λX=>?_
  · refine Aa X λR K=>Aw R2.ns λm wm=>Lc (id wm) λo es ep ho hd xE xF=>Hx R wm (λh' wq l=>k _ (wv F.env.locals h' _ o K ho (by refine J hd MQ) (by refine J hd λM M W=>?_;cases(W)) (Lv.ns wq) l.2 ⟨_,wq⟩ ?_ (λM=>.inl ⟨R,_,wq,by simp⟩) ?_ (BH _)) (gb _ _ K l.2)) (J R2.ok.kind rfl)
    · intro y c e;refine Au (R2.cell y c e) λu N j wg=>?_;have :c≠F.env.locals:=λq=>by rw[q,ho]at j;replace j:=EY j;induction j using EC;rw[hd]at wg;cases(wg)
      exact FK u N ((l.2 c this).trans j) wg
    · intro y w t a;intro hg;refine AC (a hg) (λX=>(Aa X λky G=>AI G λm' xG wt=>.inl ⟨ky,_,wq,by simp only[t,KL];refine J ((wm.agree xG) _) wt⟩)) λX=>AC X (λX=>?_) λX=>?_
      · refine Aa X λky G=>AI G λc f hv=>AI hv λN j wg=>?_;have :c≠F.env.locals:=λq=>by rw[q,ho]at j;replace j:=EY j;induction j using EC;rw[hd]at wg;cases(wg)
        exact .inr (.inl ⟨ky,c,f,N,(l.2 c this).trans j,wg⟩)
      · refine Aa X λky G=>AI G λc f hv=>AI hv λN j wg=>?_;have :c≠F.env.locals:=λq=>by rw[q,ho]at j;replace j:=EY j;induction j using EC;rw[hd]at wg;cases(wg)
        exact .inr (.inr ⟨ky,c,f,N,(l.2 c this).trans j,wg⟩)
  · refine Aa X λR G=>AI G λc f K=>Aw (R2.cell x c f) λu wn=>AI (id wn) λo ho hd=>oL R2.ok.kind R f wn λh' wu l=>k _ ?_ (gb _ _ K l.2);have :=wv c h' s.toks o K ho (by refine J hd MQ) (by refine J hd λM M W=>?_;cases(W)) (Lv.cell wu) l.2 ?_ ?_ ?_ ?_ (AN _);·exact this
    · refine MO R2.ns λm om es ep i wi r=>?_;have :F.env.locals≠c:=λq=>by rw[q,ho]at i;replace i:=EY i;induction i using EC;rw[hd]at wi;cases(wi)
      exact PL m om es ep ((l.2 _ this).trans i) wi r
    · intro y C e;by_cases q:C=c;·refine J q (⟨_,wu⟩)
      ·refine Au (R2.cell y C e) λu' N j wg=>FK u' N ((l.2 C q).trans j) wg
    ·exactλM=>.inr (.inl ⟨R,c,f,wu⟩)
    · intro y w t a;intro hg;refine AC (a hg) (λX=>?_) λX=>AC X (λX=>?_) λX=>?_
      · refine Aa X λky G=>AI G λm' xH wt=>Na xH λom es ep i wi r=>?_;have :F.env.locals≠c:=λq=>by rw[q,ho]at i;replace i:=EY i;induction i using EC;rw[hd]at wi;cases(wi)
        exact .inl ⟨ky,m',⟨om,es,ep,(l.2 _ this).trans i,wi,r⟩,wt⟩
      · refine Aa X λky G=>AI G λC e hv=>?_;have :C≠c:=λq=>t (R2.inj y x C e (q▸f));refine AI hv λN j wg=>.inr (.inl ⟨ky,C,e,N,(l.2 C this).trans j,wg⟩)
      · refine Aa X λky G=>AI G λC e hv=>?_;have :C≠c:=λq=>t (R2.inj y x C e (q▸f));refine AI hv λN j wg=>.inr (.inr ⟨ky,C,e,N,(l.2 C this).trans j,wg⟩)
theorem CZ.store{s s':AE}{x:BA}{d:V}(g:J9 F.c.hB F.Mu s.heap s'.heap):CZ F σ (σ.put x (.v d)) s s':=by
 refine⟨λb o hb e=>g b o (λh=>hb (Ak _ h)) e,λb hb=>?_⟩;refine AC (GG x _ σ b hb) (λh=>(.inl h)) λX=>?_;·refine Aw X λxs h=>?_;cases(h)
theorem CX{F:Fx}{σ:AS}:∀a∈F.X σ,a∈F.X σ:=λM h=>h
theorem Be{F:Fx}{σ:AS}:∀a∈F.Xo,a∈F.X σ:=λM h=>Ak _ h
theorem EZ{x:BA}{p pos:EQ}{e:BL}{Q:Ha->AS->Prop}(D:DG F x)(h:WE F σ (F.X σ) e λd=>Q .next (σ.put x (.v d)))(L:jx e (B (.Name x p)) pos.line F.env=Bz AD:=by rfl):W1 F h₀ σ (.Assign [.Name x p] e pos) Q:=by
 intro A E s N T;refine EF (h.bind N T.st T.rep λr s₁ d l w t m q=>?_) L;exact Ew (sl:=.v d) (T.next l w) t D m λy Y z=>⟨.next,_,Y,(CZ.DO w).trans (T.next l w) (CZ.store z),Bl,q⟩
theorem DN{x:BA}{p pos k:EQ}{es:U BL}{Q:Ha->AS->Prop}(D:DG F x)(h:OV F σ (F.X σ) es λu=>u.length<=Ay/\∀a,F.c.hB.get? a=AJ->a∉F.Xo->Q .next (σ.put x (.own a u))):W1 F h₀ σ (.Assign [.Name x p] (.List es k) pos) Q:=by
  intro A E s N T;refine EF (Q9 (h.bind N T.st T.rep λz s₁ u l w t m⟨H,q⟩=>⟨by refine CS m.length H,?_⟩)) rfl;have j:=T.next l w;have L:=Kp.push s₁ {cls:=.type "list",data:=.seq z.toArray};have Y:=j.next (l.keeps L) (B4 L);have i:s₁.heap.get? s₁.heap.objs.size=AJ:=by
    cases e:s₁.heap.get? s₁.heap.objs.size with|none=>rfl|some o=>exact B8 (Bg e) (CI _)
  have M:(s₁.heap.push {cls:=.type "list",data:=.seq z.toArray}).get? s₁.heap.objs.size=B (BM z 0):=Ag _ rfl;have I:MB (fz (F.X σ) s₁.heap) (fz (s₁.heap.objs.size::F.X σ) (s₁.heap.push {cls:=.type "list",data:=.seq z.toArray})):=by
    intro b o e f;rw[Al]at e⊢;refine⟨λK=>?_,AR _ e.2⟩;refine AC (Ae.mp K) (λX=>?_) λK=>(e.1 K);·subst X;rw[i]at e;cases e.2
  have C:=(t.Ft CX).fresh i;refine Ew (sl:=.own s₁.heap.objs.size u) Y ?_ D ⟨rfl,j.grow.none i,C,z,0,M,C3.sub I m⟩ λW V R=>⟨.next,_,V,?_,Bl,q _ (T.st.grow.none (w.none i)) λh=>C (Ak _ h)⟩
  · have g:=Y.rep;refine⟨g.ok,g.ns,g.cell,g.inj,λy sl e=>?_,λa P=>?_,g.apart⟩;· refine AI (t.slot y sl e) λv a b=>AK v (a.grow (B4 (hB:=F.c.hB) L)) ?_;clear e;cases sl with|v d=>exact Rd.sub I b|own c xs=>refine B7 b λe1 K G=>Au G λS n ho r=>⟨e1,AU _ K,S,n,AR _ ho,C3.sub I r⟩
    · refine AC (Ae.mp P) (λX=>?_) λP=>(g.live a P);·subst X;exact .at M (.inl rfl)
  · refine⟨(((w.mU (F.Mu++CT σ)).trans ((B4 L).mU (F.Mu++CT σ)) λx D=>.inl D).trans R λx D=>.inl (Ak _ D)),λb hb=>?_⟩;· refine AC (GG x _ σ b hb) (λh=>(.inl h)) λX=>?_;· refine Aw X λxs h=>?_;clear X;clear hb;cases(h);exact .inr (w.none i)
theorem Mv{e:BL}{pos:EQ}{Q:Ha->AS->Prop}(h:WE F σ F.Xo e λd=>Q (.ret d) σ):W1 F h₀ σ (.Return (B e) pos) Q:=by
 intro A E s N T;exact wpAny_Return_some (h.bind N T.st T.rep λr s₁ d l w t m q=>⟨.ret d,σ,T.next l w,.DO w,m,q⟩)
theorem dK{pos:EQ}{Q:Ha->AS->Prop}(q:Q .brk σ):W1 F h₀ σ (.Break pos) Q:=λA E s N T=>wpAny_Break ⟨.brk,σ,T,.refl _ _ _,Bl,q⟩
theorem Zy{t:BL}{m:AX BL}{pos:EQ}{Q:Ha->AS->Prop}(h:WT F σ t λb=>b=AO/\Q .next σ):W1 F h₀ σ (.Assert t m pos) Q:=by
 intro A E s N T;exact wpAny_Assert_holds (h.bind N T.st T.rep λb s₁ l w a X=>by refine Aa X λe q=>⟨e,.next,σ,T.next l w,.DO w,Bl,q⟩)
theorem Ob.after{s s₁ y:AE}{σ₁:AS}{Q:Ha->AS->Prop}{L:Flow}(T:FX F h₀ σ₁ s₁)(m:CZ F σ σ₁ s s₁)(p:Ob F h₀ σ₁ s₁ Q L y):Ob F h₀ σ s Q L y:=by refine Dg p λo σ' W G r q=>Dm o σ' W (m.trans T G) r q
theorem IU{t:BL}{b o:U G1}{pos:EQ}{Q:Ha->AS->Prop}(h:WT F σ t λc=>(c=AO->WS F h₀ σ b Q)/\(c=AD->WS F h₀ σ o Q)):W1 F h₀ σ (.If t b o pos) Q:=by
 intro A E s N T;refine wpAny_If (h.bind N T.st T.rep λc s₁ l w a H=>?_);refine Aa H λq1 u=>?_;clear H;have j:=T.next l w;cases c with|true=>exact Ad (q1 rfl A E s₁ N j) (λL y p=>p.after j (.DO w)) λM M x=>x|false=>exact Ad (u rfl A E s₁ N j) (λL y p=>p.after j (.DO w)) λM M x=>x
noncomputable def eh(Q:Ha->AS->Prop)(Du:AS->Prop):Ha->AS->Prop|.next,σ'=>Du σ'|.cont,σ'=>Du σ'|.brk,σ'=>Q .next σ'|.ret d,σ'=>Q (.ret d) σ'
theorem dI{t:BL}{b:U G1}{pos:EQ}{Q:Ha->AS->Prop}(I:Z->AS->Prop)(n:Z)(h0:I n σ)(G:∀n σ',I n σ'->WT F σ' t λc=>(c=AO->WS F h₀ σ' b (eh Q λl=>∃m,m<n/\I m l))/\(c=AD->Q .next σ')):W1 F h₀ σ (.While t b [] pos) Q:=by
 intro A E s N T;refine wpAny_While (codeAny_whileLoop (λn s'=>∃σ',FX F h₀ σ' s'/\CZ F σ σ' s s'/\I n σ') ?_ n ⟨σ,T,.refl _ _ _,h0⟩);intro n s₁ h;refine CF h λσ₁ j v a=>(G n σ₁ a).bind N j.st j.rep λc y f z g H=>Aa H λq1 i=>?_;clear H;have Y:=j.next f z
 have k:=v.trans j (.DO z);cases c with|true=>
refine Ad (q1 rfl A _ y N Y) (λL W H=>?_) λM M x=>x;refine Dg H λo d p u r q=>?_;clear H;cases(L)<;>cases(o)<;>simp only[Nh]at r<;>try exact r.elim
·refine AI q λm K e=>⟨m,K,d,p,k.trans Y u,e⟩
·exact Dm .next d p (k.trans Y u) Bl q
·refine AI q λm K e=>⟨m,K,d,p,k.trans Y u,e⟩
·exact Dm (.ret _) d p (k.trans Y u) r q|false=>exact Ez ⟨.next,σ₁,Y,k,Bl,i rfl⟩
end
section
variable{F:Fx}{h₀:BJ}{σ:AS}{Y:U AW}
noncomputable def HX(c:Cx)(d:V)(xs:U V):Prop:=∀A E s Y v(Q:AF->AE->Prop),A.handled=AJ->St c s->Hf Y s.heap->Rd (fz Y s.heap) d v->(∀(o:Gq)(fp:U AW)(P:Z->AF->Prop)(S:Z->BJ->Prop),s.heap.get? s.heap.objs.size=AJ->EX o.cls=AD->o.isFreed=AD->(∀F,F.handled=AJ->Walks c.prog c.w F s.heap.objs.size fp [s.heap.objs.size] xs.length P S)->S 0 (s.heap.push o)->(∀b∈fp,b=s.heap.objs.size\/(b∉Y/\∃R,s.heap.get? b=B R/\R.cls≠.none))->(∀i h,S i h->∃o',h.get? s.heap.objs.size=B o'/\EX o'.cls=AD)->(∀i v,i<xs.length->P i v->∃d,xs[i]?=B d/\Rd (fz Y s.heap) d v)->Q (.ref s.heap.objs.size) {s with heap:=s.heap.push o})->Aj (BF c.prog c.w) A (kZ v) Q E s
theorem EK(h:BJ):h.get? h.objs.size=AJ:=by
 cases e:h.get? h.objs.size with|none=>rfl|some o=>exact B8 (Bg e) (CI _)
theorem HX.list{c:Cx}(xs:U V):HX c (.list xs) xs:=by
 intro A E s Y v Q N j K m k;induction m using Rd.eL with|@list S a n e r=>
    have z:=(Al.mp e).2;have g:s.heap.IsList a S.toArray:=⟨_,z,rfl,n,rfl⟩;refine Nj g ?_;have t:=CQ (Bg z);have p:S.toArray.size=xs.length:=by simp[r.length]
    refine k _ [s.heap.objs.size,a] (λi v=>S.toArray[i]?=B v) (λi h=>h.IsListIter s.heap.objs.size a i/\h.IsList a S.toArray) (EK _) rfl rfl (λF y=>p▸Walks.list y _ a t _) ⟨⟨_,Ag _ rfl,rfl,rfl⟩,g.push _⟩ ?_ ?_ ?_;· intro b hb;refine AC (Ae.mp hb) (λX=>?_) λhb=>(J (AM.mp hb) (.inr ⟨(Al.mp e).1,_,z,F7⟩));·subst X;exact .inl rfl
    ·intro i h u;refine Aa u λd M=>CF d λo ho f M=>AK o ho (by refine J f rfl)
    · intro i v M x;have l:=by simpa using x
      have hi:=(Az.mp l).1;refine AI (r.get (d:=xs[i]'(by refine J r.length ?_;exact hi)) (AP _)) λw C q=>?_;rw[C]at l;replace l:=EY l;induction l using EC;exact AK _ (AP _) q
noncomputable def Kl(a b:O):V:=.abs λG v=>∃r t u w,v=.ref r/\G r=B {cls:=.type "range",dict:=AJ,data:=.fields #[.int a t,.int b u,.int 1 w],slots:=#[]}
theorem Pp(a b:O):Sr λG v=>∃r t u w,v=.ref r/\G r=B {cls:=.type "range",dict:=AJ,data:=.fields #[.int a t,.int b u,.int 1 w],slots:=#[]}:=λG p v L X=>by refine Ge X λr t u w e h=>MR r t u w e (L _ _ h (.inl F7))
noncomputable def Cq(a b:O):U V:=(Ar (b-a).toNat).map λ(i:Z)=>V.int (a+i)
theorem HX.range{c:Cx}(a b:O)(L:FY a b 1=AO):HX c (Kl a b) (Cq a b):=by
 intro A E s Y v Q N j K f k;induction f using Rd.eA with|abs m e=>
    refine Ge e ?_;clear e;intro r t u w T e;subst T;have g:=(Al.mp e).2;refine Uo g L ?_;have p:Br a b 1=(((Cq a b).length:Z):O):=by
      simp only[Cq,AL,CW,Br];simp only[Nr,aA,KH,Kz];split<;>(first|exact iZ ‹_›|exact iY ‹_›|omega)
    refine k _ [s.heap.objs.size] _ _ (EK _) rfl rfl (λF y=>oW y _ a 1 _) ?_ (λb hb=>.inl (AM.mp hb)) ?_ ?_;· have :=Ag s.heap (o:={cls:=.type "range_iterator",data:=.fields #[BI a,BI (Br a b 1),BI 1]}) rfl;refine(?_:(s.heap.push _).get? _=B {cls:=.type "range_iterator",dict:=AJ,data:=.fields #[BI (a+(0:Z)*1),BI (((Cq a b).length:Z)-(0:Z)),BI 1],slots:=#[]});refine J this (J p ?_);simp
    · intro i h hi;exact AK _ hi rfl
    · intro i v hi R;refine Aw R λt z=>?_;clear R;subst z;refine AK (.int (a+(i:Z)*1)) ?_ (.int _ _);have d:=by simpa[Cq]using hi
      simp[Cq,d]
theorem CZ.sub{s s':AE}{σ σ':AS}(T:FX F h₀ σ s)(m:CZ F σ σ' s s'):MB (fz (F.X σ) s.heap) (fz (F.X σ') s'.heap):=by
 intro b o e f;rw[Al]at e⊢;have hB:=λh=>e.1 (by
refine AC (Ai.mp h) (λh=>(Ak _ (Ak _ h))) λh=>(Ac _ h));refine⟨λK=>?_,m.grow.Nc e.2 hB f⟩;refine AC (Ai.mp K) (λh=>(e.1 (Ak _ h))) λh=>?_;· refine AC (m.own b h) (λh=>(e.1 (Ac _ h))) λh=>?_;·rw[h]at e;cases e.2
noncomputable def Fx.hold(F:Fx)(I:AW):Fx:={F with Yc:=I::F.Yc}
theorem E7{σ:AS}{I b:AW}:b∈(F.hold I).X σ↔b=I\/b∈F.X σ:=by
  simp only[Fx.X,Fx.Xo,Fx.hold,Ai,Ae];constructor
  · rintro((h|rfl|h)|h);·exact .inr (.inl (.inl h))
    ·exact .inl rfl
    ·exact .inr (.inl (.inr h))
    ·exact .inr (.inr h)
  · rintro(rfl|(h|h)|h);·exact .inl (.inr (.inl rfl))
    ·exact .inl (.inl h)
    ·exact .inl (.inr (.inr h))
    ·exact .inr h
theorem VB{σ:AS}{I:AW}(h:BJ):MB (fz ((F.hold I).X σ) h) (fz (F.X σ) h):=Ed (λM K=>E7.mpr (.inr K)) h
theorem FX.NU{I:AW}{s:AE}(T:FX (F.hold I) h₀ σ s):FX F h₀ σ s:=by
 refine⟨T.st,⟨T.rep.ok,T.rep.ns,T.rep.cell,T.rep.inj,λy sl e=>?_,λa P=>T.rep.live a (E7.mpr (.inr P)),T.rep.apart⟩,T.grow,T.base,T.fresh⟩;refine AI (T.rep.slot y sl e) λv a b=>AK v a ?_;cases sl with|v d=>exact Rd.sub (VB _) b|own c xs=>refine B7 b λe1 K G=>Au G λS n ho r=>⟨e1,Ac _ (Cn e),S,n,ho,C3.sub (VB _) r⟩
theorem FX.hold{s:AE}(T:FX F h₀ σ s)(o:Gq)(V:o.isFreed=AD)(j:EX o.cls=AD):FX (F.hold s.heap.objs.size) h₀ σ {s with heap:=s.heap.push o}:=by
 have L:=Kp.push s o;have g:Bk F.c.hB s.heap (s.heap.push o):=B4 L;have Y:=T.next (T.st.keeps L) g;have l:=Ag s.heap V;have I:MB (fz (F.X σ) s.heap) (fz ((F.hold s.heap.objs.size).X σ) (s.heap.push o)):=by
  intro b o' e f;rw[Al]at e⊢;refine⟨λK=>?_,AR _ e.2⟩;refine AC (E7.mp K) (λX=>?_) λK=>(e.1 K);·subst X;rw[EK]at e;cases e.2
 refine⟨Y.st,⟨Y.rep.ok,Y.rep.ns,Y.rep.cell,Y.rep.inj,λy sl e=>?_,λa P=>?_,Y.rep.apart⟩,Y.grow,T.base,T.fresh⟩;· refine AI (T.rep.slot y sl e) λv a b=>AK v (a.grow g) ?_;clear e;cases sl with|v d=>exact Rd.sub I b|own c xs=>refine B7 b λe1 K G=>Au G λS n ho r=>⟨e1,E7.mpr (.inr K),S,n,AR _ ho,C3.sub I r⟩
 · refine AC (E7.mp P) (λX=>?_) λP=>(Y.rep.live a P);·subst X;exact .at l (.inl j)
theorem Nh.NU{I:AW}{s:AE}{L:Flow}{o:Ha}(r:Nh (F.hold I) s L o):Nh F s L o:=by
 cases(L)<;>cases(o)<;>simp only[Nh]at r⊢;refine Rd.sub (Ed (λa P=>?_) _) r;simp only[Fx.Xo,Fx.hold,Ai,Ae]at P⊢;refine AC P (λh=>(.inl h)) λh=>(.inr (.inr h))
theorem CZ.hold{I:AW}{σ σ':AS}{s s':AE}:CZ (F.hold I) σ σ' s s'↔CZ F σ σ' s s':=⟨λm=>⟨m.grow,m.own⟩,λm=>⟨m.grow,m.own⟩⟩
theorem FX.held{I:AW}{s:AE}{h':BJ}{tk:Z}{o o':Gq}(T:FX (F.hold I) h₀ σ s)(wg:h₀.get? I=AJ)(ho:s.heap.get? I=B o)(j:EX o.cls=AD)(t:h'.get? I=B o')(V:EX o'.cls=AD)(wm:I∉F.Mu)(M:I∉CT σ)(L:∀b R,b∉[I]->s.heap.get? b=B R->h'.get? b=B R)(hL:F.env.locals≠I)(hC:∀y k,F.env.cells.lookup y=B k->k≠I)(wh:s.toks<=tk):FX (F.hold I) h₀ σ {s with heap:=h',toks:=tk}:=by
  have w:∀b,b≠I->b∉[I]:=λb h=>by simpa using h
  have l:∀(h:BJ),Bk F.c.hB h s.heap->h.get? I=AJ->Bk F.c.hB h h':=by
    intro h g p x R e;have D:x≠I:=λq=>by rw[q,p]at e;exact Eb e
    refine AC (g x R e) (λz=>(.inl (L x R (w x D) z))) λX=>(B7 X λa b G=>Au G λS Y hd z=>.inr ⟨a,b,S,Y,hd,L x _ (w x D) z⟩)
  have wi:I∈(F.hold I).X σ:=E7.mpr (.inl rfl);have sb:MB (fz ((F.hold I).X σ) s.heap) (fz ((F.hold I).X σ) h'):=by
    intro b R e f;rw[Al]at e⊢;exact⟨e.1,L b R (w b λq=>e.1 (q▸wi)) e.2⟩
  have wj:=T.base.none wg;refine⟨⟨l _ T.st.grow wj,T.st.os,T.st.bare,T.st.tabs.H5 λx R S e ed ec=>?_,AA T.st.toks wh⟩,⟨T.rep.ok,(Ge T.rep.ns λm om es E i r=>MR m om es E (L _ _ (w _ hL) i) r),?_,T.rep.inj,?_,?_,T.rep.apart⟩,l _ T.grow wg,T.base,T.fresh⟩;· refine L x R (w x λq=>?_) e;rw[q,ho]at e;clear ed;replace e:=EY e;induction e using EC;rw[j]at ec;exact J2 ec
  · intro y k e;refine Au (T.rep.cell y k e) λu N V r=>FK u N (L _ _ (w _ (hC y k e)) V) r
  · intro y sl e;refine AI (T.rep.slot y sl e) λv a b=>AK v ?_ ?_;· intro hg;refine AC (a hg) (λX=>(Aa X λH G=>AI G λm' Q A=>H4 Q λom es E i r=>.inl ⟨H,m',⟨om,es,E,L _ _ (w _ hL) i,r⟩,A⟩)) λX=>AC X (λX=>(Aa X λH G=>AI G λC z W=>AI W λN V r=>.inr (.inl ⟨H,C,z,N,L _ _ (w _ (hC _ _ z)) V,r⟩))) λX=>(Aa X λH G=>AI G λC z W=>AI W λN V r=>.inr (.inr ⟨H,C,z,N,L _ _ (w _ (hC _ _ z)) V,r⟩))
    ·cases sl with|v d=>exact Rd.sub sb b|own c xs=>refine B7 b λe1 K G=>Au G λS n hl r=>⟨e1,K,S,n,L _ _ (w _ λq=>M (q▸Cn e)) hl,C3.sub sb r⟩
  · intro a P;by_cases q:a=I;·refine J q (.at t (.inl V))
    ·exact(T.rep.live a P).keep λR wl=>L a R (w a q) wl
theorem FX.YD{I:AW}{s:AE}{h':BJ}{tk:Z}{o:Gq}(T:FX (F.hold I) h₀ σ s)(wg:h₀.get? I=AJ)(ho:s.heap.get? I=B o)(j:EX o.cls=AD)(M:I∉CT σ)(wh:I∉F.X σ)(L:∀b R,b∉[I]->s.heap.get? b=B R->h'.get? b=B R)(hL:F.env.locals≠I)(hC:∀y k,F.env.cells.lookup y=B k->k≠I)(wi:s.toks<=tk):FX F h₀ σ {s with heap:=h',toks:=tk}:=by
  have w:∀b,b≠I->b∉[I]:=λb h=>by simpa using h
  have l:∀(h:BJ),Bk F.c.hB h s.heap->h.get? I=AJ->Bk F.c.hB h h':=by
    intro h g p x R e;have D:x≠I:=λq=>by rw[q,p]at e;exact Eb e
    refine AC (g x R e) (λz=>(.inl (L x R (w x D) z))) λX=>(B7 X λa b G=>Au G λS Y hd z=>.inr ⟨a,b,S,Y,hd,L x _ (w x D) z⟩)
  have sb:MB (fz ((F.hold I).X σ) s.heap) (fz (F.X σ) h'):=by
    intro b R e f;rw[Al]at e⊢;exact⟨λK=>e.1 (E7.mpr (.inr K)),L b R (w b λq=>e.1 (q▸E7.mpr (.inl rfl))) e.2⟩
  have wj:=T.base.none wg;refine⟨⟨l _ T.st.grow wj,T.st.os,T.st.bare,T.st.tabs.H5 λx R S e ed ec=>?_,AA T.st.toks wi⟩,⟨T.rep.ok,(Ge T.rep.ns λm t es E i r=>MR m t es E (L _ _ (w _ hL) i) r),?_,T.rep.inj,?_,?_,T.rep.apart⟩,l _ T.grow wg,T.base,T.fresh⟩;· refine L x R (w x λq=>?_) e;rw[q,ho]at e;clear ed;replace e:=EY e;induction e using EC;rw[j]at ec;exact J2 ec
  · intro y k e;refine Au (T.rep.cell y k e) λu N V r=>FK u N (L _ _ (w _ (hC y k e)) V) r
  · intro y sl e;refine AI (T.rep.slot y sl e) λv a b=>AK v ?_ ?_;· intro hg;refine AC (a hg) (λX=>(Aa X λH G=>AI G λm' Q A=>H4 Q λt es E i r=>.inl ⟨H,m',⟨t,es,E,L _ _ (w _ hL) i,r⟩,A⟩)) λX=>AC X (λX=>(Aa X λH G=>AI G λC z W=>AI W λN V r=>.inr (.inl ⟨H,C,z,N,L _ _ (w _ (hC _ _ z)) V,r⟩))) λX=>(Aa X λH G=>AI G λC z W=>AI W λN V r=>.inr (.inr ⟨H,C,z,N,L _ _ (w _ (hC _ _ z)) V,r⟩))
    ·cases sl with|v d=>exact Rd.sub sb b|own c xs=>refine B7 b λe1 K G=>Au G λS n hl r=>⟨e1,Ac _ (Cn e),S,n,L _ _ (w _ λq=>M (q▸Cn e)) hl,C3.sub sb r⟩
  · intro a P;exact(T.rep.live a (E7.mpr (.inr P))).keep λR wl=>L a R (w a λq=>wh (q▸P)) wl
theorem dJ{x:BA}{px pos:EQ}{e:BL}{b:U G1}{Q:Ha->AS->Prop}(xi:Z->AS->Prop)(D:DG F x)(h:WE F σ (F.X σ) e λd=>∃xs,HX F.c d xs/\xi 0 σ/\(∀I i σ' d,I∉CT σ'->xs[i]?=B d->xi i σ'->WS (F.hold I) h₀ (σ'.put x (.v d)) b (eh Q λxC=>xi (i+1) xC))/\(∀σ',xi xs.length σ'->Q .next σ'))(L:∀env x,El e env x=Bz x:=by intro M M;rfl):W1 F h₀ σ (.For (.Name x px) e b [] pos) Q:=by
  intro A E s N T;refine wpAny_For (h.bind N T.st T.rep λv s₁ d l w t rd H=>?_) (L _);refine DU H λxs g hJ xI xT=>?_;have j:=T.next l w;refine g A E s₁ _ v _ N.handled l (t.Ft CX) rd λo fp P S p xU xV W xW xJ wv hP=>?_;generalize hI:s₁.heap.objs.size=I at*;have Y:=hI▸j.hold o xV xU;have xD:=j.grow.none p;have xE:=λK=>j.X9 K p;have hL:F.env.locals≠I:=λq=>by refine Ge t.ns λm om M M xK M=>?_;rw[q,p]at xK;exact Eb xK
  have hC:∀y k,F.env.cells.lookup y=B k->k≠I:=λy k e q=>by refine Au (t.cell y k e) λu oc V M=>?_;rw[q,p]at V;exact Eb V
  have xL:CZ F σ σ s₁ {s₁ with heap:=s₁.heap.push o}:=.DO (B4 (Kp.push s₁ o));have xF:∀σ' s',CZ F σ σ' s₁ s'->∀b∈fp,b≠I->∃ob,s₁.heap.get? b=B ob/\s'.heap.get? b=B ob:=by
    intro σ' s' m b hb wx;refine AC (xJ b hb) (λq=>(B8 q wx)) λX=>?_;· refine Aa X λhX G=>AI G λxX z f=>AK xX z (m.grow.get z (λK=>hX ?_) f);refine AC (Ai.mp K) (λh=>(Ak _ (Ak _ h))) λh=>(Ac _ h)
  have x8:I∉CT σ:=λK=>by
    have :=(j.rep.live I (Ac _ K)).1;rw[p]at this;exact J2 this
  refine codeAny_forLoop (λk s'=>∃i σ',k+i=xs.length+1/\i<=xs.length/\FX (F.hold I) h₀ σ' s'/\CZ F σ σ' s₁ s'/\I∉CT σ'/\S i s'.heap/\xi i σ') ?_ (xs.length+1) ⟨0,σ,rfl,Ao _,Y,xL,x8,xW,hJ⟩;clear hI xJ Y x8;intro k s' xM;refine X1 xM λi σ' R hi T' m' wl xG xN=>?_;clear xM;refine AI (wv i _ xG) λoI xH xO=>?_;have wm:∀(h':BJ)(tk:Z),s'.toks<=tk->(∀b ob,b∉[I]->s'.heap.get? b=B ob->h'.get? b=B ob)->(∃o',h'.get? I=B o'/\EX o'.cls=AD)->FX (F.hold I) h₀ σ' {s' with heap:=h',toks:=tk}/\CZ F σ σ' s₁ {s' with heap:=h',toks:=tk}:=by
    intro h' tk c n H;refine AI H λo' wn V=>?_;have wg:=T'.held xD xH xO wn V xE wl n hL hC c;have wx:∀b,b≠I->b∉[I]:=λb h=>by simpa using h
    refine⟨wg,⟨λb ob hb e=>?_,m'.own⟩⟩;have q:b≠I:=λq=>by rw[q,p]at e;exact Eb e
    refine AC (m'.grow b ob hb e) (λz=>(.inl (n b ob (wx b q) z))) λX=>(B7 X λx y G=>Au G λvs wo hd z=>.inr ⟨x,y,vs,wo,hd,n b _ (wx b q) z⟩)
  have W':=W A N.handled;clear W;by_cases wy:i<xs.length
  · refine Ey (AN _) (W'.item i s' _ _ wy xG λv h' tk xY wz n c=>?_);clear xD hL hC T' xH;refine Aa (wm h' tk c n (wv _ _ wz)) λwg wq=>?_;clear wm n;refine AI (hP i v wy xY) λdx xZ xc=>?_;have x9:Rd (fz ((F.hold I).X σ') h') dx v:=by
      refine Rd.sub ?_ xc;intro b ob e f;have e1:=CZ.sub j wq b ob e f;rw[Al]at e1⊢;refine⟨λK=>?_,e1.2⟩;refine AC (E7.mp K) (λq=>?_) λK=>(e1.1 K);·rw[q]at e;rw[Al,p]at e;cases e.2
    refine GY (Ew (F:=F.hold I) (sl:=.v dx) wg wg.rep (D) x9 λxA a xB=>?_);have xP:CZ F σ (σ'.put x (.v dx)) s₁ xA:=wq.trans (FX.NU wg) (CZ.store xB);refine Ad (xI I i σ' dx wl xZ xN A _ xA N a) (λfl xQ H=>?_) λM M x=>x;refine Dg H λxd wh wi wr r q=>?_;clear H;have wj:=xP.trans (FX.NU a) (CZ.hold.mp wr);have xR:=(CZ.DO w).trans j wj;have wt:=λK=>by
      refine AC (wr.own I K) (λh=>?_) λh=>?_;· refine AC (GG x _ σ' I h) (λh=>(wl h)) λX=>?_;·refine Aw X λys h=>?_;cases(h)
      · have :=(a.rep.live I (E7.mpr (.inl rfl))).1;rw[h]at this;exact J2 this
    have xS:S (i+1) xQ.heap:=by
      refine W'.frame _ _ _ wz λb hb ob e=>?_;clear p W' wg x9 a wi r wt;by_cases q:b=I
      · clear xF;subst q;have e4:=by
         refine AC (xB b ob xE e) (λe4=>e4) λX=>?_;· refine B7 X λM f M=>AI (wv _ _ wz) λo' wn wu=>?_;have  :=Af (e.symm.trans wn);rw[this]at f;rw[f]at wu;exact NI wu
        refine AC (wr.grow b ob (λK=>by
         refine AC (Ai.mp K) (λh=>(xE h)) λh=>?_;· refine AC (GG x _ σ' b h) (λh=>(wl h)) λX=>?_;·refine Aw X λys h=>?_;cases(h)) e4) (λe5=>e5) λX=>?_;· refine B7 X λM f M=>AI (wv _ _ wz) λo' wn wu=>?_;have  :=Af (e.symm.trans wn);rw[this]at f;rw[f]at wu;exact NI wu
      · refine AI (xF _ _ wq b hb q) λxg e1 e3=>AI (xF _ _ wj b hb q) λxh e2 e5=>?_;have  :=Af (oz e.symm e3);have C:=Af (e1.symm.trans e2);refine J this (J C e5)
    cases(fl)<;>cases(xd)<;>simp only[Nh]at r<;>try exact r.elim
    ·exact⟨xs.length-i,by exact Yv ‹_› ‹_›,i+1,wh,by(first|exact Yv ‹_› ‹_›|exact iX ‹_›),wy,wi,wj,wt,xS,q⟩
    ·exact Dm .next wh wi.NU xR Bl q
    ·exact⟨xs.length-i,by exact Yv ‹_› ‹_›,i+1,wh,by(first|exact Yv ‹_› ‹_›|exact iX ‹_›),wy,wi,wj,wt,xS,q⟩
    ·exact Dm (.ret _) wh wi.NU xR (Nh.NU r) q
  · have xe:=by exact iW ‹_› ‹_›
    subst xe;refine Ey (AN _) (W'.done s' _ _ xG λh' tk n c=>Ez ?_);have xf:I∉F.X σ':=λK=>by
      refine AC (Ai.mp K) (λh=>?_) λh=>(wl h);· have :=(j.rep.live I (Ak _ h)).1;rw[p]at this;exact J2 this
    refine Dm .next σ' (T'.YD xD xH xO wl xf n hL hC c) ?_ Bl (xT σ' xN);refine(CZ.DO w).trans j ⟨λb ob hb e=>?_,m'.own⟩;have q:b≠I:=λq=>by rw[q,p]at e;exact Eb e
    have hq:b∉[I]:=by simpa using q
    refine AC (m'.grow b ob hb e) (λz=>(.inl (n b ob hq z))) λX=>(B7 X λx y G=>Au G λvs wo hd z=>.inr ⟨x,y,vs,wo,hd,n b _ hq z⟩)
end
section
variable{F:Fx}{h₀:BJ}{σ:AS}{Y:U AW}
theorem FX.turned{I:AW}{s:AE}{h':BJ}{tk:Z}{o o':Gq}(T:FX F h₀ σ s)(w:h₀.get? I=AJ)(wg:I∈F.X σ)(ho:s.heap.get? I=B o)(j:EX o.cls=AD)(t:h'.get? I=B o')(V:EX o'.cls=AD)(M:I∉CT σ)(L:∀b R,b≠I->s.heap.get? b=B R->h'.get? b=B R)(hL:F.env.locals≠I)(hC:∀y k,F.env.cells.lookup y=B k->k≠I)(wh:s.toks<=tk):FX F h₀ σ {s with heap:=h',toks:=tk}:=by
  have l:∀(h:BJ),Bk F.c.hB h s.heap->h.get? I=AJ->Bk F.c.hB h h':=by
    intro h g p x R e;have D:x≠I:=λq=>by rw[q,p]at e;exact Eb e
    refine AC (g x R e) (λz=>(.inl (L x R D z))) λX=>(B7 X λa b G=>Au G λS Y hd z=>.inr ⟨a,b,S,Y,hd,L x _ D z⟩)
  have sb:MB (fz (F.X σ) s.heap) (fz (F.X σ) h'):=by
    intro b R e f;rw[Al]at e⊢;exact⟨e.1,L b R (λq=>e.1 (q▸wg)) e.2⟩
  have wi:=T.base.none w;refine⟨⟨l _ T.st.grow wi,T.st.os,T.st.bare,T.st.tabs.H5 λx R S e ed ec=>?_,AA T.st.toks wh⟩,⟨T.rep.ok,(Ge T.rep.ns λm om es E i r=>MR m om es E (L _ _ hL i) r),?_,T.rep.inj,?_,?_,T.rep.apart⟩,l _ T.grow w,T.base,T.fresh⟩;· refine L x R (λq=>?_) e;rw[q,ho]at e;clear ed;replace e:=EY e;induction e using EC;rw[j]at ec;exact J2 ec
  · intro y k e;refine Au (T.rep.cell y k e) λu N V r=>FK u N (L _ _ (hC y k e) V) r
  · intro y sl e;refine AI (T.rep.slot y sl e) λv a b=>AK v ?_ ?_;· intro hg;refine AC (a hg) (λX=>(Aa X λH G=>AI G λm' Q A=>H4 Q λom es E i r=>.inl ⟨H,m',⟨om,es,E,L _ _ hL i,r⟩,A⟩)) λX=>AC X (λX=>(Aa X λH G=>AI G λC z W=>AI W λN V r=>.inr (.inl ⟨H,C,z,N,L _ _ (hC _ _ z) V,r⟩))) λX=>(Aa X λH G=>AI G λC z W=>AI W λN V r=>.inr (.inr ⟨H,C,z,N,L _ _ (hC _ _ z) V,r⟩))
    ·cases sl with|v d=>exact Rd.sub sb b|own c xs=>refine B7 b λe1 K G=>Au G λS n hl r=>⟨e1,K,S,n,L _ _ (λq=>M (q▸Cn e)) hl,C3.sub sb r⟩
  · intro a P;by_cases q:a=I;·refine J q (.at t (.inl V))
    ·exact(T.rep.live a P).keep λR wj=>L a R q wj
theorem FX.forget{s:AE}{l:AS}(T:FX F h₀ σ s)(L:∀y sl,l.lookup y=B sl->σ.lookup y=B sl)(ho:∀a∈CT l,a∈CT σ):FX F h₀ l s:=by
 have u:∀a∈F.X l,a∈F.X σ:=λa P=>(Ai.mp P).elim (Ak _) λh=>Ac _ (ho a h);refine⟨T.st,⟨T.rep.ok,T.rep.ns,T.rep.cell,T.rep.inj,λy sl e=>?_,λa P=>T.rep.live a (u a P),λx y a xs ys e1 I=>T.rep.apart x y a xs ys (L _ _ e1) (L _ _ I)⟩,T.grow,T.base,λb hb=>T.fresh b (hb.imp id (ho b))⟩;refine AI (T.rep.slot y sl (L y sl e)) λv a b=>AK v a ?_;cases sl with|v d=>exact Rd.sub (Ed u _) b|own c xs=>refine B7 b λe1 K G=>Au G λS n g r=>⟨e1,Ac _ (Cn e),S,n,g,C3.sub (Ed u _) r⟩
noncomputable def La(scope:Cw)(env:Nx)(y:BA):BC:=scope.names.lookup y==B .free&&(env.kindOf y==B .cell||(env.kindOf y==B .free&&!(y==("__classdict__":BA))))
noncomputable def Ul(scope:Cw)(env:Nx):AS->AS|[]=>[]|(y,sl)::r=>if La scope env y=AO then(y,sl)::Ul scope env r else Ul scope env r
theorem Jo{scope:Cw}{env:Nx}:∀{σ:AS}{y:BA}{sl:Sl},(Ul scope env σ).lookup y=B sl->σ.lookup y=B sl/\La scope env y=AO:=by
 intro σ;induction σ with|nil=>intro M M h;simp[Ul]at h|cons c r I=>
rcases c with⟨z,s⟩;intro y sl h;unfold Ul at h;by_cases H:La scope env z=AO;· rw[Ap H,Am]at h;refine J Am ?_;cases t:y==z with|true=>rw[t]at h;replace h:=EY h;induction h using EC;exact⟨rfl,by refine J (BG.mp t) H⟩|false=>rw[t]at h;exact I h
· rw[Ab H]at h;refine Aa (I h) λa b=>⟨?_,b⟩;refine J Am ?_;cases t:y==z with|true=>rw[BG.mp t]at b;exact B8 b H|false=>exact a
theorem Mj{scope:Cw}{env:Nx}:∀{σ:AS}{a:AW},a∈CT (Ul scope env σ)->a∈CT σ
|[],_,h=>by simp[Ul]at h;exact h|(z,s)::r,a,h=>by
 unfold Ul at h;by_cases H:La scope env z=AO;· rw[Ap H]at h;cases s with|v d=>exact Mj (σ:=r) h|own b xs=>refine AC (Ae.mp h) (λX=>?_) λh=>(AU _ (Mj h));·subst X;exact AQ
 · rw[Ab H]at h;have :=Mj h;cases s with|v d=>exact this|own b xs=>exact AU _ this
noncomputable def Lr(env:Nx):U (BA×G2)->U (BA×AW)->U (BA×AW)|[],acc=>acc|(n,k)::r,acc=>if k==.free then Lr env r ((n,(env.cells.lookup n).getD 0)::acc)else Lr env r acc
theorem Sp{env:Nx}:∀(names:U (BA×G2))(acc:U (BA×AW)),(∀y∈names,y.2=.free->(env.cells.lookup y.1).isSome=AO)->(WY names acc λ(x:BA×G2)(s:U (BA×AW))=>if(x.2==Fk)=AO then do
let a<-cellOf env x.1
Bz (Ds ((x.1,a)::s))else Bz (Ds s))=(Bz (Lr env names acc):Sem _):=by
 intro names;induction names with|nil=>intro acc M;rfl|cons p r I=>
    intro acc h;rcases p with⟨n,k⟩;rewrite[DJ];by_cases R:(k==Fk)=AO
    · refine Aw (Bt.mp (h (n,k) AQ (BG.mp R))) λa P=>?_;have e:cellOf env n=Bz a:=by unfold cellOf;refine J P ?_;rfl
      have b:=I ((n,a)::acc) λy t=>h y (AU _ t);simp only[R,KH,e];simp only[Lr,R,KH,P,Et];refine CS b ?_;rfl
    · have b:=I acc λy t=>h y (AU _ t);simp only[Lr,Ab R];refine CS b ?_;rfl
theorem NH{scope:Cw}{env:Nx}(h:∀y∈scope.names,y.2=.free->(env.cells.lookup y.1).isSome=AO):JS scope env=Bz (Lr env scope.names []):=by
 unfold JS;dsimp only;refine J (Sp _ _ h) rfl
theorem Hv{env:Nx}:∀(names:U (BA×G2))(acc:U (BA×AW)){y:BA}{k:AW},(∀z∈names,z.2=.free->(env.cells.lookup z.1).isSome=AO)->(∀z k,acc.lookup z=B k->env.cells.lookup z=B k)->(Lr env names acc).lookup y=B k->env.cells.lookup y=B k:=by
 intro names;induction names with|nil=>intro acc y k M P h;exact P y k h|cons c r I=>
rcases c with⟨n,b⟩;intro acc y k p P h;unfold Lr at h;by_cases R:(b==Fk)=AO;· rw[Ap R]at h;refine Aw (Bt.mp (p (n,b) AQ (BG.mp R))) λa d=>I _ (λz H=>p z (AU _ H)) (λz C e=>?_) h;rw[Am]at e;cases H:z==n with|true=>rw[H]at e;replace e:=EY e;induction e using EC;refine J (BG.mp H) (J d ?_);rfl|false=>rw[H]at e;exact P z C e
· rw[Ab R]at h;exact I _ (λz H=>p z (AU _ H)) P h
theorem Vx{env:Nx}:∀(names:U (BA×G2))(acc:U (BA×AW)){y:BA},names.lookup y=B .free\/(acc.lookup y).isSome=AO->((Lr env names acc).lookup y).isSome=AO:=by
 intro names;induction names with|nil=>intro acc y h;refine AC h (λh=>?_) λh=>h;·simp at h|cons c r I=>
    rcases c with⟨n,b⟩;intro acc y h;unfold Lr;by_cases R:(b==Fk)=AO
    · refine J (Ap R) (I _ ?_);by_cases t:y=n;·right;simp[Am,t]
      · have e:=BD.mpr t;rw[Am,e]at h;refine AC h (λh=>(.inl h)) λh=>?_;·right;refine J Am (J e h)
    · refine J (Ab R) (I _ (AC h (λh=>?_) λh=>(.inr h)));· rw[Am]at h;cases t:y==n with|true=>rw[t]at h;replace h:=EY h;induction h using Tb;exact B8 rfl R|false=>rw[t]at h;exact .inl h
theorem Qu{env:Nx}:∀{names:U (BA×G2)}{y:BA},names.lookup y=B .free->(names.map λ(n,k)=>if(k==Fk&&env.scope.kind==.function&&env.kindOf n==B .cell)then(n,Ej)else(n,k)).lookup y=B (if(env.scope.kind==.function&&env.kindOf y==B .cell)then Ej else .free):=by
 intro names;induction names with|nil=>intro y h;simp at h|cons c r I=>
rcases c with⟨n,k⟩;intro y h
rw[Am]at h;simp only[Bo];cases t:y==n with|true=>
      rw[t]at h;replace h:=EY h;induction h using Tb;have :=BG.mp t;clear t;subst this;by_cases f:(env.scope.kind==Uv&&env.kindOf y==B Ej)=AO
      · have d:(Fk==Fk&&env.scope.kind==Uv&&env.kindOf y==B Ej)=AO:=by simpa using f
        refine J (Ap d) (J (Ap f) ?_);simp[Am]
      · have d:¬(Fk==Fk&&env.scope.kind==Uv&&env.kindOf y==B Ej)=AO:=by simpa using f
        refine J (Ab d) (J (Ab f) ?_);simp[Am]|false=>
      rw[t]at h;have I:=@I y h;have :∀z:G2,(y==((if(k==Fk&&env.scope.kind==.function&&env.kindOf n==B .cell)=AO then(n,Ej)else(n,k)):BA×G2).1)=AD:=by
        intro z;split<;>exact t
      rewrite[Am];have C:=this .free;revert C;split<;>intro C<;>(simp only[]at C;rewrite[C];exact I)
noncomputable def Fx.comp(F:Fx)(scope:Cw)(C:AW)(X:U AW):Fx:={c:=F.c,n:=F.n,env:=compEnvC scope (Lr F.env scope.names []) C F.env,Mu:=[C],Yc:=X}
end
section
variable{F:Fx}{h₀:BJ}{σ:AS}{Y:U AW}
noncomputable def ji(F:Fx)(σ:AS)(p:U BL)(Q:BC->Prop):Prop:=∀A E s,FD A F.n->St F.c s->Pd F.env σ (F.X σ) s.heap->Aj F.M A (WY p AO λc r=>if r=AO then do let ok<-isTrue c F.env (Gp c F.env);Bz (Ds ok)else Bz (Ds r)) (Rp F s Q) E s
theorem KE{Q:BC->Prop}(q:Q AO):ji F σ [] Q:=λA E s N j T=>AH ⟨j,.refl _ _,q⟩
theorem Me{c:BL}{Q:BC->Prop}(h:WT F σ c Q):ji F σ [c] Q:=by
 intro A E s N j T;rewrite[DJ];exact AB (AB (Ad (h A E s N j T) (λb s' p=>AH (by
exact AH p)) λM M x=>x))
noncomputable def dD(F:Fx)(σ:AS)(Y:U AW)(p:U BL)(elt:BL)(f:AX V):Prop:=ji F σ p λok=>(ok=AD->f=AJ)/\(ok=AO->WE F σ Y elt λr=>f=B r)
theorem St.but{c:Cx}{s:AE}{h':BJ}{tk:Z}(S:St c s)(h:U AW)(p:∀b∈h,c.hB.get? b=AJ)(f:∀b∈h,∀o d,s.heap.get? b=B o->o.data=.fields d->EX o.cls=AD)(R:∀b o,b∉h->s.heap.get? b=B o->h'.get? b=B o)(g:s.toks<=tk):St c {s with heap:=h',toks:=tk}:=by
 refine⟨λb o e=>?_,S.os,S.bare,S.tabs.H5 λb o d e m a=>R b o (λK=>by rw[f b K o d e m]at a;exact J2 a) e,AA S.toks g⟩;have hb:b∉h:=λK=>by rw[p b K]at e;exact Eb e
 refine AC (S.grow b o e) (λz=>(.inl (R b o hb z))) λX=>(B7 X λx y G=>Au G λd Y hd z=>.inr ⟨x,y,d,Y,hd,R b _ hb z⟩)
theorem Bk.but{hB h C h':BJ}(g:Bk hB h C)(s:U AW)(p:∀b∈s,h.get? b=AJ)(R:∀b o,b∉s->C.get? b=B o->h'.get? b=B o):Bk hB h h':=by
 intro b o e;have hb:b∉s:=λK=>by rw[p b K]at e;exact Eb e
 refine AC (g b o e) (λz=>(.inl (R b o hb z))) λX=>(B7 X λx y G=>Au G λS Y hd z=>.inr ⟨x,y,S,Y,hd,R b _ hb z⟩)
theorem Js(x:BA)(d:V)(σ:AS):∀a∈CT (σ.put x (.v d)),a∈CT σ:=λa h=>by
 refine AC (GG x _ σ a h) (λh=>h) λX=>?_;·refine Aw X λxs h=>?_;cases(h)
theorem Sd(x:BA)(d:V):∀{σ:AS},σ.lookup x=AJ->∀a∈CT σ,a∈CT (σ.put x (.v d)):=by
 intro σ;induction σ with|nil=>intro M a h;exact JZ h|cons c r I=>rcases c with⟨y,s⟩;intro D a h;rw[Am]at D;cases t:x==y with|true=>rw[t]at D;exact jc D|false=>
rw[t]at D;have e:¬(y==x)=AO:=by
 have :=BD.mp t;simpa usingλq=>this q.symm
unfold AS.put;refine J (Ab e) ?_;cases s with|v w=>exact I D a h|own b xs=>refine AC (Ae.mp h) (λX=>?_) λh=>(AU _ (I D a h));·subst X;exact AQ
theorem l9{P Q:Prop}(f:P->P->Q)(h:P):Q:=f h h
theorem Ta{x:BA}{px pos:EQ}{iter elt:BL}{x9:U BL}{scope:Cw}{R:U V->Prop}{xu:AX (AF->Sem LL)}{Q':AF->AE->Prop}{A:BQ}{E:AF->AE->Prop}{s:AE}(f:V->AX V)(N:FD A F.n)(j:St F.c s)(T:Pd F.env σ (F.X σ) s.heap)(xX:(scope.names.all λy=>y.2 !=.cell)=AO)(wt:scope.kind=.function)(xL:(scope.names.all λy=>y.2 !=.local||scope.names.lookup y.1==B .local)=AO)(hx:scope.names.lookup x=B .local)(xY:(scope.names.all λy=>y.2 !=.free||(F.env.cells.lookup y.1).isSome)=AO)(xv:∀a∈CT σ,F.c.hB.get? a=AJ)(h:WE F σ (F.X σ) iter λd=>∃xs,HX F.c d xs/\xs.length<=Ay/\(∀C zD d,d∈xs->(∀b∈CT (Ul scope F.env σ),b∉F.Xo->b∉(F.comp scope C zD).Xo)->F.c.hB.get? C=AJ->dD (F.comp scope C zD) ((Ul scope F.env σ).put x (.v d)) ((F.comp scope C zD).X (Ul scope F.env σ)) x9 elt (f d))/\R xs)(yU:∀(s₁ s':AE)(D C:AW)(m:BA->AX AF)(n:Z)(rs:U AF)(xs:U V),St F.c s₁->Bk F.c.hB s.heap s₁.heap->Pd F.env σ (F.X σ) s₁.heap->s₁.heap.get? C=AJ->s₁.heap.get? D=AJ->D≠C->R xs->s'.heap.Ns C m->St F.c s'->Bk F.c.hB s₁.heap s'.heap->s'.heap.get? D=B (BM rs n)->C3 (fz (C::F.X σ) s'.heap) (xs.filterMap f) rs->compPost F.M A E xu Q' (.ref D) C (.ok .next) s')(L:∀env x,El iter env x=Bz x:=by intro M M;rfl):Aj F.M A (comprehension (.ListComp elt [⟨.Name x px,iter,x9,0⟩] scope pos) scope F.env (firstIterPos [⟨.Name x px,iter,x9,0⟩] pos) (newList []) (firstAsync [⟨.Name x px,iter,x9,0⟩]) (firstIter [⟨.Name x px,iter,x9,0⟩] F.env) xu) Q' E s:=by
  have xM:=λy hy=>by have :=Bi.mp xX y hy;simpa using this
  have xA:∀y∈scope.names,y.2=.local->scope.names.lookup y.1=B .local:=λy hy e=>by
    have :=Bi.mp xL y hy;rw[e]at this;simpa using this
  have wh:∀y∈scope.names,y.2=.free->(F.env.cells.lookup y.1).isSome=AO:=λy hy e=>by
    have :=Bi.mp xY y hy;rw[e]at this;simpa using this
  refine iE rfl (L _) (NH wh) wt xA (h.bind N j T λv s₁ d l w t rd H=>?_);refine DU H λxs yV yW items q=>?_;clear H;refine yV A E s₁ _ v _ N.handled l (t.Ft CX) rd λo fp P S hn yX yY W yZ xw xx hP=>?_;have xy:=yZ;generalize xN:s₁.heap.push o=H1 at*;have ya:H1.objs.size=s₁.heap.objs.size+1:=by refine CS xN (J (EO _ _) ?_);rfl
  generalize hI:s₁.heap.objs.size=I at*;refine GW (IK xM (by intro y hy;simp at hy) (λwv wm wo=>?_) wt);dsimp only at wm wo⊢;generalize xZ:H1.push {cls:=.type "list",dict:=AJ,data:=.seq ([]:U AF).toArray}=H2 at wm wo⊢;generalize hD:H1.objs.size=D at*;have yb:H2.objs.size=D+1:=by refine CS xZ (J (EO _ _) (J hD ?_));rfl
  generalize yz:H2.objs.size=C at*;have xc:@LT.lt Z _ I D:=ya▸B5 I;have xz:@LT.lt Z _ D C:=yb▸B5 D;have xB:=CC xc xz;have xd:=CQ xc;have wz:=CQ xB;have xC:=CQ xz;have dn:∀(b:Z)o',s₁.heap.get? b=B o'->@LT.lt Z _ b I:=λb o' e=>hI▸Bg e;have nI:=hn;have nU:∀b:Z,I<b->s₁.heap.get? b=AJ:=λb h=>by
    cases e:s₁.heap.get? b with|none=>rfl|some o'=>exact B8 (CC h (dn _ _ e)) (CI _)
  have nD:=nU D xc;have nC:=nU C xB;have up:∀b o',b≠C->H2.get? b=B o'->wv.get? b=B o':=λb o' hb e=>(wo.2 b hb).trans (AR _ e);have gI:H1.get? I=B o:=by refine CS xN (CS hI (Ag _ yY))
  have up1:=λb o' hb e=>up b o' hb (xZ▸AR _ e);have gD:=up D _ xC (by refine CS xZ (CS hD (Ag _ rfl)));have g1:Bk F.c.hB s₁.heap wv:=.of_keep λb o' e=>up1 b o' (CQ (CC (dn b o' e) xB)) (xN▸AR _ e);let wg:=Ul scope F.env σ;let zD:=I::D::(F.Xo++(CT σ).filter λa=>!(CT wg).contains a);let Fi:=F.comp scope C zD;have wj:∀a,a∈Fi.X wg↔a=C\/a=I\/a=D\/a∈F.X σ:=by
    intro a;simp only[Fi,zD,Fx.X,Fx.Xo,Fx.comp,Ai,Ae,C0,Dv,JA,JH];constructor
    · rintro((h|h|h|(h|h)|⟨h,_⟩)|h);·exact .inl h
      ·exact .inr (.inl h)
      ·exact .inr (.inr (.inl h))
      ·exact .inr (.inr (.inr (.inl (.inl h))))
      ·exact .inr (.inr (.inr (.inl (.inr h))))
      ·exact .inr (.inr (.inr (.inr h)))
      ·exact .inr (.inr (.inr (.inr (Mj h))))
    · rintro(h|h|h|(h|h)|h);·exact .inl (.inl h)
      ·exact .inl (.inr (.inl h))
      ·exact .inl (.inr (.inr (.inl h)))
      ·exact .inl (.inr (.inr (.inr (.inl (.inl h)))))
      ·exact .inl (.inr (.inr (.inr (.inl (.inr h)))))
      · by_cases K:a∈CT wg;·exact .inr K
        · refine .inl (.inr (.inr (.inr (.inr ⟨h,?_⟩))));simpa using K
  have xO:∀b,s₁.heap.get? b=AJ->F.c.hB.get? b=AJ:=λb e=>l.grow.none e;have xe:∀h',Bk F.c.hB s₁.heap h'->MB (fz (F.X σ) s₁.heap) (fz (Fi.X wg) h'):=by
    intro h' g b ob e hc;rw[Al]at e⊢;refine⟨λK=>?_,g.Nc e.2 hc⟩;refine AC ((wj b).mp K) (λq=>?_) λX=>AC X (λq=>?_) λX=>AC X (λq=>?_) λq=>(e.1 q);·rw[q,nC]at e;cases e.2
    ·rw[q,nI]at e;cases e.2
    ·rw[q,nD]at e;cases e.2
  have S4:St F.c {s₁ with heap:=wv,toks:=s₁.toks+([]:U (BA×AF)).length}:=l.keep (λb o' e=>up1 b o' (CQ (CC (dn b o' e) xB)) (xN▸AR _ e)) (As _ _);have wq:∀y k,Fi.env.cells.lookup y=B k->∃ob,s₁.heap.get? k=B ob:=λy k e=>by
    refine Au (t.cell y k (Hv _ _ wh (λz k e=>by simp at e) e)) λu oc xD M=>⟨oc,xD⟩
  have T0:FX Fi F.c.hB wg {s₁ with heap:=wv,toks:=s₁.toks+([]:U (BA×AF)).length}:=by
    refine⟨S4,?_,S4.grow,.refl _ _,λb hb=>?_⟩;·
      refine⟨⟨wt,t.ok.glob,t.ok.bi⟩,⟨_,wm⟩,?_,(λx y k e1 e2=>t.inj x y k (Hv _ _ wh (λz k e=>by simp at e) e1) (Hv _ _ wh (λz k e=>by simp at e) e2)),?_,?_,(λx y a xs ys e1 e2=>t.apart x y a xs ys (Jo e1).1 (Jo e2).1)⟩;· intro y k e;refine Au (t.cell y k (Hv _ _ wh (λz k e=>by simp at e) e)) λu oc xD hd=>⟨u,IsCell.grow g1 ⟨oc,xD,hd⟩⟩
      · intro y sl e;refine Aa (Jo e) λe' hv=>AI (t.slot y sl e') λv a b=>?_;unfold La at hv;simp only[Bs,FI,BG,JH]at hv;clear e';refine Aa hv λhf hk=>Aw (Bt.mp (Vx (env:=F.env) scope.names [] (.inl hf))) λk xf=>?_;have wl:=Hv _ _ wh (λz k e=>by simp at e) xf;have hr:=Qu (env:=F.env) hf;have a':=a.grow g1;refine AK v ?_ ?_
        · intro hg;refine AC (a' hg) (λX=>?_) λX=>AC X (λX=>?_) λX=>?_;·refine Aa X λky M=>?_;focus(refine AC hk ?_ ?_;rotate_left;(focus(intro X;refine Aa X λhk M=>?_));rotate_right;(focus(intro hk)))<;>(rw[ky]at hk;replace hk:=EY hk;cases(hk))
          · refine Aa X λky G=>AI G λc' e2 hv=>?_;rw[e2]at wl;replace wl:=EY wl;induction wl using EC;refine .inr (.inl ⟨?_,_,xf,hv⟩);refine(?_:(dQ scope F.env).names.lookup y=_);unfold dQ;refine hr.trans (J (Ap (by refine J t.ok.kind (J ky ?_);decide)) ?_);rfl
          · refine Aa X λky G=>AI G λc' e2 hv=>?_;rw[e2]at wl;replace wl:=EY wl;induction wl using EC;refine .inr (.inr ⟨⟨?_,ky.2⟩,_,xf,hv⟩);refine(?_:(dQ scope F.env).names.lookup y=_);unfold dQ;refine hr.trans (J (Ab (by refine J ky.1 ?_;simp)) ?_);rfl
        ·clear e;cases sl with|v d=>exact Rd.sub (xe _ g1) b|own c xs=>refine B7 b λe1 K G=>Au G λvs n hl r=>⟨e1,(wj _).mpr (.inr (.inr (.inr K))),vs,n,g1.get hl F7,C3.sub (xe _ g1) r⟩
      · intro a ha;refine AC ((wj a).mp ha) (λq=>?_) λX=>AC X (λq=>?_) λX=>AC X (λq=>?_) λq=>((t.live a q).grow g1);·subst q;exact Lv.ns wm
        ·clear X;subst q;exact .at (up1 _ _ wz gI) (.inl yX)
        ·clear X;subst q;exact .at gD (.inl rfl)
    ·refine AC hb (λhb=>(J (AM.mp hb) (xO _ nC))) λhb=>(xv b (Mj hb))
  have y0:=(W A N.handled).frame _ _ _ xy λb hb ob e=>by
    refine up1 b ob ?_ e;refine AC (xw b hb) (λq=>(J q wz)) λX=>(Aa X λM G=>AI G λyc e' M=>CQ (CC (dn _ _ e') xB))
  have y3:=xO _ nI;have yd:=xO _ nD;have ye:=xO _ nC;have yf:Fi.env.locals≠I:=λq=>wz q.symm;have yg:Fi.env.locals≠D:=λq=>xC q.symm;have yh:∀y k,Fi.env.cells.lookup y=B k->k≠I:=λy k e q=>by refine Aw (wq y k e) λob h=>?_;rw[q,nI]at h;exact Eb h
  have yi:∀y k,Fi.env.cells.lookup y=B k->k≠D:=λy k e q=>by refine Aw (wq y k e) λob h=>?_;rw[q,nD]at h;exact Eb h
  have oX:∀a∈CT wg,(s₁.heap.get? a).isSome=AO:=λa ha=>(t.live a (Ac _ (Mj ha))).1;have yA:I∉CT wg:=λK=>by have :=oX _ K;rw[nI]at this;exact J2 this
  have yB:D∉CT wg:=λK=>by have :=oX _ K;rw[nD]at this;exact J2 this
  have xg:=(wj I).mpr (.inr (.inl rfl));have yC:=(wj D).mpr (.inr (.inr (.inl rfl)));have yD:La scope F.env x=AD:=by unfold La;refine J hx rfl
  have yj:wg.lookup x=AJ:=by
    cases e:wg.lookup x with|none=>rfl|some sl=>have :=(Jo e).2;rw[yD]at this;exact J2 this
  have yk:∀b∈CT wg,b∉F.Xo->b∉Fi.Xo:=by
    intro b hb yl K;have yE:=oX b hb;refine AC (Ae.mp (show b∈C::zD from K)) (λq=>?_) λK=>?_;·rw[q,nC]at yE;exact J2 yE
    refine AC (Ae.mp K) (λq=>?_) λK=>?_;·exact yA (q▸hb)
    refine AC (Ae.mp K) (λq=>?_) λK=>?_;·exact yB (q▸hb)
    refine AC (Ai.mp K) (λq=>(yl q)) λq=>?_;· have :=(C0.mp q).2;simp[hb]at this
  have ym:=λd hd=>items C zD d hd yk ye;refine l9 (λa b=>kf a ((W A N.handled).self 0 _ _ _ y0 b)) (codeAny_compLoop_tests (λk s'=>∃i rs n,k+i=xs.length+1/\i<=xs.length/\FX Fi F.c.hB wg s'/\Bk F.c.hB s₁.heap s'.heap/\s'.heap.get? D=B (BM rs n)/\C3 (fz (Fi.X wg) s'.heap) ((xs.take i).filterMap f) rs/\S i s'.heap) ?_ (xs.length+1) ⟨0,[],0,rfl,Ao _,T0,g1,gD,.nil,y0⟩);intro k s' yn;refine U8 yn λi rs n hk hi T' g' yF xP xh=>AI (xx i _ xh) λoI yG xQ=>?_;have x8:∀b,b≠I->b∉[I]:=λb h=>by simpa using h
  by_cases xE:i<xs.length
  · refine Ey (AN _) ((W A N.handled).item i s' _ _ xE xh λv h' tk yo yH wn xi=>?_);refine AI (xx (i+1) _ yH) λzA xR wu=>?_;have xS:=T'.turned (tk:=tk) y3 xg yG xQ xR wu yA (λb ob hb e=>wn b ob (x8 b hb) e) yf yh xi;have xF:=g'.but [I] (λb hb=>by refine J (AM.mp hb) nI) wn;refine AI (hP i v xE yo) λdx yI yp=>?_;have xj:=By yI;refine GY (Ew (sl:=.v dx) xS xS.rep (.inl ⟨Rz hx,AM.mpr rfl⟩) (Rd.sub (xe _ xF) yp) λwr wx xG=>?_);have yx:=by simpa using wz
    have yy:=by simpa using xC
    have e4:∀b ob,b≠C->dN ob->h'.get? b=B ob->wr.heap.get? b=B ob:=λb ob hb hc e=>xG.Nc e (λK=>hb (AM.mp K)) hc;have xH:Bk F.c.hB s₁.heap wr.heap:=by
      intro b ob e;have hb:b∉[C]:=λK=>by rw[AM.mp K,nC]at e;exact Eb e
      refine AC (xF b ob e) (λe'=>(xG b ob hb e')) λX=>?_;· refine B7 X λp q G=>Au G λvs Y hd e'=>AC (xG b _ hb e') (λxk=>(.inr ⟨p,q,vs,Y,hd,xk⟩)) λX=>?_;· refine B7 X λM M G=>Au G λzB xl yq xk=>?_;cases(yq);exact .inr ⟨p,q,vs,Y++xl,hd,by refine J xk ?_;simp⟩
    have yr:=e4 D _ xC (.inl F7) (wn D _ (x8 D (G3 xd)) yF);have yJ:MB (fz (Fi.X wg) s'.heap) (fz (Fi.X wg) wr.heap):=by
      intro b ob e hc;rw[Al]at e⊢;refine⟨e.1,e4 b ob (λq=>e.1 ((wj b).mpr (.inl q))) hc (wn b ob (x8 b λq=>e.1 (q▸xg)) e.2)⟩
    have yK:=C3.sub yJ xP;have xT:∀Q,St F.c Q->Bk F.c.hB wr.heap Q.heap->FX Fi F.c.hB wg Q/\Bk F.c.hB s₁.heap Q.heap/\Q.heap.get? D=B (BM rs n)/\C3 (fz (Fi.X wg) Q.heap) ((xs.take i).filterMap f) rs/\(∀xI,(∀b ob,b≠D->Q.heap.get? b=B ob->xI.get? b=B ob)->S (i+1) xI):=by
      intro Q wy wi;refine X5 ((wx.next wy wi).forget (λy sl e=>?_) (λa ha=>(Sd x _ yj a ha))) (xH.trans wi) (wi.get yr F7) (C3.sub (DB wi _) yK) (λxI k6=>?_);·rewrite[AS.DD];refine J (Ab (λq=>by have :=(Jo e).2;rw[q,yD]at this;exact J2 this)) e
      · refine(W A N.handled).frame _ _ _ yH λb hb ob e=>?_;by_cases q:b=I
        · rw[q]at e⊢;have o:=Af (xR.symm.trans e);have hc:ob.cls≠.none:=λq=>by rw[o,q]at wu;exact NI wu
          exact k6 I ob xd (wi.get (e4 I ob wz (.inl hc) e) hc)
        · refine AC (xw b hb) (λq'=>(B8 q' q)) λX=>?_;· refine Aa X λzC G=>AI G λyc e' hc=>?_;have e3:=xF.get e' hc;have o:=Af (e3.symm.trans e);rw[o]at e' hc;exact k6 b ob (λq=>by rw[q,nD]at e';exact Eb e') ((xH.trans wi).get e' hc)
    refine Ad (ym dx xj A _ wr N wx.st wx.rep) (λok Q H=>?_) λM M x=>x;refine Fb H λwy wi q1 q2=>?_;clear H;have yL:(xs.take (i+1)).filterMap f=(xs.take i).filterMap f++(f dx).toList:=by
      refine J DM (J yI (J dc ?_));first|(congr 1;done)|(congr 1;cases h:f dx<;>simp[h])
    cases ok with|false=>refine J (Ab Qj) (UB (xT Q wy wi) λyM xJ xm xn xo=>⟨xs.length-i,by exact Yv ‹_› ‹_›,i+1,rs,n,by(first|exact Yv ‹_› ‹_›|exact iX ‹_›),xE,yM,xJ,xm,by refine J yL (J (q1 rfl) ?_);simpa using xn,xo _ λM M M e=>e⟩)|true=>
      refine J (Ap rfl) ?_;have yN:=wx.rep.grow wi;refine Ad (q2 rfl A _ Q N wy yN) (λr xU H=>?_) λM M x=>x;refine B7 H λyO xJ G=>AI G λdr yt yu=>UB (xT xU yO (wi.trans xJ)) λyP yQ xK xp xr=>?_;have yv:rs.length<=xs.length:=by
        refine CS xP.length (AA (U.length_filterMap_le _ _) (by refine J Ci (Db _ _)))
      refine ju ⟨n,xK⟩ (λxV⟨n',hp⟩yR=>?_) (by simpa using AA yv yW);have yS:xV.get? D=B (BM (rs++[r]) n'):=by refine J hp ?_;simp
      have k8:∀b ob,b≠D->xU.heap.get? b=B ob->xV.get? b=B ob:=λb ob hb e=>(yR.2 b hb).trans e;have yT:=yP.turned yd yC xK rfl yS rfl yB k8 yg yi (AN _);refine⟨xs.length-i,by exact Yv ‹_› ‹_›,i+1,rs++[r],n',by(first|exact Yv ‹_› ‹_›|exact iX ‹_›),xE,yT,yQ.but [D] (λb hb=>by refine J (AM.mp hb) nD) (λb ob hb e=>k8 b ob (λq=>hb (by simp[q])) e),yS,?_,xr _ k8⟩;refine J yL (J yu ?_);have xW:=Qa yC λb hb=>yR.2 b hb;exact(C3.sub xW xp).append (.cons (Rd.sub xW yt) .nil)
  · have yw:=by exact iW ‹_› ‹_›
    clear hk hi xE;subst yw;refine Ey (AN _) ((W A N.handled).done s' _ _ xh λh' tk wn xi=>?_);refine MO T'.rep.ns λm om es ep xt xj r=>?_;have xt:=xt;rw[GZ]at xP;refine yU s₁ _ D C m n rs xs l w t nC nD xC q ⟨om,es,ep,wn _ _ (x8 C (G3 wz)) xt,xj,r⟩ (T'.st.but [I] (λb hb=>by refine J (AM.mp hb) y3) (λb hb o' vs e hd=>?_) wn xi) (g'.but [I] (λb hb=>by refine J (AM.mp hb) nI) wn) (wn D _ (x8 D (G3 xd)) yF) (C3.sub ?_ xP);·rw[AM.mp hb,yG]at e;clear hd;replace e:=EY e;induction e using EC;exact xQ
    · intro b ob e hc;rw[Al]at e⊢;refine⟨λK=>e.1 ?_,wn b ob (x8 b λq=>e.1 (q▸xg)) e.2⟩;refine AC (Ae.mp K) (λq=>((wj b).mpr (.inl q))) λq=>((wj b).mpr (.inr (.inr (.inr q))))
theorem F9{x:BA}{px pos:EQ}{iter elt:BL}{p:U BL}{scope:Cw}{Q:V->Prop}(f:V->AX V)(wg:∀a∈Y,a∈F.X σ)(P:(scope.names.all λy=>y.2 !=.cell)=AO)(k:scope.kind=.function)(c:(scope.names.all λy=>y.2 !=.local||scope.names.lookup y.1==B .local)=AO)(hx:scope.names.lookup x=B .local)(g:(scope.names.all λy=>y.2 !=.free||(F.env.cells.lookup y.1).isSome)=AO)(wh:∀a∈CT σ,F.c.hB.get? a=AJ)(h:WE F σ (F.X σ) iter λd=>∃xs,HX F.c d xs/\xs.length<=Ay/\(∀C X d,d∈xs->(∀b∈CT (Ul scope F.env σ),b∉F.Xo->b∉(F.comp scope C X).Xo)->F.c.hB.get? C=AJ->dD (F.comp scope C X) ((Ul scope F.env σ).put x (.v d)) ((F.comp scope C X).X (Ul scope F.env σ)) p elt (f d))/\Q (.list (xs.filterMap f)))(L:∀env x,El iter env x=Bz x:=by intro M M;rfl):WE F σ Y (.ListComp elt [⟨.Name x px,iter,p,0⟩] scope pos) Q:=by
 intro A E s N j T;refine Ta f N j T P k c hx g wh h (λs₁ s' D C m n z xs l w t nC nD G q W S' g' v u=>?_) L;have wj:D∉Y:=λK=>by have :=(t.live D (wg D K)).1;rw[nD]at this;exact J2 this
 refine AK m W (λI wi=>?_);have H:∀b o,b∉[C]->s'.heap.get? b=B o->I.get? b=B o:=λb R hb e=>(wi.2 b (λq=>hb (by refine J q (AM.mpr rfl)))).trans e;refine⟨S'.but [C] (λb hb=>by refine J (AM.mp hb) (l.grow.none nC)) (λb hb o' S e hd=>?_) H (AN _),w.trans (g'.but [C] (λb hb=>by refine J (AM.mp hb) nC) H),.list (xs.filterMap f),.list (Al.mpr ⟨wj,H D _ (by simpa using G) v⟩) (C3.sub ?_ u),q⟩;·refine Na W λom es ep i wl r=>?_;rw[AM.mp hb,i]at e;replace e:=EY e;induction e using EC;rw[wl]at hd;cases(hd)
 · intro b R e hc;rw[Al]at e⊢;exact⟨λK=>e.1 (AU _ (wg b K)),H b R (λK=>e.1 (by refine J (AM.mp K) (AQ))) e.2⟩
end
section
variable{F:Fx}{h₀:BJ}{σ:AS}{Y:U AW}
structure Wf(c:Cx):Prop where
g:c.hB.Ns Cc c.mg
b:c.hB.Ns CU c.mb
lim:c.hB.NoLimit
theorem CodeRec.grow{hB h h':BJ}(g:Bk hB h h'){cd:AF}{q:BA}(x:h.CodeRec cd q):h'.CodeRec cd q:=by
 refine Km x λc o S t e ho hd n=>AC (g c o ho) (λz=>(UD c o S t e z hd n)) λX=>?_;· refine B7 X λM M G=>Au G λP Y b z=>?_;rw[hd]at b;cases(b);refine UD c _ (S++Y) t e z rfl ?_;have hi:=(Bc.getElem?_eq_some_iff.mp n).1;refine J (Bc.getElem?_append_left hi) n
noncomputable def Ef(c:Cx)(n:Z)(fa:AW)(P:U V->(V->Prop)->Prop):Prop:=∀A s Y F S Q,FD A n->St c s->Hf Y s.heap->C3 (fz Y s.heap) S F->P S Q->HZ (BF c.prog c.w) A (.call (.ref fa) ⟨F,[]⟩) (λr s'=>∃v d,r=.ok (.ret v)/\St c s'/\Bk c.hB s.heap s'.heap/\Rd (fz Y s'.heap) d v/\Q d) s
theorem Ef.less{c:Cx}{n m:Z}{fa:AW}{P:U V->(V->Prop)->Prop}(h:Ef c n fa P)(K:n<=m):Ef c m fa P:=λA s Y F S Q g=>h A s Y F S Q (g.less K)
theorem W0{k:BA->AX G2}:∀{a:U (BA×AF)}{m:BA->AX AF}{x:BA},x∉a.map (·.1)->bindL k a m x=m x:=by
 intro a;induction a with|nil=>intro m x M;exact rfl|cons c r I=>
rcases c with⟨n,v⟩;intro m x h;have p:x≠n:=λq=>h (by simp[q]);have hr:x∉r.map (·.1):=λq=>h (by simp at q⊢;exact .inr q);refine J (I hr) ?_;split;·simp[p]
·rfl
theorem W2{k:BA->AX G2}:∀{a:U (BA×AF)}{m:BA->AX AF}{x:BA},x∉a.map (·.1)->bindC k a m x=m x:=by
 intro a;induction a with|nil=>intro m x M;exact rfl|cons c r I=>
rcases c with⟨n,v⟩;intro m x h;have p:x≠n:=λq=>h (by simp[q]);have hr:x∉r.map (·.1):=λq=>h (by simp at q⊢;exact .inr q);refine J (I hr) ?_;split;·rfl
·simp[p]
theorem Tc{k:BA->AX G2}{a:U (BA×AF)}{m:BA->AX AF}{x:BA}{v:AF}(b:(a.map (·.1)).Nodup)(K:(x,v)∈a)(R:k x=B .local):bindL k a m x=B v:=by
 induction a generalizing m with|nil=>exact JZ K|cons p r I=>have X:=Uz.mp (show(p.1::r.map (·.1)).Nodup from b);refine(?_:bindL k r _ x=B v);refine AC (Ae.mp K) (λe=>?_) λK=>(I X.2 K);· rw[<-e]at X⊢;refine J (W0 X.1) (J (Ap R) ?_);simp
theorem Td{k:BA->AX G2}{a:U (BA×AF)}{m:BA->AX AF}{x:BA}{v:AF}(b:(a.map (·.1)).Nodup)(K:(x,v)∈a)(R:k x=B .cell):bindC k a m x=B v:=by
 induction a generalizing m with|nil=>exact JZ K|cons p r I=>have X:=Uz.mp (show(p.1::r.map (·.1)).Nodup from b);refine(?_:bindC k r _ x=B v);refine AC (Ae.mp K) (λe=>?_) λK=>(I X.2 K);· rw[<-e]at X⊢;refine J (W2 X.1) (J (Ab (by refine J R λW=>?_;replace W:=EY W;cases(W))) ?_);simp
noncomputable def Cv(names:U BA)(S:U V):AS:=names.zip (S.map Sl.v)
theorem H0:∀(names:U BA)(S:U V),CT (Cv names S)=[]
|[],S=>by rfl|n::r,[]=>by rfl|n::r,v::S=>by
 have :=H0 r S;simpa[Cv,CT]using this
theorem MN{G:EJ}{names:U BA}{S:U V}{F:U AF}{y:BA}{sl:Sl}(hr:C3 G S F)(h:(Cv names S).lookup y=B sl):∃d v,sl=.v d/\(y,v)∈names.zip F/\Rd G d v:=by
 induction names generalizing S F with|nil=>exact Eb h|cons n r I=>cases S with|nil=>exact Eb h|cons d u=>induction hr using C3.eC with|cons a b=>have h:Iv y ((n,Sl.v d)::Cv r u)=B sl:=h;rw[Am]at h;cases t:y==n with|true=>rw[t]at h;exact Fs d _ (Af h).symm (by refine J (BG.mp t) (.head _)) a|false=>rw[t]at h;refine Cj (I b h) λw c e K m=>Fs w c e (.tail _ K) m
noncomputable def PX(fd:EA)(L:AW):U AW:=L::(E5 (L+1) fd.scope.names []).filterMap λp=>(E5 (L+1) fd.scope.names []).lookup p.1
noncomputable def Fx.call(c:Cx)(n:Z)(fd:EA)(fa L:AW)(Y:U AW):Fx:={c:=c,n:=n,env:=LP fd L fa,Mu:=PX fd L,Yc:=Y}
noncomputable def J3(Q:V->Prop):Ha->AS->Prop|.ret d,_=>Q d|.next,_=>Q .none|_,_=>Dp
theorem Ef.of_body{c:Cx}{n:Z}{fa:AW}{o:Gq}{fd:EA}{body:U G1}{names:U BA}{P:U V->(V->Prop)->Prop}(hw:Wf c)(ho:c.hB.get? fa=B o)(wh:o.data=.func fd)(xC:c.hB.CodeRec fd.code fd.qualname)(wm:fd.body=.stmts body)(wt:fd.closure=[])(xD:fd.globals=Cc)(xE:fd.builtins=CU)(R:fd.scope.kind=.function)(xF:fd.scope.isCoroutine=AD)(wu:fd.scope.isGenerator=AD)(wv:names.Nodup)(w:∀l:U AF,l.length=names.length->ES fd ⟨l,[]⟩=Bz (names.zip l))(wi:(names.all λx=>fd.scope.names.lookup x==B .local||(fd.scope.names.lookup x==B .cell&&((E5 0 fd.scope.names []).lookup x).isSome))=AO)(h:∀L Y S Q h₀,P S Q->S.length=names.length/\WS (Fx.call c n fd fa L Y) h₀ (Cv names S) body (J3 Q)):Ef c (n+1) fa P:=by
  intro A s Y F S Q N j hL i hP;have wx:=(h 0 [] S Q s.heap hP).1;have wy:=i.length▸wx;have wg:(names.zip F).map (·.1)=names:=by refine J (N6 (B6 wy.symm)) rfl
  have wz:∀x∈names,fd.scope.names.lookup x=B .local\/(fd.scope.names.lookup x=B .cell/\∀n,((E5 n fd.scope.names []).lookup x).isSome=AO):=by
    intro x D;have :=Bi.mp wi x D;simp only[FI,Bs,BG]at this;refine AC this (λh=>(.inl h)) λX=>(Aa X λh h'=>.inr ⟨h,λn=>cellsFrom_some _ _ _ (.inl h)⟩)
  have x8:=j.grow.Gk ho (by refine J wh MQ);refine Ks N.room x8 wh xF wu wm (CodeRec.grow j.grow xC) (J (w F wy) (J wt (AH (Ey (AN _) (dm R ?_ λenv he s₁ x=>?_)))))
  · intro x D;rcases x with⟨y,v⟩;have t:y∈names:=by refine CS wg (BO.mpr ⟨(y,v),D,rfl⟩)
    exact(wz y t).imp id λxG=>by refine Aa xG λa b=>⟨a,b _⟩
  · generalize wj:s.heap.objs.size=L at*;refine Aa (h L Y S Q s.heap hP) λM wn=>?_;subst he;intro xH;refine⟨(NoLimit.grow j.grow hw.lim).keeps x.toInCall.keep,WM ?_⟩;refine Au x.done λC tk wo wq=>?_;subst wo;have x9:=wj▸EK _;have u:∀y k,(LP fd L fa).cells.lookup y=B k->s.heap.get? k=AJ:=by
      intro y k e;have :=x.above y k (mem_of_lookup e);cases I:s.heap.get? k with|none=>rfl|some o'=>have W:=Bg I;rw[wj]at W;exact B8 W (LR.mpr (BE this))
    have wl:(Fx.call c n fd fa L Y).X (Cv names S)=PX fd L++Y:=by
      simp[Fx.X,Fx.Xo,Fx.call,H0]
    have wr:∀b∈PX fd L,s.heap.get? b=AJ:=by
      intro b hb;clear wj wn x wl;refine AC (Ae.mp hb) ?_ λhb=>?_;intro X;subst X;·exact x9
      ·refine AI (Qe.mp hb) λp M E=>u p.1 b E
    have xA:∀b∈PX fd L,Lv C b:=by
      intro b hb;clear wj wn x9 u wl wr;refine AC (Ae.mp hb) ?_ λhb=>?_;intro X;subst X;·exact Lv.ns x.toInCall.ns
      ·refine AI (Qe.mp hb) λp M E=>Lv.cell (x.cell p.1 b E)
    have Uj:MB (fz Y s.heap) (fz (PX fd L++Y) C):=by
      intro b ob e f;rw[Al]at e⊢;refine⟨λK=>?_,wq b ob e.2⟩;refine AC (Ai.mp K) (λK=>?_) λK=>(e.1 K);·rw[wr b K]at e;cases e.2
    have g1:Bk c.hB s.heap C:=.of_keep wq;have T:FX (Fx.call c n fd fa L Y) s.heap (Cv names S) {s with heap:=C,toks:=tk}:=by
      refine⟨j.keep wq xH,⟨⟨R,xD,xE⟩,⟨_,x.toInCall.ns⟩,λy k e=>⟨_,x.cell y k e⟩,?_,?_,?_,?_⟩,g1,j.grow,?_⟩;· intro y z k e1 I;exact name_of_addr x.apart (Ea e1) (Ea I)
      · intro y sl e;refine Cj (MN i e) λd v wo K m=>?_;subst wo;have t:y∈names:=by refine CS wg (BO.mpr ⟨(y,v),K,rfl⟩)
        refine AK v ?_ ?_;· intro M;refine AC (wz y t) (λg=>(.inl ⟨g,_,x.toInCall.ns,Tc (by refine J wg wv) K g⟩)) λX=>?_;· refine Aa X λg hs=>Aw (Bt.mp (hs (L+1))) λk xB=>.inr (.inl ⟨g,k,xB,?_⟩);have :=x.cell y k xB;rw[Td (by refine J wg wv) K g]at this;exact this
        · refine(?_:Rd (fz ((Fx.call c n fd fa L Y).X (Cv names S)) C) d v);refine J wl (Rd.sub Uj m)
      · intro a ha;rw[wl]at ha;refine AC (Ai.mp ha) (λh=>(xA a h)) λh=>((hL a h).grow g1)
      · intro y z a xs ys e1 I;have :=Cn e1;rw[H0]at this;exact JZ this
      · intro b hb;refine AC hb (λhb=>(wr b hb)) λhb=>?_;·rw[H0]at hb;exact JZ hb
    refine Ad (wn _ _ _ (N.deeper _) T) (λfl s' H=>?_) λM M x=>x;refine Dg H λxI σ' T' G r q=>?_;clear H;have wk:∀d v,Rd (fz (Fx.call c n fd fa L Y).Xo s'.heap) d v->Rd (fz Y s'.heap) d v:=λd v m=>Rd.sub (Ed (λa ha=>Ac _ ha) _) m;cases(fl)<;>cases(xI)<;>simp only[Nh]at r<;>try exact r.elim
    ·exact Ju .none .none rfl T'.st T'.grow .none q
    ·exact q.elim
    ·exact q.elim
    ·exact Ju _ _ rfl T'.st T'.grow (wk _ _ r) q
theorem P0{A:BQ}{E:AF->AE->Prop}{s:AE}{x:BA}{pos:EQ}{v:AF}{Q:AF->AE->Prop}(p:Wf F.c)(j:St F.c s)(r:dO F.env)(R:F.env.kindOf x=B .globalImplicit)(K:F.c.mg x=B v)(h:Q v s)(hd:(x==("__debug__":BA))=AD:=by rfl):Aj F.M A (Gp (.Name x pos) F.env) Q E s:=Name_function_global r.kind R (loadGlobal_global (by refine J r.glob (Ns.grow j.grow p.g)) K h) hd
theorem Ig{A:BQ}{E:AF->AE->Prop}{s:AE}{x:BA}{pos:EQ}{v:AF}{Q:AF->AE->Prop}(p:Wf F.c)(j:St F.c s)(r:dO F.env)(R:F.env.kindOf x=B .globalImplicit)(K:F.c.mg x=AJ)(hb:F.c.mb x=B v)(h:Q v s)(hd:(x==("__debug__":BA))=AD:=by rfl):Aj F.M A (Gp (.Name x pos) F.env) Q E s:=Name_function_global r.kind R (loadGlobal_builtin (by refine J r.glob (Ns.grow j.grow p.g)) K (by refine J r.bi (Ns.grow j.grow p.b)) hb h) hd
theorem Mt{f:BA}{X pos:EQ}{e:BL}{es:U BL}{fa:AW}{o:Gq}{fd:EA}{P:U V->(V->Prop)->Prop}{Q:V->Prop}(p:Wf F.c)(R:F.env.kindOf f=B .globalImplicit)(K:F.c.mg f=B (.ref fa))(ho:F.c.hB.get? fa=B o)(b:o.data=.func fd)(ok:Ef F.c F.n fa P)(k:∀a∈Y,a∈F.X σ)(h:OV F σ Y (e::es) λu=>P u Q)(he:∀env,Bn (e::es) env=(AD,Gp e env)::Bn es env:=by intro env;rfl)(n:∀pos env,(Fg pos (Bn es env)).any (·.1)=AD:=by intro M M;rfl)(hd:(f==("__debug__":BA))=AD:=by rfl):WE F σ Y (.Call (.Name f X) (e::es) [] pos) Q:=by
 intro A E s N j T;refine wpAny_Call_ofName (P0 p j T.ok R K ?_ hd);refine callWith_function (o:=o) (fd:=fd) ?_;have hb:∀pos,Fg pos (Bn (e::es) F.env)=(AD,Gp e F.env)::Fg pos (Bn es F.env):=λpos=>by refine J (he _) ?_;rfl
 refine J (hb _) (oh (CS (hb _) (h.bind N j T λl s₁ u D w G m g=>⟨⟨D.grow.Gk ho (by refine J b MQ),b⟩,Gm (MC (ok A s₁ Y l u Q N D (G.Ft k) m g) λr y H=>?_)⟩)));refine Jt H λv d e i z c q=>J e ⟨i,w.trans z,d,c,q⟩
end
section
variable{F:Fx}{h₀:BJ}{σ:AS}{Y:U AW}{c:Cx}
theorem Bv.of{u:Lw}{a b:V}{r:BC}(h:∀A E s m I(Q:AF->AE->Prop),St c s->FD A 0->Rd s.heap.get? a m->Rd s.heap.get? b I->(∀s',SE s s'->Q (.bool r) s')->Aj (BF c.prog c.w) A (compareOp u m I) Q E s):Bv c u a b r:=λs m I j L X A E N=>h A E s m I _ j N L X λs' k=>⟨k,rfl⟩
theorem Bv.eqS(a b:U Z):Bv c .Eq (.str a) (.str b) (a==b):=.of λA E s m I Q M M L X k=>by
 induction L using Rd.eS;induction X using Rd.eS;refine eq_str ?_;have :(tx a==tx b)=(a==b):=by
  clear k;by_cases h:a=b;·subst h;simp
  ·refine J (BD.mpr h) (J (BD.mpr λq=>h (We q)) ?_);rfl
 refine J this (k _ (Keeps.refl s))
theorem Bv.neS(a b:U Z):Bv c .NotEq (.str a) (.str b) (a !=b):=.of λA E s m I Q M M L X k=>by
 induction L using Rd.eS;induction X using Rd.eS;refine ne_str ?_;have :(tx a !=tx b)=(a !=b):=by
  clear k;by_cases h:a=b;·subst h;simp
  · have W:=BD.mpr h;have C:=BD.mpr λq=>h (We q);simp[bne,W,C]
 refine J this (k _ (Keeps.refl s))
theorem Bv.ltS(a b:U Z):Bv c .Lt (.str a) (.str b) (B9 (a<b)):=.of λA E s m I Q M M L X k=>by
 induction L using Rd.eS;induction X using Rd.eS;exact P.lt_str (by exact k _ (Keeps.refl s))
theorem Bv.gtS(a b:U Z):Bv c .Gt (.str a) (.str b) (B9 (b<a)):=.of λA E s m I Q M M L X k=>by
 induction L using Rd.eS;induction X using Rd.eS;exact P.gt_str (by exact k _ (Keeps.refl s))
theorem Bv.fe(a b:U Z):Bv c .LtE (.str a) (.str b) (!B9 (b<a)):=.of λA E s m I Q M M L X k=>by
 induction L using Rd.eS;induction X using Rd.eS;exact P.le_str (by exact k _ (Keeps.refl s))
theorem Bv.be(a b:U Z):Bv c .NotIn (.str a) (.str b) (!kh (tx b) (tx a)):=.of λA E s m I Q M M L X k=>by
 induction L using Rd.eS;induction X using Rd.eS;exact PyProof.Rows.notIn_str (k _ (Keeps.refl s))
theorem Bv.eqI(a b:O):Bv c .Eq (.int a) (.int b) (a==b):=.of λA E s m I Q M M L X k=>by
 induction L using Rd.eI;induction X using Rd.eI;exact eq_int (k _ (Keeps.refl s))
theorem Bv.neI(a b:O):Bv c .NotEq (.int a) (.int b) (a !=b):=.of λA E s m I Q M M L X k=>by
 induction L using Rd.eI;induction X using Rd.eI;exact ne_int (k _ (Keeps.refl s))
theorem Bv.ltI(a b:O):Bv c .Lt (.int a) (.int b) (B9 (a<b)):=.of λA E s m I Q M M L X k=>by
 induction L using Rd.eI;induction X using Rd.eI;exact lt_int (k _ (Keeps.refl s))
theorem Bv.gtI(a b:O):Bv c .Gt (.int a) (.int b) (B9 (b<a)):=.of λA E s m I Q M M L X k=>by
 induction L using Rd.eI;induction X using Rd.eI;exact gt_int (k _ (Keeps.refl s))
theorem Bv.leI(a b:O):Bv c .LtE (.int a) (.int b) (B9 (a<=b)):=.of λA E s m I Q M M L X k=>by
 induction L using Rd.eI;induction X using Rd.eI;exact le_int (k _ (Keeps.refl s))
theorem Bv.geI(a b:O):Bv c .GtE (.int a) (.int b) (B9 (b<=a)):=.of λA E s m I Q M M L X k=>by
 induction L using Rd.eI;induction X using Rd.eI;exact ge_int (k _ (Keeps.refl s))
theorem Bv.neB(a b:BC):Bv c .NotEq (.bool a) (.bool b) (a !=b):=.of λA E s m I Q M M L X k=>by
 induction L using Rd.eB;induction X using Rd.eB;exact ne_bool (k _ (Keeps.refl s))
theorem FM.bool(b:BC):FM c (.bool b) b:=λs m A E N j r=>by
 induction r using Rd.eB;exact KN ⟨Keeps.refl s,rfl⟩
theorem FM.str(l:U Z)(h:l.length<2^62):FM c (.str l) (!l.isEmpty):=λs m A E N j r=>by
 induction r using Rd.eS;refine P.truthy_str (by refine J (EL _) (uY ‹_›)) ⟨Keeps.tok _ _,?_⟩;refine J (EL _) ?_;cases(l)<;>simp;(first|exact uX|omega)
theorem FM.list(l:U V)(h:l.length<2^62):FM c (.list l) (!l.isEmpty):=λs m A E N j r=>by
 induction r using Rd.eL with|list e r=>refine wpAny_truthy_list ⟨_,e,rfl,_,rfl⟩ (by refine J BN (CS r.length (uZ ‹_›))) ⟨Keeps.tok _ _,?_⟩;have :=r.length;clear h e this;cases(l)<;>(first|induction r using C3.eC|induction r using C3.eN)<;>simp
theorem HR.of{u:IM}{a b d:V}(h:∀A E Y s m I(Q:AF->AE->Prop),St c s->FD A 0->Hf Y s.heap->Rd (fz Y s.heap) a m->Rd (fz Y s.heap) b I->(∀v s',SE s s'->Rd (fz Y s'.heap) d v->Q v s')->Aj (BF c.prog c.w) A (binaryOp u m I) Q E s):HR c u a b d:=λY s m I j K L X A E N=>h A E Y s m I _ j N K L X λv s' k r=>⟨k,r⟩
theorem HR.dB(a b:O):HR c .Add (.int a) (.int b) (.int (a+b)):=.of λA E Y s m I Q M M M L X k=>by
 induction L using Rd.eI;induction X using Rd.eI;exact add_int (k _ _ (Keeps.tok _ _) (.int _ _))
theorem HR.fB(a b:O):HR c .Sub (.int a) (.int b) (.int (a-b)):=.of λA E Y s m I Q M M M L X k=>by
 induction L using Rd.eI;induction X using Rd.eI;exact PyProof.Rows.sub_int (k _ _ (Keeps.tok _ _) (.int _ _))
theorem HR.UX(a b:U Z)(h:a.length+b.length<=Ay):HR c .Add (.str a) (.str b) (.str (a++b)):=.of λA E Y s m I Q M M M L X k=>by
 induction L using Rd.eS;induction X using Rd.eS;refine PyProof.Rows.add_str (λn tk=>k _ _ (Keeps.tok _ _) ?_) (by exact h);have :tx a++tx b=tx (a++b):=by
  refine(?_:du _ _=_);simp[tx,du]
 refine J this (.str _ _)
end
section
variable{F:Fx}{h₀:BJ}{σ:AS}{Y:U AW}{c:Cx}
theorem GC{u:BoolOp}{e:BL}{pos:EQ}{Q:V->Prop}(h:WE F σ Y e Q):WE F σ Y (.BoolOp u [e] pos) Q:=λA E s N j T=>BoolOp_one (h A E s N j T)
theorem iA{c f:BL}{R:U BL}{pos:EQ}{Q:V->Prop}(h:WE F σ Y c λv=>∃b,FM F.c v b/\(b=AO->Q v)/\(b=AD->WE F σ Y (.BoolOp .Or (f::R) pos) Q)):WE F σ Y (.BoolOp .Or (c::f::R) pos) Q:=by
 intro A E s N j T;refine BoolOp_or (h.bind N j T λv s₁ d l w t m H=>?_);refine CF H λb ok q1 u=>Ad (CM (ok s₁ v A E (N.less (Ao _)) l (Rd.sub JN m))) (λx y H=>?_) λM M x=>x.2;refine B7 H λi k e=>?_;clear H;subst e;have L:Kp s₁ y:=⟨k,i⟩;have z:Bk F.c.hB s₁.heap y.heap:=B4 L;cases x with|true=>exact Gr.of l w L (Rd.sub (DB z _) m) (q1 rfl)|false=>exact Ad (u rfl A E y N (l.keeps L) (t.grow z)) (λr W X=>by refine B7 X λa b G=>AI G λd m q=>⟨a,(w.trans z).trans b,d,m,q⟩) λM M x=>x
theorem jm{c f:BL}{R:U BL}{pos:EQ}{Q:V->Prop}(h:WE F σ Y c λv=>∃b,FM F.c v b/\(b=AD->Q v)/\(b=AO->WE F σ Y (.BoolOp .And (f::R) pos) Q)):WE F σ Y (.BoolOp .And (c::f::R) pos) Q:=by
 intro A E s N j T;refine BoolOp_and (h.bind N j T λv s₁ d l w t m H=>?_);refine CF H λb ok q1 u=>Ad (CM (ok s₁ v A E (N.less (Ao _)) l (Rd.sub JN m))) (λx y H=>?_) λM M x=>x.2;refine B7 H λi k e=>?_;clear H;subst e;have L:Kp s₁ y:=⟨k,i⟩;have z:Bk F.c.hB s₁.heap y.heap:=B4 L;cases x with|false=>exact Gr.of l w L (Rd.sub (DB z _) m) (q1 rfl)|true=>exact Ad (u rfl A E y N (l.keeps L) (t.grow z)) (λr W X=>by refine B7 X λa b G=>AI G λd m q=>⟨a,(w.trans z).trans b,d,m,q⟩) λM M x=>x
theorem dH{l f p:BL}{n o:Lw}{pos:EQ}{Q:V->Prop}(h:WE F σ F.Xo l λa=>WE F σ F.Xo f λb=>∃d,Bv F.c n a b d/\(d=AD->Q (.bool AD))/\(d=AO->WE F σ F.Xo p λe=>∃d',Bv F.c o b e d'/\Q (.bool d')))(K:lastMarks [n,o] [f,p]=AD:=by with_unfolding_all rfl):WE F σ Y (.Compare l [n,o] [f,p] pos) Q:=by
 intro A E s N j T;refine Compare_chain (h.bind N j T λm s₁ a D w G L C=>chain_link (C.bind N D G λI y b g z t X H=>?_)) K;refine CF H λd ok q1 u=>Ad (CM (ok y m I g (Rd.sub (JN) (Rd.sub (DB z _) L)) (Rd.sub JN X) A E (N.less (Ao _)))) (λx W H=>?_) λM M x=>x.2;refine B7 H λi k e=>?_;clear H;clear ok;subst e;have kp:Kp y W:=⟨k,i⟩;have R:Bk F.c.hB y.heap W.heap:=B4 kp;refine KN ?_;cases d with|false=>exact Gr.of g (w.trans z) kp (.bool _) (q1 rfl)|true=>refine chain_last ((u rfl).bind N (g.keeps kp) (t.grow R) λvc c e r v S rc H=>?_);refine AI H λd' P q=>Ad (CM (P c I vc r (Rd.sub (JN) (Rd.sub (DB (R.trans v) _) X)) (Rd.sub JN rc) A E (N.less (Ao _)))) (λx wg H=>?_) λM M x=>x.2;refine B7 H λi k e=>J e (Gr.of r ((w.trans z).trans (R.trans v)) ⟨k,i⟩ (.bool _) q)
end
section
variable{F:Fx}{h₀:BJ}{σ:AS}{Y:U AW}{c:Cx}
noncomputable def Hq{X:Type}(k:O)(xs:U X)(x:X):Prop:=∃j,GJ k xs.length=B j/\xs[j]?=B x/\-(2^63)<=k/\k<2^63
theorem ix{j n:Z}(h:j<n):GJ (j:O) n=B j:=by
 have e:(if(j:O)<0 then(j:O)+n else j)=j:=Ab (Qg.mpr (BS j));show(if(B9 (0<=oJ _ _ _)&&B9 (oJ _ _ _<(n:O)))=AO then B (l8 (oJ _ _ _))else AJ)=_;refine J e (J (DW (BS j)) (J (DW (Bu.mpr h)) ?_));rfl
theorem Hq.nat{X:Type}{j:Z}{xs:U X}{x:X}(h:xs[j]?=B x)(o:j<2^63):Hq (j:O) xs x:=by
 rcases(Az.mp h)with⟨g,D⟩;exact IE j (ix g) h (by(first|exact kK ‹_›|exact z63)) (by(first|exact kK ‹_›|exact uT ‹_›))
theorem Hq.int{X:Type}{k:O}{xs:U X}{x:X}(h0:0<=k)(h:xs[k.toNat]?=B x)(R:k<2^63):Hq k xs x:=by
 have :=Hq.nat h (by exact uU ‹_›);rwa[I6 h0]at this
theorem Hq.last{X:Type}{xs:U X}{x:X}(h:xs.getLast?=B x):Hq (-1) xs x:=by
 cases xs with|nil=>simp at h|cons y ys=>
refine IE ys.length ?_ ?_ (by exact uW) (by exact uV);·unfold GJ;simp;exact uS
·rw[Lq]at h;simpa using h
inductive Pc:V->O->V->Prop|str{l:U Z}{k:O}{x:Z}:Hq k l x->Pc (.str l) k (.str [x])|list{l:U V}{k:O}{x:V}:Hq k l x->Pc (.list l) k x|tup{l:U V}{k:O}{x:V}:Hq k l x->Pc (.tup l) k x
theorem eu{A:BQ}{E:AF->AE->Prop}{s:AE}{u p:BL}{o d:V}{k:O}{P:AF}{t:Jd}{Q:AF->AE->Prop}(ok:Pc o k d)(G:Rd (fz Y s.heap) o P)(h:∀r s',Kp s s'->Rd (fz Y s'.heap) d r->Q r s')(L:aB p AD P (.int k t)=operate [P,.int k t] (WI P (.int k t))):Aj (BF c.prog c.w) A (subscriptTail u p P (.int k t)) Q E s:=by
 cases ok with
 |str i=>induction G using Rd.eS with|str f=>
      refine DU i λj W C T F=>Xg (G0 _ _ _) Yj.lookup ?_ L;refine getItem_str ?_ ?_ (h _ _ (Kp.tok _ (BH _)) (.str [_] _));·simp;exact tL ‹_› ‹_›
      ·refine J (EL _) (J W ?_);simpa using C
 |list i=>induction G using Rd.eL with|list e r=>
      rename_i S a n;refine DU i λj W C T F=>AI (r.get C) λv b D=>Aa (Al.mp e) λM z=>?_;have g:=r.length;have l:s.heap.IsList a S.toArray:=⟨_,z,rfl,_,rfl⟩;refine Xg l.typeIs KP.lookup ?_ L;rw[g]at W;unfold GJ at W;by_cases R:k<0
      · refine Q8 l R ?_ T ?_ (h _ _ (Kp.refl _) D);·simp[R]at W;simp;exact q7 ‹_›
        · simp[R]at W;simp;refine J (show(k+(S.length:O)).toNat=j by exact pu ‹_›) b
      · refine Ur l (by exact pj ‹_›) F ?_ (h _ _ (Kp.refl _) D);simp[R]at W;simp;refine J (show k.toNat=j by exact pX ‹_›) b
 |tup i=>induction G using Rd.eT with|tup e r=>rename_i S a n;refine DU i λj W C T F=>AI (r.get C) λv b D=>Aa (Al.mp e) λM z=>?_;have l:IsTup s.heap a S.toArray:=⟨_,z,rfl,_,rfl⟩;refine item_tupleT l T F ?_ b (h _ _ (Kp.refl _) D) L;refine CS r.length W
theorem Oa{u p:BL}{pos:EQ}{Q:V->Prop}(h:WE F σ Y u λo=>WE F σ F.Xo p λk=>∃i d,k=.int i/\Pc o i d/\Q d)(L:∀o i,aB p AD o i=operate [o,i] (WI o i):=by intro M M;rfl):WE F σ Y (.Subscript u p pos) Q:=by
 intro A E s N j T;refine dY (h.bind N j T λP s₁ o l w t G C=>C.bind N l t λb y k f z g c H=>?_);refine Cj H λi d e ok q=>?_;clear H;subst e;induction c using Rd.eI;exact eu ok (Rd.sub (DB z _) G) (λr s' a m=>Gr.of f (w.trans z) a m q) (L _ _)
noncomputable def V5:V->Prop|.none=>Nt|.bool _=>Nt|.int _=>Nt|.str _=>Nt|.abs R=>∀G p v,R G v->R p v|_=>Dp
theorem Rd.flat{G p:EJ}{d:V}{v:AF}(r:Rd G d v)(h:V5 d):Rd p d v:=Rd.casesOn r (λM=>.none) (λb M=>.bool b) (λi t M=>.int i t) (λl t M=>.str l t) (λM M h=>h.elim) (λM M h=>h.elim) (λm r h=>.abs m (h _ _ _ r)) h
theorem C3.flat{G p:EJ}{u:U V}{S:U AF}(r:C3 G u S)(h:∀d∈u,V5 d):C3 p u S:=r.ind (P:=λu S=>(∀d∈u,V5 d)->C3 p u S) (λM=>.nil) (λa M b h=>.cons (a.flat (h _ AQ)) (b λd hd=>h d (AU _ hd))) h
theorem Li{e:BL}{Q:V->Prop}(h:WE F σ F.Xo e λd=>V5 d/\Q d):WE F σ Y e Q:=λA E s N j T=>Ad (h A E s N j T) (λr s' X=>by refine B7 X λa b G=>CF G λd m f q=>⟨a,b,d,m.flat f,q⟩) λM M x=>x
noncomputable def Kh(n:Z)(i:O):Z:=if i<0 then(i+n).toNat else EV i.toNat n
noncomputable def Kg{X:Type}(l:U X)(a b:AX O):U X:=(l.take ((b.map (Kh l.length)).getD l.length)).drop ((a.map (Kh l.length)).getD 0)
theorem QK{X:Type}(l:U X)(a b:Z)(hb:b<=l.length):((Ar (b-a)).map (a+·)).filterMap (l[·]?)=(l.take b).drop a:=by
 apply kJ;intro i;have p:∀(is:U Z)(h:∀j∈is,j<l.length),is.filterMap (l[·]?)=is.pmap (λj h=>l[j]'h) h:=by
  intro is h;induction is with|nil=>rfl|cons j m I=>have o:=h j AQ;refine J Kw (J (AP o) ?_);simp only[U.pmap_cons];refine J (I λk R=>h k (AU _ R)) rfl
 have T:∀j∈(Ar (b-a)).map (a+·),j<l.length:=by
  intro j o;refine AI (BO.mp o) λk R H=>CS H ?_;have :=Cp.mp R;exact uP ‹_› ‹_›
 refine J (p _ T) (J (U.getElem?_pmap _ _) (J Ic (J Ib ?_)));by_cases hi:i<b-a;· refine J (Ap (by exact uN ‹_›)) ?_;simp[hi]
 · refine J (Ab (by exact uM ‹_›)) ?_;simp[B3];exact uL ‹_›
theorem O8(a b:AX O)(n:Z):Ut (EG a b AJ n).1 (EG a b AJ n).2.1 1=(Ar ((b.map (Kh n)).getD n-(a.map (Kh n)).getD 0)).map ((a.map (Kh n)).getD 0+·):=by
 have W:(EG a b AJ n).1=(((a.map (Kh n)).getD 0:Z):O):=by
  unfold EG Kh;cases a with|none=>rfl|some i=>dsimp;split<;>(first|exact mE ‹_›|exact mD|omega)
 have C:(EG a b AJ n).2.1=(((b.map (Kh n)).getD n:Z):O):=by
  unfold EG Kh;clear W;cases b with|none=>rfl|some i=>dsimp;try(split<;>(first|exact mE ‹_›|exact mD|omega))
 refine J W (J C (J (sliceRange_one _ _) ?_));rfl
theorem Rg(n:Z)(b:AX O):(b.map (Kh n)).getD n<=n:=by
 cases b with|none=>simp|some i=>dsimp[Kh];split<;>(first|exact uR ‹_›|exact uO|omega)
theorem XH{X:Type}(l:U X)(a b:AX O):(Ut (EG a b AJ l.length).1 (EG a b AJ l.length).2.1 1).filterMap (l[·]?)=Kg l a b:=by
 rewrite[O8];refine J (QK _ _ _ (Rg _ _)) rfl
theorem NG{X:Type}(l:U X)(a b:AX O):(Kg l a b).length<=l.length:=by
 simp[Kg];exact uQ
theorem C3.cut{G:EJ}{u:U V}{S:U AF}(r:C3 G u S)(a b:AX O):C3 G (Mine.Kg u a b) (Mine.Kg S a b):=by
 unfold Mine.Kg;refine J r.length ((r.take _).drop _)
noncomputable def JR(F:Fx)(σ:AS):AX BL->(AX O->Prop)->Prop|AJ,Q=>Q AJ|B e,Q=>WE F σ F.Xo e λd=>∃i,d=.int i/\Q (B i)
theorem JR.bind{e:AX BL}{P:AX O->Prop}{A:BQ}{E:AF->AE->Prop}{s:AE}{Q:AF->AE->Prop}(h:JR F σ e P)(N:FD A F.n)(j:St F.c s)(T:Pd F.env σ (F.X σ) s.heap)(k:∀r s'(p:AX (O×Jd)),St F.c s'->Bk F.c.hB s.heap s'.heap->Pd F.env σ (F.X σ) s'.heap->r=CD p->P (p.map (·.1))->Q r s'):Aj F.M A (evalPart e F.env) Q E s:=by
 cases e with|none=>exact AH (k _ _ AJ j (.refl _ _) T rfl h)|some e=>refine WE.bind h N j T λr s₁ d l w a m H=>AI H λi e q=>?_;clear H;subst e;induction m using Rd.eI with|int t=>exact k _ _ (B (i,t)) l w a rfl q
inductive WC:V->AX O->AX O->V->Prop|str{l:U Z}{a b:AX O}:l.length<=Ay->WC (.str l) a b (.str (Kg l a b))|list{l:U V}{a b:AX O}:l.length<=Ay->WC (.list l) a b (.list (Kg l a b))
theorem fA(l:U Z)(is:U Z):(⟨(is.filterMap ((tx l).cps[·]?)).toArray⟩:BA)=tx (is.filterMap (l[·]?)):=by
 simp[tx]
theorem Qx(x:U Z)(a b:AX (O×Jd)):(Rw (tx x) a b AJ).filterMap (x[·]?)=Kg x (a.map (·.1)) (b.map (·.1)):=by
 rewrite[<-XH];rfl
theorem ii{A:BQ}{E:AF->AE->Prop}{s:AE}{o d:V}{sl:AW}{a b:AX (O×Jd)}{P:AF}{Q:AF->AE->Prop}(K:Hf Y s.heap)(ok:WC o (a.map (·.1)) (b.map (·.1)) d)(G:Rd (fz Y s.heap) o P)(D:s.heap.IsSlice sl a b AJ)(h:∀r s',Kp s s'->Rd (fz Y s'.heap) d r->Q r s'):Aj (BF c.prog c.w) A (WI P (.ref sl)) Q E s:=by
 cases ok with|str H=>
    induction G using Rd.eS;rename_i l t
    · refine wpAny_getItem_str_slice D rfl ?_;unfold sliceMade;split
      · rename_i f;refine h _ _ (Kp.refl _) ?_;have e:=Qx l a b;have g:(Rw (tx l) a b AJ).length=l.length:=by
         simp only[Bs,BG]at f;refine J f.2 (J (EL _) ?_);rfl
        have :Kg l (a.map (·.1)) (b.map (·.1))=l:=by
         have k:=NG l (a.map (·.1)) (b.map (·.1));have j:(Kg l (a.map (·.1)) (b.map (·.1))).length=l.length:=by
          have m:(Rw (tx l) a b AJ).length=(Es (Kh l.length) (b.map (·.1))).getD l.length-(Es (Kh l.length) (a.map (·.1))).getD 0:=by
           have :=O8 (a.map (·.1)) (b.map (·.1)) l.length;have C:Rw (tx l) a b AJ=Ut (EG (a.map (·.1)) (b.map (·.1)) AJ l.length).1 (EG (a.map (·.1)) (b.map (·.1)) AJ l.length).2.1 1:=by
            unfold Rw;rfl
           refine J C (J this ?_);simp
          have hb:=Rg l.length (b.map (·.1));simp only[Kg,Bh,Ci];exact uK ‹_› ‹_› ‹_›
         unfold Kg at j⊢;simp only[Bh,Ci]at j;have hb:=Rg l.length (b.map (·.1));have h0:=by exact uJ ‹_›
         refine AC h0 (λh0=>?_) λh0=>?_;· refine J h0 (J LV ?_);rewrite[Ce];rfl;exact uI ‹_›
         · have  :=F4 h0;refine J this ?_;simp
        refine J this (.str _ _)
      · refine J (fA _ _) ?_;rewrite[Qx];exact⟨by exact AA (NG _ _ _) H,h _ _ (Kp.tok _ (BH _)) (.str _ _)⟩|list H=>induction G using Rd.eL with|list e r=>
      rename_i S ad n;refine Aa (Al.mp e) λM z=>?_;have i:∀p:AX (O×Jd),IsPart (CD p) (p.map (·.1)):=λp=>by
        cases p with|none=>exact .none|some x=>exact .int _ _
      refine CF D λos W C T=>Nu ⟨_,z,rfl,_,rfl⟩ ⟨os,W,C,T⟩ (i a) (i b) .none (by decide) ?_ (by refine J BN (CS r.length H));refine h _ _ (Kp.push _ _) (.list (n:=0) (Al.mpr ⟨K.size,?_⟩) ((r.cut _ _).sub (DB (B4 (hB:=s.heap) (Kp.push s _)) _)));refine J (Ag _ rfl) ?_;congr 3;unfold YZ;congr 1;rewrite[<-XH];simp[EG]
theorem OY{u:BL}{lo hi:AX BL}{p pos:EQ}{Q:V->Prop}(K:∀a∈Y,a∈F.X σ)(h:WE F σ Y u λo=>JR F σ lo λa=>JR F σ hi λb=>∃d,WC o a b d/\Q d):WE F σ Y (.Subscript u (.Slice lo hi AJ p) pos) Q:=by
 intro A E s N j T;refine dY (h.bind N j T λX s₁ o l w x G C=>oQ (C.bind N l x λva y a f z g S P=>JR.bind P N f g λvb W b i R D eb H=>?_));refine AI H λd ok q=>?_;clear H;clear C P;subst S eb;refine AH ?_;have L:=Kp.push W {cls:=.type "slice",data:=.fields #[CD a,CD b,.none]};have v:Bk F.c.hB W.heap (W.heap.push {cls:=.type "slice",data:=.fields #[CD a,CD b,.none]}):=B4 L;have n:=Rd.sub (DB ((z.trans R).trans v) Y) G;have sl:(W.heap.push {cls:=.type "slice",data:=.fields #[CD a,CD b,.none]}).IsSlice W.heap.objs.size a b AJ:=⟨_,Ag _ rfl,rfl,rfl⟩;have c:=D.grow v;have I:Aj F.M A (WI X (.ref W.heap.objs.size)) (Gr F Y s Q) E {W with heap:=W.heap.push {cls:=.type "slice",data:=.fields #[CD a,CD b,.none]}}:=ii (c.Ft K) ok n sl λr s' k m=>Gr.of (i.keeps L) (((w.trans z).trans R).trans v) k m q;clear q n;cases ok with
 |str H=>induction G using Rd.eS with|str t=>exact Xg (G0 _ _ _) Yj.lookup I rfl
 |list H=>induction G using Rd.eL with|list e r=>refine Aa (Al.mp e) λM e'=>Xg (Heap.IsList.typeIs ⟨_,(((z.trans R).trans v).get e' F7),rfl,_,rfl⟩) KP.lookup I rfl
end
section
variable{F:Fx}{h₀:BJ}{σ:AS}{Y:U AW}{c:Cx}
mutual
noncomputable def V.pd:V->PyData|.none=>.none|.bool b=>.bool b|.int i=>.int i|.str l=>.str (tx l)|.list xs=>.list (V.TH xs)|.tup xs=>.tuple (V.TH xs)|.abs _=>.none
noncomputable def V.TH:U V->U PyData|[]=>[]|x::xs=>x.pd::V.TH xs
end
mutual
noncomputable def V.isData:V->Prop|.none=>Nt|.bool _=>Nt|.int _=>Nt|.str _=>Nt|.list xs=>V.OU xs|.tup xs=>V.OU xs|.abs _=>Dp
noncomputable def V.OU:U V->Prop|[]=>Nt|x::xs=>x.isData/\V.OU xs
end
theorem Rd.reads{h:BJ}{d:V}{v:AF}(hd:d.isData)(r:Rd h.get? d v):∃g,Reads h v d.pd g:=Rd.rec (motive_2:=λu S M=>V.OU u->∃g,ReadsAll h S (V.TH u) g) (λM=>⟨_,.none⟩) (λb M=>⟨_,.bool b⟩) (λi t M=>⟨_,.int i t⟩) (λl t M=>⟨_,.str _ t⟩) (λe M I hd=>(I hd).elim λM L=>⟨_,.list e rfl rfl L⟩) (λe M I hd=>(I hd).elim λM L=>⟨_,.tuple e rfl rfl L⟩) (λM M hd=>hd.elim) (λM=>⟨_,.nil⟩) (λM M a b hd=>(a hd.1).elim λM L=>(b hd.2).elim λM X=>⟨_,.cons L X⟩) r hd
noncomputable def Ls(d:V):Prop:=d.isData/\d.pd.canLay0=AO/\d.pd.depth<=20
theorem Bv.eqD{a b:V}(P:Ls a)(hb:Ls b):Bv c .Eq a b (FS a.pd b.pd):=.of λA E s m I Q M N L X k=>by
 refine Aw (Rd.reads P.1 L) λg e=>Aw (Rd.reads hb.1 X) λl d=>WD e d P.2.1 hb.2.1 (by have :=N.units;have :=P.2.2;exact mB ‹_› ‹_›) (k _ (Keeps.refl s))
theorem Bv.neD{a b:V}(P:Ls a)(hb:Ls b):Bv c .NotEq a b (!FS a.pd b.pd):=.of λA E s m I Q M N L X k=>by
 refine Aw (Rd.reads P.1 L) λg e=>Aw (Rd.reads hb.1 X) λl d=>PySem.SeqAt.compareNe_reads e d P.2.1 hb.2.1 (by have :=N.units;have :=P.2.2;exact mB ‹_› ‹_›) (k _ (Keeps.refl s))
theorem Bv.inD{x:V}{xs:U V}(D:Ls x)(a:Ls (.list xs)):Bv c .In x (.list xs) ((V.TH xs).any λy=>FS y x.pd):=.of λA E s m I Q M N L X k=>by
 refine Aw (Rd.reads D.1 L) λg e=>Aw (Rd.reads a.1 X) λl d=>?_;have W:=a.2.1;have C:=a.2.2;dsimp only[V.pd]at W C d;simp only[My,MD]at W C;exact PySem.SeqAt.in_list_reads d e W D.2.1 (by have :=N.units;exact pV ‹_› ‹_›) (k _ (Keeps.refl s))
theorem Bv.bf{x:V}{xs:U V}(D:Ls x)(a:Ls (.list xs)):Bv c .NotIn x (.list xs) (!(V.TH xs).any λy=>FS y x.pd):=.of λA E s m I Q M N L X k=>by
 refine Aw (Rd.reads D.1 L) λg e=>Aw (Rd.reads a.1 X) λl d=>?_;have W:=a.2.1;have C:=a.2.2;dsimp only[V.pd]at W C d;simp only[My,MD]at W C;exact PySem.SeqAt.notIn_list_reads d e W D.2.1 (by have :=N.units;exact pV ‹_› ‹_›) (k _ (Keeps.refl s))
noncomputable def zs(ns:U O):U V:=ns.map .int
noncomputable def QP(l:U BC):U V:=l.map .bool
theorem c0(i:O):Ls (.int i):=⟨Bl,rfl,DE rfl⟩
theorem TN(b:BC):Ls (.bool b):=⟨Bl,rfl,DE rfl⟩
theorem LB(l:U Z)(h:∀x∈l,x<0x110000):Ls (.str l):=⟨Bl,by
dsimp only[V.pd,My,PyData.strOk,aj];simpa using h,DE rfl⟩
noncomputable def Ee(u:U V)(n:Z):Prop:=V.OU u/\WO (V.TH u)=AO/\aO (V.TH u)<=n
theorem Ee.nil(n:Z):Ee [] n:=⟨Bl,rfl,Ao _⟩
theorem Ee.cons{d:V}{u:U V}{n:Z}(h:d.isData/\d.pd.canLay0=AO/\d.pd.depth<=n)(L:Ee u n):Ee (d::u) n:=⟨by exact⟨h.1,L.1⟩,by simp[V.TH,WO,h.2.1,L.2.1],by
have :=h.2.2;have :=L.2.2;dsimp only[V.TH,aO];exact uH ‹_› ‹_›⟩
theorem Ee.of{u:U V}{n:Z}(h:∀d∈u,d.isData/\d.pd.canLay0=AO/\d.pd.depth<=n):Ee u n:=by
 induction u with|nil=>exact .nil n|cons d u I=>exact .cons (h d AQ) (I λx D=>h x (AU _ D))
theorem Ee.list{u:U V}{n:Z}(h:Ee u n):V.isData (.list u)/\(V.list u).pd.canLay0=AO/\(V.list u).pd.depth<=n+1:=⟨by exact h.1,by exact h.2.1,by have :=h.2.2;dsimp only[V.pd,MD];exact mA ‹_›⟩
theorem Ee.tup{u:U V}{n:Z}(h:Ee u n):V.isData (.tup u)/\(V.tup u).pd.canLay0=AO/\(V.tup u).pd.depth<=n+1:=⟨by exact h.1,by exact h.2.1,by have :=h.2.2;dsimp only[V.pd,MD];exact mA ‹_›⟩
theorem RH(ns:U O):Ee (zs ns) 0:=.of λd hd=>by
 refine AI (BO.mp hd) λi M P=>?_;subst P;exact Cf (Bl) rfl (DE rfl)
theorem Sg(ns:U BC):Ee (QP ns) 0:=.of λd hd=>by
 refine AI (BO.mp hd) λi M P=>?_;subst P;exact Cf (Bl) rfl (DE rfl)
theorem UJ(ns:U O):Ls (.list (zs ns)):=by refine B7 (RH ns).list λa b d=>Cf a b (by exact mC ‹_›)
theorem RG(ns:U BC):Ls (.list (QP ns)):=by refine B7 (Sg ns).list λa b d=>Cf a b (by exact mC ‹_›)
theorem bQ:∀ns:U O,V.TH (zs ns)=ns.map .int:=by
 intro ns;induction ns with|nil=>exact rfl|cons n ns I=>have :=I;simp[zs,V.TH,V.pd]at this⊢;exact this
theorem ZN:∀ns:U BC,V.TH (QP ns)=ns.map .bool:=by
 intro ns;induction ns with|nil=>exact rfl|cons n ns I=>have :=I;simp[QP,V.TH,V.pd]at this⊢;exact this
theorem TX:∀a b:U O,PyData.eqvAll (a.map .int) (b.map .int)=(a==b)|[],[]=>rfl|[],_::_=>rfl|_::_,[]=>rfl|x::xs,y::ys=>by simp[PyData.eqvAll,FS,TX xs ys,U.cons_beq_cons]
theorem ja(a b:U O):FS (V.list (zs a)).pd (V.list (zs b)).pd=(a==b):=by
 simp only[V.pd,FS,bQ,TX]
theorem jf(a:U O)(x:O):((V.TH (zs a)).any λy=>FS y (V.int x).pd)=a.contains x:=by
 refine J (bQ _) ?_;induction a with|nil=>rfl|cons y ys I=>simp only[V.pd]at I;simp only[Bo,QR,Gv,V.pd,FS,I];refine J BC.beq_comm ?_;rfl
theorem Ss(a:U BC)(x:BC):((V.TH (QP a)).any λy=>FS y (V.bool x).pd)=a.contains x:=by
 refine J (ZN _) ?_;induction a with|nil=>rfl|cons y ys I=>simp only[V.pd]at I;simp only[Bo,QR,Gv,V.pd,FS,I];refine J BC.beq_comm ?_;rfl
theorem Bv.bg(a b:U O):Bv c .NotEq (.list (zs a)) (.list (zs b)) (a !=b):=by
 have :=Bv.neD (c:=c) (UJ a) (UJ b);rw[ja]at this;exact this
theorem Bv.ZT(x:O)(a:U O):Bv c .NotIn (.int x) (.list (zs a)) (!a.contains x):=jf a x▸.bf (c0 x) (UJ a)
theorem Bv.YC(x:BC)(a:U BC):Bv c .In (.bool x) (.list (QP a)) (a.contains x):=Ss a x▸.inD (TN x) (RG a)
theorem Bv.X3(x:BC)(a:U BC):Bv c .NotIn (.bool x) (.list (QP a)) (!a.contains x):=Ss a x▸.bf (TN x) (RG a)
theorem Bv.hO(xs:U V):Bv c .Eq (.list xs) (.list []) xs.isEmpty:=.of λA E s m I Q M N L X k=>by
 induction L using Rd.eL with|list e r=>induction X using Rd.eL with|list z G=>induction G using C3.eN;have g:=r.length;clear g;cases xs with|nil=>induction r using C3.eN;exact WD (.list e rfl rfl .nil) (.list z rfl rfl .nil) rfl rfl (by have :=N.units;simp[MD,aO];exact uG ‹_›) (k _ (Keeps.refl s))|cons x xs=>refine PySem.SeqAt.eq_list_lengthsAt ⟨_,e,rfl,_,rfl⟩ ⟨_,z,rfl,_,rfl⟩ ?_ (by have :=N.units;exact uE ‹_›) (k _ (Keeps.refl s));clear e;induction r using C3.eC;rfl
theorem HR.XS(a b:U V)(h:a.length+b.length<=Ay):HR c .Add (.list a) (.list b) (.list (a++b)):=.of λA E Y s m I Q M M K L X k=>by
 induction L using Rd.eL with|list e r=>induction X using Rd.eL with|list z G=>have W:=(Al.mp e).2;have C:=(Al.mp z).2;refine P.add_list W C (k _ _ (Keeps.push _ _) (.list (n:=0) (Al.mpr ⟨K.size,?_⟩) (C3.sub (DB (B4 (hB:=s.heap) (Kp.push s _)) _) (r.append G)))) (by refine J BN (J BN (CS r.length (CS G.length h))));refine J (Ag _ rfl) ?_;simp[BM]
theorem C3.replicate{G:EJ}{u:U V}{S:U AF}(r:C3 G u S):∀n:Z,C3 G (Ga n u).flatten (Ga n S).flatten:=by
 intro n;induction n with|zero=>exact .nil|succ n I=>exact r.append (I)
theorem Zm(xs:U (Bc AF))(acc:Bc AF):(xs.foldl (λd o=>d++o) acc).toList=acc.toList++(xs.map (·.toList)).flatten:=by
 induction xs generalizing acc with|nil=>simp|cons x xs I=>simp[I]
theorem HR.mulL(a:U V)(i:O)(h:a.length*i.toNat<=2^24)(R:-(2^63:O)<=i)(d:i<2^63):HR c .Mult (.list a) (.int i) (.list (Ga i.toNat a).flatten):=.of λA E Y s m I Q M M K L X k=>by
 induction L using Rd.eL with|list e r=>induction X using Rd.eI with|int u=>
rename_i S ad n;have W:=(Al.mp e).2;have b:S.toArray.size*i.toNat<=2^24:=by refine J BN (CS r.length h)
refine wpAny_binaryOp_repeat_ref (rfl) ⟨_,W,rfl⟩ (λs'=>typeIs_int s' i u) noFill_list_mul PySem.F.fills_int_mul dW repeat_list PySem.F.slot_int_index.lookup (QA dW (typeIs_int s i u) PySem.F.entry_int_rmul (PySem.F.args_int_rmul_2 _ _) (int___rmul___int_list i u ad S.toArray n) ⟨W,rfl,⟨_,W,rfl⟩,QA PySem.F.slot_list_mul ⟨_,W,rfl⟩ PySem.F.entry_list_mul (PySem.F.args_list_mul_2 _ _) (AutoListH.list___mul___list_int_3 ad S.toArray n i u (by simp[eE];exact tL ‹_› ‹_›) (by exact uF ‹_›) (by simp[Builtin.List.listTooLong,Ay];simpa using b)) ⟨W,?_⟩⟩);refine k _ _ (Keeps.push _ _) (.list (n:=0) (Al.mpr ⟨K.size,?_⟩) (C3.sub (DB (B4 (hB:=s.heap) (Kp.push s _)) _) (r.replicate _)));refine J (Ag _ rfl) ?_;congr 3;apply Gd.mp;refine J (Zm _ _) ?_;clear e r W b;cases S with|nil=>simp|cons v S=>simp
end
section
variable{F:Fx}{h₀:BJ}{σ:AS}{Y:U AW}{c:Cx}
theorem Qy{x:BA}{a:AW}{xs K:U V}(D:σ.lookup x=B (.own a xs)):∀b∈CT (σ.put x (.own a K)),b∈CT σ:=λb hb=>by
 refine AC (GG x _ σ b hb) (λh=>h) λX=>?_;·refine Aw X λys h=>?_;clear X;clear hb;cases(h);exact Cn D
theorem FX.NW{x:BA}{a:AW}{xs K:U V}{s:AE}{h':BJ}{tk:Z}{P:U AF}{n':Z}(T:FX F h₀ σ s)(D:σ.lookup x=B (.own a xs))(wg:h'.get? a=B (BM P n'))(L:∀b,b≠a->h'.get? b=s.heap.get? b)(rd:C3 (fz (F.X σ) s.heap) K P)(c:s.toks<=tk):FX F h₀ (σ.put x (.own a K)) {s with heap:=h',toks:=tk}/\CZ F σ (σ.put x (.own a K)) s {s with heap:=h',toks:=tk}:=by
  refine DU (T.rep.slot x _ D) λv M H wi G=>Au G λS n ho r=>?_;have wj:=T.fresh a (.inr (Cn D));refine Aa (T.gm wj ho MQ L c) λwl wm=>?_;have C:∀b∈F.X (σ.put x (.own a K)),b∈F.X σ:=λb hb=>by
    refine AC (Ai.mp hb) (λh=>(Ak _ h)) λh=>(Ac _ (Qy D b h))
  have Uj:=(Qa wi L).trans (Ed C _);have wn:a∈CT (σ.put x (.own a K)):=Cn (by rewrite[AS.DD];refine J (Ap rfl) rfl);refine⟨⟨wl,⟨T.rep.ok,?_,?_,T.rep.inj,?_,?_,?_⟩,wm,T.base,?_⟩,?_⟩
  · refine MO T.rep.ns λm om es E i l r=>?_;have :F.env.locals≠a:=λq=>by rw[q,ho]at i;replace i:=EY i;induction i using EC;cases(l)
    exact PL m om es E ((L _ this).trans i) l r
  · intro y k e;refine Au (T.rep.cell y k e) λu N j f=>?_;have :k≠a:=λq=>by rw[q,ho]at j;replace j:=EY j;induction j using EC;cases(f)
    exact FK u N ((L _ this).trans j) f
  · intro y sl e;have wh:∀w,At F.env s.heap y w->At F.env h' y w:=by
      intro w aw hg;refine AC (aw hg) (λX=>?_) λX=>AC X (λX=>?_) λX=>?_
      · refine Aa X λky G=>AI G λm' Q A=>Na Q λom es E i l r=>?_;have :F.env.locals≠a:=λq=>by rw[q,ho]at i;replace i:=EY i;induction i using EC;cases(l)
        exact .inl ⟨ky,m',⟨om,es,E,(L _ this).trans i,l,r⟩,A⟩
      · refine Aa X λky G=>AI G λk e' W=>AI W λN j f=>?_;have :k≠a:=λq=>by rw[q,ho]at j;replace j:=EY j;induction j using EC;cases(f)
        exact .inr (.inl ⟨ky,k,e',N,(L _ this).trans j,f⟩)
      · refine Aa X λky G=>AI G λk e' W=>AI W λN j f=>?_;have :k≠a:=λq=>by rw[q,ho]at j;replace j:=EY j;induction j using EC;cases(f)
        exact .inr (.inr ⟨ky,k,e',N,(L _ this).trans j,f⟩)
    rw[AS.DD]at e;clear C;by_cases t:y=x;· rw[Ap t]at e;replace e:=EY e;induction e using EC;subst t;refine CF (T.rep.slot y _ D) λv av e1 M=>⟨v,wh v av,e1,Ac _ wn,P,n',wg,C3.sub Uj rd⟩
    · rw[Ab t]at e;refine AI (T.rep.slot y sl e) λw p sr=>AK w (wh w p) ?_;cases sl with|v d=>exact Rd.sub Uj sr|own b ys=>refine B7 sr λe1 hX G=>Au G λR n2 g hr=>?_;have Y:b≠a:=λq=>t (T.rep.apart y x b ys xs e (q▸D));exact⟨e1,Ac _ (Cn (by rewrite[AS.DD];refine J (Ab t) e)),R,n2,(L b Y).trans g,C3.sub Uj hr⟩
  · intro b hb;by_cases q:b=a;·refine J q (.at wg (.inl rfl))
    ·exact(T.rep.live b (C b hb)).same (L b q)
  · intro y z b ys zs e1 I;rw[AS.DD]at e1 I;by_cases t:y=x
    · by_cases H:z=x;·refine J t (J H ?_);rfl
      · rw[Ap t]at e1;rw[Ab H]at I;replace e1:=EY e1;cases(e1);exact t.trans (T.rep.apart x z a xs zs D I)
    · by_cases H:z=x;· rw[Ab t]at e1;rw[Ap H]at I;replace I:=EY I;cases(I);exact(T.rep.apart y x a ys xs e1 D).trans H.symm
      · rw[Ab t]at e1;rw[Ab H]at I;exact T.rep.apart y z b ys zs e1 I
  · intro b hb;refine AC hb (λhb=>(T.fresh b (.inl hb))) λhb=>(T.fresh b (.inr (Qy D b hb)))
  · refine⟨λb o hb e=>.inl ?_,λb hb=>.inl (Qy D b hb)⟩;have :b≠a:=λq=>hb (Ac _ (q▸Cn D));exact(L b this).trans e
theorem FX.J4{x:BA}{a:AW}{xs:U V}{s:AE}{A:BQ}{E:AF->AE->Prop}{pos:EQ}{Q:AF->AE->Prop}(R:Pd F.env σ (F.X σ) s.heap)(D:σ.lookup x=B (.own a xs))(k:∀S n,s.heap.get? a=B (BM S n)->C3 (fz (F.X σ) s.heap) xs S->Q (.ref a) s)(hd:(x==("__debug__":BA))=AD:=by decide)(hg:Hd x=AD:=by decide):Aj F.M A (Gp (.Name x pos) F.env) Q E s:=by
 refine DU (R.slot x _ D) λv f P M G=>Au G λS n ho r=>?_;subst P;exact Gn ((f hg).load R.ok.kind (k S n ho r)) hd
theorem Ir{x:BA}{a:AW}{xs:U V}{e:BL}{X I K pos:EQ}{Q:Ha->AS->Prop}(D:σ.lookup x=B (.own a xs))(H:xs.length<=Ay)(h:WE F σ (F.X σ) e λd=>Q .next (σ.put x (.own a (xs++[d]))))(p:∀env,Hr (.Name x X) "append" env (Gp (.Name x X) env)=Gp (.Name x X) env:=by intro M;rfl)(hline:(I.endLine==K.line)=AO:=by rfl)(z:∀env,Fg K (Bn [e] env)=[(AD,Gp e env)]:=by intro M;rfl)(hd:(x==("__debug__":BA))=AD:=by decide)(hg:Hd x=AD:=by decide)(hi:No F.env=AD:=by rfl):W1 F h₀ σ (.Expr (.Call (.Attribute (.Name x X) "append" I) [e] [] K) pos) Q:=by
  intro A E s N T;refine dq ?_ hi rfl;refine Oh (p _) hline (z _) (FX.J4 T.rep D (λS n ho r=>?_) hd hg);refine Ld "list" _ N1 G7 Oi ⟨_,ho,rfl⟩ (λb u=>?_) ?_;·cases(u);exact AK _ ho rfl
  · refine iJ (h.bind N T.st T.rep λv s₁ d l w t m q=>?_);refine DU (t.slot x _ D) λM M M M G=>Au G λc i y f=>Fs c.toArray i (by refine J BN (CS f.length H)) y ?_;have j:=T.next l w;have R:(s₁.heap.update a (CV λxs=>xs.push v)).get? a=B (BM (c++[v]) (i+1)):=by
     have e:=Hy c.toArray i v;refine J (Ca _ y (by refine(?_:(CV _ (BM c i)).isFreed=AD);rfl)) (J (show(CV (λxs=>xs.push v) (BM c i))=_ from e) ?_);simp[BM]
    refine Aa (j.NW D R (λb hb=>D0 _ _ _ _ hb) (f.append (.cons m .nil)) (AN _)) λY k=>Dm .next _ Y ((CZ.DO w).trans j k) Bl q
end
section
variable{F:Fx}{h₀:BJ}{σ:AS}{Y:U AW}{c:Cx}
section
variable{prog:DH}{w:Em}{A:BQ}{E:AF->AE->Prop}{s:AE}
theorem X6(S:U AF)(n j:Z)(v:AF):CV (·.setIfInBounds j v) (BM S n)=BM (S.set j v) n:=by
 simp[CV,BM]
theorem Tp(S:U AF)(n j:Z):∃m,CV (·.eraseIdxIfInBounds j) (BM S n)=BM (S.eraseIdx j) m:=by
  have e:S.toArray.eraseIdxIfInBounds j=(S.eraseIdx j).toArray:=?_
  · have l:∀(x y:Bc AF)(n:Z),x=y->({cls:=DZ "list",data:=Data.seq x n}:Gq)={cls:=DZ "list",data:=Data.seq y n}:=λx y n e=>by refine J e rfl
    exact⟨_,l _ _ _ e⟩
  apply Gd.mp;by_cases h:j<S.length;·simp[h]
  ·simp[h,U.eraseIdx_of_length_le (Bx h)]
theorem Qm{l:AW}{S:U AF}{n j:Z}{k:O}{t:Jd}{v:AF}{Q:LL->AE->Prop}(ho:s.heap.get? l=B (BM S n))(o:GJ k S.length=B j)(K:j<S.length)(R:-(2^63)<=k)(c:k<2^63)(Y:∀h',h'.get? l=B (BM (S.set j v) n)->(∀b,b≠l->h'.get? b=s.heap.get? b)->Q () {s with heap:=h'}):Aj (BF prog w) A (setItem (.ref l) (.int k t) v) Q E s:=by
 have g:s.heap.IsList l S.toArray:=⟨_,ho,rfl,_,rfl⟩;have a:=by
  refine(?_:(B9 (-(2^63:O)<=k)&&B9 (k<2^63))=AO);refine J (DW R) (J (DW c) ?_);rfl
 have I:Aj (BF prog w) A.in1 (setSeqItemAt l j v) (λM s'=>Q () s') (λe s'=>E e s') s:=by
  refine wpAny_setSeqItemAt ho rfl ?_;have d:=X6 S n j v;refine Y _ ?_ λb hb=>D0 _ _ _ _ hb;refine J (Ca _ ho (by rfl)) (J d ?_);rfl
 unfold setItem;try refine Co ?_
 first|refine AB (AH ?_)|skip
 refine AB (wpAny_sequenceKey g.typeIs (rfl) ?_);refine AB (jw g.typeIs slot_list_setitem (wpAny_call_entry slot_list_setitem g.typeIs entry_list_setitem ?_ (args_list_setitem _ _ _)));refine(?_:Aj _ _ (Builtin.List.listSubscript? (.int k t)>>=_) _ _ s);refine AB (wpAny_listSubscript_int a ?_);have m:S.toArray[j]?=B S[j]:=by simp[K]
 clear R c Y a;cases k with
 |ofNat i=>
  have :i=j:=by
   unfold GJ at o;simp at o;omega
  clear o;subst this;refine AB (AB (wpAny_seqItemAt ho rfl (AH ?_)));refine J m (AB (Ad I (λM s' q=>?_) λM M x=>x));first|exact AB (AH (AH ⟨.none,rfl,AH q⟩))|exact AH ⟨.none,rfl,AH q⟩
 |negSucc i=>refine AB (AB ?_);refine AB (KO ho rfl (AH (AH ?_)));refine J BN (J o ?_);simp only[N3,m,Fw];refine(?_:Aj _ _ (setSeqItemAt l j v>>=_) _ _ s);refine AB (Ad I (λM s' q=>?_) λM M x=>x);first|exact AB (AH (AH ⟨.none,rfl,AH q⟩))|exact AH ⟨.none,rfl,AH q⟩
end
theorem XZ{x:BA}{a:AW}{xs:U V}{i e:BL}{X P pos:EQ}{Q:Ha->AS->Prop}(D:σ.lookup x=B (.own a xs))(h:WE F σ (F.X σ) e λd=>WE F σ F.Xo i λk=>∃I j,k=.int I/\GJ I xs.length=B j/\j<xs.length/\-(2^63)<=I/\I<2^63/\Q .next (σ.put x (.own a (xs.set j d))))(L:∀env,jx e (B (.Subscript (.Name x X) i P)) pos.line env=Bz AD:=by intro M;rfl)(hd:(x==("__debug__":BA))=AD:=by decide)(hg:Hd x=AD:=by decide):W1 F h₀ σ (.Assign [.Subscript (.Name x X) i P] e pos) Q:=by
 intro A E s N T;refine wpAny_Assign_Subscript (h.bind N T.st T.rep λv s₁ d l w t m C=>FX.J4 t D (λM M M M=>C.bind N l t λb y k f z g W H=>?_) hd hg) (L _);refine PJ H λI j e o K R c q=>?_;clear H;subst e;induction W using Rd.eI;refine DU (g.slot x _ D) λM M M M G=>Au G λS n ho r=>?_;have Y:=(T.next l w).next f z;refine Qm ho (by refine CS r.length o) (by refine CS r.length K) R c λh' wg wh=>Aa (Y.NW D wg wh (r.set j (Rd.sub (DB z _) m)) (AN _)) λp u=>Dm .next _ p ((CZ.DO (w.trans z)).trans Y u) Bl q
theorem Xa{x:BA}{a:AW}{xs:U V}{i:BL}{X d pos:EQ}{Q:Ha->AS->Prop}(D:σ.lookup x=B (.own a xs))(H:xs.length<=Ay)(h:WE F σ F.Xo i λk=>∃I j,k=.int I/\GJ I xs.length=B j/\-(2^63)<=I/\I<2^63/\Q .next (σ.put x (.own a (xs.eraseIdx j))))(hd:(x==("__debug__":BA))=AD:=by decide)(hg:Hd x=AD:=by decide):W1 F h₀ σ (.Delete [.Subscript (.Name x X) i d] pos) Q:=by
 intro A E s N T;refine wpAny_Delete (wpAny_deleteEach_cons (wpAny_delete_Subscript (FX.J4 T.rep D (λM M M M=>h.bind N T.st T.rep λl y k f z g W H=>?_) hd hg)));refine Jt H λI j e o R c q=>?_;clear H;subst e;induction W using Rd.eI;refine DU (g.slot x _ D) λM M M M G=>Au G λS n ho r=>?_;have Y:=T.next f z;refine P.delItem_list ho (by simp[eE];exact tL ‹_› ‹_›) (by refine J BN (CS r.length o)) ?_ (by refine J BN (CS r.length H));refine Aw (Tp S n j) λm he=>Aa (Y.NW D (by refine J (Ca _ ho (by rfl)) (J (show CV _ (BM S n)=_ from he) ?_);rfl) (λb hb=>D0 _ _ _ _ hb) (r.eraseIdx j) (AN _)) λp u=>wpAny_deleteEach_nil ⟨.next,_,p,(CZ.DO z).trans Y u,Bl,q⟩
noncomputable def Q6(c:Cx)(u:IM)(a b d:V):Prop:=∀Y s m I,St c s->Hf Y s.heap->Rd (fz Y s.heap) a m->Rd (fz Y s.heap) b I->Xc c s (inplaceOp u m I) λr s'=>Rd (fz Y s'.heap) d r
theorem Q6.dB(a b:O):Q6 c .Add (.int a) (.int b) (.int (a+b)):=λY s m I M M L X A E N=>by
 induction L using Rd.eI;induction X using Rd.eI;exact iadd_int ⟨Keeps.tok _ _,.int _ _⟩
theorem Q6.UX(a b:U Z)(h:a.length+b.length<=Ay):Q6 c .Add (.str a) (.str b) (.str (a++b)):=λY s m I M M L X A E N=>by
 induction L using Rd.eS;induction X using Rd.eS;refine PyProof.Rows.iadd_str (λn tk=>⟨Keeps.tok _ _,?_⟩) (by exact h);have :tx a++tx b=tx (a++b):=by
  refine(?_:du _ _=_);simp[tx,du]
 refine J this (.str _ _)
theorem jn{x:BA}{c pos:EQ}{u:IM}{e:BL}{a:V}{Q:Ha->AS->Prop}(D:DG F x)(ho:σ.lookup x=B (.v a))(h:WE F σ (F.X σ) e λb=>∃d,Q6 F.c u a b d/\Q .next (σ.put x (.v d)))(hg:Hd x=AD:=by rfl):W1 F h₀ σ (.AugAssign (.Name x c) u e pos) Q:=by
 intro A E s N T;refine AI (T.rep.slot x _ ho) λv f r=>wpAny_AugAssign_Name ((f hg).load T.rep.ok.kind (h.bind N T.st T.rep λI s₁ b l w t X H=>?_));refine AI H λd ok q=>Ad (CM (ok _ s₁ v I l (t.Ft CX) (Rd.sub (DB w _) r) X A E (N.less (Ao _)))) (λG y H=>?_) λM M x=>x.2;refine B7 H λi k m=>?_;have L:Kp s₁ y:=⟨k,i⟩;have z:Bk F.c.hB s₁.heap y.heap:=B4 L;have Y:=(T.next l w).next (l.keeps L) z;exact Ew (sl:=.v d) Y Y.rep D m λW p R=>⟨.next,_,p,(CZ.DO (w.trans z)).trans Y (CZ.store R),Bl,q⟩
theorem Xb{x:BA}{a:AW}{xs:U V}{i e:BL}{np tp pos:EQ}{u:IM}{Q:Ha->AS->Prop}(D:σ.lookup x=B (.own a xs))(h:WE F σ F.Xo i λk=>∃ki j wh,k=.int ki/\GJ ki xs.length=B j/\xs[j]?=B wh/\-(2^63)<=ki/\ki<2^63/\WE F σ (F.X σ) e λb=>∃d,Q6 F.c u wh b d/\Q .next (σ.put x (.own a (xs.set j d))))(L:∀ov K Y,augStore i ov K Y=(do kb [Y,ov,K] (setItem ov K Y);release [Y,ov,K] [];Bz .next):=by intro M M M;rfl)(hd:(x==("__debug__":BA))=AD:=by decide)(hg:Hd x=AD:=by decide):W1 F h₀ σ (.AugAssign (.Subscript (.Name x np) i tp) u e pos) Q:=by
  intro A E s N T;refine wpAny_AugAssign_SubscriptAny (FX.J4 T.rep D (λM M M M=>h.bind N T.st T.rep λvi s₁ k l w t rk H=>?_) hd hg) L;refine U9 H λki j wh e o wj wl wm C=>?_;clear H;subst e;induction rk using Rd.eI;rename_i tk;refine DU (t.slot x _ D) λM M M M G=>Au G λS n ho r=>AI (r.get wj) λvo wi ro=>?_;have g:=r.length;have wu:=(Az.mp wi).1;have HL:s₁.heap.IsList a S.toArray:=⟨_,ho,rfl,_,rfl⟩;have next:Aj F.M A (Gp e F.env) (λv c=>Aj F.M A (inplaceOp u vo v) (λY wn=>Aj F.M A (setItem (.ref a) (.int ki tk) Y) (λM=>Ob F h₀ σ s Q .next) E wn) E c) E s₁:=by
    refine C.bind N l t λI y b f z wo X H=>AI H λd ok q=>Ad (CM (ok _ y vo I f (wo.Ft CX) (Rd.sub (DB z _) ro) X A E (N.less (Ao _)))) (λx' W H=>?_) λM M x=>x.2;refine B7 H λht k m=>?_;have kp:Kp y W:=⟨k,ht⟩;have wg:Bk F.c.hB y.heap W.heap:=B4 kp;have p:=((T.next l w).next f z).next (f.keeps kp) wg;refine DU (p.rep.slot x _ D) λM M M M G=>Au G λP n' wv r'=>Qm wv (by refine CS r'.length o) (by refine CS r'.length (J g wu)) wl wm λh' wq wx=>Aa (p.NW D wq wx (r'.set j m) (AN _)) λwr wt=>Dm .next _ wr ((CZ.DO ((w.trans z).trans wg)).trans p wt) Bl q
  by_cases R:ki<0
  · refine Q8 HL R ?_ wl ?_ next;·unfold GJ at o;rw[g]at o;simp[R]at o;simp;exact q7 ‹_›
    · unfold GJ at o;rw[g]at o;simp[R]at o;simp;refine J (show(ki+(S.length:O)).toNat=j by exact pu ‹_›) wi
  · refine Ur HL (by exact pj ‹_›) wm ?_ next;unfold GJ at o;rw[g]at o;simp[R]at o;simp;refine J (show ki.toNat=j by exact pX ‹_›) wi
end
section
variable{F:Fx}{h₀:BJ}{σ:AS}{Y:U AW}{c:Cx}
theorem FX.freeze{x:BA}{a:AW}{xs:U V}{s:AE}(T:FX F h₀ σ s)(D:σ.lookup x=B (.own a xs))(c:a∉F.Xo)(i:∀b∈CT (σ.put x (.v (.list xs))),∃y ys,y≠x/\σ.lookup y=B (.own b ys)):FX F h₀ (σ.put x (.v (.list xs))) s/\CZ F σ (σ.put x (.v (.list xs))) s s:=by
  have C:∀b∈F.X (σ.put x (.v (.list xs))),b∈F.X σ:=λb hb=>by
    refine AC (Ai.mp hb) (λh=>(Ak _ h)) λh=>(Ac _ (Js _ _ _ b h))
  have w:a∉F.X (σ.put x (.v (.list xs))):=λK=>by
    refine AC (Ai.mp K) (λh=>(c h)) λh=>(Au (i a h) λy ys t e=>t (T.rep.apart y x a ys xs e D))
  have Uj:=Ed C s.heap;refine⟨⟨T.st,⟨T.rep.ok,T.rep.ns,T.rep.cell,T.rep.inj,λy sl e=>?_,λb hb=>T.rep.live b (C b hb),λy z b ys zs e1 I=>?_⟩,T.grow,T.base,λb hb=>T.fresh b (hb.imp id (Js _ _ _ b))⟩,⟨λb o hb e=>.inl e,λb hb=>.inl (Js _ _ _ b hb)⟩⟩
  · rw[AS.DD]at e;clear i C;by_cases t:y=x;· rw[Ap t]at e;replace e:=EY e;induction e using EC;subst t;refine DU (T.rep.slot y _ D) λv f P M G=>Au G λS n ho r=>?_;subst P;exact AK _ f (.list (Al.mpr ⟨w,ho⟩) (C3.sub Uj r))
    · rw[Ab t]at e;refine AI (T.rep.slot y sl e) λv f A=>AK v f ?_;cases sl with|v d=>exact Rd.sub Uj A|own b ys=>refine B7 A λe1 u G=>Au G λR n2 g hr=>⟨e1,Ac _ (Cn (by rewrite[AS.DD];refine J (Ab t) e)),R,n2,g,C3.sub Uj hr⟩
  · rw[AS.DD]at e1 I;by_cases t:y=x;·rw[Ap t]at e1;replace e1:=EY e1;cases(e1)
    · by_cases H:z=x;·rw[Ap H]at I;replace I:=EY I;cases(I)
      · rw[Ab t]at e1;rw[Ab H]at I;exact T.rep.apart y z b ys zs e1 I
theorem LG(x:BA){a:AW}{xs:U V}{c:U G1}{Q:Ha->AS->Prop}(D:σ.lookup x=B (.own a xs))(P:a∉F.Xo)(i:∀b∈CT (σ.put x (.v (.list xs))),∃y ys,y≠x/\σ.lookup y=B (.own b ys))(h:WS F h₀ (σ.put x (.v (.list xs))) c Q):WS F h₀ σ c Q:=by
 intro A E s N T;refine Aa (T.freeze D P i) λW m=>Ad (h A E s N W) (λL s' p=>p.after W m) λM M x=>x
theorem dE{es:U BL}{k:Z}{pos:EQ}{Q:V->Prop}(K:∀a∈Y,a∈F.X σ)(h:OV F σ Y es λu=>u.length<=Ay/\Q (.tup u)):WE F σ Y (.Tuple es k pos) Q:=by
 intro A E s N j T;refine wpAny_Tuple (h.bind N j T λz s₁ u l w t m⟨H,q⟩=>⟨by refine CS m.length H,?_⟩);have L:=Kp.push s₁ {cls:=.type "tuple",data:=.seq z.toArray};exact Gr.of l w L (.tup (Al.mpr ⟨(t.Ft K).size,Ag _ rfl⟩) (C3.sub (DB (B4 (hB:=F.c.hB) L) _) m)) q
theorem gU{es:U BL}{pos:EQ}{Q:V->Prop}(K:∀a∈Y,a∈F.X σ)(h:OV F σ Y es λu=>u.length<=Ay/\Q (.list u)):WE F σ Y (.List es pos) Q:=by
 intro A E s N j T;refine Q9 (h.bind N j T λz s₁ u l w t m⟨H,q⟩=>⟨by refine CS m.length H,?_⟩);have L:=Kp.push s₁ {cls:=.type "list",data:=.seq z.toArray};exact Gr.of l w L (.list (Al.mpr ⟨(t.Ft K).size,Ag _ rfl⟩) (C3.sub (DB (B4 (hB:=F.c.hB) L) _) m)) q
theorem Ei{x:BA}{a:AW}{xs:U V}{X pos:EQ}{p:BL}{Q:V->Prop}(D:σ.lookup x=B (.own a xs))(K:∀b∈Y,b∈F.X σ)(h:WE F σ F.Xo p λk=>∃i d,k=.int i/\Hq i xs d/\Q d)(L:∀o i,aB p AD o i=operate [o,i] (WI o i):=by intro M M;rfl)(hd:(x==("__debug__":BA))=AD:=by decide)(hg:Hd x=AD:=by decide):WE F σ Y (.Subscript (.Name x X) p pos) Q:=by
  intro A E s N w t;refine dY (FX.J4 t D (λM M M M=>h.bind N w t λvi y k f z m c H=>?_) hd hg);refine Cj H λi d e ok q=>?_;clear H;subst e;induction c using Rd.eI;refine DU (m.slot x _ D) λM M M M G=>Au G λS n ho r=>DU ok λj W C T P=>AI (r.get C) λv u rv=>?_;have g:=r.length;have l:y.heap.IsList a S.toArray:=⟨_,ho,rfl,_,rfl⟩;refine Xg l.typeIs KP.lookup ?_ (L _ _);have I:Gr F Y s Q v y:=⟨f,z,d,Rd.sub (Ed K _) rv,q⟩;rw[g]at W;unfold GJ at W;by_cases R:i<0
  · refine Q8 l R ?_ T ?_ I;·simp[R]at W;simp;exact q7 ‹_›
    · simp[R]at W;simp;refine J (show(i+(S.length:O)).toNat=j by exact pu ‹_›) u
  · refine Ur l (by exact pj ‹_›) P ?_ I;simp[R]at W;simp;refine J (show i.toNat=j by exact pX ‹_›) u
theorem Ua{x:BA}{a:AW}{xs:U V}{X:EQ}{lo hi:AX BL}{p pos:EQ}{Q:V->Prop}(D:σ.lookup x=B (.own a xs))(K:∀b∈Y,b∈F.X σ)(H:xs.length<=Ay)(h:JR F σ lo λa=>JR F σ hi λb=>Q (.list (Kg xs a b)))(hd:(x==("__debug__":BA))=AD:=by decide)(hg:Hd x=AD:=by decide):WE F σ Y (.Subscript (.Name x X) (.Slice lo hi AJ p) pos) Q:=by
 intro A E s N j T;refine dY (FX.J4 T D (λM M M M=>oQ (h.bind N j T λm y l f z g t P=>JR.bind P N f g λI W b i R k u q=>?_)) hd hg);subst t u;refine AH ?_;have L:=Kp.push W {cls:=.type "slice",data:=.fields #[CD l,CD b,.none]};have v:Bk F.c.hB W.heap (W.heap.push {cls:=.type "slice",data:=.fields #[CD l,CD b,.none]}):=B4 L;have c:=k.grow v;refine DU (c.slot x _ D) λM M M M G=>Au G λS n ho r=>?_;have d:∀p:AX (O×Jd),IsPart (CD p) (p.map (·.1)):=λp=>by
  cases p with|none=>exact .none|some x=>exact .int _ _
 refine Xg (Heap.IsList.typeIs ⟨_,ho,rfl,_,rfl⟩) KP.lookup ?_ rfl;refine Nu ⟨_,ho,rfl,_,rfl⟩ ⟨_,Ag _ rfl,rfl,rfl⟩ (d l) (d b) .none (by decide) ?_ (by refine J BN (CS r.length H));have o:=Kp.push {W with heap:=W.heap.push {cls:=.type "slice",data:=.fields #[CD l,CD b,.none]}} {cls:=.type "list",data:=.seq (YZ S.toArray (l.map (·.1)) (b.map (·.1)) AJ)};have e:YZ S.toArray (l.map (·.1)) (b.map (·.1)) AJ=(Kg S (l.map (·.1)) (b.map (·.1))).toArray:=by
  unfold YZ;congr 1;rewrite[<-XH];simp[EG]
 refine Gr.of (i.keeps L) ((z.trans R).trans v) o (.list (n:=0) (Al.mpr ⟨(c.Ft K).size,?_⟩) ((C3.sub (Ed K _) (r.cut _ _)).sub (DB (B4 (hB:=F.c.hB) o) _))) q;refine J (Ag _ rfl) (J e ?_);rfl
noncomputable def Do(c:Cx)(f:AF)(S:U V)(d:V):Prop:=∀A E Y s F(Q:AF->AE->Prop),FD A 0->St c s->Hf Y s.heap->C3 (fz Y s.heap) S F->(∀v s',SE s s'->Rd (fz Y s'.heap) d v->Q v s')->Aj (BF c.prog c.w) A (Hi f F) Q E s
noncomputable def RN:AF->BC|.builtin _=>AO|.type _=>AO|_=>AD
theorem gS{f:BA}{c pos:EQ}{e:BL}{es:U BL}{v:AF}{Q:V->Prop}(p:Wf F.c)(R:F.env.kindOf f=B .globalImplicit)(K:F.c.mg f=AJ)(hb:F.c.mb f=B v)(n:RN v=AO)(g:∀a∈Y,a∈F.X σ)(h:OV F σ Y (e::es) λu=>∃d,Do F.c v u d/\Q d)(he:∀env,Bn (e::es) env=(AD,Gp e env)::Bn es env:=by intro env;rfl)(b:∀pos env,(Fg pos (Bn es env)).any (·.1)=AD:=by intro M M;rfl)(hd:(f==("__debug__":BA))=AD:=by rfl):WE F σ Y (.Call (.Name f c) (e::es) [] pos) Q:=by
 intro A E s N j T;refine IW (Ig p j T.ok R K hb ?_ hd);have I:Aj F.M A (kX (Fg pos (Bn (e::es) F.env))) (λS s₁=>Aj F.M A (Hi v S) (Gr F Y s Q) E s₁) E s:=by
  refine h.bind N j T λz s₁ u l w t m H=>AI H λd ok q=>Ad (CM (ok A E Y s₁ z _ (N.less (Ao _)) l (t.Ft g) m λv s' k m=>(⟨k,m⟩:SE s₁ s'/\Rd (fz Y s'.heap) d v))) (λr y X=>by refine B7 X λi k m=>Gr.of l w ⟨k,i⟩ m q) λM M x=>x.2
 clear hb h;cases(v)<;>try exact J2 n
 ·exact PyProof.Rows.callWith_type1 I (he _) (b _ _)
 ·exact Jk I (he _) (b _ _)
theorem Do.PP(xs:U V)(h:(xs.length:O)<2^63):Do c (.builtin "len") [.list xs] (.int xs.length):=λA E Y s F Q N j K m k=>by
 induction m using C3.eC with|cons a b=>induction b using C3.eN;induction a using Rd.eL with|list e r=>have z:=(Al.mp e).2;refine call_len_list ⟨_,z,rfl,_,rfl⟩ (by refine J BN (CS r.length h)) (J BN (CS r.length (k _ _ (Keeps.tok _ _) (.int _ _))))
theorem Do.UI(l:U Z)(h:(l.length:O)<2^63):Do c (.builtin "len") [.str l] (.int l.length):=λA E Y s F Q N j K m k=>by
 induction m using C3.eC with|cons a b=>induction b using C3.eN;induction a using Rd.eS;refine PyProof.Rows.len_str (by refine J (EL _) (uD ‹_›)) (k _ _ (Keeps.tok _ _) (.int _ _))
theorem Do.JM(n:O):Do c (.type "range") [.int n] (Kl 0 n):=λA E Y s F Q N j K m k=>by
 induction m using C3.eC with|cons a b=>induction b using C3.eN;induction a using Rd.eI;exact call_range_1 (k _ _ ⟨_,_,rfl,λM M e=>AR _ e⟩ (.abs (Pp _ _) ⟨_,_,_,_,rfl,Al.mpr ⟨K.size,Ag _ rfl⟩⟩))
theorem Do.j3(m n:O):Do c (.type "range") [.int m,.int n] (Kl m n):=λA E Y s F Q N j K d k=>by
 induction d using C3.eC with|cons a b=>induction b using C3.eC with|cons g b=>induction b using C3.eN;induction a using Rd.eI;induction g using Rd.eI;exact call_range_2 (k _ _ ⟨_,_,rfl,λM M e=>AR _ e⟩ (.abs (Pp _ _) ⟨_,_,_,_,rfl,Al.mpr ⟨K.size,Ag _ rfl⟩⟩))
theorem Do.chr(i:Z)(h:i<=1114111):Do c (.builtin "chr") [.int i] (.str [i]):=λA E Y s F Q N j K m k=>by
 induction m using C3.eC with|cons a b=>induction b using C3.eN;induction a using Rd.eI;refine PyProof.Rows.chr_of_range (by exact m9) (by exact uC ‹_›) (k _ _ (Keeps.tok _ _) ?_);exact .str [i] _
theorem C3.R3{G:EJ}{u:U V}{S:Bc AF}(g:S.size=u.length)(h:∀(j:Z)(d:V)(v:AF),u[j]?=B d->S[j]?=B v->Rd G d v):C3 G u S.toList:=by
 obtain⟨S⟩:=S;induction u generalizing S with
 |nil=>clear h;cases S with|nil=>exact .nil|cons _ _=>simp at g
 |cons d u I=>cases S with|nil=>simp at g|cons v S=>refine .cons (h 0 d v rfl rfl) (I S (by simpa using g) λj w c W C=>h (j+1) w c (by simpa using W) (by simpa using C))
theorem Do.TM(n:O)(L:FY 0 n 1=AO)(p:n<=2^24):Do c (.type "list") [Kl 0 n] (.list (Cq 0 n)):=λA E Y s F Q N h K m k=>by
 induction m using C3.eC with|cons a b=>induction b using C3.eN;induction a using Rd.eA with|abs _ x=>
refine Ge x λr t u w T e=>?_;clear x;subst T;have z:=(Al.mp e).2;have P:Br 0 n 1=((n-0).toNat:Z):=by
 simp only[Br,Nr,aA,KH,Kz];split<;>(first|exact uB ‹_›|exact uA ‹_›|omega)
refine call_list_range N.handled z L P (by exact u9 ‹_›) λh' tk acc l R X g=>k _ _ ⟨_,_,rfl,R⟩ (.list (Al.mpr ⟨K.size,(J X rfl)⟩) (C3.R3 (by refine J g.1 ?_;simp[Cq]) λj d v W C=>?_));· refine Aw (g.2 j v C) λt H=>J H ?_;simp only[Cq,B3]at W;refine AI (BK.mp W) λi hi H=>CS H ?_;have :=(Az.mp hi);rcases this with⟨f,e⟩;simp at e;refine J e ?_;simp;exact .int _ _
theorem Do.fc(l:U Z)(p:l.length<=Ay):Do c (.type "list") [.str l] (.list (l.map λx=>.str [x])):=λA E Y s F Q N e K m k=>by
 induction m using C3.eC with|cons a b=>induction b using C3.eN;induction a using Rd.eS;refine call_list_str N.handled _ _ (λh' tk acc h R X g=>?_) (by simpa using p);refine k _ _ ⟨_,_,rfl,R⟩ (.list (Al.mpr ⟨K.size,(J X rfl)⟩) (C3.R3 (by refine J g.1 ?_;simp) λj d v W C=>?_));· refine Au (g.2 j v C) λch u f H=>J H ?_;simp at f;simp[f]at W;subst W;exact .str [ch] _
end
section
variable{F:Fx}{h₀:BJ}{σ:AS}{Y:U AW}{c:Cx}
noncomputable def NT:U BA->U V->AS->AS|x::xs,d::u,σ=>NT xs u (σ.put x (.v d))|_,_,σ=>σ
inductive Mw(F:Fx):U BA->U (AF->Sem LL)->Prop|nil:Mw F [] []|cons{x:BA}{f:AF->Sem LL}{xs:U BA}{fs:U (AF->Sem LL)}:(∀A E s v(Q:LL->AE->Prop),Aj F.M A (FC F.env x v) Q E s->Aj F.M A (f v) Q E s)->Mw F xs fs->Mw F (x::xs) (f::fs)
theorem Pe{Y:U (AF->Sem LL)}{A:BQ}{E:AF->AE->Prop}{names:U BA}(c:Mw F names Y)(D:∀x∈names,DG F x):∀{s:AE}{u:U V}{S:U AF}{σ:AS}{Q:LL->AE->Prop},FX F h₀ σ s->C3 (fz (F.X σ) s.heap) u S->(∀s',FX F h₀ (NT names u σ) s'->CZ F σ (NT names u σ) s s'->Q () s')->Aj F.M A (assignInOrder Y S) Q E s:=by
 induction c with|nil=>exactλ{s u S σ Q}T m k=>PyProof.Rows.assignInOrder_nil (k s (by clear k;cases(m)<;>exact T) (by clear k;cases(m)<;>exact .refl _ _ _))|@cons x f xs Y c _ I=>intro s u S σ Q T m k;cases m with|nil=>exact AH (k s T (.refl _ _ _))|@cons d _ _ _ a b=>refine PyProof.Rows.assignInOrder_cons (c _ _ _ _ _ (Ew (sl:=.v d) T T.rep (D x AQ) a λs₁ j w=>?_));have v:CZ F σ (σ.put x (.v d)) s s₁:=CZ.store w;exact I (λy t=>D y (AU _ t)) j (C3.sub (CZ.sub T v) b) λs' W G=>k s' W (v.trans j G)
theorem Te{es:U BL}{k:Z}{P pos:EQ}{e:BL}(names:U BA){Q:Ha->AS->Prop}(D:∀x∈names,DG F x)(h:WE F σ (F.X σ) e λd=>∃u,d=.tup u/\u.length=names.length/\Q .next (NT names u σ))(V:Mw F names ((assignEach es F.env).map (·.2)))(p:(assignEach es F.env).length=names.length)(c:(assignEach es F.env).findIdx? (·.1)=AJ)(L:swapsWithSole [.Tuple es k P] e pos.line F.env=Bz AD:=by rfl)(i:Uh [.Tuple es k P] e F.env=Bz AJ:=by rfl):W1 F h₀ σ (.Assign [.Tuple es k P] e pos) Q:=by
 intro A E s N T;refine Assign_Tuple (h.bind N T.st T.rep λv s₁ d l w t m H=>?_) L i;refine CF H λu e g q=>?_;clear H;subst e;induction m using Rd.eT with|tup e r=>rename_i S a n;have j:=(Al.mp e).2;refine wpAny_assign_Tuple N.handled ⟨_,j,rfl,_,rfl⟩ (by refine J p (J BN (CS r.length (J g ?_)));rfl) c λh' hb=>?_;have f:Kp s₁ {s₁ with heap:=h'}:=⟨⟨h',s₁.toks,rfl,λb o e=>hb b o (CQ (Bg e)) e⟩,AN _⟩;have z:Bk F.c.hB s₁.heap h':=B4 f;have Y:=(T.next l w).next (l.keeps f) z;exact Pe V D Y (C3.sub (DB z _) r) λs' W G=>⟨.next,_,W,(CZ.DO (w.trans z)).trans Y G,Bl,q⟩
theorem Rn{es:U BL}{k:Z}{P pos:EQ}{e:BL}(names:U BA){Q:Ha->AS->Prop}(D:∀x∈names,DG F x)(h:WE F σ (F.X σ) e λd=>∃u,d=.tup u/\u.length=names.length/\Q .next (NT names.reverse u.reverse σ))(L:swapsWithSole [.Tuple es k P] e pos.line F.env=Bz AD)(f:Uh [.Tuple es k P] e F.env=Bz (B names)):W1 F h₀ σ (.Assign [.Tuple es k P] e pos) Q:=by
 intro A E s N T;refine Assign_Tuple_swapped (h.bind N T.st T.rep λv s₁ d l w t m H=>?_) L f;refine CF H λu e g q=>?_;clear H;subst e;induction m using Rd.eT with|tup e r=>
rename_i S a n;have i:=(Al.mp e).2;have p:names.length=S.toArray.size:=by refine J BN (CS r.length (J g ?_));rfl
refine J p (wpAny_unpackItems_tuple N.handled ⟨_,i,rfl,_,rfl⟩ λh' hb=>?_);have c:Kp s₁ {s₁ with heap:=h'}:=⟨⟨h',s₁.toks,rfl,λb o e=>hb b o (CQ (Bg e)) e⟩,AN _⟩;have z:Bk F.c.hB s₁.heap h':=B4 c;have Y:=(T.next l w).next (l.keeps c) z;have V:∀ns:U BA,Mw F ns (ns.map λn=>bindName F.env n):=λns=>by
 induction ns with|nil=>exact .nil|cons x xs I=>exact .cons (λA E s v Q h=>PyProof.Rows.bindName_ h) I
refine Pe (V _) (λx K=>D x (l5.mp K)) Y ?_ λs' W G=>⟨.next,_,W,(CZ.DO (w.trans z)).trans Y G,Bl,q⟩;simpa using(C3.sub (DB z _) r).reverse
theorem HR.mod(a b:O)(hb:b≠0):HR c .Mod (.int a) (.int b) (.int (a.fmod b)):=.of λA E Y s m I Q M M M L X k=>by
 induction L using Rd.eI;induction X using Rd.eI;exact PyProof.Rows.mod_int hb (k _ _ (Keeps.tok _ _) (.int _ _))
theorem HR.pow(a:O)(n:Z)(p:n<=1000000)(P:a.natAbs<2^64):HR c .Pow (.int a) (.int n) (.int (a^n)):=.of λA E Y s m I Q M M M L X k=>by
 induction L using Rd.eI;induction X using Rd.eI;exact PyProof.Rows.pow_int_small (by exact m9) (by exact u7 ‹_›) P (k _ _ (Keeps.tok _ _) (by simpa using .int _ _))
theorem HR.fdiv(a b:O)(hb:b≠0)(L:b.natAbs<1073741824):HR c .FloorDiv (.int a) (.int b) (.int (a.fdiv b)):=.of λA E Y s m I Q j N M d X k=>by
 induction d using Rd.eI;induction X using Rd.eI;exact PyProof.Rows.floordiv_int hb (k _ _ (Keeps.tok _ _) (.int _ _)) (.inl (aR L))
theorem L4(a b:O)(P:-(2^40)<=a)(c:a<=2^40)(hb:-(2^40)<=b)(d:b<=2^40):FY a b 1=AO:=small_one (DT (by decide) P) (Qh c (by decide)) (DT (by decide) hb) (Qh d (by decide))
theorem GP(n:Z):Cq 0 n=(Ar n).map λ(i:Z)=>V.int i:=by
 simp[Cq]
theorem HX.NX(n:Z)(h:n<=2^30):HX c (Kl 0 n) ((Ar n).map λ(i:Z)=>V.int i):=by
 refine CS (GP _) (.range 0 n (L4 _ _ (by exact z28) (by exact z29) (by exact vp) (by exact u8 ‹_›)))
theorem H8(ns:U Z)(g:Z->V)(f:V->AX V)(a:∀m∈ns,f (.int m)=B (g m)):(ns.map λ(i:Z)=>V.int i).filterMap f=ns.map g:=by
 induction ns with|nil=>rfl|cons m A I=>simp only[Bo,Kw,a m AQ,I λx D=>a x (AU _ D)]
theorem jk{e:BL}{pos:EQ}{Q:V->Prop}(h:WE F σ F.Xo e λd=>∃i,d=.int i/\Q (.int (-i))):WE F σ Y (.UnaryOp .USub e pos) Q:=by
 intro A E s N j T;refine wpAny_UnaryOp (h.bind N j T λm s₁ a D w G L H=>?_);refine AI H λi e q=>?_;clear H;subst e;induction L using Rd.eI;exact PyProof.Rows.neg_int (Gr.of D w (Kp.tok _ (BH _)) (.int _ _) q)
end
section
set_option genInjectivity false
set_option genSizeOf false
noncomputable def QG(x:Z):BC:=(48<=x&&x<=57)||(65<=x&&x<=90)||(97<=x&&x<=122)
noncomputable abbrev Mem:=U Z
noncomputable def YB(x:Z)(m:Mem):BC:=m.headD 0<=x&&x<=m.getLastD 0
structure Cl where
bar:BC
ms:U Mem deriving DecidableEq
noncomputable def Cl.hit(t:Cl)(x:Z):BC:=(t.ms.any (YB x))!=t.bar
noncomputable abbrev It:=AX Cl
noncomputable def GF(name:U Z)(c:U BC):It->U BC|AJ=>(Ar c.length).map λk=>(c.take (k+1)).contains AO|B t=>AD::(Ar name.length).map λk=>c.getD k AD&&t.hit (name.getD k 0)
noncomputable def I8(name:U Z)(c:U BC)(items:U It):U BC:=items.foldl (GF name) c
noncomputable def MI(items:U It)(name:U Z):BC:=(I8 name (AO::Ga name.length AD) items).getLastD AD
theorem JI(name:U Z)(c:U BC)(t:It)(h:c.length=name.length+1):(GF name c t).length=name.length+1:=by
 cases(t)<;>simp[GF,h]
noncomputable def Gj(l:U Z):BC:=l.casesOn AD λx r=>r.casesOn AD λM M=>x==45
theorem Pw(x y:Z)(r:U Z):Gj (x::y::r)=(x==45):=rfl
theorem Vg(x:Z):Gj [x]=AD:=rfl
theorem Vh:Gj []=AD:=rfl
noncomputable def Pr:Z->U Z->U Mem|0,_=>[]|_,[]=>[]|n+1,a::t=>if Gj t=AO then(if a<=(t.drop 1).headD 0 then[a,45,(t.drop 1).headD 0]::Pr n (t.drop 2)else Pr n (t.drop 2))else[a]::Pr n t
theorem br:∀(n m:Z)(l:U Z),l.length<=n->l.length<=m->Pr n l=Pr m l:=by
 intro n;induction n with|zero=>intro m l h M;refine J (F4 (eM.mp h)) ?_;cases(m)<;>rfl|succ n I=>intro m l h g;cases l with|nil=>clear g;cases(m)<;>rfl|cons a t=>cases m with|zero=>exact B8 g (F1 _)|succ m=>
have h:=Gs h;have g:=Gs g;have hd:(t.drop 2).length<=t.length:=by refine J Bh (Cd _ _)
show oJ _ _ _=oJ _ _ _;refine J (I m t h g) (J (I m _ (AA hd h) (AA hd g)) ?_);rfl
noncomputable def Ho(l:U Z):U Mem:=Pr l.length l
theorem Ip(a b:Z)(r:U Z):Ho (a::45::b::r)=if a<=b then[a,45,b]::Ho r else Ho r:=by
 show oJ _ ([a,45,b]::Pr (r.length+2) r) (Pr (r.length+2) r)=_;refine J (br (r.length+2) r.length r (As _ 2) (AN _)) rfl
theorem L9(a:Z)(t:U Z)(h:Gj t=AD):Ho (a::t)=[a]::Ho t:=by
 refine(?_:oJ (Gj t=AO) _ _=_);refine J h rfl
theorem RM{t:U Z}(h:Gj t=AO):∃b r,t=45::b::r:=by
 cases t with|nil=>exact J2 h|cons x t=>cases t with|nil=>exact J2 h|cons b r=>exact Io b r (by refine J (Fe (show(x==45)=AO from h)) ?_;rfl)
theorem VX{P:U Z->Prop}(h0:P [])(hr:∀a b r,P r->P (a::45::b::r))(ho:∀a t,Gj t=AD->P t->P (a::t))(l:U Z):P l:=by
 suffices h:∀n(l:U Z),l.length<=n->P l from h _ l (AN _);intro n;induction n with|zero=>intro l g;refine J (F4 (eM.mp g)) h0|succ n I=>intro l g;cases l with|nil=>exact h0|cons a t=>have g:=Gs g;cases e:Gj t with|false=>exact ho a t e (I t g)|true=>refine Eh (RM e) λb r e=>?_;subst e;exact hr a b r (I r (AA (As _ 2) g))
theorem RC{p:Z->Prop}{q:Mem->Prop}(W:∀a,p a->q [a])(T:∀a b,p a->p 45->p b->q [a,45,b])(l:U Z):(∀x∈l,p x)->∀m∈Ho l,q m:=by
 induction l using VX with
 |h0=>intro M m h;exact JZ h|hr a b r I=>
intro E m h;rw[AT,AT,AT]at E;rw[Ip]at h;split at h;·refine AC (Ae.mp h) (λh=>(J h (T a b E.1 E.2.1 E.2.2.1))) λh=>(I E.2.2.2 m h)
·exact I E.2.2.2 m h|ho a t e I=>intro E m h;rw[AT]at E;rw[L9 a t e]at h;refine AC (Ae.mp h) (λh=>(J h (W a E.1))) λh=>(I E.2 m h)
theorem Y2(l:U Z):∀(m:Mem),m∈Ho l->m≠[]:=RC (λM M=>(by intro W;exact di W)) (λM M M M M=>(by intro W;exact di W)) l λM M=>Bl
theorem RB(p:Z->Prop)(l:U Z)(h:∀x∈l,p x):∀(m:Mem),m∈Ho l->∀x∈m,p x:=RC (λM h=>AT.mpr ⟨h,(by intro M W;exact JZ W)⟩) (λM M a b c=>AT.mpr ⟨a,AT.mpr ⟨b,AT.mpr ⟨c,(by intro M W;exact JZ W)⟩⟩⟩) l h
theorem RA(l:U Z):∀(m:Mem),m∈Ho l->m.length<=3:=RC (λM M=>(by decide:1<=3)) (λM M M M M=>(by decide:3<=3)) l λM M=>Bl
theorem VW(l:U Z):(Ho l).length<=l.length:=by
 induction l using VX with
 |h0=>exact AN _|hr a b r I=>
rewrite[Ip];split;·exact Ax (AA I (As _ 2))
·exact AA I (As _ 3)|ho a t e I=>refine J (L9 a t e) (Ax I)
noncomputable def I7(body:U Z):Cl:=let a:=body.headD 0==33
let A:=Ho (if a then body.drop 1 else body)
if a=AD/\A≠[]/\(A.headD []).headD 0=33 then⟨AO,((A.headD []).drop 1).map (λx=>[x])++A.drop 1⟩else⟨a,A⟩
noncomputable def E6(l:U Z)(x b hi:Z):AX Z:=(Lz b (hi-b)).find? λi=>l[i]?==B x
noncomputable def ZK:AX Z->O|B k=>k|AJ=>-1
theorem GQ{l:U Z}{x b hi k:Z}(h:E6 l x b hi=B k):b<=k/\k<hi/\l[k]?=B x:=by
 have W:=U.mem_of_find?_eq_some h;have C:=U.find?_some h;have :=JD.mp W;exact Cf this.1 (by exact z88 ‹_›) (by simpa using C)
theorem TF(l:U Z)(x a k:Z)(b:a<=l.length):E6 l x (a+k) l.length=(E6 (l.drop a) x k (l.drop a).length).map (a+·):=by
 unfold E6;have e:l.length-(a+k)=(l.drop a).length-k:=by simp;exact we
 refine J e ?_;have :Lz (a+k) ((l.drop a).length-k)=(Lz k ((l.drop a).length-k)).map (a+·):=by
  refine J IR (J IR (J EE ?_));apply FO;intro i M;simp;exact z90
 refine J this (J WV ?_);have :((λi=>l[i]?==B x)∘λy=>a+y)=λi=>(l.drop a)[i]?==B x:=by
  funext i;simp
 refine J this rfl
noncomputable def DL(R:U Z):AX Z:=E6 R 93 (if R.headD 0==33 then 2 else 1) R.length
theorem Hp{R:U Z}{e:Z}(h:DL R=B e):1<=e/\e<R.length:=by
 have :=GQ h;refine⟨?_,this.2.1⟩;have W:=this.1;split at W<;>(first|exact z47 ‹_›|exact sG ‹_›|omega)
noncomputable def Si{X:Type}{c:Type}(m:X->Z)(F:X->(X->c)->c)(d:c):Z->X->c|0,_=>d|n+1,a=>F a (Si m F d n)
theorem OL{X c:Type}{m:X->Z}{F:X->(X->c)->c}{d:c}(H:∀a f g,(∀b,m b<m a->f b=g b)->F a f=F a g)(a:X):Si m F d (m a+1) a=F a λb=>Si m F d (m b+1) b:=by
 have D:∀n k a,m a<n->m a<k->Si m F d n a=Si m F d k a:=by
  intro n;induction n with|zero=>intro k a h;exact B8 h (Fy _)|succ n I=>intro k a h C;induction k using Z.casesOn with|zero=>exact B8 C (Fy _)|succ k=>exact H _ _ _ λb hb=>I k b (AY hb (BZ h)) (AY hb (BZ C))
 exact H _ _ _ λb hb=>D _ _ b hb (B5 _)
theorem mZ{c:Type}{o:AX Z}{a:c}{f g:Z->c}(h:∀k,o=B k->f k=g k):D1 (motive:=λM=>c) o a f=D1 (motive:=λM=>c) o a g:=by
 induction o using D1 with|none=>rfl|some k=>exact h k rfl
theorem YJ(l:U Z)(k:Z):(l.drop k).length<=l.length:=by rw[Bh];exact Cd _ _
noncomputable def itF(l:U Z)(g:U Z->U It):U It:=l.casesOn [] λc R=>if c=42 then AJ::g R else if c=63 then B ⟨AO,[]⟩::g R else if c=91 then(DL R).casesOn (B ⟨AD,[[c]]⟩::g R) λe=>B (I7 (R.take e))::g (R.drop (e+1))else B ⟨AD,[[c]]⟩::g R
noncomputable def CY(l:U Z):U It:=Si DF itF [] (l.length+1) l
theorem Jx(l:U Z):CY l=itF l CY:=by
 refine OL (λa f g h=>?_) l;induction a using NS with|nil=>rfl|cons c R=>have W:=h R (B5 _);have C:∀e,f (R.drop e)=g (R.drop e):=λe=>h _ (DA (YJ _ _));dsimp only[itF];simp only[W,C]
theorem H7:CY []=[]:=Jx []
theorem JV(R:U Z):CY (42::R)=AJ::CY R:=Jx _
theorem Ka(R:U Z):CY (63::R)=B ⟨AO,[]⟩::CY R:=Jx _
theorem KZ(R:U Z)(e:Z)(h:DL R=B e):CY (91::R)=B (I7 (R.take e))::CY (R.drop (e+1)):=by
 refine(Jx _).trans (?_:D1 (motive:=λM=>U It) (DL R) _ _=_);rw[h]
theorem HP(c:Z)(R:U Z)(W:c≠42)(C:c≠63)(T:c=91->DL R=AJ):CY (c::R)=B ⟨AD,[[c]]⟩::CY R:=by
 refine(Jx _).trans ((Ab W).trans ((Ab C).trans ?_));by_cases f:c=91;·refine(Ap f).trans ?_;rw[T f]
 ·exact Ab f
noncomputable def TW(name:U Z)(a:U Cl)(p:Z):BC:=(Ar a.length).all λi=>(a.getD i ⟨AD,[]⟩).hit (name.getD (p+i) 0)
noncomputable def Lm(name:U Z)(a:U Cl)(k n p:Z):BC:=(B9 (0<k)||p==0)&&(B9 (k+1<n)||p+a.length==name.length)&&TW name a p
noncomputable def Qk(name:U Z)(a:U Cl)(g:Z):U Z:=(Ar (name.length+1-a.length-g)).map (g+·)
noncomputable def MZ(name:U Z)(a:U Cl)(k n g:Z):U Z:=(Qk name a g).filter (Lm name a k n)
noncomputable def Jh(name:U Z)(n:Z):U (U Cl)->Z->Z->BC|[],_,_=>AO|r::z,k,g=>match MZ name r k n g with|[]=>AD|p::_=>Jh name n z (k+1) (p+r.length)
noncomputable def EI(w:U (U Cl))(name:U Z):BC:=Jh name w.length w 0 0
noncomputable def Ih(i:O):Z:=let c:=(i.fmod 1112064).toNat;if c<55296 then c else c+2048
noncomputable def NA:U Z->AX (Z×BC×U Z)|[]=>AJ|x::r=>if x=92 then r.head?.map λy=>(y,QG y,r.drop 1)else B (x,AD,r)
theorem KX{y:Z}(a:y≠92)(t:U Z):NA (y::t)=B (y,AD,t):=Ab a
theorem VN{l:U Z}{x:Z}{o:BC}{r:U Z}(h:NA l=B (x,o,r)):(x≠92/\l=x::r/\o=AD)\/(l=92::x::r/\o=QG x):=by
 cases l with|nil=>exact Eb h|cons y t=>
by_cases e:y=92;· subst e;cases t with|nil=>exact Eb h|cons z t=>replace h:=EY h;refine dh h ?_;clear h;intro Q i L;induction Q using EC;induction i using EC;induction L using EC;exact .inr ⟨rfl,rfl⟩
·rw[KX e]at h;replace h:=EY h;refine dh h ?_;clear h;intro Q i L;induction Q using EC;induction i using EC;induction L using EC;exact .inl ⟨e,rfl,rfl⟩
theorem PH{l:U Z}{x:Z}{o:BC}{r:U Z}(h:NA l=B (x,o,r)):r.length<l.length:=by
 refine AC (VN h) (λX=>(B7 X λM e M=>J e (B5 _))) λX=>(Aa X λe M=>J e (FG (k:=2) (by decide)))
noncomputable def Y3(x:Z)(o:BC):U Z->AX (Mem×BC×U Z)|[]=>AJ|y::t=>if y=45/\t.head?≠B 93 then(NA t).map λp=>([x,45,p.1],o||p.2.1||B9 (p.1<x),p.2.2)else B ([x],o,y::t)
noncomputable def NC(l:U Z):AX (Mem×BC×U Z):=(NA l).bind λp=>Y3 p.1 p.2.1 p.2.2
theorem Va{l:U Z}{m:Mem}{o:BC}{r:U Z}(h:NC l=B (m,o,r)):∃x a y t,NA l=B (x,a,y::t)/\((¬(y=45/\t.head?≠B 93)/\m=[x]/\o=a/\r=y::t)\/∃z w b,t.head?=B z/\y=45/\z≠93/\NA t=B (w,b,r)/\m=[x,45,w]/\o=(a||b||B9 (w<x))):=by
 refine AI (B1.mp h) λp W C=>?_;clear h;rcases p with⟨x,a,P⟩;cases P with|nil=>exact Eb C|cons y t=>
refine MR x a y t W ?_;clear W;by_cases e:y=45/\t.head?≠B 93;· refine AI (BK.mp ((Ap e).symm.trans C)) λp T F=>?_;clear C;rcases p with⟨w,b,H⟩;refine dh F ?_;clear F;intro Q i L;induction Q using EC;induction i using EC;induction L using EC;cases t with|nil=>exact Eb T|cons z t=>exact .inr ⟨z,w,b,rfl,e.1,λq=>e.2 (Aq B q),T,rfl,rfl⟩
· have q:=(Ab e).symm.trans C;replace q:=EY q;refine dh q ?_;clear q;intro Q i L;induction Q using EC;induction i using EC;induction L using EC;exact .inl ⟨e,rfl,rfl,rfl⟩
theorem PM{l:U Z}{m:Mem}{o:BC}{r:U Z}(h:NC l=B (m,o,r)):r.length<l.length:=by
 refine Ge (Va h) λx a y t W C=>AC C (λX=>(Fb X λM M M e=>J e (PH W))) λX=>(U9 X λM M M M M M T M M=>CC (PH T) (EU (PH W)))
noncomputable def MU:Z->BC->U Z->AX (U Mem×BC×U Z)|0,_,_=>AJ|n+1,d,l=>if d=AD/\l.head?=B 93 then B ([],AD,l.drop 1)else(NC l).bind λp=>(MU n AD p.2.2).map λq=>(p.1::q.1,p.2.1||q.2.1,q.2.2)
theorem VY:∀(n m:Z)(b:BC)(l:U Z),l.length<n->l.length<m->MU n b l=MU m b l:=by
 intro n;induction n with|zero=>intro m b l h;exact B8 h (Fy _)|succ n I=>intro m b l h g;cases m with|zero=>exact B8 g (Fy _)|succ m=>show oJ _ _ _=oJ _ _ _;congr 1;cases e:NC l with|none=>rfl|some p=>have q:=PM e;refine(?_:Es _ _=Es _ _);refine J (I m AD p.2.2 (AY q (BZ h)) (AY q (BZ g))) ?_;rfl
noncomputable def GR(d:BC)(l:U Z):AX (U Mem×BC×U Z):=MU (l.length+1) d l
noncomputable def HJ:U Z->AX (Cl×BC×U Z)|[]=>AJ|c::t=>(GR AO (if c=94 then t else c::t)).map λp=>(⟨c==94,p.1⟩,p.2)
theorem NB(d:BC)(t:U Z)(h:d=AD):GR d (93::t)=B ([],AD,t):=Ap ⟨h,rfl⟩
theorem Sf(d:BC):GR d []=AJ:=by cases(d)<;>rfl
theorem Jv(d:BC)(c:Z)(t:U Z)(h:d=AO\/c≠93):GR d (c::t)=(NC (c::t)).bind λp=>(GR AD p.2.2).map λq=>(p.1::q.1,p.2.1||q.2.1,q.2.2):=by
 refine(Ab λq=>?_).trans ?_;· refine AC h (λh=>?_) λh=>(h (Af q.2));·rw[q.1]at h;exact J2 h
 ·cases e:NC (c::t)with|none=>rfl|some p=>have q:=PM e;refine(?_:Es _ _=Es _ _);refine J (VY _ _ AD p.2.2 q (B5 _)) rfl
theorem UH:∀(n:Z)(d:BC)(l:U Z)(p:U Mem×BC×U Z),MU n d l=B p->p.2.2.length<l.length:=by
 intro n;induction n with|zero=>intro d l p h;exact Eb h|succ n I=>
intro d l p h;by_cases e:d=AD/\l.head?=B 93;· have q:=(Ap e).symm.trans h;replace q:=EY q;induction q using EC;clear h;cases l with|nil=>cases e.2|cons a t=>exact B5 _
· refine AI (B1.mp ((Ab e).symm.trans h)) λa W C=>?_;clear h;refine AI (BK.mp C) λq T F=>?_;clear C;subst F;exact CC (I _ _ q T) (PM (o:=a.2.1) W)
theorem Mc{l:U Z}{b:Cl}{o:BC}{r:U Z}(h:HJ l=B (b,o,r)):r.length<l.length:=by
 cases l with|nil=>exact Eb h|cons c t=>
refine AI (BK.mp h) λd W C=>?_;rcases d with⟨A,o',G⟩;clear h;refine dh C ?_;clear C;intro Q i L;induction Q using EC;induction i using EC;induction L using EC;have :=UH _ _ _ _ W;split at this;·exact Bm this
·exact this
noncomputable def VO:U Z:=[40,41,42,43,63,123,124,94,36,92]
noncomputable def L6:Z->U Z->U (U Cl)->U Cl->BC->BC->AX (U (U Cl)×BC×BC)
|0,_,_,_,_,_=>AJ|n+1,l,done,j,i,f=>if l.length<=3 then B (done++[j],i,f)else let t:=l.drop 1
if(l.headD 0==40&&(t.take 5==[63,62,46,42,63]&&!f))=AO then L6 n (t.drop 5) (done++[j]) [] i AO else if(l.headD 0==41&&(f&&(t.take 2==[46,42]||t.take 3==[40,63,62])))=AO then L6 n t done j i AD else if(l.headD 0==46&&(t.headD 0==42&&!f))=AO then L6 n (t.drop 1) (done++[j]) [] i f else if(l.headD 0==40&&t.take 3==[63,33,41])=AO then L6 n (t.drop 3) done (j++[⟨AD,[]⟩]) i f else if(l.headD 0==46)=AO then L6 n t done (j++[⟨AO,[]⟩]) i f else if(l.headD 0==91)=AO then(HJ t).bind λp=>L6 n p.2.2 done (j++[p.1]) (i&&!p.2.1) f else if(l.headD 0==92&&!QG (t.headD 0))=AO then L6 n (t.drop 1) done (j++[⟨AD,[[t.headD 0]]⟩]) i f else L6 n t done (j++[⟨AD,[[l.headD 0]]⟩]) (i&&!VO.contains (l.headD 0)) f
theorem VJ:∀(n m:Z)(l:U Z)(done:U (U Cl))(j:U Cl)(i f:BC),l.length<n->l.length<m->L6 n l done j i f=L6 m l done j i f:=by
 intro n;induction n with|zero=>intro m l M M M M h;exact B8 h (Fy _)|succ n I=>intro m l done j i f h g;cases m with|zero=>exact B8 g (Fy _)|succ m=>
      by_cases c:l.length<=3;·exact(Ap c).trans (Ap c).symm
      · have hd:∀k,((l.drop 1).drop k).length<l.length:=λk=>by refine J EB (J Bh (pO ‹_›))
        have b:=λk done j i f=>I m _ done j i f (AY (hd k) (BZ h)) (AY (hd k) (BZ g));refine(Ab c).trans (.trans ?_ (Ab c).symm);have a:=b 0;rw[LV]at a;dsimp only;rewrite[b 5];rewrite[b 1];rewrite[b 3];rewrite[a];rewrite[a];rewrite[a];rewrite[b 1];congr 6;cases e:HJ (l.drop 1)with|none=>rfl|some p=>have q:=CC (Mc e) (hd 0);exact I m _ _ _ _ _ (AY q (BZ h)) (AY q (BZ g))
noncomputable def Cs(l:U Z)(done:U (U Cl))(j:U Cl)(i f:BC):AX (U (U Cl)×BC×BC):=L6 (l.length+1) l done j i f
theorem OC{l:U Z}(h:l.length<=3)(done:U (U Cl))(j:U Cl)(i f:BC):Cs l done j i f=B (done++[j],i,f):=Ap h
noncomputable def rf7(c:Z)(t:U Z)(done:U (U Cl))(j:U Cl)(s i:BC):=if(c==92&&!QG (t.headD 0))=AO then Cs (t.drop 1) done (j++[⟨AD,[[t.headD 0]]⟩]) s i else Cs t done (j++[⟨AD,[[c]]⟩]) (s&&!VO.contains c) i
noncomputable def rf6(c:Z)(t:U Z)(done:U (U Cl))(j:U Cl)(s i:BC):=if(c==91)=AO then(HJ t).bind λp=>Cs p.2.2 done (j++[p.1]) (s&&!p.2.1) i else rf7 c t done j s i
noncomputable def rf5(c:Z)(t:U Z)(done:U (U Cl))(j:U Cl)(s i:BC):=if(c==46)=AO then Cs t done (j++[⟨AO,[]⟩]) s i else rf6 c t done j s i
noncomputable def rf4(c:Z)(t:U Z)(done:U (U Cl))(j:U Cl)(s i:BC):=if(c==40&&t.take 3==[63,33,41])=AO then Cs (t.drop 3) done (j++[⟨AD,[]⟩]) s i else rf5 c t done j s i
noncomputable def rf3(c:Z)(t:U Z)(done:U (U Cl))(j:U Cl)(s i:BC):=if(c==46&&(t.headD 0==42&&!i))=AO then Cs (t.drop 1) (done++[j]) [] s i else rf4 c t done j s i
noncomputable def rf2(c:Z)(t:U Z)(done:U (U Cl))(j:U Cl)(s i:BC):=if(c==41&&(i&&(t.take 2==[46,42]||t.take 3==[40,63,62])))=AO then Cs t done j s AD else rf3 c t done j s i
noncomputable def rf1(c:Z)(t:U Z)(done:U (U Cl))(j:U Cl)(s i:BC):=if(c==40&&(t.take 5==[63,62,46,42,63]&&!i))=AO then Cs (t.drop 5) (done++[j]) [] s AO else rf2 c t done j s i
theorem GA{c:Z}{t:U Z}(h:3<=t.length)(done:U (U Cl))(j:U Cl)(s i:BC):Cs (c::t) done j s i=rf1 c t done j s i:=by
 have hd:∀(k:Z)(done:U (U Cl))(j:U Cl)(s i:BC),L6 (t.length+1) (t.drop k) done j s i=Cs (t.drop k) done j s i:=λk done j s i=>VJ _ _ _ _ _ _ _ (by refine J Bh lI) (B5 _);have f:((HJ t).bind λp=>L6 (t.length+1) p.2.2 done (j++[p.1]) (s&&!p.2.1) i)=(HJ t).bind λp=>Cs p.2.2 done (j++[p.1]) (s&&!p.2.1) i:=by
  cases e:HJ t with|none=>rfl|some p=>exact VJ _ _ _ _ _ _ _ (CC (Mc (o:=p.2.1) e) (B5 _)) (B5 _)
 refine(Ab (Z.not_le.mpr (Ax h))).trans ?_;unfold rf1 rf2 rf3 rf4 rf5 rf6 rf7;refine CS f ?_;rewrite[<-hd 5];rewrite[<-hd 3];rewrite[<-hd 1];rewrite[<-hd 1];rfl
theorem Pt{A:Type}{p:Prop}[Decidable p]{a b r:A}(h:p)(e:(if p then a else b)=r):a=r:=(Ap h).symm.trans e
theorem Pu{A:Type}{p:Prop}[Decidable p]{a b r:A}(h:¬p)(e:(if p then a else b)=r):b=r:=(Ab h).symm.trans e
noncomputable def Oy(u:U Z):AX (U (U Cl)):=match Cs (u.drop 4) [] [] (u.take 4++u.drop (u.length-3)==[40,63,115,58,41,92,90]) AD with|AJ=>AJ|B (w,i,f)=>B (if(i&&!f)=AO then w else[[⟨AO,[]⟩],[]])
end
section
variable{F:Fx}{h₀:BJ}{σ:AS}{Y:U AW}{c:Cx}
theorem OX{o e:BL}{es:U BL}{name:BA}{id:oK}{I K:EQ}{Q:V->Prop}(a:Slot "str" name id)(S:Us (.builtin id)=Bz (.type "method_descriptor"))(h:WE F σ F.Xo o λd=>∃l,d=.str l/\OV F σ F.Xo (e::es) λu=>∃r,Do F.c (.builtin id) (.str l::u) r/\V5 r/\Q r)(p:∀env,Hr o name env (Gp o env)=Gp o env:=by intro M;rfl)(hfew:∀env,((Fg K (Bn (e::es) env)).all (λx=>!x.1)&&(SD K (LN [] env)).all (λx=>x.1.isSome)&&B9 ((e::es).length+([]:U IX).length+(if([]:U IX).isEmpty then 0 else 1)<30))=AO:=by intro M;rfl)(hline:(I.endLine==K.line)=AO:=by rfl)(he:∀env,Bn (e::es) env=(AD,Gp e env)::Bn es env:=by intro env;rfl)(G:∀pos env,(Fg pos (Bn es env)).any (·.1)=AD:=by intro M M;rfl):WE F σ Y (.Call (.Attribute o name I) (e::es) [] K) Q:=by
 refine Li λA E s N j T=>Ff (p _) (hfew _) hline rfl (h.bind N j T λP s₁ d b w n m H=>?_);refine AI H λl e C=>?_;clear H;subst e;induction m using Rd.eS with|str t=>refine Ld "str" id JC a S (G0 _ _ _) (λM e=>(by have W:=e;cases(W))) (E2 (C.bind N b n λR y u f z g c H=>?_) (he _) (G _ _));refine CF H λr ok L q=>Ad (CM (ok A E F.Xo y _ _ (N.less (Ao _)) f (g.Ft Be) (.cons (.str l t) c) λv s' k m=>(⟨k,m⟩:SE y s'/\Rd (fz F.Xo s'.heap) r v))) (λx D X=>by refine B7 X λi k m=>Gr.of f (w.trans z) ⟨k,i⟩ m ⟨L,q⟩) λM M x=>x.2
theorem ar(l:U Z)(x i:Z):Builtin.Str.subAt (tx l) (tx [x]) i=(l[i]?==B x):=by
 refine Iz Dt ?_;have :=StrLaws.subAt_one (tx l) x i;simp only[aj]at this;rewrite[show tx [x]=⟨#[x]⟩from rfl,BG,<-this];refine⟨λh=>⟨?_,h⟩,λh=>h.2⟩;unfold Builtin.Str.subAt at h;have C:=Aq Bc.size (Fe h);have W:(⟨#[x]⟩:BA).length=1:=rfl;simp[W]at C⊢;refine J (EL _) (u6 ‹_›)
theorem XG{X:Type}{p q:X->BC}:∀{l:U X},(∀x∈l,p x=q x)->l.find? p=l.find? q:=by
 intro l;induction l with|nil=>intro M;exact rfl|cons a l I=>intro h;refine J HI (J HI (J (h a AQ) (J (I λx D=>h x (AU _ D)) ?_)));rfl
theorem ZS(s Uj:BA)(hi:Z):∀(l:U Z)(a:Bc Z)(f:Z),a.size=1->(WY l (a,f) (Lp s Uj hi 1)).run.fst=a:=by
 intro l;induction l with|nil=>intro a f h;exact rfl|cons i l I=>intro a f h;rewrite[DJ];unfold Lp;refine J (Ab (by simp[h])) (I a f h)
theorem Yu(t:U Z)(x hi:Z):∀(l:U Z)(f:Z),(∀i∈l,f<=i)->(WY l ((#[]:Bc Z),f) (Lp (tx t) (tx [x]) hi 1)).run.fst.toList=(l.find? λi=>B9 (i+1<=hi)&&(t[i]?==B x)).toList:=by
 intro l;induction l with|nil=>intro f h;exact rfl|cons i l I=>intro f h;rewrite[DJ];refine J HI ?_;have V:=h i AQ;have hb:=ar t x i;have W:(tx [x]).length=1:=rfl;cases a:(B9 (i+1<=hi)&&(t[i]?==B x))with|true=>simp only[Bs,HY]at a;have :=ZS (tx t) (tx [x]) hi l (#[].push i) (i+1) rfl;unfold Lp at this⊢;refine J (Ap ⟨⟨⟨by simp,V⟩,by exact a.1⟩,by refine J hb (a.2)⟩) ((Aq Bc.toList this).trans rfl)|false=>
have I:=I f λj o=>h j (AU _ o);unfold Lp at I⊢;rewrite[Ab];·exact I
· intro s;refine Aa s λd T=>Aa d λM C=>?_;rw[W]at C;rw[hb]at T;rw[T,DW C]at a;exact NI a
theorem VP(t:U Z)(x lo hi:Z):HF (tx t) (tx [x]) lo hi 1=(E6 t x lo hi).toList:=by
  rewrite[StrLaws.occ_eq];refine J (Yu t x hi _ lo (by intro i hi;exact(JD.mp hi).1)) ?_;unfold E6;congr 1;by_cases g:lo<=hi
  · refine J (show hi+1-lo=(hi-lo)+1 by exact ty ‹_›) (J U.range'_concat (J U.find?_append ?_));have e1:((Lz lo (hi-lo)).find? λi=>B9 (i+1<=hi)&&(t[i]?==B x))=(Lz lo (hi-lo)).find? λi=>t[i]?==B x:=by
     apply XG;intro i K;have :=JD.mp K;refine J (DW (by exact tw ‹_›:i+1<=hi)) ?_;rfl
    refine J e1 ?_;have I:([lo+1*(hi-lo)].find? λi=>B9 (i+1<=hi)&&(t[i]?==B x))=AJ:=by
     refine J (Z.one_mul _) (J (GK g) (J HI (J (Kd (Z.not_succ_le_self hi)) ?_)));rfl
    refine J I ?_;simp
  ·refine J (show hi+1-lo=0 by exact tv ‹_›) (J (show hi-lo=0 by exact tq ‹_›) ?_);rfl
theorem Do.find3(l:U Z)(x:Z)(i:Z):Do c (.builtin "str.find") [.str l,.str [x],.int i] (.int (ZK (E6 l x i l.length))):=λA E Y s F Q N j K m k=>by
 induction m using C3.eC with|cons a b=>induction b using C3.eC with|cons g b=>induction b using C3.eC with|cons d b=>
induction b using C3.eN;induction a using Rd.eS;induction g using Rd.eS;induction d using Rd.eI;refine call_gives Je (G0 _ _ _) aP (PySem.F.args_str_find_3 _ _ _) (gives_str_find_from _ _ _ _ _ _) ?_;have e:Jc (tx l).length (i:O)=i:=by unfold Jc;refine J (Ab (by exact ny)) m8
refine J e ?_;rewrite[VP];refine J (EL _) (k _ _ (Keeps.tok _ _) ?_);cases E6 l x i l.length<;>exact .int _ _
theorem Vq(x y:BA)(i j:O)(t u v z:Jd):Gives (Builtin.«str.find» ⟨[.str x t,.str y u,.int i v,.int j z],[]⟩) (.int (match HF x y (Jc x.length i) (EV (Jc x.length j) x.length) 1 with|k::_=>(k:O)|[]=>-1)):=by
 refine(?_:Gives (match HF x y (Jc x.length i) (EV (Jc x.length j) x.length) 1 with|k::_=>retInt k|[]=>(do rule "str.find.not-found";retInt (-1))) _);cases HF x y (Jc x.length i) (EV (Jc x.length j) x.length) 1 with|nil=>exact .rule (.of_eq rfl)|cons k _=>exact .of_eq rfl
theorem Do.nF(l:U Z)(x:Z)(i j:Z):Do c (.builtin "str.find") [.str l,.str [x],.int i,.int j] (.int (ZK (E6 l x i (EV j l.length)))):=λA E Y s F Q N f K m k=>by
 induction m using C3.eC with|cons a b=>induction b using C3.eC with|cons g b=>induction b using C3.eC with|cons d b=>induction b using C3.eC with|cons w b=>
induction b using C3.eN;induction a using Rd.eS;induction g using Rd.eS;induction d using Rd.eI;induction w using Rd.eI;refine call_gives Je (G0 _ _ _) aP (PySem.F.args_str_find_4 _ _ _ _) (Vq _ _ _ _ _ _ _ _) ?_;have e:∀i:Z,Jc (tx l).length (i:O)=i:=λi=>by unfold Jc;refine J (Ab (by exact ny)) m8
refine J (e _) (J (e _) ?_);rewrite[VP];refine J (EL _) (k _ _ (Keeps.tok _ _) ?_);cases E6 l x i (EV j l.length)<;>exact .int _ _
noncomputable def Fh(x:Z)(z:U Z)(l:U Z):U Z:=l.flatMap λk=>if k=x then z else[k]
theorem Po(x:Z)(z a b:U Z):Fh x z (a++b)=Fh x z a++Fh x z b:=by simp[Fh]
theorem PE(x:Z)(z:U Z):∀l:U Z,x∉l->Fh x z l=l
|[],_=>rfl|k::r,h=>by
 have W:¬k=x:=λe=>h (e▸AQ ..);have C:x∉r:=λm=>h (AU _ m);have :=PE x z r C;simp only[Fh,kI,Ab W]at this⊢;refine J this rfl
theorem TB(x:Z)(z:BA):∀b:U BA,(∀p∈b,x∉p.cps.toList)->Fh x z.cps.toList (WN ⟨#[x]⟩ b).cps.toList=(WN z b).cps.toList
|[],_=>rfl|[p],h=>PE x _ _ (h p (AM.mpr rfl))|p::q::r,h=>by
 have I:=TB x z (q::r) λa P=>h a (AU _ P);refine(?_:Fh x z.cps.toList (p++⟨#[x]⟩++WN ⟨#[x]⟩ (q::r)).cps.toList=(p++z++WN z (q::r)).cps.toList);simp only[Str.cps_append,Bc.toList_append];rewrite[Po];rewrite[Po];refine J I (J (PE x _ _ (h p (AQ ..))) ?_);congr 2;simp[Fh]
theorem O9(l:U Z)(x:Z)(z:U Z):Np (tx l) (tx [x]) (tx z)=tx (Fh x z l):=by
 have :=TB x (tx z) _ (StrLaws.split_free (tx l) x);rw[StrLaws.join_split,<-StrLaws.replace_one]at this;have e:(Np (tx l) ⟨#[x]⟩ (tx z)).cps.toList=Fh x z l:=by refine CS this ?_;rfl
 refine(?_:Np (tx l) ⟨#[x]⟩ (tx z)=_);cases h:Np (tx l) ⟨#[x]⟩ (tx z)with|mk c=>rw[h]at e;simp only[tx];refine CS e ?_;rfl
theorem XU{o:BL}{y z:BA}{x:Z}{C b:Z}{a f I K:EQ}{Q:V->Prop}(R:y=tx [x])(u:(y==z)=AD)(h:WE F σ F.Xo o λd=>∃l,d=.str l/\l.length+(l.length+1)*z.length<=16777216/\Q (.str (Fh x z.cps.toList l)))(p:∀env,Hr o "replace" env (Gp o env)=Gp o env:=by intro M;rfl)(hfew:∀env,((Fg K (Bn [.Constant (.str y) C a,.Constant (.str z) b f] env)).all (λx=>!x.1)&&(SD K (LN [] env)).all (λx=>x.1.isSome)&&B9 (([.Constant (.str y) C a,.Constant (.str z) b f]:U BL).length+([]:U IX).length+(if([]:U IX).isEmpty then 0 else 1)<30))=AO:=by intro M;rfl)(hline:(I.endLine==K.line)=AO:=by rfl):WE F σ Y (.Call (.Attribute o "replace" I) [.Constant (.str y) C a,.Constant (.str z) b f] [] K) Q:=by
 refine Li λA E s N j T=>Ff (p _) (hfew _) hline rfl (h.bind N j T λP s₁ d v w D m H=>?_);refine CF H λl e g q=>?_;clear H;subst e;induction m using Rd.eS with|str t=>
refine Ld "str" _ JC Yi Yh (G0 _ _ _) (λM e=>(by have W:=e;cases(W))) (E2 ?_ rfl rfl);refine Fl (FA ?_) rfl;refine Fl (FA (GI ?_)) rfl;have i:=v.toks;have e:Np (tx l) y z=tx (Fh x z.cps.toList l):=by
 have :=O9 l x z.cps.toList;refine J R (CS this ?_);rfl
refine Ad (CM (SC.replace (Q:=λr s'=>SE s₁ s'/\Rd (fz F.Xo s'.heap) (.str (Fh x z.cps.toList l)) r) (gc.mp i) (Th _) (CQ (B5 _)) u (by exact g) λn k=>⟨Keeps.tok _ _,by refine J e (.str _ _)⟩)) (λx G H=>(B7 H λc L m=>Gr.of v w ⟨L,AA (As _ 2) c⟩ m ⟨Bl,q⟩)) λM M x=>x.2
end
section
variable{F:Fx}{h₀:BJ}{σ:AS}{Y:U AW}{c:Cx}
noncomputable def F0(a:AW):V:=.abs λM v=>v=.ref a
theorem Rd.F0{G:EJ}(a:AW):Rd G (Mine.F0 a) (.ref a):=.abs (λM M M M h=>h) rfl
theorem Rd.IC{G:EJ}{a:AW}{v:AF}(r:Rd G (Mine.F0 a) v):v=.ref a:=by
 induction r using Rd.eA with|abs _ h=>exact h
theorem At.ghost{env:Nx}{h:BJ}{x:BA}{v:AF}(hg:Hd x=AO):At env h x v:=λh'=>B8 (hg.symm.trans h') (by decide)
theorem FX.VR{g:BA}{j:U V}{S:U AF}{s:AE}(T:FX F h₀ σ s)(C:Hd g=AO)(m:C3 (fz (F.X σ) s.heap) j S):FX F h₀ (σ.put g (.own s.heap.objs.size j)) {s with heap:=s.heap.push (BM S 0)}/\CZ F σ (σ.put g (.own s.heap.objs.size j)) s {s with heap:=s.heap.push (BM S 0)}/\s.heap.objs.size∉F.Xo/\F.c.hB.get? s.heap.objs.size=AJ:=by
  generalize hb:s.heap.objs.size=b;have i:=hb▸EK _;have l:(s.heap.push (BM S 0)).get? b=B (BM S 0):=hb▸Ag _ rfl;have L:=Kp.push s (BM S 0);have Y:=T.next (T.st.keeps L) (B4 L);have c:=(T.rep.Ft CX).fresh i;have u:∀a∈F.X (σ.put g (.own b j)),a=b\/a∈F.X σ:=λa P=>by
    refine AC (Ae.mp (XT F σ g (.own b j) a P)) (λh=>(.inl h)) λh=>(.inr h)
  have Uj:MB (fz (F.X σ) s.heap) (fz (F.X (σ.put g (.own b j))) (s.heap.push (BM S 0))):=by
    intro x o e f;rw[Al]at e⊢;refine⟨λK=>?_,AR _ e.2⟩;refine AC (u x K) (λh=>?_) λh=>(e.1 h);·rw[h,i]at e;cases e.2
  have k:b∈CT (σ.put g (.own b j)):=Cn (by rewrite[AS.DD];refine J (Ap rfl) rfl);refine Le ⟨Y.st,⟨Y.rep.ok,Y.rep.ns,Y.rep.cell,Y.rep.inj,λy sl e=>?_,λa P=>?_,λy z a xs ys e1 I=>?_⟩,Y.grow,Y.base,λa P=>?_⟩ ⟨(B4 L).mU _,λa P=>?_⟩ (λh=>c (Ak _ h)) (T.st.grow.none i)
  · rw[AS.DD]at e;by_cases t:y=g;· rw[Ap t]at e;replace e:=EY e;induction e using EC;refine J t ⟨.ref b,At.ghost C,rfl,Ac _ k,S,0,l,C3.sub Uj m⟩
    · rw[Ab t]at e;refine AI (T.rep.slot y sl e) λw p A=>AK w (p.grow (B4 (hB:=F.c.hB) L)) ?_;cases sl with|v d=>exact Rd.sub Uj A|own a xs=>refine B7 A λe1 M G=>Au G λR n2 n hr=>⟨e1,Ac _ (Cn (by rewrite[AS.DD];refine J (Ab t) e)),R,n2,AR _ n,C3.sub Uj hr⟩
  · clear hb i c Uj k;refine AC (u a P) ?_ λh=>?_;intro X;subst X;·exact .at l (.inl rfl)
    ·exact Y.rep.live a h
  · rw[AS.DD]at e1 I;by_cases t:y=g
    · by_cases H:z=g;·refine J t (J H ?_);rfl
      · rw[Ap t]at e1;rw[Ab H]at I;replace e1:=EY e1;cases(e1);exact B8 (Ac _ (Cn I)) c
    · by_cases H:z=g;· rw[Ab t]at e1;rw[Ap H]at I;replace I:=EY I;cases(I);exact B8 (Ac _ (Cn e1)) c
      · rw[Ab t]at e1;rw[Ab H]at I;exact T.rep.apart y z a xs ys e1 I
  · refine AC P (λh=>(T.fresh a (.inl h))) λh=>?_;· clear P;refine AC (GG g _ σ a h) (λh=>(T.fresh a (.inr h))) λX=>?_;·refine Aw X λxs h=>?_;clear X;cases(h);exact T.grow.none i
  · refine AC (GG g _ σ a P) (λh=>(.inl h)) λX=>?_;·refine Aw X λxs h=>?_;clear X;clear P;cases(h);exact .inr i
theorem FX.settle{x g:BA}{a b:AW}{xs j:U V}{s:AE}(T:FX F h₀ σ s)(D:σ.lookup x=B (.own a (xs++[F0 b])))(hg:σ.lookup g=B (.own b j))(wh:Hd g=AO)(wi:x≠g)(hb:b∉F.Xo)(i:∀d∈CT ((σ.put g (.v .none)).put x (.own a (xs++[.list j]))),∃y ys,y≠g/\σ.lookup y=B (.own d ys)):FX F h₀ ((σ.put g (.v .none)).put x (.own a (xs++[.list j]))) s/\CZ F σ ((σ.put g (.v .none)).put x (.own a (xs++[.list j]))) s s:=by
  generalize L:(σ.put g (.v .none)).put x (.own a (xs++[.list j]))=σ' at i⊢;have m:∀y,σ'.lookup y=if y=x then B (.own a (xs++[.list j]))else if y=g then B (.v .none)else σ.lookup y:=λy=>by
    refine CS L ?_;rewrite[AS.DD];rewrite[AS.DD];rfl
  have Q:=λd hd=>by refine Au (i d hd) λy ys M e=>Cn e
  have wg:∀d∈F.X σ',d∈F.X σ:=λd hd=>(Ai.mp hd).elim (Ak _) λh=>Ac _ (Q d h);have c:b∉F.X σ':=λK=>by
    refine AC (Ai.mp K) (λh=>(hb h)) λh=>(Au (i b h) λy ys t e=>t (T.rep.apart y g b ys j e hg))
  have Uj:=Ed wg s.heap;clear wi L i;refine DU (T.rep.slot g _ hg) λM M H M G=>Au G λvb nb q X=>⟨⟨T.st,⟨T.rep.ok,T.rep.ns,T.rep.cell,T.rep.inj,λy sl e=>?_,λd hd=>T.rep.live d (wg d hd),λy z d ys zs e1 e2=>?_⟩,T.grow,T.base,λd hd=>T.fresh d (hd.imp id (Q d))⟩,⟨λd o hd e=>.inl e,λd hd=>.inl (Q d hd)⟩⟩
  · rw[m]at e;by_cases t:y=x
    · rw[Ap t]at e;replace e:=EY e;induction e using EC;subst t;refine DU (T.rep.slot y _ D) λv f e1 K G=>Au G λS n ho r=>⟨v,f,e1,Ac _ (Cn (by refine J (m _) (J (Ap rfl) ?_);rfl)),S,n,ho,?_⟩;have N:∀{u:U V}{k:U AF},C3 (fz (F.X σ) s.heap) (u++[F0 b]) k->C3 (fz (F.X σ') s.heap) (u++[.list j]) k:=by
        intro u;induction u with
        |nil=>intro k h;induction h using C3.eC with|cons W C=>induction C using C3.eN;induction W.IC using Tb;exact .cons (.list (Al.mpr ⟨c,q⟩) (C3.sub Uj X)) .nil
        |cons d u I=>intro k h;induction h using C3.eC with|cons W C=>exact .cons (Rd.sub Uj W) (I C)
      exact N r
    · rw[Ab t]at e;by_cases E:y=g;· rw[Ap E]at e;replace e:=EY e;induction e using EC;refine J E (AK .none (At.ghost wh) .none)
      · rw[Ab E]at e;refine AI (T.rep.slot y sl e) λw p A=>AK w p ?_;cases sl with|v d=>exact Rd.sub Uj A|own d ys=>refine B7 A λe1 M G=>Au G λR n2 hl hr=>⟨e1,Ac _ (Cn (by refine J (m _) (J (Ab t) (J (Ab E) e)))),R,n2,hl,C3.sub Uj hr⟩
  · rw[m]at e1 e2;have l:∀y ys,(if y=x then B (Sl.own a (xs++[.list j]))else if y=g then B (.v .none)else σ.lookup y)=B (.own d ys)->∃zs,σ.lookup y=B (.own d zs):=by
      intro y ys e;clear m e1 e2;by_cases t:y=x;·rw[Ap t]at e;replace e:=EY e;cases(e);refine J t ⟨_,D⟩
      · rw[Ab t]at e;by_cases E:y=g;·rw[Ap E]at e;replace e:=EY e;cases(e)
        ·rw[Ab E]at e;exact⟨_,e⟩
    refine Aw (l y ys e1) λM Y=>Aw (l z zs e2) λM P=>T.rep.apart y z d _ _ Y P
theorem Pa(x g:BA){a b:AW}{xs j:U V}{c:U G1}{Q:Ha->AS->Prop}(D:σ.lookup x=B (.own a (xs++[F0 b])))(hg:σ.lookup g=B (.own b j))(C:Hd g=AO)(l:x≠g)(hb:b∉F.Xo)(i:∀d∈CT ((σ.put g (.v .none)).put x (.own a (xs++[.list j]))),∃y ys,y≠g/\σ.lookup y=B (.own d ys))(h:WS F h₀ ((σ.put g (.v .none)).put x (.own a (xs++[.list j]))) c Q):WS F h₀ σ c Q:=by
 intro A E s N T;refine Aa (T.settle D hg C l hb i) λW m=>Ad (h A E s N W) (λL s' p=>p.after W m) λM M x=>x
theorem FX.au{x:BA}{u:U V}{z:U AF}{A:BQ}{E:AF->AE->Prop}{s:AE}{Q:LL->AE->Prop}(T:FX F h₀ σ s)(D:DG F x)(m:C3 (fz (F.X σ) s.heap) u z)(k:∀s',FX F h₀ (σ.put x (.own s.heap.objs.size u)) s'->CZ F σ (σ.put x (.own s.heap.objs.size u)) s s'->s.heap.objs.size∉F.X σ->F.c.hB.get? s.heap.objs.size=AJ->Q () s'):Aj F.M A (FC F.env x (.ref s.heap.objs.size)) Q E {s with heap:=s.heap.push (BM z 0)}:=by
  have L:=Kp.push s (BM z 0);have Y:=T.next (T.st.keeps L) (B4 L);have i:s.heap.get? s.heap.objs.size=AJ:=EK _;have l:(s.heap.push (BM z 0)).get? s.heap.objs.size=B (BM z 0):=Ag _ rfl;have I:MB (fz (F.X σ) s.heap) (fz (s.heap.objs.size::F.X σ) (s.heap.push (BM z 0))):=by
    intro b o e f;rw[Al]at e⊢;refine⟨λK=>?_,AR _ e.2⟩;refine AC (Ae.mp K) (λX=>?_) λK=>(e.1 K);·subst X;rw[i]at e;cases e.2
  have C:=(T.rep.Ft CX).fresh i;refine Ew (sl:=.own s.heap.objs.size u) Y ?_ D ⟨rfl,T.grow.none i,C,z,0,l,C3.sub I m⟩ λW p R=>k W p ⟨(((B4 L).mU (F.Mu++CT σ)).trans R λx D=>.inl (Ak _ D)),λb hb=>?_⟩ C (T.st.grow.none i)
  · have g:=Y.rep;refine⟨g.ok,g.ns,g.cell,g.inj,λy sl e=>?_,λa P=>?_,g.apart⟩;· refine AI (T.rep.slot y sl e) λv a b=>AK v (a.grow (B4 (hB:=F.c.hB) L)) ?_;clear e;cases sl with|v d=>exact Rd.sub I b|own c xs=>refine B7 b λe1 K G=>Au G λS n ho r=>⟨e1,AU _ K,S,n,AR _ ho,C3.sub I r⟩
    · refine AC (Ae.mp P) (λX=>?_) λP=>(g.live a P);·subst X;exact .at l (.inl rfl)
  · refine AC (GG x _ σ b hb) (λh=>(.inl h)) λX=>?_;·refine Aw X λxs h=>?_;clear X;clear hb;cases(h);exact .inr i
theorem gW{x g:BA}{p H q pos:EQ}{Q:Ha->AS->Prop}(D:DG F x)(C:Hd g=AO)(h:∀a b,F.c.hB.get? a=AJ->a∉F.Xo->F.c.hB.get? b=AJ->b∉F.Xo->a≠b->Q .next ((σ.put g (.own b [])).put x (.own a [F0 b]))):W1 F h₀ σ (.Assign [.Name x p] (.List [.List [] H] q) pos) Q:=by
 intro A E s N T;refine EF (Q9 (Fl (Q9 (GI ⟨by decide,?_⟩)) rfl)) rfl;refine GI ⟨by simp[Ay],?_⟩;refine Fb (T.VR C .nil) λj v d t=>FX.au (s:={s with heap:=s.heap.push (BM [] 0)}) j D (.cons (Rd.F0 _) .nil) λs' W G u hB=>Dm .next _ W (v.trans j G) Bl (h _ _ hB (λK=>u (Ak _ K)) t d ?_);refine J (EO _ _) (kq _)
theorem KG{x:BA}{a:AW}{xs:U V}{o e:BL}{I K pos:EQ}{Q:Ha->AS->Prop}(D:σ.lookup x=B (.own a xs))(H:xs.length<=Ay)(ho:WE F σ (F.X σ) o (·=F0 a))(h:WE F σ (F.X σ) e λd=>Q .next (σ.put x (.own a (xs++[d]))))(p:∀env,Hr o "append" env (Gp o env)=Gp o env:=by intro M;rfl)(hline:(I.endLine==K.line)=AO:=by rfl)(z:∀env,Fg K (Bn [e] env)=[(AD,Gp e env)]:=by intro M;rfl)(hi:No F.env=AD:=by rfl):W1 F h₀ σ (.Expr (.Call (.Attribute o "append" I) [e] [] K) pos) Q:=by
  intro A E s N T;refine dq ?_ hi rfl;refine Oh (p _) hline (z _) (ho.bind N T.st T.rep λvr g dr W C L X er=>?_);subst er;induction X.IC using Tb;refine DU (L.slot x _ D) λM M M M G=>Au G λS n ho r=>Ld "list" _ N1 G7 Oi ⟨_,ho,rfl⟩ (λb u=>?_) ?_;·cases(u);exact AK _ ho rfl
  · refine iJ (h.bind N W L λv s₁ d l w t m q=>?_);refine DU (t.slot x _ D) λM M M M G=>Au G λc i y f=>Fs c.toArray i (by refine J BN (CS f.length H)) y ?_;have j:=(T.next W C).next l w;have R:(s₁.heap.update a (CV λxs=>xs.push v)).get? a=B (BM (c++[v]) (i+1)):=by
     have e:=Hy c.toArray i v;refine J (Ca _ y (by refine(?_:(CV _ (BM c i)).isFreed=AD);rfl)) (J (show(CV (λxs=>xs.push v) (BM c i))=_ from e) ?_);simp[BM]
    refine Aa (j.NW D R (λb hb=>D0 _ _ _ _ hb) (f.append (.cons m .nil)) (AN _)) λY k=>Dm .next _ Y ((CZ.DO (C.trans w)).trans j k) Bl q
theorem NJ{x g:BA}{a:AW}{xs:U V}{X I K o pos:EQ}{Q:Ha->AS->Prop}(D:σ.lookup x=B (.own a xs))(H:xs.length<=Ay)(C:Hd g=AO)(l:x≠g)(h:∀b,F.c.hB.get? b=AJ->b∉F.Xo->b≠a->Q .next ((σ.put g (.own b [])).put x (.own a (xs++[F0 b]))))(hline:(I.endLine==K.line)=AO:=by rfl)(hd:(x==("__debug__":BA))=AD:=by decide)(hg:Hd x=AD:=by decide)(hi:No F.env=AD:=by rfl):W1 F h₀ σ (.Expr (.Call (.Attribute (.Name x X) "append" I) [.List [] o] [] K) pos) Q:=by
  intro A E s N T;refine dq ?_ hi rfl;refine Oh rfl hline rfl (FX.J4 T.rep D (λS n ho r=>?_) hd hg);refine Ld "list" _ N1 G7 Oi ⟨_,ho,rfl⟩ (λb u=>?_) ?_;·cases(u);exact AK _ ho rfl
  · refine iJ (Q9 (GI ⟨by decide,?_⟩));refine Fb (T.VR C .nil) λj v d t=>?_;have m:(σ.put g (.own s.heap.objs.size [])).lookup x=B (.own a xs):=by rewrite[AS.DD];refine J (Ab l) D
    refine DU (j.rep.slot x _ m) λM M M M G=>Au G λc i y f=>Fs c.toArray i (by refine J BN (CS f.length H)) y ?_;have R:((s.heap.push (BM [] 0)).update a (CV λxs=>xs.push (.ref s.heap.objs.size))).get? a=B (BM (c++[.ref s.heap.objs.size]) (i+1)):=by
     have e:=Hy c.toArray i (.ref s.heap.objs.size);refine J (Ca _ y (by refine(?_:(CV _ (BM c i)).isFreed=AD);rfl)) (J (show(CV (λxs=>xs.push (.ref s.heap.objs.size)) (BM c i))=_ from e) ?_);simp[BM]
    refine Aa (j.NW m R (λb hb=>D0 _ _ _ _ hb) (f.append (.cons (Rd.F0 _) .nil)) (AN _)) λY k=>Dm .next _ Y (v.trans j k) Bl (h _ t d (λq=>by rw[<-q,EK]at ho;exact Eb ho))
end
section
set_option genInjectivity false
set_option genSizeOf false
structure Dfn where
args:Dl
body:U G1
scope:Cw
noncomputable def nG(s:G1):Dfn:=fG s (λa b s M=>⟨a,b,s⟩) (λM M M M=>⟨⟨[],[],AJ,[],[],AJ,[]⟩,[],⟨.function,[],AD,AD,[]⟩⟩) ⟨⟨[],[],AJ,[],[],AJ,[]⟩,[],⟨.function,[],AD,AD,[]⟩⟩
noncomputable def E8(i:Z):Dfn:=nG (FH.main.body.getD i (.Pass ⟨0,0,0,0⟩))
structure Xe(c:Cx)(i:Z)(fa:AW)(o:Gq)(fd:EA):Prop where
at_:c.hB.get? fa=B o
data:o.data=.func fd
code:c.hB.CodeRec fd.code fd.qualname
params:fd.params=(E8 i).args
body:fd.body=.stmts (E8 i).body
scope:fd.scope=(E8 i).scope
clo:fd.closure=[]glob:fd.globals=Cc
bi:fd.builtins=CU
noncomputable def YH(S:Cw)(L:AW)(q:BA)(fa:AW)(cd:AF):Nx:=newEnv S L Cc (E5 (L+1) S.names []) q (B fa) cd AJ CU
noncomputable def J7(S:Cw)(L:AW):U AW:=L::(E5 (L+1) S.names []).filterMap λp=>(E5 (L+1) S.names []).lookup p.1
noncomputable def Fx.fn(c:Cx)(n:Z)(S:Cw)(fa L:AW)(Y:U AW)(q:BA)(cd:AF):Fx:={c:=c,n:=n,env:=YH S L q fa cd,Mu:=J7 S L,Yc:=Y}
theorem Ef.NZ{c:Cx}{n i:Z}{fa:AW}{o:Gq}{fd:EA}{names:U BA}{P:U V->(V->Prop)->Prop}(p:Wf c)(D:Xe c i fa o fd)(R:(E8 i).scope.kind=.function)(X:(E8 i).scope.isCoroutine=AD)(I:(E8 i).scope.isGenerator=AD)(t:names.Nodup)(N:fd.defaults=.none)(w:∀(fd:EA)(r:U AF),fd.params=(E8 i).args->fd.defaults=.none->r.length=names.length->ES fd ⟨r,[]⟩=Bz (names.zip r))(j:(names.all λx=>(E8 i).scope.names.lookup x==B .local||((E8 i).scope.names.lookup x==B .cell&&((E5 0 (E8 i).scope.names []).lookup x).isSome))=AO)(h:∀L Y q cd S Q h₀,P S Q->S.length=names.length/\WS (Fx.fn c n (E8 i).scope fa L Y q cd) h₀ (Mine.Cv names S) (E8 i).body (J3 Q)):Ef c (n+1) fa P:=by
 rcases D with⟨a,b,d,e,f,g,k,l,m⟩;refine Ef.of_body p a b d f k l m (g▸R) (g▸X) (g▸I) t (λr s=>w fd r e N s) (g▸j) λL Y S Q h₀ E=>Aa (h L Y (fd.qualname++".<locals>.") fd.code S Q h₀ E) λW C=>⟨W,?_⟩;have :Fx.call c n fd fa L Y=Fx.fn c n (E8 i).scope fa L Y (fd.qualname++".<locals>.") fd.code:=by
  unfold Fx.call Fx.fn LP YH PX J7;refine J g (J l (J m ?_));rfl
 refine J this C
noncomputable def Pn(c:Cx)(f:BA)(v:AF):Prop:=c.mg f=AJ/\c.mb f=B v
noncomputable def Dn(c:Cx)(f:BA)(i fa:Z):Prop:=c.mg f=B (.ref fa)/\∃o fd,Xe c i fa o fd/\fd.defaults=.none
structure Nm(c:Cx):Prop where
wf:Wf c
len:Pn c "len" (.builtin "len")range:Pn c "range" (.type "range")list:Pn c "list" (.type "list")chr:Pn c "chr" (.builtin "chr")word:Dn c "_law_word" 19 116
hit:Dn c "_law_hit" 17 104
set:Dn c "_law_set" 15 92
items:Dn c "_law_items" 16 99
told:Dn c "_law_told" 18 109
cls:Dn c "_law_class" 20 123
read:Dn c "_law_read" 21 130
takes:Dn c "_law_takes" 22 135
wide:Dn c "_law_wide" 23 142
theorem jl{F:Fx}{σ:AS}{Y:U AW}{f:BA}{i fa:Z}{X pos:EQ}{e:BL}{es:U BL}{P:U V->(V->Prop)->Prop}{Q:V->Prop}(p:Wf F.c)(D:Dn F.c f i fa)(ok:Ef F.c F.n fa P)(R:F.env.kindOf f=B .globalImplicit)(K:∀a∈Y,a∈F.X σ)(h:OV F σ Y (e::es) λu=>P u Q)(he:∀env,Bn (e::es) env=(AD,Gp e env)::Bn es env:=by intro env;rfl)(E:∀pos env,(Fg pos (Bn es env)).any (·.1)=AD:=by intro M M;rfl)(hd:(f==("__debug__":BA))=AD:=by decide):WE F σ Y (.Call (.Name f X) (e::es) [] pos) Q:=by refine Aa D λm G=>Au G λo fd d M=>Mt p R m d.at_ d.data ok K h he E hd
theorem YR{F:Fx}{σ:AS}{Y:U AW}{f:BA}{v:AF}{X pos:EQ}{e:BL}{es:U BL}{Q:V->Prop}(p:Wf F.c)(D:Pn F.c f v)(R:F.env.kindOf f=B .globalImplicit)(K:∀a∈Y,a∈F.X σ)(h:OV F σ Y (e::es) λu=>∃d,Do F.c v u d/\Q d)(n:RN v=AO:=by rfl)(he:∀env,Bn (e::es) env=(AD,Gp e env)::Bn es env:=by intro env;rfl)(E:∀pos env,(Fg pos (Bn es env)).any (·.1)=AD:=by intro M M;rfl)(hd:(f==("__debug__":BA))=AD:=by decide):WE F σ Y (.Call (.Name f X) (e::es) [] pos) Q:=gS p R D.1 D.2 n K h he E hd
end
section
noncomputable abbrev Ra{X:Type}(e:BL)(nm:BA->EQ->X)(co:Const->Z->EQ->X)(bi:BL->IM->BL->EQ->X)(un:UnaryOp->BL->EQ->X)(cm:BL->U Lw->U BL->EQ->X)(su:BL->BL->EQ->X)(ca:BL->U BL->U IX->EQ->X)(g:BL->BA->EQ->X)(li:U BL->EQ->X)(tu:U BL->Z->EQ->X)(ie:BL->BL->BL->EQ->X)(sl:AX BL->AX BL->AX BL->EQ->X)(m:U BL->EQ->X)(d:X):X:=Expr.casesOn (motive_1:=λM=>X) e (λM M M=>d) (λM M M=>d) bi un (λM M M M=>d) ie (λM M M=>d) (λM M M=>d) (λM M M M=>d) (λM M M M=>d) (λM M M M M=>d) (λM M M M=>d) (λM M=>d) (λM M=>d) (λM M=>d) cm ca (λM M M M=>d) m co g su (λM M=>d) nm li tu sl
theorem kT{P:BL->Prop}(nm:∀x p,P (.Name x p))(co:∀c k p,P (.Constant c k p))(bi:∀l u r p,P (.BinOp l u r p))(un:∀u l p,P (.UnaryOp u l p))(cm:∀l j z p,P (.Compare l j z p))(su:∀l r p,P (.Subscript l r p))(ca:∀f es ks p,P (.Call f es ks p))(g:∀o x p,P (.Attribute o x p))(li:∀es p,P (.List es p))(tu:∀es k p,P (.Tuple es k p))(ie:∀t b o p,P (.IfExp t b o p))(sl:∀lo hi st q,P (.Slice lo hi st q))(m:∀es p,P (.JoinedStr es p))(ot:∀e,(∀{X:Type}nm co bi un cm su ca g li tu ie sl m(d:X),Ra e nm co bi un cm su ca g li tu ie sl m d=d)->P e)(e:BL):P e:=by
 cases(e)<;>first|exact nm _ _|exact co _ _ _|exact bi _ _ _ _|exact un _ _ _|exact cm _ _ _ _|exact su _ _ _|exact ca _ _ _ _|exact g _ _ _|exact li _ _|exact tu _ _ _|exact ie _ _ _ _|exact sl _ _ _ _|exact m _ _|exact ot _ λM M M M M M M M M M M M M d=>Eq.refl d
noncomputable abbrev Xs{X:Type}(o:AX X)(W:Prop)(Q:X->Prop):Prop:=D1 (motive:=λM=>Prop) o W Q
theorem L8{X:Type}{o:AX X}{W:Prop}{Q:X->Prop}{G:Prop}(h:Xs o W Q)(s:∀d,o=B d->Q d->G)(n:W->G):G:=by
 cases o with|none=>exact n h|some d=>exact s d rfl h
noncomputable abbrev gx(b:BC)(P W:Prop):Prop:=BC.casesOn (motive:=λM=>Prop) b W P
theorem RO{b:BC}{P W G:Prop}(h:gx b P W)(s:b=AO->P->G)(n:W->G):G:=by
 cases b with|false=>exact n h|true=>exact s rfl h
noncomputable def ZP{X:Type}:U X->AX X|[a]=>B a|_=>AJ
theorem OE{X:Type}{l:U X}{a:X}(h:ZP l=B a):l=[a]:=by
 cases l with|nil=>exact Eb h|cons b r=>cases r with|nil=>refine J (Af h) ?_;rfl|cons c r=>exact Eb h
noncomputable def Jr(e:BL):BC:=Ra e (λM M=>AO) (λM M M=>AO) (λM M M M=>AO) (λM M M=>AO) (λM M M M=>AO) (λM M M=>AO) (λM M M M=>AO) (λM M M=>AO) (λM M=>AO) (λM M M=>AO) (λM M M M=>AO) (λM M M M=>AD) (λM M=>AO) AD
noncomputable def bO(e:BL):BC:=Ra e (λM M=>AO) (λM M M=>AO) (λM M M M=>AO) (λM M M=>AO) (λM M M M=>AO) (λM M M=>AO) (λM M M M=>AO) (λM M M=>AO) (λM M=>AD) (λM M M=>AO) (λM M M M=>AD) (λM M M M=>AD) (λM M=>AO) AD
noncomputable def oE(e:BL):AX (BA×EQ):=Ra e (λx p=>B (x,p)) (λM M M=>AJ) (λM M M M=>AJ) (λM M M=>AJ) (λM M M M=>AJ) (λM M M=>AJ) (λM M M M=>AJ) (λM M M=>AJ) (λM M=>AJ) (λM M M=>AJ) (λM M M M=>AJ) (λM M M M=>AJ) (λM M=>AJ) AJ
theorem PK{e:BL}{x:BA×EQ}(h:oE e=B x):e=.Name x.1 x.2:=by
 induction e using kT with|nm y p=>refine CS (Af h) rfl|ot e hd=>exact Eb ((hd _ _ _ _ _ _ _ _ _ _ _ _ _ AJ).symm.trans h)|_=>exact Eb h
noncomputable def Xi(e:BL):AX (AX BL×AX BL×EQ):=Ra e (λM M=>AJ) (λM M M=>AJ) (λM M M M=>AJ) (λM M M=>AJ) (λM M M M=>AJ) (λM M M=>AJ) (λM M M M=>AJ) (λM M M=>AJ) (λM M=>AJ) (λM M M=>AJ) (λM M M M=>AJ) (λlo hi st q=>st.elim (B (lo,hi,q)) λM=>AJ) (λM M=>AJ) AJ
theorem Wk{e:BL}{x:AX BL×AX BL×EQ}(h:Xi e=B x):e=.Slice x.1 x.2.1 AJ x.2.2:=by
 induction e using kT with
 |sl lo hi st q=>cases st with|none=>refine CS (Af h) ?_;rfl|some _=>exact Eb h
 |ot e hd=>exact Eb ((hd _ _ _ _ _ _ _ _ _ _ _ _ _ AJ).symm.trans h)|_=>exact Eb h
noncomputable def Vo{X:Type}:U X->AX (X×U X)|a::r=>B (a,r)|_=>AJ
theorem jZ{X:Type}{l:U X}{p:X×U X}(h:Vo l=B p):l=p.1::p.2:=by
 cases l with|nil=>exact Eb h|cons a r=>refine CS (Af h) ?_;rfl
section
variable{e:BL}
structure gY(e:BL):Prop where
swap:∀(t:AX BL)(l:Z)(env:Nx),jx e t l env=Bz AD
star:∀(es:U BL)(env:Nx),Bn (e::es) env=(AD,Gp e env)::Bn es env
sub:∀(o i:AF),aB e AD o i=operate [o,i] (WI o i)marks:∀(op:Lw),Ui op e=AD
theorem IA(h:Jr e=AO):gY e:=by
 induction e using kT with|sl _ _ _ _=>exact J2 h|ot e hd=>exact J2 ((hd _ _ _ _ _ _ _ _ _ _ _ _ _ AD).symm.trans h)|_=>exact⟨λM M M=>rfl,λM M=>rfl,λM M=>rfl,λM=>rfl⟩
theorem bN(h:bO e=AO):Jr e=AO:=by
 induction e using kT with|li _ _=>exact J2 h|ie _ _ _ _=>exact J2 h|sl _ _ _ _=>exact J2 h|ot e hd=>exact J2 ((hd _ _ _ _ _ _ _ _ _ _ _ _ _ AD).symm.trans h)|_=>rfl
end
theorem Pq{b:BC}(h:(!b)=AO):b=AD:=by
 cases b with|false=>rfl|true=>exact J2 h
theorem Fv{a b:BC}(h:(a&&b)=AO):a=AO/\b=AO:=by rw[Bs]at h;exact h
theorem Qw:∀(es:U BL),es.all Jr=AO->∀pos env,(Fg pos (Bn es env)).any (·.1)=AD:=by
 intro es;induction es with|nil=>exactλM M M=>rfl|cons e es I=>intro h pos env;have h:=Fv h;refine J ((IA h.1).star _ _) (I h.2 pos env)
noncomputable def Xx(σ:AS)(x:BA):AX V:=cond (x==("__debug__":BA)) AJ (cond (Hd x) AJ ((σ.lookup x).bind λs=>Sl.casesOn s B λM M=>AJ))
noncomputable def bk(σ:AS)(x:BA):AX (AW×U V):=cond (x==("__debug__":BA)) AJ (cond (Hd x) AJ ((σ.lookup x).bind λs=>Sl.casesOn s (λM=>AJ) λa xs=>B (a,xs)))
theorem VS{σ:AS}{x:BA}{d:V}(h:Xx σ x=B d):(x==("__debug__":BA))=AD/\Hd x=AD/\σ.lookup x=B (.v d):=by
 unfold Xx at h;cases W:x==("__debug__":BA)with|true=>rw[W]at h;exact Eb h|false=>rw[W]at h;cases C:Hd x with|true=>rw[C]at h;exact Eb h|false=>rw[C]at h;refine AI (B1.mp h) λs e h=>?_;cases s with|v w=>rw[Af h]at e;exact Cf rfl rfl e|own a xs=>exact Eb h
theorem bj{σ:AS}{x:BA}{a:AW×U V}(h:bk σ x=B a):(x==("__debug__":BA))=AD/\Hd x=AD/\σ.lookup x=B (.own a.1 a.2):=by
 unfold bk at h;cases W:x==("__debug__":BA)with|true=>rw[W]at h;exact Eb h|false=>rw[W]at h;cases C:Hd x with|true=>rw[C]at h;exact Eb h|false=>rw[C]at h;refine AI (B1.mp h) λs e h=>?_;cases s with|v w=>exact Eb h|own a xs=>refine CS (Af h) (Cf rfl rfl e)
noncomputable def V2(a:V):AX O:=V.casesOn (motive_1:=λM=>AX O) a AJ (λM=>AJ) B (λM=>AJ) (λM=>AJ) (λM=>AJ) λM=>AJ
noncomputable def io(a:V):AX (U Z):=V.casesOn (motive_1:=λM=>AX (U Z)) a AJ (λM=>AJ) (λM=>AJ) B (λM=>AJ) (λM=>AJ) λM=>AJ
noncomputable def Vz(a:V):AX BC:=V.casesOn (motive_1:=λM=>AX BC) a AJ B (λM=>AJ) (λM=>AJ) (λM=>AJ) (λM=>AJ) λM=>AJ
theorem JW{a:V}{i:O}(h:V2 a=B i):a=.int i:=by
 cases a with|int j=>refine J (Af h) ?_;rfl|_=>exact Eb h
theorem Xp{a:V}{i:U Z}(h:io a=B i):a=.str i:=by
 cases a with|str j=>refine J (Af h) ?_;rfl|_=>exact Eb h
theorem d8{c:Cx}{a:V}{r:BC}(h:Vz a=B r):FM c a r:=by
 cases a with|bool b=>refine CS (Af h) (.bool b)|_=>exact Eb h
noncomputable def pE(u:IM)(i j:O):AX V:=match u with|.Add=>B (.int (i+j))|.Sub=>B (.int (i-j))|_=>AJ
noncomputable def gQ(u:IM)(a b:V):AX V:=(V2 a).bind λi=>(V2 b).bind λj=>pE u i j
theorem gP{c:Cx}{u:IM}{a b d:V}(h:gQ u a b=B d):HR c u a b d:=by
 refine AI (B1.mp h) λi e1 h=>AI (B1.mp h) λj I h=>J (JW e1) (J (JW I) ?_);cases u with|Add=>refine CS (Af h) (.dB i j)|Sub=>refine CS (Af h) (.fB i j)|_=>exact Eb h
theorem ft{c:Cx}{a b d:V}(h:gQ .Add a b=B d):Q6 c .Add a b d:=by
 refine AI (B1.mp h) λi e1 h=>AI (B1.mp h) λj I h=>J (JW e1) (J (JW I) (CS (Af h) (.dB i j)))
noncomputable def nM(u:Lw)(i j:O):AX BC:=match u with|.Eq=>B (i==j)|.NotEq=>B (i !=j)|.Lt=>B (B9 (i<j))|.LtE=>B (B9 (i<=j))|.Gt=>B (B9 (j<i))|.GtE=>B (B9 (j<=i))|_=>AJ
noncomputable def nK(u:Lw)(i j:U Z):AX BC:=match u with|.Eq=>B (i==j)|.NotEq=>B (i !=j)|_=>AJ
noncomputable def nH(u:Lw)(a b:V):AX BC:=((V2 a).bind λi=>(V2 b).bind λj=>nM u i j).or ((io a).bind λi=>(io b).bind λj=>nK u i j)
noncomputable def bM:Lw->BC|.Is=>AD|.IsNot=>AD|.In=>AD|.NotIn=>AD|_=>AO
noncomputable def cu(u:Lw)(a b:V):AX BC:=cond (bM u) (nH u a b) AJ
theorem gJ{c:Cx}{u:Lw}{i j:O}{r:BC}(h:nM u i j=B r):Bv c u (.int i) (.int j) r:=by
 cases u with|Eq=>exact Af h▸.eqI i j|NotEq=>exact Af h▸.neI i j|Lt=>exact Af h▸.ltI i j|LtE=>exact Af h▸.leI i j|Gt=>exact Af h▸.gtI i j|GtE=>exact Af h▸.geI i j|_=>exact Eb h
theorem gH{c:Cx}{u:Lw}{i j:U Z}{r:BC}(h:nK u i j=B r):Bv c u (.str i) (.str j) r:=by
 cases u with|Eq=>exact Af h▸.eqS i j|NotEq=>exact Af h▸.neS i j|_=>exact Eb h
theorem gG{c:Cx}{u:Lw}{a b:V}{r:BC}(h:nH u a b=B r):Bv c u a b r:=by
 refine AC (AX.or_eq_some_iff.mp h) (λh=>(AI (B1.mp h) λi e1 h=>AI (B1.mp h) λj I h=>J (JW e1) (J (JW I) (gJ h)))) λX=>(Aa X λM h=>AI (B1.mp h) λi e1 h=>AI (B1.mp h) λj I h=>J (Xp e1) (J (Xp I) (gH h)))
theorem gK{c:Cx}{u:Lw}{a b:V}{r:BC}(h:cu u a b=B r):Bv c u a b r:=by
 unfold cu at h;generalize bM u=t at h;cases t with|true=>exact gG h|false=>exact Eb h
noncomputable abbrev Ie{X:Type}(o:AX X)(P:X->Prop)(Q:X->Prop):Prop:=D1 (motive:=λM=>Prop) o (∃d,P d/\Q d) Q
theorem Im{X:Type}{o:AX X}{P Q:X->Prop}(ok:∀d,o=B d->P d)(h:Ie o P Q):∃d,P d/\Q d:=by
 cases o with|some d=>exact AK d (ok d rfl) h|none=>exact h
noncomputable def gt(f:BA):AX AF:=([("len",.builtin "len"),("range",.type "range"),("list",.type "list"),("chr",.builtin "chr")]:U (BA×AF)).lookup f
theorem bK{c:Cx}(N:Nm c){f:BA}{v:AF}(h:gt f=B v):Pn c f v/\RN v=AO/\(f==("__debug__":BA))=AD:=by
 have g:∀(l:U (BA×AF)),(∀p∈l,Pn c p.1 p.2/\RN p.2=AO/\(p.1==("__debug__":BA))=AD)->l.lookup f=B v->Pn c f v/\RN v=AO/\(f==("__debug__":BA))=AD:=by
  intro l;induction l with|nil=>exactλM h=>Eb h|cons p l I=>intro E h;rw[Am]at h;cases e:f==p.1 with|true=>rw[e]at h;refine J (Fe e) (CS (Af h) (E p (.head _)))|false=>rw[e]at h;exact I (λq u=>E q (.tail _ u)) h
 exact g _ (AT.mpr ⟨⟨N.len,rfl,by decide⟩,AT.mpr ⟨⟨N.range,rfl,by decide⟩,AT.mpr ⟨⟨N.list,rfl,by decide⟩,AT.mpr ⟨⟨N.chr,rfl,by decide⟩,De _⟩⟩⟩⟩) h
noncomputable def UN:AX G2->BC|B .globalImplicit=>AO|_=>AD
theorem Zi{k:AX G2}(h:UN k=AO):k=B .globalImplicit:=by
 cases k with|none=>exact J2 h|some k=>cases k with|globalImplicit=>rfl|_=>exact J2 h
section
variable(F:Fx)(sc:Cw)(σ:AS)
mutual
noncomputable def vE:Z->U AW->BL->(V->Prop)->Prop|0,Y,e,Q=>WE F σ Y e Q|n+1,Y,e,Q=>Ra e (λx p=>Xs (Xx σ x) (WE F σ Y e Q) Q) (λc u_ u_=>match c with|.int i=>Q (.int i)|.str x=>Q (.str x.cps.toList)|.bool b=>Q (.bool b)|.none=>Q .none|_=>WE F σ Y e Q) (λl op r u_=>vE n Y l λa=>vE n Y r λb=>Ie (gQ op a b) (HR F.c op a b) Q) (λop l u_=>match op with|.USub=>vE n F.Xo l λa=>Ie (V2 a) (λi=>a=.int i) λi=>Q (.int (-i))|_=>WE F σ Y e Q) (λl ops rs u_=>Xs (ZP ops) (WE F σ Y e Q) λop=>Xs (ZP rs) (WE F σ Y e Q) λr=>gx (Jr r) (vE n F.Xo l λa=>vE n F.Xo r λb=>Ie (cu op a b) (Bv F.c op a b) λd=>Q (.bool d)) (WE F σ Y e Q)) (λl r u_=>gx (Jr r) (vE n Y l λo=>vE n F.Xo r λk=>Ie (V2 k) (λi=>k=.int i) λi=>∃d,Pc o i d/\Q d) (Xs (Xi r) (WE F σ Y e Q) λs=>vE n Y l λo=>vP n s.1 λa=>vP n s.2.1 λb=>∃d,WC o a b d/\Q d)) (λf es ks u_=>Xs (oE f) (WE F σ Y e Q) λf=>Xs (gt f.1) (WE F σ Y e Q) λv=>Xs (Vo es) (WE F σ Y e Q) λp=>gx (UN (sc.names.lookup f.1)&&(ks.isEmpty&&(Jr p.1&&p.2.all Jr))) (N8 n Y (p.1::p.2) λds=>∃d,Do F.c v ds d/\Q d) (WE F σ Y e Q)) (λu_ u_ u_=>WE F σ Y e Q) (λes u_=>N8 n Y es λds=>ds.length<=Ay/\Q (.list ds)) (λes u_ u_=>N8 n Y es λds=>ds.length<=Ay/\Q (.tup ds)) (λt b o u_=>vT n t λc=>(c=AO->vE n Y b Q)/\(c=AD->vE n Y o Q)) (λu_ u_ u_ u_=>WE F σ Y e Q) (λu_ u_=>WE F σ Y e Q) (WE F σ Y e Q)noncomputable def vP:Z->AX BL->(AX O->Prop)->Prop|0,e,Q=>JR F σ e Q|n+1,e,Q=>D1 (motive:=λu_=>Prop) e (Q AJ) λe=>vE n F.Xo e λd=>Ie (V2 d) (λi=>d=.int i) λi=>Q (B i)noncomputable def N8:Z->U AW->U BL->(U V->Prop)->Prop|0,Y,es,Q=>OV F σ Y es Q|n+1,Y,es,Q=>match es with|[]=>Q []|e::es=>gx (Jr e) (vE n Y e λd=>N8 n Y es λds=>Q (d::ds)) (OV F σ Y (e::es) Q)noncomputable def vT:Z->BL->(BC->Prop)->Prop|0,e,Q=>WT F σ e Q|n+1,e,Q=>Ra e (λu_ u_=>vE n F.Xo e λa=>Ie (Vz a) (FM F.c a) Q) (λu_ u_ u_=>WT F σ e Q) (λu_ u_ u_ u_=>WT F σ e Q) (λop l u_=>match op with|.Not=>vT n l λb=>Q (!b)|_=>WT F σ e Q) (λl ops rs u_=>Xs (ZP ops) (WT F σ e Q) λop=>Xs (ZP rs) (WT F σ e Q) λr=>gx (Jr r) (vE n F.Xo l λa=>vE n F.Xo r λb=>Ie (cu op a b) (Bv F.c op a b) Q) (WT F σ e Q)) (λu_ u_ u_=>vE n F.Xo e λa=>Ie (Vz a) (FM F.c a) Q) (λu_ u_ u_ u_=>vE n F.Xo e λa=>Ie (Vz a) (FM F.c a) Q) (λu_ u_ u_=>WT F σ e Q) (λu_ u_=>WT F σ e Q) (λu_ u_ u_=>WT F σ e Q) (λu_ u_ u_ u_=>WT F σ e Q) (λu_ u_ u_ u_=>WT F σ e Q) (λu_ u_=>WT F σ e Q) (WT F σ e Q)end
end
theorem JR.mono{F:Fx}{σ:AS}{e:AX BL}{Q C:AX O->Prop}(h:JR F σ e Q)(u:∀d,Q d->C d):JR F σ e C:=by
 cases e with|none=>exact u _ h|some e=>exact WE.mono h λd H=>by refine AI H λi a b=>AK i a (u _ b)
structure VH(F:Fx)(sc:Cw)(xs:U BA):Prop where
nm:Nm F.c
st:∀x∈xs,DG F x
sc:F.env.scope=sc
ni:No F.env=AD
theorem VH.gl{F:Fx}{sc:Cw}{xs:U BA}(H:VH F sc xs){f:BA}(h:UN (sc.names.lookup f)=AO):F.env.kindOf f=B .globalImplicit:=by
 refine CS (Zi h) (CS H.sc ?_);rfl
theorem VH.Xm{F:Fx}{sc:Cw}{xs:U BA}(H:VH F sc xs){T:U BL}{v:BL}{r:AX (U BA)}(h:Uh T v {scope:=sc,locals:=0,globals:=0,cells:=[]}=Bz r):Uh T v F.env=Bz r:=by
 rw[<-H.sc]at h;exact h
section
variable{F:Fx}{sc:Cw}{xs:U BA}{σ:AS}(H:VH F sc xs)
structure gX(F:Fx)(sc:Cw)(σ:AS)(n:Z):Prop where
e:∀Y e Q,(∀a∈Y,a∈F.X σ)->vE F sc σ n Y e Q->WE F σ Y e Q
p:∀e Q,vP F sc σ n e Q->JR F σ e Q
es:∀Y es Q,(∀a∈Y,a∈F.X σ)->N8 F sc σ n Y es Q->OV F σ Y es Q
t:∀e Q,vT F sc σ n e Q->WT F σ e Q
theorem gX.cmp{n:Z}(I:gX F sc σ n){l r:BL}{u:Lw}{Q:BC->Prop}(h:vE F sc σ n F.Xo l λa=>vE F sc σ n F.Xo r λb=>Ie (cu u a b) (Bv F.c u a b) Q):WE F σ F.Xo l λa=>WE F σ F.Xo r λb=>∃d,Bv F.c u a b d/\Q d:=(I.e _ _ _ Be h).mono λa h=>(I.e _ _ _ Be h).mono λb h=>Im (λM=>gK) h
theorem gX.val{n:Z}(I:gX F sc σ n){e:BL}{Q:BC->Prop}(h:vE F sc σ n F.Xo e λa=>Ie (Vz a) (FM F.c a) Q):WE F σ F.Xo e λa=>∃b,FM F.c a b/\Q b:=(I.e _ _ _ Be h).mono λa h=>Im (λM=>d8) h
include H
theorem gX.sE{n:Z}(I:gX F sc σ n)(Y:U AW)(e:BL)(Q:V->Prop)(K:∀a∈Y,a∈F.X σ)(h:vE F sc σ (n+1) Y e Q):WE F σ Y e Q:=by
 induction e using kT with
 |nm x p=>exact L8 h (λd e q=>let g:=VS e;E9 g.2.2 K q g.1 g.2.1) id|co c k p=>cases c with|int i=>exact XX h|str x=>exact dF h|bool b=>exact gV h|none=>exact gT h|_=>exact h
 |bi l u r p=>exact Lj K ((I.e _ _ _ K h).mono λa h=>(I.e _ _ _ K h).mono λb h=>Im (λM=>gP) h)|un u l p=>cases u with|USub=>exact jk ((I.e _ _ _ Be h).mono λa h=>Im (λM=>JW) h)|_=>exact h
 |cm l j z p=>exact L8 h (λu e1 h=>L8 h (λr m h=>RO h (λe h=>by refine J (OE e1) (J (OE m) (XY (I.cmp h) ((IA e).marks _)))) id) id) id|su l r p=>refine RO h (λe h=>(Oa ((I.e _ _ _ K h).mono λo h=>(I.e _ _ _ Be h).mono λk h=>by refine AI (Im (λM=>JW) h) λi a G=>Aw G λd b=>FK i d a b) ((IA e).sub))) λh=>(L8 h (λs e h=>by refine J (Wk e) (OY K ((I.e _ _ _ K h).mono λo h=>(I.p _ _ h).mono λa h=>I.p _ _ h))) id)|ca f es ks p=>refine L8 h (λf e1 h=>L8 h (λv m h=>L8 h (λp y h=>RO h (λe h=>?_) id) id) id) id;have e:=Fv e;have g:=Fv e.2;have T:=Fv g.2;have D:=bK H.nm m;refine J (PK e1) (J (jZ y) (J (To.mp g.1) (YR H.nm.wf D.1 (H.gl e.1) K (I.es _ _ _ K h) D.2.1 ((IA T.1).star _) (Qw _ T.2) D.2.2)))|li es p=>exact gU K (I.es _ _ _ K h)|tu es k p=>exact dE K (I.es _ _ _ K h)|ie t b o p=>exact W8 ((I.t _ _ h).mono λc h=>⟨λe=>I.e _ _ _ K (h.1 e),λe=>I.e _ _ _ K (h.2 e)⟩)|ot e hd=>exact Eq.mp (hd _ _ _ _ _ _ _ _ _ _ _ _ _ (WE F σ Y e Q)) h|_=>exact h
omit H in
theorem gX.sT{n:Z}(I:gX F sc σ n)(e:BL)(Q:BC->Prop)(h:vT F sc σ (n+1) e Q):WT F σ e Q:=by
 induction e using kT with
 |nm x p=>exact H9 (I.val h)|su l r p=>exact H9 (I.val h)|ca f es ks p=>exact H9 (I.val h)|un u l p=>cases u with|Not=>exact UY (I.t _ _ h)|_=>exact h
 |cm l j z p=>exact L8 h (λu e1 h=>L8 h (λr a h=>RO h (λe h=>by refine J (OE e1) ?_;refine J (OE a) ?_;exact Kq (I.cmp h) ((IA e).marks _)) id) id) id|ot e hd=>exact Eq.mp (hd _ _ _ _ _ _ _ _ _ _ _ _ _ (WT F σ e Q)) h|_=>exact h
theorem O3(n:Z):gX F sc σ n:=by
 induction n with|zero=>exact⟨λM M M M h=>h,λM M h=>h,λM M M M h=>h,λM M h=>h⟩|succ n I=>
refine⟨I.sE H,λe Q h=>?_,λY es Q K h=>?_,I.sT⟩;·cases e with|none=>exact h|some e=>exact(I.e _ _ _ Be h).mono λa h=>Im (λM=>JW) h
·cases es with|nil=>exact Er h|cons e es=>exact RO h (λe h=>Cz ((I.e _ _ _ K h).mono λd h=>I.es _ _ _ K h) ((IA e).star _)) id
end
noncomputable abbrev gq{X:Type}(s:G1)(asg:U BL->BL->EQ->X)(aug:BL->IM->BL->EQ->X)(ret:AX BL->EQ->X)(brk:EQ->X)(ast:BL->AX BL->EQ->X)(d:X):X:=Stmt.casesOn (motive_2:=λM=>X) s (λM M M M M M M M M M=>d) (λM M M M M M M M M M=>d) (λM M M M M M M M M M M=>d) ret (λM M=>d) asg (λM M M M M M M=>d) aug (λM M M M M=>d) (λM M M M M=>d) (λM M M M M=>d) (λM M M M=>d) (λM M M M=>d) (λM M M=>d) (λM M M=>d) (λM M M=>d) (λM M M=>d) (λM M M M M=>d) (λM M M M M=>d) ast (λM M=>d) (λM M M M=>d) (λM M=>d) (λM M=>d) (λM M=>d) (λM=>d) brk (λM=>d)
theorem Scs{P:G1->Prop}(asg:∀T e p,P (.Assign T e p))(aug:∀t u e p,P (.AugAssign t u e p))(ret:∀e p,P (.Return e p))(brk:∀p,P (.Break p))(ast:∀t m p,P (.Assert t m p))(ot:∀s,(∀{X:Type}asg aug ret brk ast(d:X),gq s asg aug ret brk ast d=d)->P s)(s:G1):P s:=by
 cases(s)<;>first|exact asg _ _ _|exact aug _ _ _ _|exact ret _ _|exact brk _|exact ast _ _ _|exact ot _ λM M M M M d=>Eq.refl d
noncomputable def ge:IM->BC|.Add=>AO|_=>AD
theorem cR{u:IM}(h:ge u=AO):u=.Add:=by
 cases u with|Add=>rfl|_=>exact J2 h
noncomputable abbrev gk(K:AS->Prop)(Q:Ha->AS->Prop)(o:Ha)(σ:AS):Prop:=Ha.casesOn (motive:=λM=>Prop) o (K σ) (Q .brk σ) (Q .cont σ) λd=>Q (.ret d) σ
theorem ew{F:Fx}{h₀:BJ}{σ:AS}{st:G1}{R:U G1}{K:AS->Prop}{Q:Ha->AS->Prop}(h:W1 F h₀ σ st (gk K Q))(k:∀σ,K σ->WS F h₀ σ R Q):WS F h₀ σ (st::R) Q:=FL (h.mono λo σ q=>by
cases o with|next=>exact k σ q|_=>exact q)
noncomputable abbrev O4(R:U G1)(K:AS->Prop)(Q:Ha->AS->Prop):Ha->AS->Prop:=NS (motive:=λM=>Ha->AS->Prop) R Q λM M=>gk K Q
section
variable(F:Fx)(sc:Cw)(xs:U BA)(h₀:BJ)
noncomputable def vS:Z->AS->U G1->(Ha->AS->Prop)->Prop|0,σ,c,Q=>WS F h₀ σ c Q|n+1,σ,c,Q=>match c with|[]=>Q .next σ|st::R=>gq st (λT e M=>Xs ((ZP T).bind oE) (W1 F h₀ σ st (O4 R (λσ=>vS n σ R Q) Q)) λx=>gx (xs.contains x.1&&bO e) (vE F sc σ 999 (F.X σ) e λd=>vS n (σ.put x.1 (.v d)) R Q) (W1 F h₀ σ st (O4 R (λσ=>vS n σ R Q) Q))) (λt u e M=>Xs (oE t) (W1 F h₀ σ st (O4 R (λσ=>vS n σ R Q) Q)) λx=>Xs (Xx σ x.1) (W1 F h₀ σ st (O4 R (λσ=>vS n σ R Q) Q)) λl=>gx (ge u&&xs.contains x.1) (vE F sc σ 999 (F.X σ) e λb=>Ie (gQ .Add l b) (Q6 F.c .Add l b) λd=>vS n (σ.put x.1 (.v d)) R Q) (W1 F h₀ σ st (O4 R (λσ=>vS n σ R Q) Q))) (λe M=>Xs e (W1 F h₀ σ st (O4 R (λσ=>vS n σ R Q) Q)) λe=>vE F sc σ 999 F.Xo e λd=>Q (.ret d) σ) (λM=>Q .brk σ) (λt M M=>vT F sc σ 999 t λb=>b=AO/\vS n σ R Q) (W1 F h₀ σ st (O4 R (λσ=>vS n σ R Q) Q))
end
section
variable{F:Fx}{sc:Cw}{xs:U BA}{h₀:BJ}{σ:AS}{Y:U AW}
theorem Gx{n:Z}{σ':AS}{c:U G1}{Q:Ha->AS->Prop}(e:σ=σ')(q:vS F sc xs h₀ n σ' c Q):vS F sc xs h₀ n σ c Q:=e▸q
theorem Lb{n:Z}{st:G1}{R:U G1}{Q:Ha->AS->Prop}(I:∀σ,vS F sc xs h₀ n σ R Q->WS F h₀ σ R Q)(h:W1 F h₀ σ st (O4 R (λσ=>vS F sc xs h₀ n σ R Q) Q)):WS F h₀ σ (st::R) Q:=by
 cases R with|cons s r=>exact ew h I|nil=>exact FL (h.mono λo σ q=>by
cases o with|next=>exact Ng q|_=>exact q)
variable(H:VH F sc xs)
include H
theorem FT(n:Z):∀(σ:AS)(c:U G1)(Q:Ha->AS->Prop),vS F sc xs h₀ n σ c Q->WS F h₀ σ c Q:=by
 induction n with|zero=>exactλM M M h=>h|succ n I=>intro σ c Q h;have r:=(O3 (σ:=σ) H 999).e;cases c with|nil=>exact Ng h|cons st R=>have I:=λσ=>I σ R Q;induction st using Scs with|asg T e p=>refine L8 h (λx e1 h=>RO h (λe h=>?_) (Lb I)) (Lb I);refine AI (B1.mp e1) λt f y=>?_;have e:=Fv e;refine J (OE f) (J (PK y) (FL (EZ (H.st _ (Fd.mp e.1)) ((r _ _ _ CX h).mono λd h=>I _ h) ((IA (bN e.2)).swap _ _ _))))|aug t u e p=>refine L8 h (λx e1 h=>L8 h (λo f h=>RO h (λe h=>?_) (Lb I)) (Lb I)) (Lb I);have g:=VS f;have e:=Fv e;refine J (PK e1) (J (cR e.1) (FL (jn (H.st _ (Fd.mp e.2)) g.2.2 ((r _ _ _ CX h).mono λb h=>by refine AI (Im (λM=>ft) h) λd a h=>AK d a (I _ h)) g.2.1)))|ret v p=>exact L8 h (λe e1 h=>by refine J e1 (FL (Mv (r _ _ _ Be h)))) (Lb I)|brk p=>exact FL (dK h)|ast t m p=>exact FL (Zy (((O3 H 999).t _ _ h).mono λb h=>⟨h.1,I _ h.2⟩))|ot st hd=>exact Lb I (Eq.mp (hd _ _ _ _ _ (W1 F h₀ σ st (O4 R (λσ=>vS F sc xs h₀ n σ R Q) Q))) h)
theorem vE.ok{e:BL}{Q:V->Prop}(K:∀a∈Y,a∈F.X σ)(h:vE F sc σ 999 Y e Q):WE F σ Y e Q:=(O3 H 999).e Y e Q K h
theorem vE.GH{e:BL}{Q:V->Prop}(h:vE F sc σ 999 (F.X σ) e Q):WE F σ (F.X σ) e Q:=vE.ok H CX h
theorem vE.IB{e:BL}{Q:V->Prop}(h:vE F sc σ 999 F.Xo e Q):WE F σ F.Xo e Q:=vE.ok H Be h
theorem vT.ok{e:BL}{Q:BC->Prop}(h:vT F sc σ 999 e Q):WT F σ e Q:=(O3 H 999).t e Q h
theorem N8.ok{es:U BL}{Q:U V->Prop}(K:∀a∈Y,a∈F.X σ)(h:N8 F sc σ 999 Y es Q):OV F σ Y es Q:=(O3 H 999).es _ es Q K h
theorem N8.GH{es:U BL}{Q:U V->Prop}(h:N8 F sc σ 999 (F.X σ) es Q):OV F σ (F.X σ) es Q:=N8.ok H CX h
theorem N8.IB{es:U BL}{Q:U V->Prop}(h:N8 F sc σ 999 F.Xo es Q):OV F σ F.Xo es Q:=N8.ok H Be h
theorem vS.ok{c:U G1}{Q:Ha->AS->Prop}(h:vS F sc xs h₀ 999 σ c Q):WS F h₀ σ c Q:=FT H 999 σ c Q h
theorem Ix{x:BA}{a:AW}{ys:U V}{e:BL}{X I K pos:EQ}{Q:Ha->AS->Prop}(b:ys.length<=Ay)(h:vE F sc σ 999 (F.X σ) e λd=>Q .next (σ.put x (.own a (ys++[d]))))(f:(I.endLine==K.line&&Jr e)=AO:=by rfl)(D:bk σ x=B (a,ys):=by rfl):W1 F h₀ σ (.Expr (.Call (.Attribute (.Name x X) "append" I) [e] [] K) pos) Q:=by
 have f:=Fv f;have g:=bj D;exact Ir g.2.2 b (vE.GH H h) (λM=>rfl) f.1 (λenv=>by refine J ((IA f.2).star _ _) rfl) g.1 g.2.1 H.ni
theorem Pg{t:BL}{b o:U G1}{pos:EQ}{Q:Ha->AS->Prop}(h:vT F sc σ 999 t λc=>(c=AO->vS F sc xs h₀ 999 σ b Q)/\(c=AD->vS F sc xs h₀ 999 σ o Q)):W1 F h₀ σ (.If t b o pos) Q:=IU ((vT.ok H h).mono λc h=>⟨λe=>vS.ok H (h.1 e),λe=>vS.ok H (h.2 e)⟩)
theorem Ki{t:BL}{b:U G1}{pos:EQ}{Q:Ha->AS->Prop}(I:Z->AS->Prop)(n:Z)(h0:I n σ)(G:∀n σ' K,I n σ'->(∀l,Q .next l->K .brk l)->(∀d l,Q (.ret d) l->K (.ret d) l)->(∀m l,m<n->I m l->K .next l)->vT F sc σ' 999 t λc=>(c=AO->vS F sc xs h₀ 999 σ' b K)/\(c=AD->Q .next σ')):W1 F h₀ σ (.While t b [] pos) Q:=dI I n h0 λn σ' h=>(vT.ok H (G n σ' (eh Q λl=>∃m,m<n/\I m l) h (λM q=>q) (λM M q=>q) λm l a b=>⟨m,a,b⟩)).mono λc h=>⟨λe=>vS.ok H (h.1 e),h.2⟩
theorem MJ{f:BA}{i fa:Z}{X pos:EQ}{e:BL}{es:U BL}{P:U V->(V->Prop)->Prop}{Q:V->Prop}(D:Dn F.c f i fa)(ok:Ef F.c F.n fa P)(K:∀a∈Y,a∈F.X σ)(h:N8 F sc σ 999 Y (e::es) λu=>P u Q)(R:(UN (sc.names.lookup f)&&((e::es).all Jr&&!(f==("__debug__":BA))))=AO:=by rfl):WE F σ Y (.Call (.Name f X) (e::es) [] pos) Q:=by
 have R:=Fv R;have g:=Fv R.2;have T:=Fv g.1;exact jl H.nm.wf D ok (H.gl R.1) K (N8.ok H K h) ((IA T.1).star _) (Qw _ T.2) (Pq g.2)
end
theorem WG{n:Z}(h:n<=1000):(n:O)<2^63:=Bu.mpr (An h (by decide))
theorem Wl{n:Z}(h:n<=1000):n<=Ay:=AA h (by decide)
theorem RU{x y:Z}(h:([x]==[y])=AO):x=y:=(MG (Fe h)).1
theorem RV{x y:Z}(h:([x]==[y])=AD):x≠y:=λe=>by rw[e]at h;exact B8 h (by refine J (FR _) ?_;decide)
theorem fZ{x y:Z}(h:B9 ((x:O)<(y:O))=AO):x<y:=Bu.mp (Bq h)
theorem fb{x y:Z}(h:B9 ((x:O)<(y:O))=AD):¬x<y:=λq=>IV h (Bu.mpr q)
noncomputable def cQ:AX G2->BC|B .local=>AO|_=>AD
theorem cP{k:AX G2}(h:cQ k=AO):k=B .local:=by
 cases k with|none=>exact J2 h|some k=>cases k with|«local»=>rfl|_=>exact J2 h
theorem Z4{F:Fx}{xs:U BA}{M:U AW}(h:(xs.all λx=>cQ (F.env.kindOf x))=AO)(m:F.Mu=F.env.locals::M):∀x∈xs,DG F x:=λx D=>Z7 (cP (Bi.mp h x D)) m
noncomputable def mT(S:Cw)(names xs:U BA):BC:=S.kind==.function&&(!S.isCoroutine&&(!S.isGenerator&&(B9 names.Nodup&&((names.all λx=>S.names.lookup x==B .local||(S.names.lookup x==B .cell&&((E5 0 S.names []).lookup x).isSome))&&(xs.all λx=>cQ (S.names.lookup x))))))
theorem Ef.fP{c:Cx}{n i:Z}{fa:AW}{f:BA}(names xs ys:U BA)(R:Fx->Prop){P:U V->(V->Prop)->Prop}(N:Nm c)(D:Dn c f i fa)(w:∀(fd:EA)(l:U AF),fd.params=(E8 i).args->fd.defaults=.none->l.length=names.length->ES fd ⟨l,[]⟩=Bz (names.zip l))(g:mT (E8 i).scope names ys=AO)(j:∀L Y q cd,∀x∈xs,DG (Fx.fn c n (E8 i).scope fa L Y q cd) x)(T:∀L Y q cd,R (Fx.fn c n (E8 i).scope fa L Y q cd))(h:∀F S Q h₀,VH F (E8 i).scope xs->R F->F.c=c->F.n=n->P S Q->S.length=names.length/\WS F h₀ (Mine.Cv names S) (E8 i).body (J3 Q)):Ef c (n+1) fa P:=by
 refine Aa D λM G=>Au G λo fd D hd=>?_;have a:=Fv g;have b:=Fv a.2;have d:=Fv b.2;have e:=Fv d.2;have f:=Fv e.2;have k:=Fe a.1;exact Ef.NZ N.wf D k (Pq b.1) (Pq d.1) (Bq e.1) hd w f.1 λL Y q cd S Q h₀ E=>h _ S Q h₀ ⟨N,j L Y q cd,rfl,by refine(?_:((E8 i).scope.kind==.module&&_)=AD);refine J k rfl⟩ (T L Y q cd) rfl rfl E
theorem Ef.Mq{c:Cx}{n i:Z}{fa:AW}{f:BA}(names xs:U BA){P:U V->(V->Prop)->Prop}(N:Nm c)(D:Dn c f i fa)(w:∀(fd:EA)(l:U AF),fd.params=(E8 i).args->fd.defaults=.none->l.length=names.length->ES fd ⟨l,[]⟩=Bz (names.zip l))(g:mT (E8 i).scope names xs=AO)(h:∀F S Q h₀,VH F (E8 i).scope xs->F.c=c->F.n=n->P S Q->S.length=names.length/\WS F h₀ (Mine.Cv names S) (E8 i).body (J3 Q)):Ef c (n+1) fa P:=Ef.fP names xs xs (λM=>Nt) N D w g (λL Y q cd=>Z4 (Fv (Fv (Fv (Fv (Fv g).2).2).2).2).2 rfl) (λM M M M=>Bl) λF S Q h₀ H M=>h F S Q h₀ H
end
section
section
variable{F:Fx}{sc:Cw}{xs:U BA}{h₀:BJ}{σ:AS}{Y:U AW}(H:VH F sc xs)
include H
theorem VH.hold(I:AW):VH (F.hold I) sc xs:=⟨H.nm,H.st,H.sc,H.ni⟩
theorem Yz{x:BA}{px pos:EQ}{e:BL}{b:U G1}{Q:Ha->AS->Prop}(k:Z)(c:Z->AS->Prop)(D:DG F x)(h:vE F sc σ 999 (F.X σ) e λd=>∃ys,HX F.c d ys/\c 0 σ/\(∀I i σ' d K,VH (F.hold I) sc xs->I∉CT σ'->ys[i]?=B d->c i σ'->(∀l,Q .next l->K .brk l)->(∀d l,Q (.ret d) l->K (.ret d) l)->(∀l,c (i+1) l->K .next l)->vS (F.hold I) sc xs h₀ k (σ'.put x (.v d)) b K)/\(∀σ',c ys.length σ'->Q .next σ'))(L:∀env x,El e env x=Bz x:=by intro M M;rfl):W1 F h₀ σ (.For (.Name x px) e b [] pos) Q:=dJ c D ((vE.GH H h).mono λd g=>by
refine DU g λys a b t f=>IE ys a b (λI i σ' d W C T=>FT (H.hold I) k _ _ _ (t I i σ' d _ (H.hold I) W C T (λM q=>q) (λM M q=>q) λM q=>q)) f) L
end
theorem VH.comp{F:Fx}{S:Cw}{C:AW}{X:U AW}(N:Nm F.c)(h:No (F.comp S C X).env=AD:=by rfl):VH (F.comp S C X) (dQ S F.env) []:=⟨N,(by intro M W;exact JZ W),rfl,h⟩
end
theorem fdE{fd:EA}{p:Dl}{d:AF}(E:fd.params=p)(hd:fd.defaults=d):fd={fd with params:=p,defaults:=d}:=by subst E hd;rfl
theorem mi{A:Type}{l:U A}(h:l.length=1):∃a,l=[a]:=JE.mp h
theorem mh{A:Type}{l:U A}(h:l.length=2):∃a b,l=[a,b]:=by
 cases l with|nil=>cases(h)|cons a r=>refine Aw (mi (aT h)) λb e=>Io a b (by refine J e ?_;rfl)
theorem len3{A:Type}{l:U A}(h:l.length=3):∃a b c,l=[a,b,c]:=by
 cases l with|nil=>cases(h)|cons a r=>refine Eh (mh (aT h)) λb c e=>jQ a b c (by refine J e ?_;rfl)
theorem HQ{fd:EA}{p:Dl}(E:fd.params=p)(hd:fd.defaults=.none){names:U BA}{l:U AF}(g:l.length=1)(h:∀v,ES {fd with params:=p,defaults:=.none} ⟨[v],[]⟩=Bz (names.zip [v])):ES fd ⟨l,[]⟩=Bz (names.zip l):=by
 refine Aw (mi g) λv z=>?_;subst z;refine J (fdE E hd) (h v)
theorem GU{fd:EA}{p:Dl}(E:fd.params=p)(hd:fd.defaults=.none){names:U BA}{l:U AF}(g:l.length=2)(h:∀v u,ES {fd with params:=p,defaults:=.none} ⟨[v,u],[]⟩=Bz (names.zip [v,u])):ES fd ⟨l,[]⟩=Bz (names.zip l):=by
 refine Eh (mh g) λv u P=>?_;subst P;refine J (fdE E hd) (h v u)
theorem Zu{fd:EA}{p:Dl}(E:fd.params=p)(hd:fd.defaults=.none){names:U BA}{l:U AF}(g:l.length=3)(h:∀v u w,ES {fd with params:=p,defaults:=.none} ⟨[v,u,w],[]⟩=Bz (names.zip [v,u,w])):ES fd ⟨l,[]⟩=Bz (names.zip l):=by
 refine jI (len3 g) λv u w C=>?_;subst C;refine J (fdE E hd) (h v u w)
theorem Ms{F:Fx}{σ:AS}{Y:U AW}{l f p:BL}{n o:Lw}{pos:EQ}{Q:V->Prop}{a b e:V}{d w:BC}(g:WE F σ F.Xo l (·=a))(W:WE F σ F.Xo f (·=b))(ok:Bv F.c n a b d)(C:WE F σ F.Xo p (·=e))(P:Bv F.c o b e w)(q:Q (.bool (d&&w)))(K:lastMarks [n,o] [f,p]=AD:=by with_unfolding_all rfl):WE F σ Y (.Compare l [n,o] [f,p] pos) Q:=by
 refine dH (g.mono λM h=>h▸W.mono λM h=>h▸⟨d,ok,λe=>?_,λz=>C.mono λM h=>h▸⟨w,P,?_⟩⟩) K;·rw[e]at q;exact q
 ·rw[z]at q;exact q
theorem Rm{F:Fx}{σ:AS}{Y:U AW}{c f:BL}{R:U BL}{pos:EQ}{Q:V->Prop}{b b':BC}(W:WE F σ Y c (·=.bool b))(C:b=AD->WE F σ Y (.BoolOp .Or (f::R) pos) (·=.bool b'))(q:Q (.bool (b||b'))):WE F σ Y (.BoolOp .Or (c::f::R) pos) Q:=iA (W.mono λM h=>h▸⟨b,FM.bool b,λe=>by rw[e]at q⊢;exact q,λe=>(C e).mono λM h=>by refine J h ?_;rw[e]at q;exact q⟩)
theorem Ud{F:Fx}{σ:AS}{Y:U AW}{c f:BL}{R:U BL}{pos:EQ}{Q:V->Prop}{b b':BC}(W:WE F σ Y c (·=.bool b))(C:b=AO->WE F σ Y (.BoolOp .And (f::R) pos) (·=.bool b'))(q:Q (.bool (b&&b'))):WE F σ Y (.BoolOp .And (c::f::R) pos) Q:=jm (W.mono λM h=>h▸⟨b,FM.bool b,λe=>by rw[e]at q⊢;exact q,λe=>(C e).mono λM h=>by refine J h ?_;rw[e]at q;exact q⟩)
theorem lt1(a b:Z):B9 (([a]:U Z)<[b])=B9 (a<b):=EN.mpr (by simp[U.cons_lt_cons_iff])
theorem kN(a b:Z):(!B9 (([b]:U Z)<[a]))=B9 (a<=b):=by
 refine J (lt1 _ _) (CS decide_not (EN.mpr LR))
theorem Xu{c:Cx}(N:Nm c):Ef c 1 116 (λS Q=>∃x,S=[.str [x]]/\Q (.bool (QG x))):=by
 refine Ef.Mq ["sign"] [] N N.word (λfd l E hd g=>HQ E hd g λM=>by kernel_rfl) (by decide+kernel) λF S Q h₀ H f p b=>AI b λx z u=>?_;clear b;subst z;refine⟨rfl,vS.ok H ?_⟩;have j:∀(lo hi:Z),(!B9 (([x]:U Z)<[lo])&&!B9 ([hi]<[x]))=(B9 (lo<=x)&&B9 (x<=hi)):=λlo hi=>by refine J (kN _ _) (J (kN _ _) ?_);rfl
 refine(?_:WE _ _ _ _ _);refine Rm (Ms (a:=.str [48]) (e:=.str [57]) (vE.IB H (rfl)) (vE.IB H (rfl)) (.fe _ _) (vE.IB H (rfl)) (.fe _ _) (by refine J (j _ _) rfl)) (λM=>Rm (Ms (a:=.str [65]) (e:=.str [90]) (vE.IB H (rfl)) (vE.IB H (rfl)) (.fe _ _) (vE.IB H (rfl)) (.fe _ _) (by refine J (j _ _) rfl)) (λM=>GC (Ms (a:=.str [97]) (e:=.str [122]) (vE.IB H (rfl)) (vE.IB H (rfl)) (.fe _ _) (vE.IB H (rfl)) (.fe _ _) (by refine J (j _ _) rfl))) rfl) ?_;· refine(?_:Q _);rewrite[<-Yr];exact u
theorem RS(A:U Mem)(g:Mem->V)(f:V->AX V)(a:∀m∈A,f (.str m)=B (g m)):(A.map V.str).filterMap f=A.map g:=by
 induction A with|nil=>rfl|cons m A I=>simp only[Bo,Kw,a m AQ,I λx D=>a x (AU _ D)]
noncomputable def Cl.val(t:Cl):V:=.tup [.bool t.bar,.list (t.ms.map .str)]
structure Cl.Ok(t:Cl):Prop where
ne:∀m∈t.ms,m≠[]len:t.ms.length<=1000
short:∀m∈t.ms,m.length<=1000
chars:∀m∈t.ms,∀x∈m,x<0x110000
theorem Sj(A:U Mem)(g:Mem->BC):(U.contains (U.map g A) AO)=A.any g:=by
 induction A with|nil=>rfl|cons a b I=>refine J Bo (J Gv (J I (J QR ?_)));cases g a<;>rfl
theorem Vn{m:Mem}(h:m≠[]):m[0]?=B (m.headD 0):=by cases(m)<;>simp at h⊢
theorem cE{m:Mem}(h:m≠[]):m.getLast?=B (m.getLastD 0):=by
 cases m with|nil=>simp at h|cons x xs=>refine J (E4 (by simp)) ?_;clear h;cases(xs)<;>rfl
theorem bV{c:Cx}(N:Nm c)(n:Z):Ef c (n+1) 104 (λS Q=>∃t x,S=[Cl.val t,.str [x]]/\t.Ok/\Q (.bool (t.hit x))):=by
  refine Aa N.hit λM G=>Au G λo fd D hd=>Ef.NZ (names:=["item","sign"]) N.wf D rfl rfl rfl (by decide) hd (λfd l e hd g=>GU e hd g λM M=>by kernel_rfl) (by decide+kernel) λL Y q cd S Q h₀ b=>Cj b λt x P i u=>?_;clear b;subst P;refine⟨rfl,?_⟩;let F:=Fx.fn c n (E8 17).scope 104 L Y q cd;have H:VH F (E8 17).scope ["bar","members"]:=⟨N,Z4 (by kernel_rfl) rfl,rfl,rfl⟩;refine(?_:WS F _ _ _ _);refine vS.ok H (?_:W1 _ _ _ _ _);refine Te ["bar","members"] H.st (vE.GH H ⟨_,rfl,rfl,?_⟩) (.cons (λA E s v Q h=>G8 h) (.cons (λA E s v Q h=>G8 h) .nil)) rfl rfl
  · refine(?_:WE _ _ _ _ _);refine XY (vE.IB H ?_);refine F9 (λd=>match d with|.str m=>B (.bool (YB x m))|_=>AJ) Be rfl rfl rfl rfl rfl (λa h=>JZ h) (vE.GH H ?_);refine IE _ (.list _) (J (AL _) (AA i.len (by decide))) ?_ ?_;· intro C X d hd M M;refine AI (BO.mp hd) λm K P=>?_;subst P;have w:=i.ne m K;refine KE ⟨(λh=>NI h),λM=>?_⟩;refine Ms (vE.IB (VH.comp N) (AK _ (.str (.nat (Vn w) (by decide))) rfl)) (vE.IB (VH.comp N) (rfl)) (.fe _ _) (vE.IB (VH.comp N) (AK _ (.str (.last (cE w))) rfl)) (.fe _ _) ?_;·refine J (kN _ _) (J (kN _ _) ?_);rfl
    · refine J (RS t.ms (λm=>.bool (YB x m)) _ λm M=>rfl) ?_;have T:=Bv.YC (c:=c) AO (t.ms.map (YB x));simp only[QP,EE,MA]at T;refine AK _ T (AK _ (.neB _ _) ?_);refine(?_:Q _);refine J (Sj _ _) u
noncomputable def Dz(x:BA)(d:V):AS:=[(x,.v d)]
noncomputable def It.val:It->V|AJ=>.str [42]|B t=>t.val
noncomputable def It.Ok:It->Prop|AJ=>Nt|B t=>t.Ok
theorem Cl.Ok.lays{t:Cl}(h:t.Ok):Ls t.val:=by
 have hb:V.isData (.bool t.bar)/\(V.bool t.bar).pd.canLay0=AO/\(V.bool t.bar).pd.depth<=1:=⟨Bl,rfl,DE rfl⟩;have K:Ee (t.ms.map V.str) 0:=.of λd hd=>by
  refine AI (BO.mp hd) λm K P=>?_;subst P;have :=LB m (h.chars m K);exact Cf this.1 this.2.1 (DE rfl)
 refine B7 (Ee.cons hb (Ee.cons K.list (Ee.nil 1))).tup λa b d=>Cf a b (AA d (by decide))
theorem fC{c:Cx}(t:It)(h:t.Ok):Bv c .Eq t.val (.str [42]) t.isNone:=by
 cases t with|none=>exact .eqS [42] [42]|some t=>exact .eqD (Cl.Ok.lays h) (LB [42] (by simp))
theorem XO{l:U BC}(h:l≠[]):(QP l).getLast?=B (.bool (l.getLastD AD)):=by
 refine Eh (Hn h) λy ys P=>?_;subst P;rewrite[QP];refine J kH (J (E4 (by simp)) ?_);clear h;cases(ys)<;>rfl
theorem XI{X:Type}(l:U X)(b:Z):Kg l AJ (B (b:O))=l.take b:=by
 have h:∀i:Z,Kh l.length (i:O)=EV i l.length:=λi=>by unfold Kh;refine J (Ab (by omega)) ?_;simp
 simp only[Kg,Fw,Et,h,Kf,N2,LV];by_cases hb:b<=l.length;·refine J (Ck hb) ?_;rfl
 ·refine J (N4 (by omega)) (J (Ce (by simp)) (J (Ce (by omega)) ?_));rfl
theorem XF{X c:Type}(f:c->X->c)(b:c)(l:U X)(i:Z)(x:X)(h:l[i]?=B x):(l.take (i+1)).foldl f b=f ((l.take i).foldl f b) x:=by
 refine J DM (J h (J M0 ?_));rfl
theorem fM{c:Cx}(N:Nm c)(n:Z):Ef c (n+2) 109 (λS Q=>∃items name,S=[.list (items.map It.val),.str name]/\(∀t∈items,t.Ok)/\name.length<=1000/\Q (.bool (MI items name))):=by
  refine Aa N.told λM G=>Au G λo fd D hd=>Ef.NZ (names:=["items","name"]) N.wf D rfl rfl rfl (by decide) hd (λfd l E hd g=>GU E hd g λM M=>by kernel_rfl) (by decide+kernel) λL Y q cd S Q h₀ b=>Dg b λitems name P w hn u=>?_;clear b;subst P;refine⟨rfl,?_⟩;let F:=Fx.fn c (n+1) (E8 18).scope 109 L Y q cd;have wg:VH F (E8 18).scope ["heads","item"]:=⟨N,AT.mpr ⟨by first|exact Z7 rfl rfl|exact Z6 rfl rfl rfl|exact iq rfl rfl rfl|exact ip rfl rfl rfl,AT.mpr ⟨by first|exact Z7 rfl rfl|exact Z6 rfl rfl rfl|exact iq rfl rfl rfl|exact ip rfl rfl rfl,De _⟩⟩,rfl,rfl⟩;refine(?_:WS F _ _ _ _);refine vS.ok wg (AV (show 1<=_ by decide) (AV (show 1<=_ by decide) (AK _ (.UI _ (WG hn)) (AK _ (.mulL _ _ (by simp;exact z1 ‹_›) (by exact z63) (by exact z9 ‹_›)) (AK _ (.XS _ _ (by simp[Ay];exact z132 ‹_›)) ?_)))));have e0:(V.list ([V.bool AO]++(Ga (name.length:O).toNat [V.bool AD]).flatten))=.list (QP (AO::Ga name.length AD)):=by
    simp[QP,U.flatten_replicate_singleton]
  let s:U BC->AS:=λhs=>[("items",.v (.list (items.map It.val))),("name",.v (.str name)),("heads",.v (.list (QP hs)))];let H:=λi=>I8 name (AO::Ga name.length AD) (items.take i);have p:∀i,(H i).length=name.length+1:=by
    intro i;have :∀(e:U It)(hs:U BC),hs.length=name.length+1->(I8 name hs e).length=name.length+1:=by
      intro e;induction e with|nil=>intro hs h;exact h|cons t ts ih=>intro hs h;exact ih _ (JI name hs t h)
    exact this _ _ (by simp)
  refine Gx (σ':=s (H 0)) (Aq (λd=>([("items",.v (.list (items.map It.val))),("name",.v (.str name)),("heads",.v d)]:AS)) e0) (?_:W1 _ _ _ _ _);refine Yz wg 999 (λi σ'=>σ'=s (H i)\/∃v,σ'=s (H i)++Dz "item" v) (wg.st _ (by decide)) (IE _ (.list _) (.inl rfl) ?_ ?_)
  · intro I i σ' d K VI hI hd A u1 u2 Du;have hs:σ'.put "item" (.v d)=s (H i)++Dz "item" d:=by clear hI;focus(refine AC A ?_ ?_;rotate_left;(focus(clear A;intro X;refine Aw X λv z=>?_;clear X;subst z));rotate_right;(focus(clear A;intro X;subst X)))<;>rfl
    refine Gx hs ?_;clear hs A hI u1 u2;obtain⟨t,ht,rfl⟩:∃t,items[i]?=B t/\t.val=d:=by simpa using hd
    have wh:=By ht;have j:H (i+1)=GF name (H i) t:=XF _ _ _ _ _ ht;have x:(QP (H i)).length<=1001:=by rewrite[QP];refine J (AL _) (J (p _) (Ax hn))
    refine(?_:W1 _ _ _ _ _);refine IU (Kq (vE.IB VI ?_));refine vE.IB VI (AK _ (fC t (w t wh)) (AV ?_ ?_))
    · intro T;have :t=AJ:=by cases(t)<;>simp at T⊢
      subst this;refine vS.ok VI (?_:W1 _ _ _ _ _);refine EZ (VI.st _ (by decide)) (F9 (λd=>match d with|.int k=>B (.bool (((H i).take (k.toNat+1)).contains AO))|_=>AJ) CX rfl rfl rfl rfl rfl (λa h=>JZ h) (vE.GH VI ?_));refine AK _ (.PP _ (Bu.mpr (An x (by decide)))) (AK _ (.JM _) ⟨_,.NX _ (AA x (by decide)),by refine J (AL _) (J CW (AA x (by decide))),?_,?_⟩);· intro C wj d hd M M;refine AI (BO.mp hd) λk R P=>?_;subst P;refine KE ⟨(λh=>NI h),λM=>vE.GH (VH.comp N) ?_⟩;refine AK _ (.list (AA x (by decide))) ?_;have f:=(XI (QP (H i)) (k+1)).trans U.map_take.symm;refine J f (AK _ (.YC _ _) rfl)
      · refine J (H8 _ (λk=>V.bool (((H i).take (k+1)).contains AO)) _ λm M=>rfl) (Du _ (Or.inr ⟨It.val AJ,?_⟩));have :V.list ((Ar (QP (H i)).length).map λk=>V.bool (((H i).take (k+1)).contains AO))=V.list (QP (H (i+1))):=by
         refine J j ?_;simp[QP,GF]
        refine J this rfl
    · intro T;clear ht;obtain⟨t,rfl⟩:∃t',t=B t':=by clear hd wh j;cases(t)<;>simp at T⊢
      refine vS.ok VI (AV (show 1<=_ by decide) (?_:WE _ _ _ _ _));refine F9 (λd=>match d with|.int k=>B (.bool ((H i).getD k.toNat AD&&t.hit (name.getD k.toNat 0)))|_=>AJ) CX rfl rfl rfl rfl rfl (λa h=>JZ h) (vE.GH VI ?_);refine AK _ (.UI _ (WG hn)) (AK _ (.JM _) ⟨_,.NX _ (AA hn (by decide)),by refine J (AL _) (J CW (Wl hn)),?_,?_⟩)
      · intro C wj d hd M M;refine AI (BO.mp hd) λk R P=>?_;subst P;have R:=Cp.mp R;have W:k<(H i).length:=by refine J (p _) (Bm R)
        have wi:(QP (H i))[k]?=B (.bool ((H i).getD k AD)):=by rewrite[QP];refine J B3 (J AG (J (AP W) ?_));rfl
        have r:name[k]?=B (name.getD k 0):=by refine J AG (J (AP R) ?_);rfl
        refine KE ⟨(λh=>NI h),λM=>?_⟩;refine Ud (b:=(H i).getD k AD) (b':=t.hit (name.getD k 0)) (vE.GH (VH.comp N) (AK _ (.list (.nat wi (aG R hn))) rfl)) (λM=>GC (MJ (VH.comp N) N.hit (bV N n) CX ?_)) rfl;exact AK _ (.str (.nat r (aG R hn))) ⟨t,_,rfl,w _ wh,rfl⟩
      · refine J (H8 _ (λk=>V.bool ((H i).getD k AD&&t.hit (name.getD k 0))) _ λm M=>rfl) ?_;refine AK _ (.XS _ _ (by refine J (AL _) ?_;refine J CW ?_;exact AA (Av hn 1) (by decide))) ?_;refine Du _ (Or.inr ⟨It.val (B t),?_⟩);have :V.list ([V.bool AD]++(Ar name.length).map λk=>V.bool ((H i).getD k AD&&t.hit (name.getD k 0)))=V.list (QP (H (i+1))):=by
         refine J j ?_;simp[QP,GF]
        refine J this ?_;rfl
  · intro σ' A;have y:(QP (H items.length)).getLast?=B (.bool (MI items name)):=by
      refine J (XO (by intro h;have :=p items.length;rw[h]at this;simp at this)) ?_;simp[H,MI]
    rw[AL]at A;refine AC A (λX=>?_) λX=>?_;·clear A;subst X;exact AK _ (.list (.last y)) u
    ·clear A;refine Aw X λv z=>?_;clear X;subst z;exact AK _ (.list (.last y)) u
section
variable{F:Fx}{h₀:BJ}{σ:AS}{Y:U AW}{c:Cx}
theorem DY{e:BL}{es:U BL}{b b':BC}{Q:BC->Prop}(W:WT F σ e (·=b))(C:b=AO->Pb F σ .And es (·=b'))(q:Q (b&&b')):Pb F σ .And (e::es) Q:=WB (W.mono λx D=>⟨λe=>by
rw[D]at e;intro A E s N j T;exact Ad (C e A E s N j T) (λr s' X=>by refine B7 X λa g h=>Cf a g (by refine J h ?_;rw[e]at q;exact q)) λM M x=>x,λe=>by rw[D]at e;rw[e]at q;exact q⟩)
theorem Mf{e:BL}{es:U BL}{b b':BC}{Q:BC->Prop}(W:WT F σ e (·=b))(C:b=AD->Pb F σ .Or es (·=b'))(q:Q (b||b')):Pb F σ .Or (e::es) Q:=YV (W.mono λx D=>⟨λe=>by
rw[D]at e;intro A E s N j T;exact Ad (C e A E s N j T) (λr s' X=>by refine B7 X λa g h=>Cf a g (by refine J h ?_;rw[e]at q;exact q)) λM M x=>x,λe=>by rw[D]at e;rw[e]at q;exact q⟩)
theorem EM{e:BL}{Q:BC->Prop}(h:WT F σ e Q):Pb F σ .And [e] Q:=WB (h.mono λb q=>⟨λe=>by rw[e]at q;exact Ue q,λe=>by rw[e]at q;exact q⟩)
theorem Mg{e:BL}{Q:BC->Prop}(h:WT F σ e Q):Pb F σ .Or [e] Q:=YV (h.mono λb q=>⟨λe=>by rw[e]at q;exact WA q,λe=>by rw[e]at q;exact q⟩)
theorem Ma{X:Type}(l:U X)(a b:Z):Kg l (B (a:O)) (B (b:O))=(l.drop a).take (b-a):=by
  have h:∀i:Z,Kh l.length (i:O)=EV i l.length:=λi=>by unfold Kh;refine J (Ab (by exact ny)) ?_;simp
  simp only[Kg,Fw,Et,h];by_cases g:a<=l.length
  · refine J (Ck g) (J LW ?_);by_cases hb:b<=l.length;·refine J (Ck hb) ?_;rfl
    ·refine J (N4 (by exact lY ‹_›)) (J (Ce (by simp)) (J (Ce (by simp;exact tP ‹_›)) ?_));rfl
  ·refine J (N4 (by exact lY ‹_›)) (J (BY (by simp;exact tO)) (J (BY (by exact lY ‹_›)) ?_));simp
theorem UR{X:Type}(l:U X)(a:Z):Kg l (B (a:O)) AJ=l.drop a:=by
 have h:∀i:Z,Kh l.length (i:O)=EV i l.length:=λi=>by unfold Kh;refine J (Ab (by exact ny)) ?_;simp
 simp only[Kg,Fw,Et,h,Kf,N2];refine J (Ce (by simp)) ?_;by_cases hb:a<=l.length;·refine J (Ck hb) ?_;rfl
 ·refine J (N4 (by exact lY ‹_›)) (J (BY (by simp)) (J (BY (by exact lY ‹_›)) ?_));rfl
theorem Bv.jN(xs:U V)(n:Z)(p:n<=19)(h:Ee xs n):Bv c .NotEq (.list xs) (.list []) (!xs.isEmpty):=by
 refine B7 h.list λa b d=>?_;have :=Bv.neD (c:=c) (b:=.list []) ⟨a,b,by exact tQ ‹_› ‹_›⟩ ⟨Bl,rfl,DE rfl⟩;clear h a b d;cases(xs)<;>exact this
theorem UK(A:U Mem)(h:∀m∈A,∀x∈m,x<0x110000):Ee (A.map V.str) 0:=.of λd hd=>by
 refine AI (BO.mp hd) λm K P=>?_;subst P;have :=LB m (h m K);exact Cf this.1 this.2.1 (DE rfl)
theorem QH(x y:Z):(([x]:U Z)==[y])=(x==y):=by refine Iz Dt ?_;simp
theorem Fn{X:Type}{l:U X}{i:Z}(h:i<l.length):∃x t,l.drop i=x::t/\l[i]?=B x/\l.drop (i+1)=t:=by
 obtain⟨x,t,a⟩:∃x t,l.drop i=x::t:=Hn (by simp;exact kK ‹_›);refine Fs x t a ?_ ?_;· have :=Ic (xs:=l) (i:=i) (j:=0);rw[a]at this;simpa using this.symm
 ·refine CS EB (J a ?_);rfl
theorem GS{A s:Type}(f:A->s)(l:U A)(x:A):l.map f++[f x]=(l++[x]).map f:=by refine J DI rfl
theorem j5{c:Cx}(N:Nm c)(n:Z):Ef c (n+1) 92 (λS Q=>∃body,S=[.str body]/\body≠[]/\body.length<=1000/\(∀x∈body,x<0x110000)/\Q (I7 body).val):=by
  refine Ef.Mq ["body"] ["bar","at","members"] N N.set (λfd xH E hd hl=>HQ E hd hl λM=>by kernel_rfl) (by decide+kernel) λF S Q h₀ H f hn wv=>ba wv λbody z w p wx hq=>?_;clear wv;subst z;have N:=H.nm;refine⟨rfl,FT H 4 _ _ _ ?_⟩;generalize v:(body.headD 0==33)=wh;have xB:body[0]?=B (body.headD 0):=by clear p wx hq v;cases(body)<;>simp at w⊢
  refine AK _ (.str (.nat (j:=0) xB (by decide))) (Gx (σ':=[("body",.v (.str body)),("bar",.v (.bool wh))]) (by refine CS v (CS (QH _ _) ?_);rfl) ?_);let h:=if wh then 1 else 0;refine(?_:W1 _ _ _ _ _);refine EZ (H.st _ (by decide)) (WE.mono (Q:=(·=.int (h:O))) (vE.GH H ?_) λd hd=>?_);·exact AV (λe=>show V.int 1=.int (h:O)by simp[h,e]) (λe=>show V.int 0=.int (h:O)by simp[h,e])
  refine J hd (?_:W1 _ _ _ _ _);refine DN (H.st _ (by decide)) (N8.GH H ?_);refine AV (by decide) λa xI wq=>?_;let BV:Z->U V->AS:=λg S=>[("body",.v (.str body)),("bar",.v (.bool wh)),("at",.v (.int g)),("members",.own a S)];let xJ:Z->U Mem->AS:=λg A=>BV g (A.map V.str);let wg:=Ho (body.drop h);have wl:∀m∈wg,m≠[]:=λm hm=>Y2 _ m hm;have wm:∀m∈wg,∀x∈m,x<0x110000:=RB _ _ λx D=>wx x (eU D);have wj:wg.length<=1000:=AA (VW _) (AA (by refine J Bh (Cd _ _)) p);have wn:∀m∈wg,m.length<=3:=RA _;refine(?_:W1 _ _ _ _ _);refine Ki H (λk σ'=>∃(g:Z)(A:U Mem),σ'=xJ g A/\k=body.length+3-g/\g<=body.length+0/\A++Ho (body.drop g)=wg) _ ⟨h,[],rfl,rfl,by cases(wh)<;>simp[h];cases(body)<;>simp at w⊢,rfl⟩ λk σ' K R=>Dg R λg A P C X Y=>?_;clear R;subst P;subst C;intro M M Du;have wo:=AA (by refine CS Y (J AZ (As _ _))) wj;have hz:(A.map V.str).length<=Ay:=by refine J (AL _) (Wl wo)
  refine AK _ (.UI _ (WG p)) (AV (λu=>?_) λu=>?_)
  · have u:=fZ u;refine Cj (Fn u) λx t wr D i=>?_;have wt:g+1+t.length=body.length:=by refine CS i (J Bh (GK u))
    have wy:body.drop (g+2)=t.drop 1:=by refine CS i (J EB ?_);rfl
    have wu:(t.take 1==[45]&&B9 (g+2<body.length))=Gj t:=by
      cases t with|nil=>rfl|cons y t=>simp only[Ah]at wt;cases t with|nil=>refine J (Kd (by refine CS wt (CI _))) (J (pA _) ?_);rfl|cons b r=>simp only[Ah]at wt;refine J (DW (by exact tN ‹_›)) (J (KJ _) (QH y 45))
    refine(?_:W1 _ _ _ _ _);refine IU (DQ (DY (b:=t.take 1==[45]) (b':=B9 (g+2<body.length)) (vT.ok H ?_) (λM=>EM (vT.ok H ?_)) ?_));· refine AK _ (.str (Wl p)) ?_;have :=Ma body (g+1) (g+2);rw[i,eQ]at this;exact Aq (·==[45]) this
    ·exact AK _ (.UI _ (WG p)) (EN.mpr Bu)
    refine J wu (AV (λhr=>?_) λhr=>?_)
    · refine Eh (RM hr) λb r P=>?_;subst P;have hb:body[g+2]?=B b:=by
        have :=Ic (xs:=body) (i:=g+2) (j:=0);rw[wy]at this;exact this.symm
      have wz:=(Az.mp hb).1;have xC:body.drop (g+3)=r:=by
        have :body.drop (g+3)=(body.drop (g+2)).drop 1:=by refine J EB ?_;rfl
        refine J this (J wy ?_);rfl
      rw[wr,Ip]at Y;refine vS.ok H (?_:W1 _ _ _ _ _);refine W1.mono (Q:=λo σ'=>o=.next/\∃wi,σ'=xJ g wi/\wi++Ho r=wg) (Pg H ?_) ?_
      · refine AK _ (.str (.nat D (aG u p))) (AK _ (.str (.nat hb (aG wz p))) (AK _ (.fe [x] [b]) (AV (λT=>?_) λT=>?_)))
        · have T:=by rw[kN]at T;simpa using T
          rw[Ap T]at Y;refine(?_:W1 _ _ _ _ _);refine Ix H hz (AK _ (.str (Wl p)) ?_);have :=Ma body g (g+3);rw[wr,Cr]at this;exact⟨rfl,A++[[x,45,b]],Aq (λS=>BV g S) ((Aq (λl=>A.map V.str++[V.str l]) this).trans (GS V.str A [x,45,b])),by rewrite[Bw];exact Y⟩
        · have T:¬x<=b:=by rw[kN]at T;simpa using T
          rw[Ab T]at Y;exact⟨rfl,A,rfl,Y⟩
      · intro o σ' j;refine Aa j λxD G=>?_;clear j;refine AI G λwi z x8=>?_;clear G;subst z;subst xD;exact Du _ _ (BX (AY u (As _ 3)) (FG (by decide))) ⟨g+3,wi,rfl,rfl,wz,by refine J xC x8⟩
    · rw[wr,L9 x t hr]at Y;refine vS.ok H (?_:W1 _ _ _ _ _);refine Ix H hz (AK _ (.str (.nat D (aG u p))) ?_);exact Du _ _ (BX (AY u (As _ 3)) (B5 _)) ⟨g+1,A++[[x]],Aq (λS=>BV (g+1) S) (GS V.str A [x]),rfl,u,by refine J i ?_;rewrite[Bw];exact Y⟩
  · have u:=fb u;have Y:=by
      rw[BY (Bx u)]at Y;exact(BW A).symm.trans Y
    rw[<-Y]at wl wm wj wn;refine(?_:WS _ _ _ _ _);have q:I7 body=if wh=AD/\A≠[]/\(A.headD []).headD 0=33 then⟨AO,((A.headD []).drop 1).map (λx=>[x])++A.drop 1⟩else⟨wh,A⟩:=by
      have :(if wh then body.drop 1 else body)=body.drop h:=by cases(wh)<;>simp[h]
      refine J Y ?_;simp only[I7,v,this];rfl
    let E1:BC->U Mem->AS:=λb A=>[("body",.v (.str body)),("bar",.v (.bool b)),("at",.v (.int g)),("members",.v (.list (A.map V.str)))];refine FL (W1.mono (Q:=λo σ'=>o=.next/\((I7 body=⟨wh,A⟩/\σ'=xJ g A)\/∃wi,I7 body=⟨AO,wi⟩/\wi.length<=2000/\σ'=E1 AO wi)) (IU (DQ (DY (vT.ok H (rfl)) (λhb=>DY (b:=!A.isEmpty) (b':=(A.headD []).headD 0==33) (vT.ok H ?_) (λhm=>EM (vT.ok H ?_)) rfl) (AV (λf=>FT H 1 _ _ _ ?_) (λf=>Ng ?_))))) ?_);· refine(?_:WE _ _ _ _ _);refine Di (b:=a) rfl Be wq ?_;refine AV (by decide) (AK _ (.jN _ 0 (by decide) (UK A wm)) ?_);clear wn wj wm wl wo Y q;cases(A)<;>rfl
    · clear wn wj wm wo Y q;obtain⟨m,r,rfl⟩:∃m r,A=m::r:=Hn (by clear wl;intro s;subst s;exact J2 hm);have xE:=wl m AQ;refine(?_:WE _ _ _ _ _);refine Di (b:=a) rfl Be wq ?_;refine AK _ (.list (.nat (j:=0) (x:=.str m) rfl (by decide))) (AK _ (.str (.nat (j:=0) (Vn xE) (by decide))) ?_);exact QH (m.headD 0) 33
    · have f:=Fv f;have x9:=Fv f.2;clear wm wl wo Y;obtain⟨m,r,rfl⟩:∃m r,A=m::r:=Hn (by clear wn wj q;intro s;subst s;cases x9.1);have xA:=wn m AQ;have P:r.length<=1000:=E3 wj;refine(?_:WS _ _ _ _ _);refine FL (EZ (H.st _ (by decide)) (Lj CX (YR N.wf N.list (H.gl rfl) CX (Cz (OY CX (Ei (a:=a) rfl CX (vE.IB H ?_))) (λM=>rfl)))));refine Fs 0 (.str m) rfl (.nat (j:=0) rfl (by decide)) (vE.IB H ⟨1,rfl,AK _ (.str (AA xA (by decide))) ?_⟩);have xF:Kg m (B 1) AJ=m.drop 1:=UR m 1;have Vo:(m.drop 1).length<=3:=by refine J Bh ?_;exact AA (Cd _ _) xA
      refine J xF ?_;refine Er (AK _ (.fc _ (AA Vo (by decide))) (Ua (a:=a) rfl CX (by refine J (AL _) ?_;exact AA wj (by decide)) (vE.IB H ⟨1,rfl,?_⟩)));have xG:Kg ((m::r).map V.str) (B 1) AJ=r.map V.str:=UR _ 1;refine(?_:∃d,HR _ _ _ (V.list (Kg ((m::r).map V.str) (B 1) AJ)) d/\_);refine J xG ?_;refine AK _ (.XS _ _ (by refine J (AL _) ?_;refine J (AL _) ?_;exact AA (CR Vo P) (by decide))) (Ng ?_);refine⟨rfl,.inr ⟨(m.drop 1).map (λx=>[x])++r,?_,?_,?_⟩⟩;·refine J q ?_;refine J (Ap ⟨Pq f.1,l7 _ _,Fe x9.2⟩) ?_;rfl
      ·refine J AZ ?_;refine J (AL _) ?_;exact AA (CR Vo P) (by decide)
      ·simp only[E1,DI,EE];rfl
    · refine⟨rfl,.inl ⟨?_,rfl⟩⟩;refine J q ?_;rewrite[Ab];rfl;clear wn wj wm wl wo Y q;intro s;refine B7 s λhb hm I=>?_;clear s;have W:A.isEmpty=AD:=by
        clear f I;cases A with|nil=>exact B8 rfl hm|cons _ _=>rfl
      rw[hb,W,I]at f;exact NI f
    · rintro o σ'⟨rfl,⟨L,rfl⟩|⟨wi,L,hl,rfl⟩⟩;· refine vS.ok H ?_;refine(?_:WE _ _ _ _ _);refine Di (b:=a) rfl Be wq ?_;rw[L]at hq;exact AV (show 2<=_ by decide) hq
      · refine vS.ok H ?_;rw[L]at hq;exact AV (show 2<=_ by decide) hq
end
theorem Jw:∀(n:Z)(l:U Z),l.length<=n->(CY l).length<=l.length:=by
 intro n;induction n with|zero=>intro l h;have  :=F4 (by exact z50 ‹_›);subst this;rewrite[H7];simp|succ n I=>intro m;cases m with|nil=>intro h;rewrite[H7];simp|cons c R=>
      intro h;simp only[Ah]at h;by_cases W:c=42;·subst W;refine J (JV _) ?_;have :=I R (by exact z0 ‹_›);simp;exact z2 ‹_›
      · by_cases C:c=63;·subst C;refine J (Ka _) ?_;have :=I R (by exact z0 ‹_›);simp;exact z2 ‹_›
        · by_cases T:c=91;· subst T;cases f:DL R with|some e=>refine J (KZ R e f) ?_;have :=I (R.drop (e+1)) (by simp;exact iU ‹_›);simp at this⊢;exact pU ‹_›|none=>refine J (HP _ _ W C λM=>f) ?_;have :=I R (by exact z0 ‹_›);simp;exact z2 ‹_›
          ·refine J (HP _ _ W C λe=>B8 e T) ?_;have :=I R (by exact z0 ‹_›);simp;exact z2 ‹_›
theorem bU{c:Cx}(N:Nm c)(n:Z):Ef c (n+2) 99 (λS Q=>∃A,S=[.str A]/\A.length<=1000/\(∀x∈A,x<0x110000)/\Q (.list ((CY A).map It.val))):=by
  refine Ef.Mq ["pattern"] ["at","sign","end","items"] N N.items (λfd l E hd hl=>HQ E hd hl λM=>by kernel_rfl) (by decide+kernel) λF S Q h₀ H f hn b=>DU b λA z p wo hq=>?_;clear b;subst z;have q:=j5 N n;rw[<-f,<-hn]at q;have N:=H.nm;refine⟨rfl,vS.ok H ?_⟩;have wq:=AA (Jw _ _ (AN _)) p;refine DN (H.st _ (by decide)) (N8.GH H ?_);refine AV (by decide) λa wy w=>?_;let BV:Z->U V->AS:=λg S=>[("pattern",.v (.str A)),("items",.own a S),("at",.v (.int g))];let x8:Z->U It->AS:=λg wg=>BV g (wg.map It.val);let T:V->V->AS:=λs e=>[("sign",.v s),("end",.v e)];let Inv:=λk σ'=>∃(g:Z)(wg:U It)(v:AS),σ'=x8 g wg++v/\(v=[]\/∃s e,v=T s e)/\k=A.length-g/\g<=A.length/\wg++CY (A.drop g)=CY A;refine Ki H Inv _ ⟨0,[],[],rfl,.inl rfl,rfl,Ao _,rfl⟩ λk σ' K R=>UA R λg wg v wr wm wt wz Y=>?_;clear R;subst wr;subst wt;intro M M Du;have wu:=AA (by refine CS Y (J AZ (As _ _))) wq;refine AK _ (.UI _ (WG p)) (AV (λu=>?_) (λu=>?_))
  · have u:=fZ u;refine Cj (Fn u) λx t wh D i=>?_;have wi:g+1+t.length=A.length:=by refine CS i (J Bh (GK u))
    refine AK _ (.str (.nat D (aG u p))) (OX Je dU (vE.IB H ?_));refine AK _ rfl (Cz (vE.IB H ?_) (λM=>rfl));refine Cz (Lj Be (vE.IB H ?_)) (λM=>rfl);refine WE.mono (Q:=(·=.int ((if t.headD 0==33 then 2 else 1:Z):O))) (vE.IB H ?_) λd hd=>?_
    · refine AK _ (.str (AA p (by decide))) ?_;have hb:(Kg A (B ((g:O)+1)) (B ((g:O)+1+1))==[33])=(t.headD 0==33):=by
        have :=Ma A (g+1) (g+2);rw[i,eQ]at this;refine(Aq (·==[33]) this).trans ?_;clear wh i wi this;cases t with|nil=>rfl|cons y r=>exact QH y 33
      refine CS hb (AV (λh=>(J (show(_==_)=AO from h) rfl)) (λh=>(J (show(_==_)=AD from h) rfl)))
    refine J hd (AK _ (.dB _ _) (Er ?_));have e1:((g:O)+1+((if t.headD 0==33 then 2 else 1:Z):O))=((g+1+(if t.headD 0==33 then 2 else 1):Z):O):=rfl;refine J e1 (F8 _ (.find3 A 93 _) Bl ?_);have I:E6 A 93 (g+1+(if t.headD 0==33 then 2 else 1)) A.length=(DL t).map (g+1+·):=by
      refine J (TF _ _ _ _ u) (J i ?_);rfl
    refine J I ?_;have L:∀e:V,(((x8 g wg++v).put "sign" (.v (.str [x]))).put "at" (.v (.int ((g:O)+1)))).put "end" (.v e)=x8 (g+1) wg++T (.str [x]) e:=by
      intro e;focus(refine AC wm ?_ ?_;rotate_left;(focus(clear wm;intro X;refine Eh X λs' e' P=>?_;clear X;subst P));rotate_right;(focus(clear wm;intro X;subst X)))<;>rfl
    refine Gx (L _) ?_;clear L wm;rw[wh]at Y;have wj:∀(o:Z)(it:It)(S:U V),S=wg.map It.val++[it.val]->g<o->o<=A.length->wg++it::CY (A.drop o)=CY A->K .next (BV o S++T (.str [x]) (.int (ZK ((DL t).map (g+1+·))))):=λo it S e W C h3=>Du _ _ (BX (AY W C) W) ⟨o,wg++[it],_,Aq (λS=>BV o S++_) (e.trans (GS It.val wg it)),.inr ⟨_,_,rfl⟩,rfl,C,by rewrite[Bw];exact h3⟩;have hz:(wg.map It.val).length<=Ay:=by refine J (AL _) (AA wu (by decide))
    refine(?_:W1 _ _ _ _ _);refine Pg H (AV (λj=>?_) (λj=>?_));· have :x=42:=RU j;clear wh j;subst this;rw[JV]at Y;refine(?_:W1 _ _ _ _ _);refine Ix H hz (wj (g+1) AJ _ rfl (B5 _) u (by refine J i Y))
    · have j:x≠42:=RV j;refine(?_:W1 _ _ _ _ _);refine Pg H (AV (λm=>?_) (λm=>?_));· have :x=63:=RU m;subst this;rw[Ka]at Y;refine(?_:W1 _ _ _ _ _);refine Ix H hz (AV (show 0<=_ by decide) (AV (show 2<=_ by decide) ?_));exact wj (g+1) (B ⟨AO,[]⟩) _ rfl (B5 _) u (by refine J i Y)
      · have m:x≠63:=RV m;have G:B9 ((0:O)<=ZK ((DL t).map (g+1+·)))=(DL t).isSome:=by
          cases DL t with|none=>rfl|some e=>exact DW (BS (g+1+e))
        refine(?_:W1 _ _ _ _ _);refine IU (DQ (DY (vT.ok H (QH x 91)) (λM=>EM (vT.ok H G)) (AV (λf=>?_) (λf=>?_))))
        · rw[Bs,BG]at f;clear wh j m;refine Aa f ?_;clear f;intro wv f;subst wv;refine Aw (Bt.mp f) λe wn=>?_;have wl:=Hp wn;rw[KZ t e wn]at Y;rw[wn]at wj⊢;refine vS.ok H (?_:W1 _ _ _ _ _);refine Ir rfl hz (MJ H N.set q CX ?_) (hi:=H.ni);refine AK _ (.str (AA p (by decide))) ?_;have f:Kg A (B ((g+1:Z):O)) (B ((g+1+e:Z):O))=t.take e:=by
            rewrite[Ma];refine J i (J (Cr _ _) ?_);rfl
          have wx:=AA (Ot e t) (AA (Bp _ (g+1)) (AA (B6 wi) p));refine jS (t.take e) (Aq (λd=>[V.str d]) f) (λh=>by have :=Aq DF h;rw[Ci,BU]at this;exact DR wl.1 ((Ck (BE wl.2)).symm.trans this)) wx (λy hy=>wo y ?_) ?_;· have :=U.mem_of_mem_take hy;rw[<-i]at this;exact eU this
          · refine wj (g+1+e+1) (B (I7 (t.take e))) _ rfl (DA (AA (BH g) (As ..))) (AA (E0 wl.2 (g+1)) (B6 wi)) ?_;have :A.drop (g+1+e+1)=t.drop (e+1):=by refine CS i (J EB ?_);rfl
            refine J this Y
        · rw[HP x t j m (λe=>by clear Y wh j m;subst e;simpa using f)]at Y;refine vS.ok H (?_:W1 _ _ _ _ _);refine Ix H hz (AV (show 1<=_ by decide) (AV (show 2<=_ by decide) ?_));exact wj (g+1) (B ⟨AD,[[x]]⟩) _ rfl (B5 _) u (by refine J i Y)
  · have u:=fb u;have Y:=by
      rw[BY (Bx u),H7,BW]at Y;exact Y
    refine Di rfl Be w (J Y hq)
section
theorem fL{c:Cx}(N:Nm c)(n:Z):Ef c (n+1) 142 (λS Q=>∃i,S=[.int i]/\Q (.str [Ih i])):=by
 refine Ef.Mq ["number"] ["code"] N N.wide (λfd l E hd g=>HQ E hd g λM=>by kernel_rfl) (by decide+kernel) λF S Q h₀ H f p b=>AI b λi z u=>?_;clear b;subst z;refine⟨rfl,vS.ok H ?_⟩;have h0:=JG i (b:=1112064) (by decide);have W:=Qi i (b:=1112064) (by decide);have a:Ih i<=1114111:=by unfold Ih;dsimp only;split<;>(first|exact sq ‹_›|exact so ‹_›|omega)
 refine AK _ (.mod _ _ (by decide)) ?_;have I:∀k:O,k=(Ih i:O)->∃d,Do F.c (.builtin "chr") [.int k] d/\Q d:=λk e=>by
  refine J e (AK _ (.chr _ a) u)
 refine AV (λh=>I _ ?_) (λh=>I _ ?_);· have h:=Bq h;simp only[Ih];refine J (Ap (by exact sw ‹_›)) (J (I6 h0) ?_);rfl
 · have h:=IV h;simp only[Ih];refine J (Ab (by exact sv ‹_›)) (J (O.natCast_add _ _) (J (I6 h0) ?_));rfl
noncomputable def JU(r:U Cl):V:=.list (r.map Cl.val)
theorem U2(a:Z)(b:O):Cq a b=((Ar (b-a).toNat).map (a+·)).map λ(i:Z)=>V.int i:=by
 simp[Cq,EE,MA]
namespace Takes
noncomputable def ZQ(x:BA)(a:AW)(Y:U V):AS:=[(x,.own a Y)]
noncomputable def T3(b:AS):Prop:=b=[]\/∃v,b=Dz "p" v
noncomputable def T2(v:AS):Prop:=v=[]\/∃a Y b,v=ZQ "fits" a Y++b/\T3 b
noncomputable def T1(v:AS):Prop:=v=[]\/∃s b,v=Dz "size" s++b/\T2 b
noncomputable def T0(v:AS):Prop:=v=[]\/∃k b,v=Dz "k" k++b/\T1 b
theorem T0.put{v:AS}(h:T0 v)(d:V):∃b,v.put "k" (.v d)=Dz "k" d++b/\T1 b:=by
 refine AC h (λX=>?_) λX=>?_;·clear h;subst X;exact AK [] rfl (.inl rfl)
 ·clear h;refine Au X λk b P h=>?_;clear X;subst P;exact AK b rfl h
theorem T1.put{v:AS}(h:T1 v)(d:V):∃b,v.put "size" (.v d)=Dz "size" d++b/\T2 b:=by
 refine AC h (λX=>?_) λX=>?_;·clear h;subst X;exact AK [] rfl (.inl rfl)
 ·clear h;refine Au X λk b P h=>?_;clear X;subst P;exact AK b rfl h
theorem T2.put{v:AS}(h:T2 v)(a:AW)(Y:U V):∃b,v.put "fits" (.own a Y)=ZQ "fits" a Y++b/\T3 b:=by
 refine AC h (λX=>?_) λX=>?_;·clear h;subst X;exact AK [] rfl (.inl rfl)
 ·clear h;refine H4 X λM M b C h=>?_;clear X;subst C;exact AK b rfl h
theorem T3.put{v:AS}(h:T3 v)(d:V):v.put "p" (.v d)=Dz "p" d:=by
 focus(refine AC h ?_ ?_;rotate_left;(focus(clear h;intro X;refine Aw X λM z=>?_;clear X;subst z));rotate_right;(focus(clear h;intro X;subst X)))<;>rfl
end Takes
open Takes
theorem Rc(n:Z)(g:Z->BC):(!(((Ar n).map g).contains AD))=(Ar n).all g:=by
 induction Ar n with|nil=>rfl|cons a b I=>refine J Bo (J Gv (J Yo (CS I ?_)));cases g a<;>simp
theorem R1{c:Cx}(N:Nm c)(n:Z):Ef c (n+2) 135 (λS Q=>∃w name,S=[.list (w.map JU),.str name]/\(∀r∈w,(∀t∈r,t.Ok)/\r.length<=1000)/\w.length<=1000/\name.length<=1000/\Q (.bool (EI w name))):=by
  refine Aa N.takes λM xD=>Au xD λo fd D hd=>Ef.NZ (names:=["runs","name"]) N.wf D rfl rfl rfl (by decide) hd (λfd l E hd hl=>GU E hd hl λM M=>by kernel_rfl) (by decide+kernel) λL Y q cd S Q h₀ wz=>Jt wz λw name P xE x wr u=>?_;clear wz;subst P;refine⟨rfl,?_⟩;let F:=Fx.fn c (n+1) (E8 22).scope 135 L Y q cd;have H:VH F (E8 22).scope ["at","k","size","fits","p"]:=⟨N,AT.mpr ⟨by first|exact Z7 rfl rfl|exact Z6 rfl rfl rfl|exact iq rfl rfl rfl|exact ip rfl rfl rfl,AT.mpr ⟨by first|exact Z7 rfl rfl|exact Z6 rfl rfl rfl|exact iq rfl rfl rfl|exact ip rfl rfl rfl,AT.mpr ⟨by first|exact Z7 rfl rfl|exact Z6 rfl rfl rfl|exact iq rfl rfl rfl|exact ip rfl rfl rfl,AT.mpr ⟨by first|exact Z7 rfl rfl|exact Z6 rfl rfl rfl|exact iq rfl rfl rfl|exact ip rfl rfl rfl,AT.mpr ⟨by first|exact Z7 rfl rfl|exact Z6 rfl rfl rfl|exact iq rfl rfl rfl|exact ip rfl rfl rfl,De _⟩⟩⟩⟩⟩,rfl,rfl⟩;refine(?_:WS F _ _ _ _);refine vS.ok H ?_;let s:Z->AS:=λg=>[("runs",.v (.list (w.map JU))),("name",.v (.str name)),("at",.v (.int g))];let m:=w.length;have wo:((w.map JU).length:O)<2^63:=by refine J (AL _) (WG x)
  refine(?_:W1 _ _ _ _ _);refine Yz H 4 (λi σ'=>∃(g:Z)(v:AS),σ'=s g++v/\T0 v/\g<=name.length/\Jh name m (w.drop i) i g=EI w name) (H.st _ (by decide)) (AK _ (.PP _ wo) (AK _ (.JM _) ⟨_,.NX _ (by refine J (AL _) (AA x (by decide))),⟨0,[],rfl,.inl rfl,Ao _,rfl⟩,?_,?_⟩))
  · intro I i σ' d K H' hI hd wj;refine Dg wj λg v P A X wg=>?_;clear wj;subst P;intro M ret Du;obtain⟨hi,rfl⟩:i<w.length/\V.int (i:O)=d:=by
      rw[B3]at hd;refine AI (BK.mp hd) λj hj P=>?_;subst P;rcases(Az.mp hj)with⟨W,h2⟩;simp at W h2;exact⟨W,by refine J h2 rfl⟩
    refine AI (A.put (.int i)) λxF e1 W=>Gx (σ':=s g++(Dz "k" (.int i)++xF)) (by refine CS e1 rfl) (Cj (Fn hi) λr rs xG hr xH=>?_);have xI:=By hr;refine Aa (xE r xI) λx8 wh=>?_;have x9:(w.map JU)[i]?=B (JU r):=by refine J B3 (J hr ?_);rfl
    rw[xG]at wg;refine AK _ (.list (.nat x9 (aG hi x))) (AK _ (.PP _ (by refine J (AL _) (WG wh))) ?_);refine AI (W.put (.int r.length)) λxJ e2 h2=>Gx (σ':=s g++(Dz "k" (.int i)++(Dz "size" (.int r.length)++xJ))) (by refine J (AL _) (CS e2 ?_);rfl) (?_:W1 _ _ _ _ _);refine DN (H'.st _ (by decide)) (N8.GH H' ?_);refine AV (by decide) λa xK xL=>AI (h2.put a []) λxA y T=>Gx (σ':=s g++(Dz "k" (.int i)++(Dz "size" (.int r.length)++(ZQ "fits" a []++xA)))) (by refine CS y rfl) ?_;let GV:=λS=>s g++(Dz "k" (.int i)++(Dz "size" (.int r.length)++ZQ "fits" a S));let G:U Z->AS:=λfs=>GV (fs.map λ(p:Z)=>V.int p);let pos:=Qk name r g;have wq:∀p∈pos,p+r.length<=name.length:=by
      intro p E;refine AI (BO.mp E) λj hj P=>?_;subst P;have :=Cp.mp hj;exact sm ‹_›
    have wt:pos.length<=1001:=by simp[pos,Qk];exact sk ‹_›
    refine(?_:W1 _ _ _ _ _);refine Yz H' 999 (λj σ'=>∃pl,σ'=G ((pos.take j).filter (Lm name r i m))++pl/\T3 pl) (H'.st _ (by decide)) (AK _ (.UI _ (WG wr)) ?_);have xB:Cq (g:O) ((name.length:O)-(r.length:O)+1)=pos.map λ(p:Z)=>V.int p:=by
      refine J (U2 _ _) ?_;have :((name.length:O)-(r.length:O)+1-(g:O)).toNat=name.length+1-r.length-g:=by exact sj
      refine J this rfl
    have xM:HX (F.hold I).c (Kl (g:O) ((name.length:O)-(r.length:O)+1)) (pos.map λ(p:Z)=>V.int p):=by
      refine CS xB (.range _ _ (L4 _ _ (by exact vp) (by exact si ‹_› ‹_›) (by exact sh ‹_›) (by exact sg ‹_›)))
    refine AK _ (.j3 _ _) ⟨_,xM,⟨xA,rfl,T⟩,?_,?_⟩
    · intro I2 j σ' d K H2 xQ hd wj;refine AI wj λpl z wu=>?_;clear wj;subst z;intro M M Du;obtain⟨p,E,rfl⟩:∃p,pos[j]?=B p/\V.int (p:O)=d:=by
        rw[B3]at hd;exact BK.mp hd
      have wv:=wq p (By E);have hs:∀fs,(G fs++pl).put "p" (.v (.int p))=G fs++Dz "p" (.int p):=λfs=>by refine CS (wu.put (.int p)) rfl
      refine Gx (hs _) ?_;have wl:(pos.take (j+1)).filter (Lm name r i m)=(pos.take j).filter (Lm name r i m)++if Lm name r i m p then[p]else[]:=by
        refine J DM (J E (J (U.filter_append _ _) ?_));simp[N7]
      generalize wi:(pos.take j).filter (Lm name r i m)=fs at wl⊢;have e:fs.length<=1001:=by
        refine CS wi (AA (HU _ _) (AA (by refine J Ci (Db ..)) wt))
      have wx:∀(b:BC)(S:U V),b=Lm name r i m p->S=(fs++if b then[p]else[]).map (λ(p:Z)=>V.int p)->K .next (GV S++Dz "p" (.int p)):=λb S hb hv=>Du _ ⟨Dz "p" (.int p),by refine J wl (CS hb ?_);refine J hv ?_;rfl,.inr ⟨_,rfl⟩⟩;refine(?_:W1 _ _ _ _ _);refine IU (DQ (DY (b:=B9 (0<i)||p==0) (b':=B9 (i+1<m)||p+r.length==name.length) ?_ (λM=>EM ?_) (AV (λf=>vS.ok H2 ?_) (λf=>vS.ok H2 (wx AD _ (by simp only[Lm,f,LY]) (by refine J (Ab (by decide)) ?_;refine J (BW _) ?_;rfl))))))
      · refine DQ (Mf (b:=B9 (0<i)) (b':=p==0) (vT.ok H2 ?_) (λM=>Mg (vT.ok H2 ?_)) rfl);·exact EN.mpr Bu
        · refine(?_:((p:O)==0)=_);refine Iz Dt ?_;refine Iz BG ?_;refine Iz BG ?_;exact MH
      · refine DQ (Mf (b:=B9 (i+1<m)) (b':=p+r.length==name.length) (vT.ok H2 ?_) (λM=>Mg (vT.ok H2 ?_)) rfl);· refine AK _ (.PP _ wo) ?_;refine(?_:B9 ((i:O)<((w.map JU).length:O)-1)=_);refine Iz EN ?_;refine J (AL _) ?_;exact⟨λh=>Bu.mp (WX h),λh=>WW (Bu.mpr h)⟩
        · refine AK _ (.UI _ (WG wr)) ?_;refine(?_:((p:O)+(r.length:O)==(name.length:O))=_);refine Iz Dt ?_;refine Iz BG ?_;refine Iz BG ?_;exact MH
      · refine(?_:W1 _ _ _ _ _);refine IU (Kq (vE.IB H2 ?_));refine F9 (λd=>match d with|.int k=>B (.bool ((r.getD k.toNat ⟨AD,[]⟩).hit (name.getD (p+k.toNat) 0)))|_=>AJ) Be rfl rfl rfl rfl rfl (λb hb=>(show b=a by simpa[G,GV,s,Dz,ZQ,CT]using hb)▸xK) (vE.GH H2 ?_);refine AK _ (.JM _) ⟨_,.NX _ (AA wh (by decide)),by refine J (AL _) ?_;refine J CW ?_;exact Wl wh,?_,?_⟩
        · intro C xR d hd M M;refine AI (BO.mp hd) λk R P=>?_;subst P;have R:k<r.length:=by simpa using R
          have xC:p+k<name.length:=AY (E0 R p) wv;have xN:(r.map Cl.val)[k]?=B (r.getD k ⟨AD,[]⟩).val:=by refine J B3 ?_;refine J AG ?_;refine J (AP R) ?_;rfl
          have xO:name[p+k]?=B (name.getD (p+k) 0):=by refine J AG ?_;refine J (AP xC) ?_;rfl
          refine KE ⟨(λh=>NI h),λM=>MJ (VH.comp N) N.hit (bV N n) CX ?_⟩;exact AK _ (.list (.nat x9 (aG hi x))) (AK _ (.list (.nat xN (aG R wh))) (AK _ (.str (.nat (j:=p+k) xO (aG xC wr))) ⟨_,_,rfl,x8 _ (by refine J AG ?_;refine J (AP R) ?_;exact Gc R),rfl⟩))
        · refine J (H8 _ (λk=>V.bool ((r.getD k ⟨AD,[]⟩).hit (name.getD (p+k) 0))) _ λm M=>rfl) ?_;have wy:=Bv.X3 (c:=F.c) AD ((Ar r.length).map λk=>(r.getD k ⟨AD,[]⟩).hit (name.getD (p+k) 0));simp only[QP,EE,MA]at wy;have xP:Lm name r i m p=(Ar r.length).all λk=>(r.getD k ⟨AD,[]⟩).hit (name.getD (p+k) 0):=by
           simp only[Lm,f,BC.true_and];rfl
          have wm:=Rc r.length λk=>(r.getD k ⟨AD,[]⟩).hit (name.getD (p+k) 0);rw[wm,<-xP]at wy;refine AK _ wy (AV (λhb=>vS.ok H2 ?_) λhb=>vS.ok H2 ?_);· refine(?_:W1 _ _ _ _ _);refine Ix (a:=a) (ys:=fs.map λ(p:Z)=>V.int p) H2 (by refine J (AL _) ?_;exact AA e (by decide)) ?_;exact wx AO _ hb.symm (GS (λ(p:Z)=>V.int p) fs p)
          ·exact wx AD _ hb.symm (by refine J (Ab (by decide)) ?_;refine J (BW _) ?_;rfl)
    · intro σ' wn;refine AI wn λpl z wu=>?_;clear wn;subst z;have wm:(pos.take (pos.map λ(p:Z)=>V.int p).length).filter (Lm name r i m)=MZ name r i m g:=by
        refine J (AL _) ?_;refine J GZ ?_;rfl
      refine J wm ?_;generalize wi:MZ name r i m g=fs;simp only[Jh,wi]at wg;refine(?_:W1 _ _ _ _ _);refine Pg H' ?_;refine(?_:WE _ _ _ _ _);refine Di (b:=a) rfl Be xL ?_;refine AV (by decide) (AK _ (.hO _) (AV (λhe=>?_) λhe=>?_))
      · have :fs=[]:=by clear wi wg;cases(fs)<;>simp at he⊢
        rw[this]at wg;exact ret _ _ (by rw[<-wg]at u;exact u)
      · obtain⟨p,ps,rfl⟩:∃p ps,fs=p::ps:=by clear wi wg;cases(fs)<;>simp at he⊢
        have wv:p+r.length<=name.length:=wq p (by
          have :p∈MZ name r i m g:=by refine J wi ?_;exact AQ
          exact(C0.mp this).1);refine(?_:WS _ _ _ _ _);refine FL (EZ (H'.st _ (by decide)) (Lj CX (Ei (a:=a) rfl CX (vE.IB H' ?_))));refine Fs 0 _ rfl (.nat (j:=0) (x:=.int p) rfl (by decide)) (vE.GH H' (AK _ (.dB _ _) (Ng ?_)));refine Du _ ⟨p+r.length,Dz "k" (.int i)++(Dz "size" (.int r.length)++(ZQ "fits" a (((p::ps).map λ(p:Z)=>V.int p))++pl)),rfl,.inr ⟨_,_,rfl,.inr ⟨_,_,rfl,.inr ⟨_,_,_,rfl,wu⟩⟩⟩,wv,?_⟩;refine J xH ?_;exact wg
  · intro σ' wn;refine Dg wn λg v P M M wg=>?_;clear wn;subst P;have :w.drop ((Ar (w.map JU).length).map λ(i:Z)=>V.int i).length=[]:=by simp
    rw[this]at wg;refine(?_:Q _);rw[<-wg]at u;exact u
end
section
theorem J0{X:Type}{l r:U X}{i j:Z}{x:X}(h:l.drop i=r)(D:r[j]?=B x):l[i+j]?=B x:=by
 rw[<-h,Ic]at D;exact D
theorem Fu{X:Type}{l r:U X}{i:Z}(h:l.drop i=r)(j:Z):l.drop (i+j)=r.drop j:=by
 refine CS h (J EB ?_);rfl
theorem OR{X:Type}{l r:U X}{i:Z}(h:l.drop i=r)(hi:i<=l.length):i+r.length=l.length:=by
 refine CS h (J Bh (gh ‹_›))
theorem TJ{t:U Z}{x:Z}{o:BC}{r:U Z}(h:NA (92::t)=B (x,o,r)):t=x::r/\o=QG x:=by
 refine AC (VN h) (λX=>(B7 X λq e M=>B8 (MG e).1.symm q)) λX=>(Aa X λe q=>⟨(MG e).2,q⟩)
namespace Cls
noncomputable def T(a:AS):Prop:=a=[]\/∃v,a=Dz "one" v
theorem T.put{v:AS}(h:T v)(d:V):v.put "one" (.v d)=Dz "one" d:=by
 focus(refine AC h ?_ ?_;rotate_left;(focus(clear h;intro X;refine Aw X λM z=>?_;clear X;subst z));rotate_right;(focus(clear h;intro X;subst X)))<;>rfl
end Cls
open Cls
theorem jd(x y:Z):(([x]:U Z)!=[y])=(x !=y):=by simp[bne,QH]
theorem Zl{l:U Z}{k x:Z}(g:l.length<=100000)(h:l[k]?=B x):k<2^63:=AY (Az.mp h).1 (AA g (by decide))
theorem bW{c:Cx}(N:Nm c)(n:Z):Ef c (n+2) 123 (λS Q=>∃u wi cl o R,S=[.str u,.int (wi:Z)]/\u.length<=100000/\wi<=u.length/\HJ (u.drop wi)=B (cl,o,R)/\∀wz:Z,wz<=u.length->u.drop wz=R->Q (.tup [cl.val,.int wz,.bool o])):=by
  refine Ef.Mq ["text","at"] ["at","bar","odd","one","members"] N N.cls (λfd l E hd hl=>GU E hd hl λM M=>by kernel_rfl) (by decide+kernel) λF S Q h₀ H f hn xU=>R5 xU λu wi cl oA R xk p xV wj hq=>?_;clear xU;subst xk;have xJ:=(Xu N).less (m:=n+1) (by exact z5);rw[<-f,<-hn]at xJ;have N:=H.nm;refine⟨rfl,vS.ok H ?_⟩;obtain⟨y,t,x8⟩:∃y t,u.drop wi=y::t:=by
    cases h:u.drop wi with|nil=>rw[h]at wj;exact Eb wj|cons y t=>exact Io y t rfl
  rw[x8]at wj;have xK:u[wi]?=B y:=J0 (j:=0) x8 rfl;refine AK _ (.str (.nat xK (Zl p xK))) ?_;let B0:Z->AS:=λg=>[("text",.v (.str u)),("at",.v (.int g)),("bar",.v (.bool (y==94)))];let wh:=wi+(if y=94 then 1 else 0);have xW:=OR x8 xV;simp only[Ah]at xW;refine Gx (σ':=B0 wi) (Aq (λb=>([("text",.v (.str u)),("at",.v (.int wi)),("bar",.v (.bool b))]:AS)) (QH y 94)) (?_:W1 _ _ _ _ _);refine W1.mono (Q:=λo' σ'=>o'=.next/\σ'=B0 wh) (Pg H ?_) ?_
  · refine AV (λhb=>?_) (λhb=>?_);· have  :=Fe hb;exact⟨rfl,by simp only[wh,Ap this];rfl⟩
    · have :¬y=94:=Un hb;exact⟨rfl,by simp only[wh,Ab this];rfl⟩
  intro o' σ' j;refine Aa j λD wq=>?_;clear j;subst D;subst wq;obtain⟨A,oT,x9,xX⟩:∃A oT,GR AO (u.drop wh)=B (A,oT,R)/\cl=⟨y==94,A⟩/\oA=oT:=by
    have xl:u.drop wh=if y=94 then t else y::t:=by
      by_cases h:y=94;·simp only[wh,Ap h];exact Fu x8 1
      ·simp only[wh,Ab h];exact x8
    refine J xl ?_;clear hq;refine AI (BK.mp wj) λd h e=>?_;rcases d with⟨A,o',r'⟩;clear wj;refine dh e ?_;clear e;intro wl i wm;induction wl using EC;induction i using EC;induction wm using EC;exact Fs _ _ h rfl rfl
  refine Aa xX λD wq=>?_;clear xX;subst D;subst wq;have xA:wh<=u.length:=by simp only[wh];split<;>(first|exact z8 ‹_›|exact sI ‹_›|omega)
  generalize xL:wh=wz at x9 xA⊢;clear xL wj xK xW wh;refine(?_:W1 _ _ _ _ _);refine DN (H.st _ (by decide)) (N8.GH H ?_);refine AV (by decide) λa yB xY=>?_;let BV:Z->U V->BC->AS:=λg S o=>[("text",.v (.str u)),("at",.v (.int g)),("bar",.v (.bool (y==94))),("members",.own a S),("odd",.v (.bool o))];let yC:Z->U Mem->BC->AS:=λg A o=>BV g (A.map V.str) o;refine(?_:W1 _ _ _ _ _);refine Ki H (λk σ'=>∃(g:Z)(done xB:U Mem)(od ot:BC)(v:AS),σ'=yC g done od++v/\T v/\k=u.length-g/\g<=u.length/\done.length<=g/\GR done.isEmpty (u.drop g)=B (xB,ot,R)/\done++xB=A/\(od||ot)=oA) _ ⟨wz,[],A,AD,oA,[],rfl,.inl rfl,rfl,xA,Ao _,x9,rfl,rfl⟩ λk σ' K xZ=>jD xZ λg done xB od ot v xm xc xn xM xF hm Y xG=>?_;clear xZ;subst xm;subst xn;intro M M Du;clear x9 xA;obtain⟨x,r,wr⟩:∃x r,u.drop g=x::r:=by
    cases h:u.drop g with|nil=>rw[h,Sf]at hm;exact Eb hm|cons y t=>exact Io y t rfl
  have xC:u[g]?=B x:=J0 (j:=0) wr rfl;have xd:=OR wr xM;simp only[Ah]at xd;rw[wr]at hm;refine(?_:WT _ _ _ _);refine DQ (Mf (b:=done.isEmpty) (Kq ?_) (λM=>Mg (vT.ok H (AK _ (.str (.nat xC (Zl p xC))) (jd x 93)))) (AV (λf=>?_) (λf=>?_)));· refine Di rfl Be xY (vE.IB H ?_);refine AV (by decide) (AK _ (.hO _) ?_);clear xF Y hm;cases(done)<;>rfl
  ·
    have xD:done.isEmpty=AO\/x≠93:=by simpa using f
    rw[Jv _ _ _ xD]at hm;clear hq f xD;refine AI (B1.mp hm) λd xe hm=>?_;rcases d with⟨m,o1,r1⟩;refine AI (BK.mp hm) λd xN hm=>?_;rcases d with⟨xo,o2,xp⟩;refine dh hm ?_;clear hm;intro wl i wm;induction wl using EC;induction i using EC;induction wm using EC;clear hm;refine Ge (Va xe) λx1 ox z rz W wn=>?_;clear xe;refine(?_:W1 _ _ _ _ _);refine W1.mono (Q:=λo' σ'=>o'=.next/\∃wg,σ'=yC wg done (od||ox)++v/\g<=wg/\wg<=u.length/\u.drop wg=x1::z::rz) (Pg H ?_) ?_
    · refine AK _ (.str (.nat xC (Zl p xC))) (AV (λhb=>?_) (λhb=>?_));· rw[RU hb]at W;refine Aa (TJ W) λe1 I=>?_;have wt:=J0 (j:=1) wr (by refine J e1 rfl);refine(?_:W1 _ _ _ _ _);refine EZ (H.st _ (by decide)) (Rm (vE.GH H (rfl)) (λM=>GC (MJ H N.word xJ CX (AK _ (.str (.nat wt (Zl p wt))) (AK x1 rfl rfl)))) ⟨rfl,g+1,by refine J I rfl,BH _,(Az.mp wt).1|>BE,(Fu wr 1).trans e1⟩)
      · have hb:=RV hb;rw[KX hb]at W;clear xd wn;replace W:=EY W;refine dh W ?_;clear W;intro wl i wm;induction wl using EC;induction i using EC;induction wm using Tb;exact⟨rfl,g,by refine J (QT _) rfl,AN _,xM,wr⟩
    intro o' σ' j;refine Aa j λD G=>?_;clear j;refine DU G λwg wq xf xO wu=>?_;clear G;subst wq;subst D;have xP:u[wg]?=B x1:=J0 (j:=0) wu rfl;have xQ:=OR wu xO;simp only[Ah]at xQ;refine AK _ (.str (.nat xP (Zl p xP))) ?_;have L:(yC wg done (od||ox)++v).put "one" (.v (.str [x1]))=yC wg done (od||ox)++Dz "one" (.str [x1]):=by refine CS (xc.put (.str [x1])) rfl
    refine Gx L ?_;clear L xc;have wv:u.drop (wg+1)=z::rz:=Fu wu 1;have xH:u[wg+1]?=B z:=J0 (j:=0) wv rfl;have xR:z=45->∃w rw,rz=w::rw:=by
      clear W wu xQ wv xH;intro s;subst s;cases rz with|nil=>refine AC wn (λX=>(Aa X λh M=>B8 ⟨rfl,(by intro xr;exact Eb xr)⟩ h)) λX=>?_;·refine H4 X λM M M h M=>Eb h|cons w rw=>exact Io w rw rfl
    refine(?_:W1 _ _ _ _ _);refine W1.mono (Q:=λo' σ'=>o'=.next/\∃wo m' o3,σ'=yC wo done (od||o3)++Dz "one" (.str m')/\wg+1<=wo/\wo<=u.length/\u.drop wo=r1/\m'=m/\o3=o1) (IU (DQ (DY (b':=rz.headD 0 !=93) (vT.ok H (AK _ (.str (.nat xH (Zl p xH))) (QH z 45))) (λhz=>EM (vT.ok H ?_)) (AV (λhb=>vS.ok H ?_) (λhb=>vS.ok H ?_))))) ?_;· clear W wn wu;refine Eh (xR (Fe hz)) λw xS P=>?_;subst P;have wx:=J0 (j:=1) wv rfl;exact AK _ (.str (.nat (j:=wg+1+1) wx (Zl p wx))) (jd w 93)
    ·
      simp only[Bs,BG,bne_iff_ne]at hb;clear xN Y xG xH Du;refine Aa hb λD xI=>?_;clear hb;subst D;refine Eh (xR rfl) λw xS P=>?_;subst P;simp only[U.headD_cons]at xI;focus(refine AC wn ?_ ?_;rotate_left;(focus(clear wn;intro X;refine U9 X λw' w1 ow e1 M M C em eo=>?_;clear X));rotate_right;(focus(clear wn;intro X;refine Aa X λh M=>?_;clear X)))
      ·exact B8 ⟨rfl,λq=>xI (Af q)⟩ h
      replace e1:=EY e1;induction e1 using EC;subst em eo;simp only[Ah]at xQ;have wx:=J0 (j:=1) wv rfl;have xt:u.drop (wg+2)=w::xS:=Fu wu 2;refine(?_:W1 _ _ _ _ _);refine W1.mono (Q:=λo' σ'=>o'=.next/\∃wy,σ'=yC wy done (od||ox||ow)++Dz "one" (.str [x1])/\wg+2<=wy/\wy<=u.length/\u.drop wy=w1::r1) (Pg H ?_) ?_
      · refine AK _ (.str (.nat wx (Zl p wx))) (AV (λhb=>?_) (λhb=>?_));· rw[RU hb]at C;refine Aa (TJ C) λe1 I=>?_;have wt:=J0 (j:=2) wv (by refine J e1 rfl);refine(?_:W1 _ _ _ _ _);refine EZ (H.st _ (by decide)) (Rm (vE.GH H (by exact rfl)) (λM=>GC ?_) ⟨rfl,wg+3,by refine J I ?_;rfl,BH _,BE (Az.mp wt).1,(Fu wu 3).trans e1⟩);·refine MJ H N.word xJ CX (AK _ (.str (.nat wt (Zl p wt))) (AK w1 rfl rfl))
        · have hb:=RV hb;rw[KX hb]at C;replace C:=EY C;refine dh C ?_;clear C;intro wl i wm;induction wl using EC;induction i using EC;induction wm using EC;exact⟨rfl,wg+2,by refine J (QT _) rfl,AN _,BE (Az.mp wx).1,xt⟩
      intro o' σ' j;refine Aa j λD G=>?_;clear j;refine DU G λwy wq xg xu xh=>?_;clear G;subst wq;subst D;have xE:=J0 (j:=0) xh rfl;refine(?_:W1 _ _ _ _ _);refine EZ (H.st _ (by decide)) (Rm (b:=od||ox||ow) (b':=B9 (w1<x1)) ?_ (λM=>GC (vE.ok H CX ?_)) ?_);·exact vE.GH H (by exact rfl)
      · refine AK _ (.str (.nat xE (Zl p xE))) (AK _ (.ltS [w1] [x1]) ?_);refine J (lt1 _ _) ?_;with_reducible rfl
      refine AK _ (.str (.nat xE (Zl p xE))) (AK _ (.UX [45] [w1] (show 2<=_ by decide)) (AK _ (.UX [x1] [45,w1] (show 3<=_ by decide)) ?_));refine⟨rfl,wy+1,[x1,45,w1],ox||ow||B9 (w1<x1),?_,Ax (AA (As wg 2) xg),(Az.mp xE).1,Fu xh 1,rfl,rfl⟩;have :(od||(ox||ow||B9 (w1<x1)))=(od||ox||ow||B9 (w1<x1)):=by simp only[Yr]
      refine J this rfl
    · clear xN Y xG Du;focus(refine AC wn ?_ ?_;rotate_left;(focus(clear wn;intro X;refine Lc X λw M M e1 ez xv M=>?_;clear X));rotate_right;(focus(clear wn;intro X;refine Fb X λM em eo er=>?_;clear X)))
      · clear W;subst em eo er;exact⟨rfl,wg+1,[x1],o1,rfl,AN _,(Az.mp xP).1,wv,rfl,rfl⟩
      · subst ez;refine Eh (xR rfl) λw' xS P=>?_;subst P;replace e1:=EY e1;induction e1 using EC;simp at hb;exact B8 hb xv
    · intro o' σ' j;refine Aa j λD G=>?_;clear j;refine U9 G λwo m' o3 xw h3 xi xx xy xz=>?_;clear G;subst xw;subst D;refine J xy ?_;refine J xz ?_;refine(?_:W1 _ _ _ _ _);refine Ix (a:=a) (ys:=done.map V.str) H (by refine J (AL _) ?_;exact AA xF (AA xM (AA p (by decide)))) ?_;have xT:g<wo:=An xf h3;refine Du _ _ (BX (AY xT xi) xT) ⟨wo,done++[m],xo,od||o1,o2,Dz "one" (.str m),Aq (λS=>BV wo S _++_) (GS V.str done m),.inr ⟨_,rfl⟩,rfl,xi,?_,?_,by rewrite[Bw];exact Y,by refine CS xG ?_;rewrite[Yr];with_reducible rfl⟩;·refine J AZ ?_;exact AA (Ax xF) xT
      · refine J xx ?_;have :(done++[m]).isEmpty=AD:=by clear xF Y;cases(done)<;>rfl
        refine J this ?_;exact xN
  ·
    have y0:done.isEmpty=AD:=by simp at f;simpa using f.1
    have xj:x=93:=by simp at f;exact f.2
    subst xj;rw[NB _ _ y0]at hm;replace hm:=EY hm;refine dh hm ?_;clear hm;intro wl i wm;induction wl using EC;induction i using EC;induction wm using EC;have y3:done=A:=by simpa using Y
    have yA:od=oA:=by simpa using xG
    subst y3 yA;refine Di (b:=a) rfl Be xY ?_;exact AV (show 2<=_ by decide) (AV (show 3<=_ by decide) (hq (g+1) (Az.mp xC).1 (Fu wr 1)))
end
section
theorem gF{X:Type}(l:U X)(n:Z)(p:0<n)(h:n<=l.length):Kg l (B (-(n:O))) AJ=l.drop (l.length-n):=by
 simp only[Kg,Fw,Et,Kf,N2];refine J (Ce (AN _)) ?_;congr 1;unfold Kh;refine J (Ap (by exact rl ‹_›)) rj
theorem Mb(s:U Z)(x:Z):kh (tx s) (tx [x])=s.contains x:=by
 have :=StrLaws.found_one (tx s) x;have e:kh (tx s) (tx [x])=!(HF (tx s) ⟨#[x]⟩ 0 (tx s).length 1).isEmpty:=rfl;refine J e (J this (Iz Dt ?_));simp;exact decide_eq_true_iff
namespace Rdd
noncomputable def T2(v:AS):Prop:=v=[]\/∃i o,v=Dz "item" i++Dz "odd" o
noncomputable def T(v:AS):Prop:=v=[]\/∃s b,v=Dz "sign" s++b/\T2 b
theorem T.put{v:AS}(h:T v)(d:V):∃b,v.put "sign" (.v d)=Dz "sign" d++b/\T2 b:=by
 refine AC h (λX=>?_) λX=>?_;·clear h;subst X;exact AK [] rfl (.inl rfl)
 ·clear h;refine Au X λM b P h=>?_;clear X;subst P;exact AK b rfl h
theorem T2.own{v:AS}(h:T2 v):CT v=[]:=by
 focus(refine AC h ?_ ?_;rotate_left;(focus(clear h;intro X;refine Eh X λM M P=>?_;clear X;subst P));rotate_right;(focus(clear h;intro X;subst X)))<;>rfl
end Rdd
open Rdd
noncomputable def Vp:BA:="\x00r"
theorem FV{A s:Type}(f:A->s)(l:U A)(x:A):l.map f++[f x]=(l++[x]).map f:=by refine J DI rfl
theorem me{a b:Z}(h:B9 ((a:O)<(b:O)-3)=AO):a+3<b:=Bu.mp (WX (Bq h))
theorem mf{a b:Z}(h:B9 ((a:O)<(b:O)-3)=AD):¬a+3<b:=λq=>IV h (WW (Bu.mpr q))
theorem fN{c:Cx}(N:Nm c)(n:Z):Ef c (n+3) 130 (λS Q=>∃u w,S=[.str u]/\u.length<=100000/\7<=u.length/\Oy u=B w/\Q (.list (w.map JU))):=by
  refine Aa N.read λM G=>Au G λoo fd D hd=>Ef.NZ (names:=["text"]) N.wf D rfl rfl rfl (by decide) hd (λfd xd hp hd hl=>HQ hp hd hl λM=>by kernel_rfl) (by decide+kernel) λL Y q cd S Q h₀ xH=>Jt xH λu w P p h7 wi hq=>?_;clear xH;subst P;refine⟨rfl,?_⟩;let F:=Fx.fn c (n+2) (E8 21).scope 130 L Y q cd;have H:VH F (E8 21).scope ["runs","sound","inside","at","sign","item","odd"]:=⟨N,Z4 (by kernel_rfl) rfl,rfl,rfl⟩;refine(?_:WS F _ _ _ _);refine FT H 5 _ _ _ ?_;have xQ:=(Xu N).less (m:=n+2) (Bp _ _);have tz:u.length<=Ay:=AA p (by decide);have xR:(u.length:O)<2^63:=Bu.mpr (An p (by decide));refine(?_:W1 _ _ _ _ _);refine gW (g:=Vp) (H.st _ (by decide)) (by decide) λa b xe xS xf wg xT=>?_;have c1:Kg u AJ (B 4)=u.take 4:=XI u 4;have c2:Kg u (B (-3)) AJ=u.drop (u.length-3):=gF u 3 (by decide) (AA (by decide) h7);refine AK _ (.str tz) (AK _ (.str tz) (AK _ (.UX (Kg u AJ (B 4)) (Kg u (B (-3)) AJ) ?_) ?_));·refine J c1 (J c2 (J Ci (J Bh (AA (CR (HG _ _) (AA (Cd _ _) p)) (by decide)))))
  unfold Oy at wi;generalize xU:(u.take 4++u.drop (u.length-3)==[40,63,115,58,41,92,90])=s0 at wi;let BV:Z->AW->U V->U V->BC->BC->AS:=λg b dv cv i f=>[("text",.v (.str u)),(Vp,.own b cv),("runs",.own a (dv++[F0 b])),("sound",.v (.bool i)),("inside",.v (.bool f)),("at",.v (.int g))];let xg:Z->AW->U (U Cl)->U Cl->BC->BC->AS:=λg b done j i f=>BV g b (done.map JU) (j.map Cl.val) i f;have xV:(Kg u AJ (B 4)++Kg u (B (-3)) AJ==[40,63,115,58,41,92,90])=s0:=by refine J c1 (J c2 xU)
  refine Gx (Aq (λs=>([("text",.v (.str u)),(Vp,.own b []),("runs",.own a [F0 b]),("sound",.v (.bool s))]:AS)) xV) ?_;cases xF:Cs (u.drop 4) [] [] s0 AD with|none=>rw[xF]at wi;exact Eb wi|some xI=>
  rw[xF]at wi;have wi:=Af wi;refine(?_:W1 _ _ (xg 4 b [] [] s0 AD) _ _);refine Ki H (λk σ'=>∃(g:Z)(b:AW)(done:U (U Cl))(j:U Cl)(i f:BC)(tl:AS),σ'=xg g b done j i f++tl/\T tl/\b∉F.Xo/\b≠a/\k=u.length-g/\g<=u.length/\done.length<=g/\j.length<=g/\Cs (u.drop g) done j i f=B xI) _ ⟨4,b,[],[],s0,AD,[],rfl,.inl rfl,wg,xT.symm,rfl,AA (by decide) h7,Ao _,Ao _,xF⟩ λk σ' K R=>?_;refine j9 R λg b done j i f tl xW xC wg wq xJ xK wj wm hr=>?_;clear R;subst xW;subst xJ;intro M M Du;refine AK _ (.UI _ xR) (AV (λwn=>?_) (λwn=>?_))
  · have wn:=me wn;have wu:g+1<u.length:=An (Av (by decide) _) wn;refine Cj (Fn (EU wu)) λx t xL xM ht=>?_;have wv:g+1+t.length=u.length:=by refine CS ht (J Bh (GK (BE wu)))
    have wx:3<=t.length:=Xh (by refine J wv ?_;rewrite[Ct];refine J (CK 1 3) ?_;rewrite[<-Ct];exact wn);have Vo:=ht;rw[xL,GA wx]at hr;refine AK _ (.str (.nat xM (Zl p xM))) ?_;clear xL ht;refine AI (xC.put (.str [x])) λwr e1 wy=>Gx (σ':=xg g b done j i f++(Dz "sign" (.str [x])++wr)) (by refine CS e1 rfl) ?_;let C:=λg b done j i f=>xg g b done j i f++(Dz "sign" (.str [x])++wr);refine(?_:W1 _ _ (C (g+1) b done j i f) _ _);have wz:=λk z=>Aq (·==z) ((Ma u (g+1) (g+1+k)).trans (by refine J Vo (J (Cr _ _) ?_);with_reducible rfl));have xD:u[g+1]?=B (t.headD 0):=by
      clear hr wz;cases t with|nil=>exact(by have xX:=wx;cases(xX))|cons y r=>exact J0 (j:=0) Vo rfl
    have xG:=Zl p xD;have dz:(done.map JU++[V.list (j.map Cl.val)]).length<=Ay:=by refine J AZ ?_;refine J (AL _) ?_;exact AA (Ax (AA wj (AA xK p))) (by decide)
    have cz:(j.map Cl.val).length<=Ay:=by refine J (AL _) ?_;exact AA wm (AA xK tz)
    have wo:∀(wl:Z)(b:AW)(dv cv:U V)(done:U (U Cl))(j:U Cl)(i f:BC),dv=done.map JU->cv=j.map Cl.val->b∉F.Xo->b≠a->g<wl->wl<=u.length->done.length<=wl->j.length<=wl->Cs (u.drop wl) done j i f=B xI->K .next (BV wl b dv cv i f++(Dz "sign" (.str [x])++wr)):=λwl b dv cv done j i f e1 I W h2 h3 h4 h5 h6 h7=>Du (u.length-wl) _ (BX (AY h3 h4) h3) ⟨wl,b,done,j,i,f,Dz "sign" (.str [x])++wr,by refine J e1 ?_;refine J I ?_;with_reducible rfl,.inr ⟨_,_,rfl,wy⟩,W,h2,rfl,h4,h5,h6,h7⟩;have n1:∀{m}{α:Type}{l:U α}(z:α),l.length<=g->g+1<=m->(l++[z]).length<=m:=λz h h'=>by refine J AZ ?_;exact AA (Ax h) h'
    have m1:∀k,k<=t.length->g+1+k<=u.length:=λk h=>by refine CS wv ?_;exact Av h _
    have m2:∀k,g+1<=g+1+k:=λk=>As _ _;have m3:∀k,g<=g+1+k:=λk=>AA (BH _) (m2 k);have hu:∀d∈CT (((C (g+1) b done j i f).put Vp (.v .none)).put "runs" (.own a (done.map JU++[.list (j.map Cl.val)]))),∃y ys,y≠Vp/\(C (g+1) b done j i f).lookup y=B (.own d ys):=by
      intro d hd;have e:CT (((C (g+1) b done j i f).put Vp (.v .none)).put "runs" (.own a (done.map JU++[.list (j.map Cl.val)])))=a::CT wr:=rfl;rw[e,wy.own]at hd;refine J (AM.mp hd) ?_;exact FK "runs" _ (by decide) rfl
    refine IU (DQ (DY (vT.ok H (QH x 40)) (λM=>DY (b':=!f) (vT.ok H (AK _ (.str tz) (wz 5 [63,62,46,42,63]))) (λM=>EM (vT.ok H (by exact rfl))) rfl) (AV (λW=>?_) (λW=>vS.ok H ?_))))
    · replace hr:=Pt W hr;have h5:5<=t.length:=by
        have e:=Aq DF (Fe (Fv (Fv W).2).1);rw[Ci]at e;exact AA (B6 e.symm) (Db _ _)
      refine Pa "runs" Vp (a:=a) (b:=b) rfl rfl (by decide) (by decide) wg hu (vS.ok H ?_);refine(?_:W1 _ _ _ _ _);refine NJ (g:=Vp) (a:=a) (xs:=done.map JU++[.list (j.map Cl.val)]) rfl dz (by decide) (by decide) λb' xN x8 x9=>?_;exact wo (g+1+5) b' _ _ (done++[j]) [] i AO (FV JU done j) rfl x8 x9 (m2 5) (m1 5 h5) (n1 _ wj (m2 5)) (Ao _) (by refine J (Fu Vo 5) ?_;exact hr)
    replace hr:=Pu (by refine J W ?_;exact Dc) hr;have wh:Hq (-1) (done.map JU++[F0 b]) (F0 b):=.last (eV ..);refine(?_:W1 _ _ _ _ _);refine IU (DQ (DY (vT.ok H (QH x 41)) (λM=>DY (b:=f) (vT.ok H (by exact rfl)) (λM=>EM (DQ (Mf (vT.ok H (AK _ (.str tz) (wz 2 [46,42]))) (λM=>Mg (vT.ok H (AK _ (.str tz) (wz 3 [40,63,62])))) rfl))) rfl) (AV (λW=>vS.ok H ?_) (λW=>vS.ok H ?_))));· replace hr:=Pt W hr;exact wo (g+1) b _ _ done j i AD rfl rfl wg wq (B5 _) (m1 0 (Ao _)) (AA wj (m3 0)) (AA wm (m3 0)) (by refine J Vo ?_;exact hr)
    replace hr:=Pu (by refine J W ?_;exact Dc) hr;refine(?_:W1 _ _ _ _ _);refine IU (DQ (DY (vT.ok H (QH x 46)) (λM=>DY (b':=!f) (vT.ok H (AK _ (.str (.nat (j:=g+1) xD xG)) (QH (t.headD 0) 42))) (λM=>EM (vT.ok H (by exact rfl))) rfl) (AV (λW=>?_) (λW=>vS.ok H ?_))));· replace hr:=Pt W hr;refine Pa "runs" Vp (a:=a) (b:=b) rfl rfl (by decide) (by decide) wg hu (vS.ok H ?_);refine(?_:W1 _ _ _ _ _);refine NJ (g:=Vp) (a:=a) (xs:=done.map JU++[.list (j.map Cl.val)]) rfl dz (by decide) (by decide) λb' xN x8 x9=>?_;exact wo (g+1+1) b' _ _ (done++[j]) [] i f (FV JU done j) rfl x8 x9 (m2 1) (m1 1 (AA (by decide) wx)) (n1 _ wj (m2 1)) (Ao _) (by refine J (Fu Vo 1) ?_;exact hr)
    replace hr:=Pu (by refine J W ?_;exact Dc) hr;refine(?_:W1 _ _ _ _ _);refine IU (DQ (DY (vT.ok H (QH x 40)) (λM=>EM (vT.ok H (AK _ (.str tz) (wz 3 [63,33,41])))) (AV (λW=>vS.ok H ?_) (λW=>vS.ok H ?_))));· replace hr:=Pt W hr;refine(?_:W1 _ _ _ _ _);refine KG (x:=Vp) (a:=b) (xs:=j.map Cl.val) rfl cz (Ei (a:=a) rfl CX (vE.IB H ⟨-1,_,rfl,wh,rfl⟩)) (vE.GH H (AV (by decide) (AV (by decide) ?_)));exact wo (g+1+3) b _ _ done (j++[Cl.mk AD []]) i f rfl (FV Cl.val j (Cl.mk AD [])) wg wq (m2 3) (m1 3 wx) (AA wj (m3 3)) (n1 _ wm (m2 3)) (by refine J (Fu Vo 3) ?_;exact hr)
    replace hr:=Pu (by refine J W ?_;exact Dc) hr;refine(?_:W1 _ _ _ _ _);refine Pg H (AV (λW=>?_) (λW=>?_));· replace hr:=Pt ((QH x 46).symm.trans W) hr;refine(?_:W1 _ _ _ _ _);refine KG (x:=Vp) (a:=b) (xs:=j.map Cl.val) rfl cz (Ei (a:=a) rfl CX (vE.IB H ⟨-1,_,rfl,wh,rfl⟩)) (vE.GH H (AV (by decide) (AV (by decide) ?_)));exact wo (g+1) b _ _ done (j++[Cl.mk AO []]) i f rfl (FV Cl.val j (Cl.mk AO [])) wg wq (B5 _) (m1 0 (Ao _)) (AA wj (m3 0)) (n1 _ wm (m2 0)) (by refine J Vo ?_;exact hr)
    replace hr:=Pu (by refine CS (QH x 46) ?_;exact G6.mp W) hr;refine(?_:W1 _ _ _ _ _);refine Pg H (AV (λW=>?_) (λW=>?_))
    · replace hr:=Pt ((QH x 91).symm.trans W) hr;refine AI (B1.mp hr) λxY xO hr=>?_;rcases xY with⟨cl,o,r⟩;refine(?_:W1 _ _ _ _ _);refine Te ["item","at","odd"] (λy hy=>H.st y ?_) (MJ H N.cls (bW N n) CX ?_) ?_ rfl rfl;·exact AT.mpr ⟨by decide,AT.mpr ⟨by decide,AT.mpr ⟨by decide,De _⟩⟩⟩ y hy
      · refine R7 u (g+1) cl o r rfl p (BE wu) (by refine J Vo ?_;exact xO) (λwt xA xB=>?_);refine F8 _ rfl rfl ?_;have xZ:=Mc xO;have xc:=OR xB xA;let D:Z->U V->BC->AS:=λg cv i=>BV g b (done.map JU) cv i f++(Dz "sign" (.str [x])++(Dz "item" cl.val++Dz "odd" (.bool o)));have e:NT ["item","at","odd"] [cl.val,.int wt,.bool o] (C (g+1) b done j i f)=D wt (j.map Cl.val) i:=by
         refine(?_:NT _ _ (xg (g+1) b done j i f++(Dz "sign" (.str [x])++wr))=_);focus(refine AC wy ?_ ?_;rotate_left;(focus(clear wy;intro X;refine Eh X λM M e=>?_;clear X));rotate_right;(focus(clear wy;intro e)))<;>(refine J e ?_;rfl)
        refine Gx e ?_;refine(?_:W1 _ _ _ _ _);refine KG (x:=Vp) (a:=b) (xs:=j.map Cl.val) rfl cz (Ei (a:=a) rfl CX (vE.IB H ⟨-1,_,rfl,wh,rfl⟩)) (vE.GH H ?_);refine(?_:W1 _ _ _ _ _);refine EZ (H.st _ (by decide)) (Ud (b:=i) (b':=!o) (vE.GH H (by exact rfl)) (λM=>GC (jj (vE.IB H (AK _ (.bool _) (by exact rfl))))) ?_);have xE:g+1<wt:=WR (n:=r.length) (by refine J xc ?_;refine CS wv ?_;exact E0 xZ _);refine Du (u.length-wt) _ (BX (AY (EU xE) xA) (EU xE)) ⟨wt,b,done,j++[cl],i&&!o,f,_,Aq (λcv=>D wt cv (i&&!o)) (FV Cl.val j cl),.inr ⟨_,_,rfl,.inr ⟨_,_,rfl⟩⟩,wg,wq,rfl,xA,AA wj (BE (EU xE)),n1 _ wm (BE xE),?_⟩;refine J xB ?_;exact hr
      ·exact .cons (λA E s v Q h=>G8 h) (.cons (λA E s v Q h=>G8 h) (.cons (λA E s v Q h=>G8 h) .nil))
    replace hr:=Pu (by refine CS (QH x 91) ?_;exact G6.mp W) hr;clear W;refine(?_:W1 _ _ _ _ _);refine IU (DQ (DY (b':=!QG (t.headD 0)) (vT.ok H (QH x 92)) (λM=>EM (UY (H9 (MJ H N.word xQ Be ?_)))) (AV (λW=>vS.ok H ?_) (λW=>vS.ok H ?_))));· refine AK _ (.str (.nat (j:=g+1) xD xG)) ?_;exact⟨_,rfl,_,.bool _,rfl⟩
    · replace hr:=Pt W hr;refine(?_:W1 _ _ _ _ _);refine KG (x:=Vp) (a:=b) (xs:=j.map Cl.val) rfl cz (Ei (a:=a) rfl CX (vE.IB H ⟨-1,_,rfl,wh,rfl⟩)) (vE.GH H (AK _ (.str (.nat (j:=g+1) xD xG)) (AV (show 1<=_ by decide) (AV (show 2<=_ by decide) ?_))));exact wo (g+1+1) b _ _ done (j++[Cl.mk AD [[t.headD 0]]]) i f rfl (FV Cl.val j (Cl.mk AD [[t.headD 0]])) wg wq (m2 1) (m1 1 (AA (by decide) wx)) (AA wj (m3 1)) (n1 _ wm (m2 1)) (by refine J (Fu Vo 1) ?_;exact hr)
    replace hr:=Pu (by refine J W ?_;exact Dc) hr;clear W;refine(?_:W1 _ _ _ _ _);refine KG (x:=Vp) (a:=b) (xs:=j.map Cl.val) rfl cz (Ei (a:=a) rfl CX (vE.IB H ⟨-1,_,rfl,wh,rfl⟩)) (vE.GH H (AV (show 1<=_ by decide) (AV (show 2<=_ by decide) ?_)));refine(?_:W1 _ _ _ _ _);refine EZ (H.st _ (by decide)) (Ud (b:=i) (b':=!VO.contains x) (vE.GH H (by exact rfl)) (λM=>GC (vE.GH H (AK _ (.be [x] VO) (Aq (λb=>V.bool (!b)) (Mb VO x))))) ?_);exact wo (g+1) b _ _ done (j++[Cl.mk AD [[x]]]) (i&&!VO.contains x) f rfl (FV Cl.val j (Cl.mk AD [[x]])) wg wq (B5 _) (m1 0 (Ao _)) (AA wj (m3 0)) (n1 _ wm (m2 0)) (by refine J Vo ?_;exact hr)
  ·
    have wn:=mf wn;rw[OC (by refine J Bh ?_;with_reducible exact pN ‹_›)]at hr;rw[<-Af hr]at wi;have xP:CT tl=[]:=by
      refine AC xC (λX=>?_) λX=>?_;·clear xC;subst X;rfl
      ·clear xC;refine Au X λM M P h=>?_;clear X;subst P;exact h.own
    refine(?_:WS F _ (xg g b done j i f++tl) _ _);refine Pa "runs" Vp (a:=a) (b:=b) rfl rfl (by decide) (by decide) wg (λd hd=>?_) (vS.ok H ?_);· have e:CT (((xg g b done j i f++tl).put Vp (.v .none)).put "runs" (.own a (done.map JU++[.list (j.map Cl.val)])))=a::CT tl:=rfl;rw[e,xP]at hd;refine J (AM.mp hd) ?_;exact FK "runs" _ (by decide) rfl
    refine(?_:WT _ _ _ _);refine DQ (DY (b:=i) (b':=!f) (vT.ok H (by exact rfl)) (λM=>EM (vT.ok H (by exact rfl))) (AV (λW=>?_) (λW=>?_)));· refine(?_:WE _ _ _ _ _);refine Di (b:=a) rfl Be xS ?_;have e:=Pt W wi;rw[<-e]at hq;have I:done.map JU++[V.list (j.map Cl.val)]=(done++[j]).map JU:=FV JU done j;refine J I ?_;exact hq
    · have e:=Pu (by refine J W ?_;exact Dc) wi;rw[<-e]at hq;exact AV (by decide) (AV (show 2<=_ by decide) (AV (show 1<=_ by decide) (AV (by decide) (AV (show 2<=_ by decide) hq))))
end
section
open PySem.Builtin PySem.Builtin.Str
theorem Kp.trans{s s' N:AE}(a:Kp s s')(b:Kp s' N):Kp s N:=by
 refine Aa a λd l=>?_;clear a;refine Au d λh t P k=>?_;clear d;subst P;refine Aa b λd g=>?_;clear b;refine Au d λC t2 P H=>?_;clear d;subst P;exact⟨⟨C,t2,rfl,λx o e=>H x o (k x o e)⟩,AA l g⟩
section
variable{prog:DH}{w:Em}{A:BQ}{E:AF->AE->Prop}{s:AE}
theorem SS{d:AW}{f:O->AX AF}{c:Z}{z:BA}{j:Jd}{Q:Mapped->AE->Prop}(K:s.heap.IntMap d f)(V:f c=B (.str z j))(h:∀s',Kp s s'->Q (.text z) s'):Aj (BF prog w) A (Oj (.ref d) c) Q E s:=by
 unfold Oj;refine AB (iF (AB (oO ?_)));refine wpAny_getItem_intMap K V (AB (BB rfl ?_));exact AB (AH (AH (h _ (Kp.tok s (As s.toks 2)))))
theorem Tx:Mi (.type "KeyError") (.type "LookupError")=Bz AO:=by kernel_rfl
theorem Qo{d:AW}{f:O->AX AF}{c:Z}{Q:Mapped->AE->Prop}(N:A.handled=AJ)(hd:(d==Mx)=AD)(K:s.heap.MapOf (intKind prog w) d f)(V:f c=AJ)(h:∀s',Kp s s'->Q .keep s'):Aj (BF prog w) A (Oj (.ref d) c) Q E s:=by
 unfold Oj;refine AB (iF (AB (oO ?_)));refine wpAny_getItem_missing_of (intKind_is _ _ _ _) hd N K V λh' e he=>Cj he.there λR t ho a M=>AB (Of ⟨R,ho,a⟩ Tx ?_);exact AB (IJ (AH (h _ ⟨⟨h',_,rfl,he.keeps⟩,As s.toks 2⟩)))
end
noncomputable def Z3(d:AW)(f:O->AX AF)(c:Z)(r:U Z)(t:Jd):PySem.Spec:=λA R s=>A.handled=AJ/\(d==Mx)=AD/\s.heap.IntMap d f/\(∀o,s.heap.get? d=B o->o.dict=AJ/\o.slots=#[])/\((∃j,f c=B (.str (tx r) j))\/(f c=AJ/\r=[c]))/\r.length<=100/\2<=r.length+(if f c=AJ then 1 else 0)/\∀s' n,Kp s s'->R (.ok (.ret (.str (tx r) n))) s'
theorem PN(d:AW)(f:O->AX AF)(c:Z)(r:U Z)(t:Jd):Meets (Builtin.«str.translate» ⟨[.str (tx [c]) t,.ref d],[]⟩) (Z3 d f c r t):=by
  intro prog w A R s H;refine jJ H λN hd K D V g C T=>?_;clear H;refine AB (BB rfl ?_);dsimp only;refine AB (J (show(tx [c]).cps=[c].toArray from rfl) ?_);rewrite[LU];rewrite[DJ];refine AB ?_;dsimp only;refine J (Ab (by decide)) ?_;have u:=EL r;have v:∀n,n=r.length->¬KI n=AO:=by intro n q;subst q;simp[KI,Ay];exact z41 ‹_›
  have I:∀s'(x:BA),Kp s s'->x=tx r->Aj (BF prog w) A.in1 (retStr x) (λI s'=>match I with|.done f=>R (.ok f) s'|.again Y=>Y.quiet=AO/\HZ (BF prog w) A Y R s') (λe s'=>R (.error e) s') s':=by
    intro s' x k L;subst L;refine AB (Rv (AH (T _ _ (k.trans (Kp.tok s' (BH _))))) (by refine J u ?_;simp[Ay];exact z41 ‹_›))
  refine AC V (λX=>?_) λX=>?_
  · refine Aw X λj V=>?_;have l:∀s',Kp s s'->s'.heap.IntMap d f:=by
     intro s' q;refine Aa q λS M=>Au S λh' tk H k=>J H (H4 K λo es E ho r=>R8 o es E (k _ _ ho) r)
    have next:∀s',Kp s s'->∀Q,(∀s',Kp s s'->Q (.text (tx r)) s')->Aj (BF prog w) A.in1 (Oj (.ref d) c) Q (λe s'=>R (.error e) s') s':=λs' k Q h=>SS (l s' k) V λy F=>h y (k.trans F);have z:=by rw[V]at C;simpa using C
    have W:((tx r).length==1&&(tx r).cps.all λx=>B9 (x<128))=AD:=by
     have :(r.length==1)=AD:=by simp;exact tj ‹_›
     refine J this ?_;rfl
    have p:∀s',Kp s s'->Aj (BF prog w) A.in1 (do let m<-Oj (.ref d) c match m with|Mapped.keep=>Bz (Ds (([{cps:=#[c]}]:U BA),0+1,AD,([]:U (Z×AX Z)),AD))|Mapped.drop=>Bz (Ds ([],0,AD,[],AO))|Mapped.char d=>Bz (Ds ([{cps:=#[d]}],0+1,AD,[],AD))|Mapped.text t=>Bz (Ds ([t],0+t.length,AD,[],AD))) (λa s'=>a=Ds ([tx r],0+(tx r).length,AD,[],AD)/\Kp s s') (λe s'=>R (.error e) s') s':=by
     intro s' k;exact AB (next s' k _ λs₁ i=>AH ⟨rfl,i⟩)
    by_cases G:c<128;· refine J (Ap (by simp[G])) (AB (next s (Kp.refl s) _ λs₁ i=>?_));dsimp only;refine J W (AB (AH ?_));refine AB (IJ ?_);refine Ad (p s₁ i) (λa s' H=>?_) λM M x=>x;refine Aa H λP k=>?_;clear H;subst P;refine AH ?_;dsimp only;refine J (Ab (v _ (by refine J u m7))) (I s' _ k (by simp[tx]))
    · refine J (Ab (by simp[G])) (Ad (AB (next s (Kp.refl s) _ λs₁ i=>AH (Q:=λa s'=>∃b:BC,a=Ds ([tx r],0+(tx r).length,b,[],AD)/\Kp s s') ⟨_,rfl,i⟩)) (λa s' H=>?_) λM M x=>x);refine AI H λb P k=>?_;subst P;refine AH ?_;dsimp only;refine J (Ab (v _ (by refine J u m7))) (I s' _ k (by simp[tx]))
  · clear V;refine Aa X λV z=>?_;clear X;subst z;have next:∀Q,(∀s',Kp s s'->Q Mapped.keep s')->Aj (BF prog w) A.in1 (Oj (.ref d) c) Q (λe s'=>R (.error e) s') s:=λQ h=>Qo N hd (Heap.IntMap.mapOf K D) V h;by_cases G:c<128;· refine J (Ap (by simp[G])) (AB (next _ λs₁ i=>?_));refine AB (AH ?_);refine AH (AH ?_);dsimp only;exact I s₁ _ i (by simp[tx])
    · refine J (Ab (by simp[G])) (AB (next _ λs₁ i=>?_));refine AH (AH ?_);dsimp only;exact I s₁ _ i (by simp[tx])
variable{F:Fx}{h₀:BJ}{σ:AS}{Y:U AW}{c:Cx}
noncomputable def SU(v:AF):V:=.abs λM x=>x=v
theorem Rd.SU{G:EJ}(v:AF):Rd G (Mine.SU v) v:=.abs (λM M M M h=>h) rfl
theorem Rd.U5{G:EJ}{v x:AF}(r:Rd G (Mine.SU v) x):x=v:=by
 induction r using Rd.eA with|abs _ h=>exact h
theorem YT{x:BA}{pos:EQ}{v:AF}{Q:V->Prop}(p:Wf F.c)(R:F.env.kindOf x=B .globalImplicit)(K:F.c.mg x=B v)(q:Q (SU v))(hd:(x==("__debug__":BA))=AD:=by rfl):WE F σ Y (.Name x pos) Q:=λA E s N j T=>P0 p j T.ok R K ⟨j,.refl _ _,_,Rd.SU v,q⟩ hd
theorem YU{x:BA}{pos:EQ}{v:AF}{Q:V->Prop}(p:Wf F.c)(R:F.env.kindOf x=B .globalImplicit)(D:F.c.mg x=AJ/\F.c.mb x=B v)(q:Q (SU v))(hd:(x==("__debug__":BA))=AD:=by rfl):WE F σ Y (.Name x pos) Q:=λA E s N j T=>Ig p j T.ok R D.1 D.2 ⟨j,.refl _ _,_,Rd.SU v,q⟩ hd
theorem Do.isStr(l:U Z):Do c (.builtin "isinstance") [.str l,SU (.type "str")] (.bool AO):=λA E Y s F Q N j K m k=>by
 induction m using C3.eC with|cons a b=>induction b using C3.eC with|cons g b=>induction b using C3.eN;induction a using Rd.eS;induction g.U5 using Tb;exact call_isinstance_yes (G0 _ _ _) (by kernel_rfl) (by kernel_rfl) (k _ _ (Keeps.refl _) (.bool _))
structure gg(c:Cx)(d:AW)(sp:U Z):Prop where
ne:(d==Mx)=AD
map:∃f,c.hB.IntMap d f/\(∀o,c.hB.get? d=B o->o.dict=AJ/\o.slots=#[])/\∀x:Z,if sp.contains x=AO then∃tz,f x=B (.str (tx [92,x]) tz)else f x=AJ
noncomputable def Hh(i:U Z)(x:Z):U Z:=if i.contains x=AO then[92,x]else[x]
theorem Do.trans{d:AW}{i:U Z}(T:gg c d i)(x:Z):Do c (.builtin "str.translate") [.str [x],SU (.ref d)] (.str (Hh i x)):=λA E Y s F Q N j K m k=>by
 induction m using C3.eC with|cons a b=>induction b using C3.eC with|cons g b=>
      induction b using C3.eN;induction a using Rd.eS;induction g.U5 using Tb;refine CF T.map λf q hex V=>Lc q λo es r ho u p hr=>?_;have l:=j.grow.Gk ho (by refine J p MQ);have e:=V x;refine QA WP (G0 _ _ _) PySem.F.entry_str_translate (PySem.F.args_str_translate_2 _ _) (PN d f x (Hh i x) _) ⟨N.handled,T.ne,⟨o,es,r,l,u,p,hr⟩,λo' t=>by rw[l]at t;replace t:=EY t;induction t using EC;exact hex o ho,?_,?_,?_,λs' n L=>k _ _ L.1 (.str _ _)⟩
      · unfold Hh;by_cases h:i.contains x=AO;·rw[Ap h]at e⊢;exact .inl e
        ·rw[Ab h]at e⊢;exact .inr ⟨e,rfl⟩
      ·unfold Hh;split<;>simp
      · unfold Hh;by_cases h:i.contains x=AO;·refine J (Ap h) ?_;simp
        ·rw[Ab h]at e⊢;refine J (Ap e) ?_;simp
end
section
namespace Rx
open PySem.Sre
noncomputable def code:Bc Z:=#[14,14,4,1,1,9,0,64,0,1342177280,0,0,0,0,0,17,0,13,11,9,0,64,0,1342177280,0,0,0,0,0,17,1,1]
noncomputable def sp(x:Z):BC:=x==38||x==124||x==126
theorem small:∀x:Z,x<256->((code.getD (5+(1+x/32)) 0).testBit (x%32)=sp x/\(code.getD (19+(1+x/32)) 0).testBit (x%32)=sp x):=by decide+kernel
theorem iu{x:Z}(h:¬x<256):sp x=AD:=by
 unfold sp;have W:=by exact ti ‹_›
 have C:=by exact th ‹_›
 have T:=by exact td ‹_›
 simp[W,C,T]
theorem Vk(x:Z)(Iu:dw):(∃c,inSet code x code.size 5 AO Iu=.ok (sp x,c))/\(∃c,inSet code x code.size 19 AO Iu=.ok (sp x,c)):=by
  by_cases D:x<256
  · refine Aa (small x D) λW C=>?_;have hd:=DW D;constructor;·cases L:sp x with|true=>refine⟨Iu.add 9,?_⟩;refine(?_:(if(B9 (x<256)&&(code.getD (5+(1+x/32)) 0).testBit (x%32))=AO then _ else _)=_);refine J hd (J W (J L ?_));rfl|false=>refine⟨(Iu.add 9).add 0,?_⟩;refine(?_:(if(B9 (x<256)&&(code.getD (5+(1+x/32)) 0).testBit (x%32))=AO then _ else _)=_);refine J hd (J W (J L ?_));rfl
    ·cases L:sp x with|true=>refine⟨Iu.add 9,?_⟩;refine(?_:(if(B9 (x<256)&&(code.getD (19+(1+x/32)) 0).testBit (x%32))=AO then _ else _)=_);refine J hd (J C (J L ?_));rfl|false=>refine⟨(Iu.add 9).add 0,?_⟩;refine(?_:(if(B9 (x<256)&&(code.getD (19+(1+x/32)) 0).testBit (x%32))=AO then _ else _)=_);refine J hd (J C (J L ?_));rfl
  · refine J (iu D) ?_;have hd:=Kd D;constructor;· refine⟨(Iu.add 9).add 0,?_⟩;refine(?_:(if(B9 (x<256)&&(code.getD (5+(1+x/32)) 0).testBit (x%32))=AO then _ else _)=_);refine J hd (J (LY _) ?_);rfl
    · refine⟨(Iu.add 9).add 0,?_⟩;refine(?_:(if(B9 (x<256)&&(code.getD (19+(1+x/32)) 0).testBit (x%32))=AO then _ else _)=_);refine J hd (J (LY _) ?_);rfl
noncomputable def Hg(t:Bc Z):Z->Z->AX Z|0,_=>AJ|n+1,i=>if sp (t.getD i 0)then B i else Hg t n (i+1)
theorem Q3(m:M)(f:m.code=code):∀(g s:Z)(Iu:dw),m.lim+1<=g+s->s<=m.lim->∃c,Yg m g s Iu=.ok (Hg m.text (m.lim-s) s,c):=by
 intro g;induction g with|zero=>intro s Iu W C;exact(te ‹_› ‹_›).elim|succ g I=>
intro s Iu W C;unfold Yg;by_cases L:s>=m.lim;· refine J (Ap L) ⟨Iu,?_⟩;refine J (show m.lim-s=0 by exact m6 ‹_›) rfl
· refine J (Ab L) (J f (Aa (Vk (m.text.getD s 0) Iu) λd i=>Aw d λb e=>J e (J (show m.lim-s=(m.lim-(s+1))+1 by exact tW ‹_›) ?_)));unfold Hg;cases Q:sp (m.text.getD s 0)with|true=>exact⟨b,rfl⟩|false=>refine Aw (I (s+1) b (by exact tV ‹_›) (by exact tU ‹_›)) λa h=>⟨a,by exact h⟩
noncomputable def base (u : Bc Z) (pos : Z) : M := { code := code, text := u, lim := u.size, start := pos, pc := 15, pos := pos, handed := pos, marks := #[AJ, AJ], mustAdvance := AD, seen := ({} : dw).add 14 }
theorem T7(u:Bc Z)(pos:Z):Oe code u 1 pos u.size AD=if(B9 (pos>u.size)||B9 (u.size-pos<1))=AO then(base u pos).say AD else({base u pos with lastStart:=u.size}:M).attemptFrom pos AO:=rfl
theorem YF(m:M)(f:m.code=code)(s:Z)(d:BC):m.attemptFrom s d=match Yg m (m.lim+1-s) s m.seen with|.ok (B s,Iu)=>({m with mustAdvance:=AD,seen:=Iu}:M).attemptAt s d|.ok (AJ,Iu)=>({m with seen:=Iu}:M).say AD|.error i=>m.stick i:=by
 unfold M.attemptFrom;refine J (Ab (by unfold M.hasFirstSet;refine J f ?_;decide)) ?_;cases Yg m (m.lim+1-s) s m.seen with|error i=>rfl|ok p=>rcases p with⟨a,Iu⟩;rfl
noncomputable def Um(u:Bc Z)(pos s:Z)(Iu:dw):M:={code:=code,text:=u,lim:=u.size,start:=s,lastStart:=u.size,pc:=15,pos:=s,handed:=s,marks:=#[AJ,AJ],mustAdvance:=AD,seen:=Iu,outermost:=AO,frames:=[{wait:=.nextStart,pc:=15,pos:=s,outermost:=AO}],weight:=1}
theorem Tz{u:Bc Z}{pos s:Z}(E:pos<=u.size)(V:Hg u (u.size-pos) pos=B s):∃Iu,Oe code u 1 pos u.size AD=Um u pos s Iu:=by
 have a:=by
  refine AC (CJ pos u.size) (λh=>h) λh=>?_;·rw[show u.size-pos=0 by exact m6 ‹_›]at V;exact Eb V
 refine J (T7 _ _) (J (Ab (by simp;exact m5 ‹_›)) (J ((YF _ rfl) _ _) ?_));rcases(Q3 ({base u pos with lastStart:=u.size}:M) rfl (u.size+1-pos) pos _ (by refine(?_:u.size+1<=_);exact z70) E)with⟨Iu,e⟩;refine⟨Iu,?_⟩;refine(?_:(match Yg ({base u pos with lastStart:=u.size}:M) (u.size+1-pos) pos _ with|.ok (B s,Iu)=>_|.ok (AJ,Iu)=>_|.error i=>_)=_);refine J e (J V ?_);rfl
theorem VC{u:Bc Z}{pos:Z}(E:pos<=u.size)(V:Hg u (u.size-pos) pos=AJ):∃m:M,Oe code u 1 pos u.size AD=m/\m.answer=B AD/\m.frames=[]/\m.outcome=AJ:=by
  refine AK _ rfl (J (T7 _ _) ?_);by_cases a:pos<u.size
  · refine J (Ab (by simp;exact m5 ‹_›)) (J ((YF _ rfl) _ _) (Aw (Q3 ({base u pos with lastStart:=u.size}:M) rfl (u.size+1-pos) pos ({base u pos with lastStart:=u.size}:M).seen (by refine(?_:u.size+1<=_);exact z70) E) λIu e=>?_));have z:=by
     have :(({base u pos with lastStart:=u.size}:M).text)=u:=rfl;exact e.trans (by exact Aq (λx=>Except.ok (x,Iu)) V)
    refine J z (Cf rfl rfl rfl)
  ·refine J (Ap (by simp;exact tT ‹_›)) (Cf rfl rfl rfl)
theorem OM{t:Bc Z}:∀{n i s:Z},Hg t n i=B s->i<=s/\s<i+n/\sp (t.getD s 0)=AO/\∀j,i<=j->j<s->sp (t.getD j 0)=AD:=by
 intro n;induction n with|zero=>intro M M h;exact Eb h|succ n I=>intro i s h;unfold Hg at h;cases L:sp (t.getD i 0)with|true=>rw[Ap L]at h;replace h:=EY h;induction h using EC;exact Le (AN _) (by exact tZ) L (λj W C=>by with_reducible exact(tY ‹_› ‹_›).elim)|false=>
rw[L,Ab (by decide)]at h;refine Fb (I h) λW C T F=>Le (by exact z3 ‹_›) (by(first|exact z3 ‹_›|exact tX ‹_›)) T (λj y P=>?_);by_cases e:j=i;·refine J e L
·exact F j (by exact m0 ‹_› ‹_›) P
theorem Gz(m:M){n:Z}(h:m.outcome.isSome=AD):kj (n+1) m=kj n m.step:=by
 refine(?_:(if m.outcome.isSome then m else kj n m.step)=_);refine J h rfl
theorem Pm(m:M):∀(n:Z),m.outcome.isSome=AO->kj n m=m:=by
 intro n;induction n with|zero=>intro a;exact rfl|succ n I=>intro h;refine(?_:(if m.outcome.isSome then m else kj n m.step)=_);refine J h rfl
structure Found(m:M)(s:Z):Prop where
out:m.outcome=B .matched
start:m.start=s
handed:m.handed=s+1
marks:m.marks=#[B s,B (s+1)]lastmark:m.lastmark=1
theorem ZH{u:Bc Z}{pos s:Z}{Iu:dw}(L:s<u.size)(Q:sp (u.getD s 0)=AO):((Um u pos s Iu).runFor 4).outcome.isSome=AD/\Found (((Um u pos s Iu).runFor 4).runFor 4) s:=by
 have j:∃b,(Um u pos s Iu).step={Um u pos s b with marks:=#[B s,AJ],lastmark:=0,pc:=17}:=⟨Iu.add 17,rfl⟩;refine Aw j λb j=>?_;have r:∃a,({Um u pos s b with marks:=#[B s,AJ],lastmark:=0,pc:=17}:M).step={Um u pos s a with marks:=#[B s,AJ],lastmark:=0,pc:=29,pos:=s+1}:=by
  refine Aa (Vk (u.getD s 0) (b.add 13)) λm G=>Aw G λa e=>?_;rw[Q]at e;refine⟨a,?_⟩;refine(?_:(if s>=u.size then _ else match inSet code (u.getD s 0) code.size 19 AO (b.add 13)with|.error i=>_|.ok (AD,Iu)=>_|.ok (AO,Iu)=>_)=_);refine J (Ab (by exact tS ‹_›)) (J e ?_);rfl
 refine Aw r λa r=>?_;have g:∃d li,({Um u pos s a with marks:=#[B s,AJ],lastmark:=0,pc:=29,pos:=s+1}:M).step={Um u pos s d with marks:=#[B s,B (s+1)],lastmark:=1,lastindex:=li,pc:=31,pos:=s+1}:=⟨a.add 17,({Um u pos s a with marks:=#[B s,AJ],lastmark:=0,pc:=29,pos:=s+1}:M).step.lastindex,rfl⟩;refine Eh g λd li g=>?_;have f:∃c,({Um u pos s d with marks:=#[B s,B (s+1)],lastmark:=1,lastindex:=li,pc:=31,pos:=s+1}:M).step={Um u pos s c with marks:=#[B s,B (s+1)],lastmark:=1,lastindex:=li,pc:=31,pos:=s+1,handed:=s+1,answer:=B AO}:=⟨d.add 1,rfl⟩;refine Aw f λc f=>?_;have l:(Um u pos s Iu).runFor 4={Um u pos s c with marks:=#[B s,B (s+1)],lastmark:=1,lastindex:=li,pc:=31,pos:=s+1,handed:=s+1,answer:=B AO}:=by
  refine J (Gz _ rfl) (J j (J (Gz _ rfl) (J r (J (Gz _ rfl) (J g (J (Gz _ rfl) (J f ?_)))))));rfl
 refine J l ?_;have k:({Um u pos s c with marks:=#[B s,B (s+1)],lastmark:=1,lastindex:=li,pc:=31,pos:=s+1,handed:=s+1,answer:=B AO}:M).step={Um u pos s c with marks:=#[B s,B (s+1)],lastmark:=1,lastindex:=li,pc:=15,pos:=s,handed:=s+1,answer:=B AO,frames:=[],weight:=0}:=rfl;have h:({Um u pos s c with marks:=#[B s,B (s+1)],lastmark:=1,lastindex:=li,pc:=15,pos:=s,handed:=s+1,answer:=B AO,frames:=[],weight:=0}:M).step={Um u pos s c with marks:=#[B s,B (s+1)],lastmark:=1,lastindex:=li,pc:=15,pos:=s,handed:=s+1,answer:=B AO,frames:=[],weight:=0,outcome:=B .matched}:=rfl;refine⟨rfl,?_⟩;refine J (Gz _ rfl) (J k (J (Gz _ rfl) (J h (J (Pm _ _ rfl) ?_))));constructor<;>rfl
end Rx
end
section
open PySem.Builtin PySem.Builtin.Re
theorem NY:PlainAttrs "re.Pattern":=⟨⟨"object.__getattribute__",by refine J (CB _ _) (J BP ?_);kernel_rfl,by decide+kernel⟩,by refine J (CB _ _) (J BP ?_);kernel_rfl⟩
theorem PG:PlainAttrs "re.Match":=⟨⟨"object.__getattribute__",by refine J (CB _ _) (J BP ?_);kernel_rfl,by decide+kernel⟩,by refine J (CB _ _) (J BP ?_);kernel_rfl⟩
theorem Ii:Slot "re.Pattern" "sub" "re.Pattern.sub":=.of (owner:="re.Pattern") (n:="sub") (by refine J (CB _ _) (J BP ?_);kernel_rfl) (by decide+kernel) (by decide+kernel) (by decide+kernel) (by first|exact .inl (by decide+kernel)|exact .inr (by decide+kernel)) (by refine J (Ek _ _) ?_;kernel_rfl)
theorem Ij:Slot "re.Match" "group" "re.Match.group":=.of (owner:="re.Match") (n:="group") (by refine J (CB _ _) (J BP ?_);kernel_rfl) (by decide+kernel) (by decide+kernel) (by decide+kernel) (by first|exact .inl (by decide+kernel)|exact .inr (by decide+kernel)) (by refine J (Ek _ _) ?_;kernel_rfl)
theorem PB:Us (.builtin "re.Pattern.sub")=Bz (.type "method_descriptor"):=by refine(?_:builtinType _=_);refine J builtinType_eq_fast ?_;kernel_rfl
theorem PC:Us (.builtin "re.Match.group")=Bz (.type "method_descriptor"):=by refine(?_:builtinType _=_);refine J builtinType_eq_fast ?_;kernel_rfl
theorem OP:SA oR "re.Pattern.sub"=B Builtin.«re.Pattern.sub»:=HC (by kernel_rfl)
theorem RY:SA oR "re.Pattern.sub.loop"=B Builtin.«re.Pattern.sub.loop»:=HC (by kernel_rfl)
theorem OQ:SA oR "re.Match.group"=B Builtin.«re.Match.group»:=HC (by kernel_rfl)
theorem PY(a b c:AF):Yb "re.Pattern.sub" ⟨[a,b,c],[]⟩:=by unfold Yb;kernel_rfl
theorem PZ(a b:AF):Yb "re.Match.group" ⟨[a,b],[]⟩:=by unfold Yb;kernel_rfl
theorem Jq:plainId "re.Pattern.sub.loop"=AO:=by decide+kernel
end
section
open PySem.Builtin PySem.Builtin.Re
section
variable{M:eD}{A:BQ}{E:AF->AE->Prop}{s:AE}
theorem ac{m G:Sre.M}{Q:Sre.M->AE->Prop}(W:(m.runFor 4).outcome.isSome=AD)(C:(m.runFor 4).runFor 4=G)(T:G.outcome.isSome=AO)(q:Q G s):Aj M A (Xf (2^64) m) Q E s:=by
 unfold Xf;refine(?_:Aj M A (if(m.runFor 4).outcome.isSome=AO then Bz (m.runFor 4)else do rule "sre.turn";Xf (18446744073709551614+1) (m.runFor 4)) Q E s);refine J (Ab (by refine J W ?_;decide)) (AB (IJ ?_));unfold Xf;refine J C (J (Ap T) (AH q))
theorem Yy{m G:Sre.M}{Q:Sre.M->AE->Prop}(C:m.runFor 4=G)(T:G.outcome.isSome=AO)(q:Q G s):Aj M A (Xf (2^64) m) Q E s:=by
 unfold Xf;refine(?_:Aj M A (if(m.runFor 4).outcome.isSome=AO then Bz (m.runFor 4)else do rule "sre.turn";Xf 18446744073709551615 (m.runFor 4)) Q E s);refine J C (J (Ap T) (AH q))
theorem V7(p:Z->BC)(f:Z->oK):∀(l:U Z){Q:ol->AE->Prop},Q ⟨⟩ s->Aj M A (WY l WQ λi a=>if p i=AO then do rule (f i);Bz (Ds WQ)else Bz (Ds WQ)) Q E s:=by
 intro l;induction l with|nil=>intro Q q;exact AH q|cons i l I=>
intro Q q;rewrite[DJ];by_cases h:p i=AO;·refine J (Ap h) (AB (AB (IJ (AH (I q)))))
·refine J (Ab h) (AB (AH (I q)))
theorem aa{m G:Sre.M}{Q:AX Sre.M->AE->Prop}(hd:∀Q:Sre.M->AE->Prop,Q G s->Aj M A (Xf (2^64) m) Q E s)(h:G.outcome=B .matched)(q:Q (B G) s):Aj M A (Rt m) Q E s:=by
 unfold Rt;refine AB (hd _ (AB ?_));refine V7 (λi=>G.seen.has i) (λi=>Sre.names.getD i "") _ (J h (AH q))
theorem V8{m G:Sre.M}{Q:AX Sre.M->AE->Prop}(hd:∀Q:Sre.M->AE->Prop,Q G s->Aj M A (Xf (2^64) m) Q E s)(h:G.outcome=B .failed)(q:Q AJ s):Aj M A (Rt m) Q E s:=by
 unfold Rt;refine AB (hd _ (AB ?_));refine V7 (λi=>G.seen.has i) (λi=>Sre.names.getD i "") _ (J h (AH q))
theorem QI{u:Bc Z}{pos k:Z}{Q:AX Sre.M->AE->Prop}(a:pos<=u.size)(V:Rx.Hg u (u.size-pos) pos=B k)(q:∀m,Rx.Found m k->Q (B m) s):Aj M A (Rt (Oe Rx.code u 1 pos u.size AD)) Q E s:=by
 refine Aw (Rx.Tz a V) λIu e=>Fb (Rx.OM V) λW C T b=>Aa (Rx.ZH (by exact tK ‹_› ‹_›) T) λP H=>J e (aa (λQ q=>ac P rfl (by refine J H.out rfl) q) H.out (q _ H))
theorem Qn{u:Bc Z}{pos:Z}{Q:AX Sre.M->AE->Prop}(a:pos<=u.size)(V:Rx.Hg u (u.size-pos) pos=AJ)(q:Q AJ s):Aj M A (Rt (Oe Rx.code u 1 pos u.size AD)) Q E s:=by
 refine DU (Rx.VC a V) λm e W C T=>J e ?_;have st:m.step.outcome=B .failed:=by
  unfold Sre.M.step;refine J T (J W (J C ?_));rfl
 have l:m.runFor 4=m.step:=by
  refine J (Rx.Gz m (by refine J T ?_;rfl)) (J (Rx.Pm _ _ (by refine J st ?_;rfl)) ?_);rfl
 exact V8 (λQ q=>Yy l (by refine J st ?_;rfl) q) st q
end
end
section
open PySem.Builtin PySem.Builtin.Re
noncomputable def Q5(h:BJ)(d:AW):Prop:=∃o Y q v items n G t2,h.get? d=B o/\o.cls=.type "re.Pattern"/\o.dict=AJ/\o.data=.fields Y/\Y.getD 6 .none=.int 0 G/\Y.getD 2 .none=.int 1 t2/\Y.getD 5 .none=.ref q/\h.get? q=B v/\v.data=.seq items n/\(items.map aQ).map (·.toNat)=Rx.code
theorem Q5.grow{hB h h':BJ}{d:AW}(g:Bk hB h h')(x:Q5 h d):Q5 h' d:=by
 refine Xw x λo Y q v items n G t2 W C T F y P k K M X=>Y0 o Y q v items n G t2 (g.get W (by refine J C F7)) C T F y P k (g.Gk K (by refine J M MQ)) M X
section
variable{prog:DH}{w:Em}{A:BQ}{E:AF->AE->Prop}{s:AE}
theorem V6{d:AW}{l:U Z}{t:Jd}{Q:ReTarget->AE->Prop}(a:Q5 s.heap d)(q:Q ⟨.ref d,.str (tx l) t,Rx.code,(tx l).cps,0,1,0,(tx l).cps.size⟩ s):Aj (BF prog w) A (reWholeTarget (.ref d) (.str (tx l) t)) Q E s:=by
 refine Xw a λo Y D v items n G t2 W C T F y P k K M X=>AB (AB (Gl W ?_));refine J F (AH (AB (AB (AH ?_))));refine AH ?_;dsimp only;refine J y (J P (J k (AB (BB rfl ?_))));refine AB (AB (KO K M (AH ?_)));refine AH (?_:Q ⟨_,_,((items.map aQ).map (·.toNat)),_,_,_,_,_⟩ s);refine J X q
end
noncomputable def Gg(l:U Z):U Z:=l.flatMap λx=>if Rx.sp x=AO then[92,x]else[x]
noncomputable def bu(ch:Z)(G:EJ)(v:AF):Prop:=∃a l t d k li tup n,v=.ref a/\G a=B {cls:=.type "re.Match",dict:=AJ,data:=.fields #[.str (tx l) t,.ref d,BI 0,BI n,BI li,.ref tup],slots:=#[]}/\G tup=B (Qq [BI (k:Z),BI ((k+1:Z):O),BI (k:Z),BI ((k+1:Z):O)] 0)/\l[k]?=B ch
noncomputable def RF(ch:Z):V:=.abs (bu ch)
theorem Vb(ch:Z):Sr (bu ch):=by
 intro G p v L g;refine U7 g λa l t d k li tup n e W C T=>jO a l t d k li tup n e (L _ _ W (.inl F7)) (L _ _ C (.inl F7)) T
noncomputable def dM(c:Cx)(n:Z)(h0:BJ)(f:AF):Prop:=∀A E s Y v ch(Q:AF->AE->Prop),FD A n->St c s->Bk c.hB h0 s.heap->(∀a∈Y,h0.get? a=AJ)->Hf Y s.heap->Rd (fz Y s.heap) (RF ch) v->(∀r s',St c s'->Bk c.hB s.heap s'.heap->(∃t,r=.str (tx [92,ch]) t)->Q r s')->Aj (BF c.prog c.w) A (Hi f [v]) Q E s
noncomputable def LZ(l:U Z)(p:Z)(S:U AF):Prop:=∃c:U (BA×Jd),S=Eo c/\(c.map λx=>x.1.cps.toList).flatten=Gg (l.take p)/\c.length<=2*p
theorem G9(a b:U Z):Gg (a++b)=Gg a++Gg b:=by simp[Gg]
theorem Ws(l:U Z)(h:∀x∈l,Rx.sp x=AD):Gg l=l:=by
 induction l with|nil=>rfl|cons x l I=>have W:=h x AQ;have :=I λy t=>h y (AU _ t);simp only[Gg,kI,W,Fa,KL]at this⊢;refine J this ?_;rfl
theorem PD(l:U Z):(Gg l).length<=2*l.length:=by
 induction l with|nil=>decide|cons x l I=>have e:Gg (x::l)=(if Rx.sp x=AO then[92,x]else[x])++Gg l:=rfl;refine J e (J AZ (J Ah ?_));split<;>simp only[Ah,BU]<;>(first|exact pT ‹_›|exact pQ ‹_›|omega)
theorem LZ.slice{l:U Z}{p k:Z}{S:U AF}(h:LZ l p S)(d:p<k)(R:k<=l.length)(g:∀j,p<=j->j<k->Rx.sp ((tx l).cps.getD j 0)=AD)(t:Jd):LZ l k (S++[.str ⟨(tx l).cps.extract p k⟩ t]):=by
  refine CF h λc z W C=>?_;clear h;subst z;refine F8 (c++[(⟨(tx l).cps.extract p k⟩,t)]) (by simp[Eo]) ?_ (by simp;exact tJ ‹_› ‹_›);have e:=by
    have :=(Jg p (l.take k)).symm;rw[oy,Ck (by exact tR ‹_›)]at this;exact this
  refine J e (J (G9 _ _) (J DI (J CP (J W ?_))));congr 1;have m:(tx l).cps.extract p k=((l.take k).drop p).toArray:=by
    apply Gd.mp;simp[tx,LW]
  rewrite[Ws _ ?_];· simp only[Bo,Ky,Ba,DK,BW];refine J m ?_;rfl
  · intro x D;refine Aw (Kv D) λj G=>?_;rcases G with⟨o,H⟩;refine CS H ?_;simp at o;have :=g (p+j) (by exact nr) (by exact tI ‹_›);have hg:(tx l).cps.getD (p+j) 0=l[p+j]'(by exact lz ‹_›):=by
     simp only[tx,Bf];refine J HV (J (AP (by exact lz ‹_›)) ?_);rfl
    rw[hg]at this;simpa using this
theorem LZ.mark{l:U Z}{k ch:Z}{S:U AF}(h:LZ l k S)(R:l[k]?=B ch)(L:Rx.sp ch=AO)(t:Jd):LZ l (k+1) (S++[.str (tx [92,ch]) t]):=by
 refine CF h λc H W C=>J H (F8 (c++[(tx [92,ch],t)]) (by simp[Eo]) ?_ (by simp;exact tH ‹_›));refine J DM (J R (J (G9 _ _) (J DI (J CP (J W ?_)))));simp[Gg,L,tx]
theorem St.own{c:Cx}{s:AE}{D:AW}{a:U AF}{n:Z}{h':BJ}{tk:Z}(S:St c s)(V:c.hB.get? D=AJ)(ho:s.heap.get? D=B (BM a n))(L:∀b,b≠D->h'.get? b=s.heap.get? b)(i:s.toks<=tk):St c {s with heap:=h',toks:=tk}:=S.but [D] (λb hb=>by refine J (AM.mp hb) V) (λb hb o xs e m=>by rw[AM.mp hb,ho]at e;replace e:=EY e;induction e using EC;rfl) (λb o hb e=>(L b (by simpa using hb)).trans e) i
theorem Tt{M:eD}{A:BQ}{E:AF->AE->Prop}{s:AE}{D:AW}{S:U AF}{n:Z}{v:AF}{Q:LL->AE->Prop}(ho:s.heap.get? D=B (BM S n))(H:S.length<=Ay)(q:∀h',h'.get? D=B (BM (S++[v]) (n+1))->(∀b,b≠D->h'.get? b=s.heap.get? b)->Q () {s with heap:=h'}):Aj M A (updateSeq D (·.push v)) Q E s:=by
 refine wpAny_updateSeq ho rfl (q _ ?_ λb hb=>D0 _ _ _ _ hb) (by exact H) (by simp;exact H);have e:=Hy S.toArray n v;refine J (Ca _ ho (by refine(?_:(CV _ (BM S n)).isFreed=AD);rfl)) (J (show(CV (λxs=>xs.push v) (BM S n))=_ from e) ?_);simp[BM]
theorem XB(c:U BA):Txt.join (tx []) c=tx ((c.map λx=>x.cps.toList).flatten):=by
 have l:∀(ps:U BA)(acc:Bc Z),(ps.foldl (λacc p=>acc++(tx []).cps++p.cps) acc).toList=acc.toList++(ps.map λx=>x.cps.toList).flatten:=by
  intro ps;induction ps with|nil=>intro acc;simp|cons p ps I=>intro acc;refine J no (J (I _) ?_);simp[tx]
 refine(?_:(⟨(c.drop 1).foldl (λacc p=>acc++(tx []).cps++p.cps) (c.headD Str.empty).cps⟩:BA)=_);congr 1;apply Gd.mp;have :=l (c.drop 1) (c.headD Str.empty).cps;refine J this ?_;clear this;cases c with|nil=>rfl|cons a b=>rfl
theorem aq{c:Cx}{n:Z}{d D:AW}{l:U Z}{t:Jd}{f:AF}{h0:BJ}(xK:Q5 c.hB d)(xE:dM c n h0 f)(hD:c.hB.get? D=AJ)(wy:h0.get? D=AJ)(g:l.length<=1000000):∀(k p cnt:Z)(s:AE)(A:BQ)(R:Result->AE->Prop),l.length-p=k->p<=l.length->FD A (n+1)->St c s->Bk c.hB h0 s.heap->(∃S nn,s.heap.get? D=B (BM S nn)/\LZ l p S)->(∀r s',St c s'->Bk c.hB h0 s'.heap->(∃t,r=.str (tx (Gg l)) t)->R (.ok (.ret r)) s')->HZ (BF c.prog c.w) A (.builtin "re.Pattern.sub.loop" ⟨[.ref d,.str (tx l) t,f,BI 1,BI 0,BI (cnt:Z),BI (p:Z),BI (p:Z),.bool AD,.ref D,.bool AD],[]⟩) R s:=by
 intro k;induction k using Z.strongRecOn with|ind k I=>
 intro p cnt s A R hk E N hS hg H T;refine Au H λS nn ho wl=>?_;clear H;refine JQ RY (J (Around.under_plainId Jq _) (AB (V6 (xK.grow hS.grow) ?_)));have xR:(tx l).cps.size=l.length:=rfl;refine AB (?_:Aj _ _ (Rt (Oe Rx.code (tx l).cps 1 p (tx l).cps.size AD)) _ _ _)
 cases V:Rx.Hg (tx l).cps ((tx l).cps.size-p) p with|some k1=>
    refine QI (‹_›) V λm K=>Fb (Rx.OM V) λF xL Q wm=>?_;have x9:=by exact tG ‹_› ‹_› ‹_›
    have wz:l[k1]?=B ((tx l).cps.getD k1 0):=by
      simp only[tx,Bf];refine J HV (J (AP x9) ?_);rfl
    generalize(tx l).cps.getD k1 0=ch at Q wz;have cont:∀s S nn,St c s->Bk c.hB h0 s.heap->s.heap.get? D=B (BM S nn)->LZ l k1 S->Aj (BF c.prog c.w) A.in1 (do let wu<-reNewMatch (.ref d) (.str (tx l) t) 1 0 (tx l).cps.size m let item<-kb [wu] (Hi f [wu])if(item !=IL)=AO then do
         updateSeq D λx=>x.push item
         Du (.builtin "re.Pattern.sub.loop" ⟨[.ref d,.str (tx l) t,f,BI 1,BI 0,BI ((cnt:O)+1),BI m.handed,BI m.handed,.bool (m.handed==k1),.ref D,.bool AD],[]⟩)else Du (.builtin "re.Pattern.sub.loop" ⟨[.ref d,.str (tx l) t,f,BI 1,BI 0,BI ((cnt:O)+1),BI m.handed,BI m.handed,.bool (m.handed==k1),.ref D,.bool AD],[]⟩)) (λwr s'=>match wr with|.done f=>R (.ok f) s'|.again c'=>c'.quiet=AO/\HZ (BF c.prog c.w) A c' R s') (λe s'=>R (.error e) s') s:=by
      intro s S nn hS hg ho wl;refine AB ?_;unfold reNewMatch;refine J K.marks (J K.lastmark (J K.start (J K.handed (J (Ab (by refine(?_:¬((B9 (((2*0+1:Z):O)<=1)&&B9 (k1+1<k1))||AD)=AO);simp)) (AB (dj (items:=[BI (k1:Z),BI ((k1+1:Z):O),BI (k1:Z),BI ((k1+1:Z):O)]) ?_ (by simp[Ay])))))));generalize xA:({cls:=.type "tuple",data:=.seq [BI (k1:Z),BI ((k1+1:Z):O),BI (k1:Z),BI ((k1+1:Z):O)].toArray}:Gq)=wg;refine GW ?_ (by show _<=_;simp[Ay]);generalize xF:({cls:=.type "re.Match",data:=.fields [Value.str (tx l) t,HD d,BI ((0:Z):O),BI ((tx l).cps.size:Z),BI m.lastindex,HD s.heap.objs.size].toArray}:Gq)=x8;have xG:=Kp.push s wg;have xH:Kp {s with heap:=s.heap.push wg} {s with heap:=(s.heap.push wg).push x8}:=Kp.push {s with heap:=s.heap.push wg} x8;have S2:=(hS.keeps xG).keeps xH;have g2:Bk c.hB s.heap ((s.heap.push wg).push x8):=(B4 xG).trans (B4 xH);have xB:=Bg ho;have xM:Rd (fz [D] ((s.heap.push wg).push x8)) (RF ch) (.ref (s.heap.push wg).objs.size):=by
        refine .abs (Vb ch) ⟨_,l,t,d,k1,m.lastindex,s.heap.objs.size,(tx l).cps.size,rfl,Al.mpr ⟨?_,?_⟩,Al.mpr ⟨?_,?_⟩,wz⟩;·intro wt;rw[AM]at wt;rw[EO]at wt;exact B8 wt (DR (Bm xB))
        ·refine J (Ag _ (by refine CS xF rfl)) (CS xF ?_);rfl
        ·intro wt;rw[AM]at wt;exact B8 wt (DR xB)
        ·refine AR _ (J (Ag _ (by refine CS xA rfl)) (CS xA ?_));rfl
      refine AB (Co ?_);refine xE A.in1 _ _ [D] _ ch _ N.in1 S2 (hg.trans g2) (λa P=>by refine J (AM.mp P) wy) (λa P=>by refine J (AM.mp P) (Lv.grow g2 (.at ho (.inl rfl)))) xM λr s3 S3 g3 H=>Aw H λt3 hr=>?_;clear H;subst hr;have xI:=g2.trans g3;have xJ:=xI.get ho F7;refine CF (id wl) λss wi M wo=>AB (Tt xJ (by refine J wi ?_;simp[Eo,Ay];exact ly ‹_› ‹_› ‹_›) λh' v wh=>?_);have S4:=S3.own hD xJ wh (AN _);have g4:Bk c.hB h0 h':=by
        intro b o e;have hb:b≠D:=λq=>by rw[q,wy]at e;exact Eb e
        refine AC (hg.trans xI b o e) (λz=>(.inl ((wh b hb).trans z))) λX=>(B7 X λx y G=>Au G λwv Y hd z=>.inr ⟨x,y,wv,Y,hd,(wh b hb).trans z⟩)
      have w:(k1+1==k1)=AD:=by simp
      refine J w (AH ⟨iH Jq _,I (l.length-(k1+1)) (by exact tF ‹_› ‹_› ‹_›) (k1+1) (cnt+1) _ A R rfl (by exact z43 ‹_›) N S4 g4 ⟨_,_,v,wl.mark wz Q t3⟩ T⟩)
    have xC:((p:Z):O).toNat=p:=rfl;dsimp only;refine J xC (J K.start ?_);clear V K xL wz;by_cases wn:p<k1
    · refine J (Ap wn) (AB (CF (id wl) λss wi M wo=>Rv ?_ (by refine(?_:(Yt _ _ _).size<=Ay);simp[Ay,tx];exact tE ‹_›)));refine AB (Tt ho (by refine J wi ?_;simp[Eo,Ay];exact tD ‹_› ‹_› ‹_› ‹_›) λh' v wh=>?_);refine cont _ _ _ (hS.own hD ho wh (BH _)) ?_ v (wl.slice wn (by exact tR ‹_›) wm _);intro b o e;have hb:b≠D:=λq=>by rw[q,wy]at e;exact Eb e
      refine AC (hg b o e) (λz=>(.inl ((wh b hb).trans z))) λX=>(B7 X λx y G=>Au G λwv Y hd z=>.inr ⟨x,y,wv,Y,hd,(wh b hb).trans z⟩)
    · refine J (Ab wn) ?_;have  :=by exact iW ‹_› ‹_›
      clear F wm x9 wn;subst this;exact cont s S nn hS hg ho wl|none=>
    refine Qn (‹_›) V ?_;have wm:∀(n i j:Z),Rx.Hg (tx l).cps n i=AJ->i<=j->j<i+n->Rx.sp ((tx l).cps.getD j 0)=AD:=by
      intro n;induction n with|zero=>intro i j M W C;exact(tC ‹_› ‹_›).elim|succ n xN=>intro i j h W C;unfold Rx.Hg at h;cases L:Rx.sp ((tx l).cps.getD i 0)with|true=>rw[Ap L]at h;exact jc h|false=>
         rw[L,Ab (by decide)]at h;by_cases e:j=i;·refine J e L
         ·exact xN (i+1) j h (by exact m0 ‹_› ‹_›) (by exact tB ‹_›)
    have wr:∀s S nn,St c s->Bk c.hB h0 s.heap->s.heap.get? D=B (BM S nn)->LZ l l.length S->Aj (BF c.prog c.w) A.in1 (do let wq<-reSlice (tx l).cps 0 0 0 let xO<-seqItems? (.ref D)if(xO.getD #[]).isEmpty=AO then ret wq else do let u<-Hi (.builtin "str.join") [wq,.ref D]ret u) (λwr s'=>match wr with|.done f=>R (.ok f) s'|.again c'=>c'.quiet=AO/\HZ (BF c.prog c.w) A c' R s') (λe s'=>R (.error e) s') s:=by
      intro s S nn hS hg ho H;refine CF H λss wi wj wo=>?_;clear H;rw[GZ]at wj;refine AB (Rv ?_ (by refine(?_:(Yt _ _ _).size<=Ay);simp[Ay]));have he:(⟨(tx l).cps.extract 0 0⟩:BA)=tx []:=by simp[tx]
      refine J he (AB (KO ho rfl ?_));have S1:St c {s with toks:=s.toks+1}:=hS.keeps (Kp.tok s (BH _));clear wo;by_cases wx:S=[]
      · have xP:ss=[]:=by
         clear ho wj;subst wi;cases ss with|nil=>rfl|cons a b=>exact di wx
        clear ho wi;subst wx;rw[xP]at wj;exact AH (T _ {s with toks:=s.toks+1} S1 hg ⟨_,by refine CS wj rfl⟩)
      · refine J (Ab (by clear ho wi;cases(S)<;>simp at wx⊢)) (AB ?_);have xD:(ss.map λx=>x.1.cps.toList).flatten.length=((ss.map (·.1)).toArray.foldl (·+·.length+(tx []).length) 0):=by
         have :∀(xs:U BA)(acc:Z),xs.foldl (·+·.length+(tx []).length) acc=acc+(xs.map λx=>x.cps.toList).flatten.length:=by
          intro xs;induction xs with|nil=>intro acc;rfl|cons x xs xQ=>intro acc;refine J no (J (xQ _) ?_);simp[Str.length,tx];exact z90
         (rewrite[U.foldl_toArray'];refine J (this _ _) ?_)<;>simp[EE,MA]
        have xS:=PD l;refine Ad (CM (SC.join ⟨_,ho,rfl,nn,by refine J wi rfl⟩ rfl ?_ λt' k=>⟨Keeps.tok _ _,t',?_⟩)) (λr s' H=>(B7 H λht hk hr=>AH (T r s' (S1.keeps ⟨hk,ht⟩) (hg.trans (B4 (s:={s with toks:=s.toks+1}) ⟨hk,ht⟩)) hr))) λM M x=>x.2;· unfold JoinOk;refine CS xD (J wj ?_);simp[KI,Ay];exact tA ‹_› ‹_›
        · refine J (XB _) (J EE ?_);have  :=wj;refine J this rfl
    have xC:((p:Z):O).toNat=p:=rfl;dsimp only;clear hk xC;by_cases wn:p<l.length
    · refine J (Ap wn) (AB (?_:Aj _ _ (mkStr ⟨(tx l).cps.extract p l.length⟩) _ _ _));refine CF (id wl) λss wi M wo=>Rv ?_ (by refine(?_:(Yt _ _ _).size<=Ay);simp[Ay,tx];exact sy ‹_›);refine AB (Tt ho (by refine J wi ?_;simp[Eo,Ay];exact ly ‹_› ‹_› ‹_›) λh' v wh=>?_);refine wr _ _ _ (hS.own hD ho wh (BH _)) ?_ v (wl.slice wn (AN _) (λj W C=>wm _ _ j V W (by exact sx ‹_› ‹_›)) _);intro b o e;have hb:b≠D:=λq=>by rw[q,wy]at e;exact Eb e
      refine AC (hg b o e) (λz=>(.inl ((wh b hb).trans z))) λX=>(B7 X λx y G=>Au G λwv Y hd z=>.inr ⟨x,y,wv,Y,hd,(wh b hb).trans z⟩)
    · refine J (Ab wn) ?_;have  :=by exact iW ‹_› ‹_›
      clear E V wn;subst this;exact wr s S nn hS hg ho wl
end
structure dP(G:EJ)(Zq:U (BA×AW))(cv:U (BA×V)):Prop where
has:∀x d,cv.lookup x=B d->∃k oc u,Zq.lookup x=B k/\G k=B oc/\oc.data=.cell (B u)/\Rd G d u
cell:∀x k,Zq.lookup x=B k->∃oc u,G k=B oc/\oc.data=.cell u
inj:∀x y k,Zq.lookup x=B k->Zq.lookup y=B k->x=y
theorem dP.sub{G p:EJ}(L:MB G p){z:U (BA×AW)}{cv:U (BA×V)}(h:dP G z cv):dP p z cv where
 has:=λx d e=>by refine Lc (h.has x d e) λk N u a b w r=>UE k N u a (L _ _ b (.inr (by refine J w MQ))) w (Rd.sub L r)
 cell:=λx k e=>by refine Au (h.cell x k e) λN u a c=>FK N u (L _ _ a (.inr (by refine J c MQ))) c
 inj:=h.inj
noncomputable def fnR(i:Dl)(body:Mz)(S:Cw)(cv:U (BA×V))(G:EJ)(v:AF):Prop:=∃a o fd cd N b t,v=.ref a/\G a=B o/\o.cls=.type "function"/\o.data=.func fd/\fd.params=i/\fd.body=body/\fd.scope=S/\fd.globals=Cc/\fd.builtins=CU/\fd.defaults=.none/\fd.code=.ref cd/\G cd=B N/\N.cls=.type "code"/\N.data=.fields b/\b[1]?=B (.str fd.qualname t)/\dP G fd.closure cv
theorem Vt{i:Dl}{body:Mz}{S:Cw}{cv:U (BA×V)}:Sr (fnR i body S cv):=by
 intro G p v L g;refine QX g λa o fd cd N c t W C T F y P k K M X h l x s u b=>Y1 a o fd cd N c t W (L _ _ C (.inl (by refine J T F7))) T F y P k K M X h (L _ _ l (.inl (by refine J x F7))) x s u (b.sub L)
noncomputable def YG(i:Dl)(body:Mz)(S:Cw)(cv:U (BA×V)):V:=.abs (fnR i body S cv)
noncomputable def cG(S:Cw)(L:AW)(z:U (BA×AW))(q:BA)(fa:AW)(cd:AF):Nx:=newEnv S L Cc z q (B fa) cd AJ CU
noncomputable def Fx.lam(c:Cx)(n:Z)(S:Cw)(L:AW)(z:U (BA×AW))(q:BA)(fa:AW)(cd:AF)(Y:U AW):Fx:={c:=c,n:=n,env:=cG S L z q fa cd,Mu:=[L],Yc:=Y}
noncomputable def YN(cv:U (BA×V)):AS:=cv.map λp=>(p.1,.v p.2)
theorem YM(cv:U (BA×V)):CT (YN cv)=[]:=by
 induction cv with|nil=>rfl|cons p r I=>exact I
theorem Rb{cv:U (BA×V)}{x:BA}{sl:Sl}(h:(YN cv).lookup x=B sl):∃d,sl=.v d/\cv.lookup x=B d:=by
 induction cv with|nil=>simp[YN]at h|cons p r I=>rcases p with⟨y,d⟩;simp only[YN,Bo,Am]at h⊢;cases e:x==y with|true=>rw[e]at h;clear I;replace h:=EY h;induction h using EC;exact AK d rfl rfl|false=>rw[e]at h;exact I h
theorem Iw{X:Type}(x:BA):∀(a b:U (BA×X)),(a++b).lookup x=match a.lookup x with|B v=>B v|AJ=>b.lookup x:=by
 intro a;induction a with|nil=>intro b;exact rfl|cons c a I=>rcases c with⟨y,v⟩;intro b;refine J Dw (J Am (J Am ?_));cases x==y with|true=>rfl|false=>exact I b
theorem L7:∀(σ b:AS),CT (σ++b)=CT σ++CT b|[],b=>rfl|(x,.v d)::r,b=>L7 r b|(x,.own a xs)::r,b=>by refine(?_:a::CT (r++b)=a::(CT r++CT b));refine J (L7 r b) rfl
theorem TO{c:Cx}{n:Z}{S:Cw}{cv:U (BA×V)}{names:U BA}{z:U (BA×AW)}{q:BA}{fa:AW}{cd:AF}{Y:U AW}{ds:U V}{F:U AF}{s:AE}{h':BJ}{L:AW}(hw:Wf c)(j:St c s)(hL:Hf Y s.heap)(wg:dP (fz Y s.heap) z cv)(wi:C3 (fz Y s.heap) ds F)(wt:ds.length=names.length)(r:s.heap.objs.size=L)(R:S.kind=.function)(t:names.Nodup)(C:(names.all λx=>S.names.lookup x==B .local)=AO)(wh:(cv.all λp=>S.names.lookup p.1==B .free&&!(p.1==("__classdict__":BA))&&!names.contains p.1)=AO)(W:h'.Ns L (λx=>(names.zip F).reverse.lookup x))(wj:Heap.SameBut L (s.heap.push {cls:=.type "frame",data:=.dict #[]}) h')(tk:Z)(wl:s.toks<=tk):FX (Fx.lam c n S L z q fa cd Y) s.heap (Cv names ds++YN cv) {s with heap:=h',toks:=tk}:=by
 have A:=r▸EK _;have G:∀b o,s.heap.get? b=B o->h'.get? b=B o:=λb o e=>by
  have hb:b≠L:=λq=>by rw[q,A]at e;exact Eb e
  exact(wj.2 b hb).trans (AR _ e)
 have T:Bk c.hB s.heap h':=.of_keep G;have l:CT (Cv names ds++YN cv)=[]:=by refine J (L7 _ _) (J (H0 _ _) (J (YM _) ?_));rfl
 have hX:(Fx.lam c n S L z q fa cd Y).X (Cv names ds++YN cv)=[L]++Y:=by simp[Fx.X,Fx.Xo,Fx.lam,l]
 have Uj:MB (fz Y s.heap) (fz ([L]++Y) h'):=by
  intro b o e f;rw[Al]at e⊢;refine⟨λK=>?_,G b o e.2⟩;refine AC (Ai.mp K) (λh=>?_) λh=>(e.1 h);·rw[AM.mp h,A]at e;cases e.2
 refine⟨j.keep G wl,⟨⟨R,rfl,rfl⟩,⟨_,W⟩,λx k e=>(Au (wg.cell x k e) λN u e1 e2=>FK u N (G _ _ (Al.mp e1).2) e2),wg.inj,λx sl e=>?_,λa ha=>?_,λx y a xs ys e1 M=>?_⟩,T,j.grow,λb hb=>?_⟩;· rw[Iw]at e;refine J hX ?_;cases E:(Cv names ds).lookup x with
  |some wu=>
rw[E]at e;replace e:=EY e;induction e using EC;refine Cj (MN wi E) λd v P K m=>?_;subst P;have D:=(nl K).1;have wm:=Bi.mp C x D;refine AK v (λM=>.inl ⟨(show S.names.lookup x=B .local by simpa using wm),_,W,?_⟩) (Rd.sub Uj m);have wn:∀(ns:U BA)(as:U AF),ns.Nodup->(x,v)∈ns.zip as->(ns.zip as).reverse.lookup x=B v:=by
 intro ns;induction ns with|nil=>intro as M h;exact JZ h|cons y ys I=>intro as hn h;cases as with|nil=>exact JZ h|cons a as=>
            refine J U.zip_cons_cons (J Ly ?_);rewrite[Iw];have X:=Uz.mp hn;clear hn;refine AC (Ae.mp h) (λh=>?_) λh=>?_
            · refine nQ h ?_;clear h;intro Q i;induction Q using EC;induction i using EC;have :((ys.zip as).reverse).lookup x=AJ:=by
               cases g:((ys.zip as).reverse).lookup x with|none=>rfl|some w=>have :=Ea g;exact B8 (nl (l5.mp this)).1 X.1
              refine J this ?_;simp
            ·refine J (I as X.2 h) rfl
exact wn names F t K|none=>rw[E]at e;refine AI (Rb e) λd H hd=>J H (Lc (wg.has x d hd) λk N u wo wq wr m=>?_);have hf:=Bi.mp wh (x,d) (Ea hd);simp only[Bs,BG,JH]at hf;exact AK u (λM=>.inr (.inr ⟨⟨hf.1.1,hf.1.2⟩,k,wo,N,G _ _ (Al.mp wq).2,wr⟩)) (Rd.sub Uj m)
 · rw[hX]at ha;refine AC (Ai.mp ha) (λh=>(J (AM.mp h) (Lv.ns W))) λh=>((hL a h).grow T)
 · have :=Cn e1;rw[l]at this;exact JZ this
 · refine AC hb (λh=>(J (AM.mp h) A)) λh=>?_;·rw[l]at h;exact JZ h
theorem RI{c:Cx}{n:Z}{wh:Dl}{body:BL}{S:Cw}{cv:U (BA×V)}(names:U BA){Y:U AW}{v:AF}{u:U V}{F:U AF}{s:AE}{A:BQ}{E:AF->AE->Prop}{Q:V->Prop}(hw:Wf c)(N:FD A (n+1))(j:St c s)(K:Hf Y s.heap)(rv:Rd (fz Y s.heap) (YG wh (.expr body) S cv) v)(i:C3 (fz Y s.heap) u F)(wi:u.length=names.length)(R:S.kind=.function)(X:S.isCoroutine=AD)(I:S.isGenerator=AD)(wo:(S.names.all λx=>x.2 !=.cell)=AO)(wq:names.Nodup)(wg:(names.all λx=>S.names.lookup x==B .local)=AO)(g:(cv.all λp=>S.names.lookup p.1==B .free&&!(p.1==("__classdict__":BA))&&!names.contains p.1)=AO)(w:∀(fd:EA)(l:U AF),fd.params=wh->fd.defaults=.none->l.length=names.length->ES fd ⟨l,[]⟩=Bz (names.zip l))(h:∀L z q fa cd,WE (Fx.lam c n S L z q fa cd Y) (Cv names u++YN cv) (Fx.lam c n S L z q fa cd Y).Xo body Q):Aj (BF c.prog c.w) A (Hi v F) (λr s'=>St c s'/\Bk c.hB s.heap s'.heap/\∃d,Rd (fz Y s'.heap) d r/\Q d) E s:=by
  induction rv using Rd.eA with|abs _ rv=>
  refine QX rv λa o fd cd oc vs t H C h3 h4 y P k h8 h9 wr wt wu wz wv wx wy=>J H ?_;have wj:=i.length▸wi;have f:s.heap.CodeRec fd.code fd.qualname:=⟨cd,oc,vs,t,wt,(Al.mp wu).2,wv,wx⟩;refine Gm (kla_callFunE N.room (Al.mp C).2 h4 (k▸X) (k▸I) P f ?_);refine J (w fd F y wr wj) (J k (J h8 (J h9 ?_)));have wl:(names.zip F).map (·.1)=names:=by refine J (N6 (B6 wj.symm)) rfl
  refine AH (IK (λx D=>by have :=Bi.mp wo x D;simpa using this) (λx D=>?_) (λh' W wm=>⟨?_,?_⟩) R)
  · have hy:x.1∈names:=by refine CS wl (Kt D)
    have :=Bi.mp wg x.1 hy;simpa using this
  · have wn:∀b o,s.heap.get? b=B o->h'.get? b=B o:=λb o e=>by
     have hb:b≠s.heap.objs.size:=λq=>by rw[q,EK]at e;exact Eb e
     exact(wm.2 b hb).trans (AR _ e)
    exact(NoLimit.grow j.grow hw.lim).keeps wn
  · have T:=TO (n:=n) (q:=fd.qualname++".<locals>.") (fa:=a) (cd:=fd.code) hw j K wy i wi rfl R wq wg g W wm (s.toks+(names.zip F).length) (As _ _);refine kla_codeExpr (Ad (h _ _ _ _ _ _ _ _ (N.deeper _) T.st T.rep) (λr s' H=>?_) λM M x=>x);refine B7 H λS' g' G=>AI G λd m q=>⟨S',T.grow.trans g',d,Rd.sub (Ed (λb hb=>Ac _ hb) _) m,q⟩
theorem cn{c:Cx}{n:Z}{wh:Dl}{body:U G1}{S:Cw}{cv:U (BA×V)}(names:U BA){Y:U AW}{v:AF}{u:U V}{F:U AF}{s:AE}{A:BQ}{E:AF->AE->Prop}{Q:V->Prop}(hw:Wf c)(N:FD A (n+1))(j:St c s)(K:Hf Y s.heap)(rv:Rd (fz Y s.heap) (YG wh (.stmts body) S cv) v)(i:C3 (fz Y s.heap) u F)(wi:u.length=names.length)(R:S.kind=.function)(X:S.isCoroutine=AD)(I:S.isGenerator=AD)(G:(S.names.all λx=>x.2 !=.cell)=AO)(wo:names.Nodup)(wg:(names.all λx=>S.names.lookup x==B .local)=AO)(g:(cv.all λp=>S.names.lookup p.1==B .free&&!(p.1==("__classdict__":BA))&&!names.contains p.1)=AO)(w:∀(fd:EA)(l:U AF),fd.params=wh->fd.defaults=.none->l.length=names.length->ES fd ⟨l,[]⟩=Bz (names.zip l))(h:∀L z q fa cd,WS (Fx.lam c n S L z q fa cd Y) s.heap (Cv names u++YN cv) body (J3 Q)):Aj (BF c.prog c.w) A (Hi v F) (λr s'=>St c s'/\Bk c.hB s.heap s'.heap/\∃d,Rd (fz Y s'.heap) d r/\Q d) E s:=by
  induction rv using Rd.eA with|abs _ rv=>
  refine QX rv λa o fd cd oc vs t wq C h3 h4 y P k h8 h9 wr wt wu x8 wv wx wy=>?_;clear rv;subst wq;have wj:=i.length▸wi;have f:s.heap.CodeRec fd.code fd.qualname:=⟨cd,oc,vs,t,wt,(Al.mp wu).2,wv,wx⟩;refine Gm (Ks N.room (Al.mp C).2 h4 (k▸X) (k▸I) P f ?_);refine J (w fd F y wr wj) (J k (J h8 (J h9 ?_)));have wl:(names.zip F).map (·.1)=names:=by refine J (N6 (B6 wj.symm)) rfl
  refine AH (IK (λx D=>by have :=Bi.mp G x D;simpa using this) (λx D=>?_) (λh' W wm=>⟨?_,?_⟩) R)
  · have hy:x.1∈names:=by refine CS wl (Kt D)
    have :=Bi.mp wg x.1 hy;simpa using this
  · have wn:∀b o,s.heap.get? b=B o->h'.get? b=B o:=λb o e=>by
     have hb:b≠s.heap.objs.size:=λq=>by rw[q,EK]at e;exact Eb e
     exact(wm.2 b hb).trans (AR _ e)
    exact(NoLimit.grow j.grow hw.lim).keeps wn
  · have T:=TO (n:=n) (q:=fd.qualname++".<locals>.") (fa:=a) (cd:=fd.code) hw j K wy i wi rfl R wo wg g W wm (s.toks+(names.zip F).length) (As _ _);refine WM (Ad (h _ _ _ _ _ _ _ _ (N.deeper _) T) (λfl s' H=>?_) λM M x=>x);refine Dg H λwz σ' T' m' r q=>?_;clear H;have wk:∀d v,Rd (fz (Fx.lam c n S s.heap.objs.size fd.closure (fd.qualname++".<locals>.") a fd.code Y).Xo s'.heap) d v->Rd (fz Y s'.heap) d v:=λd v m=>Rd.sub (Ed (λb hb=>Ac _ hb) _) m;cases(fl)<;>cases(wz)<;>simp only[Nh]at r<;>try exact r.elim
    ·exact⟨T'.st,T'.grow,.none,.none,q⟩
    ·exact q.elim
    ·exact q.elim
    ·exact⟨T'.st,T'.grow,_,wk _ _ r,q⟩
theorem jT:specialOf (.builtin "list.append") "__set__"=Bz AJ:=by
 refine(?_:ED (.type "method_descriptor") _=_);kernel_rfl
theorem ZW:specialOf (.builtin "list.append") "__delete__"=Bz AJ:=by
 refine(?_:ED (.type "method_descriptor") _=_);kernel_rfl
theorem Pl:Slot "method_descriptor" "__get__" "method_descriptor.__get__":=.of (owner:="method_descriptor") (n:="__get__") (by kernel_rfl) (by rfl) (by rfl) (by rfl) (by first|exact .inl (by rfl)|exact .inr (by decide+kernel)) (by kernel_rfl)
theorem UQ:SA oR "method_descriptor.__get__"=B Builtin.«method_descriptor.__get__»:=HC (by kernel_rfl)
theorem W6(a b c:AF):Yb "method_descriptor.__get__" ⟨[a,b,c],[]⟩:=by kernel_rfl
noncomputable def LF(a:AW):Gq:={cls:=.type "builtin_function_or_method",data:=.fields #[.builtin "list.append",.ref a]}
theorem PO(a:AW)(xs:Bc AF)(k:Z)(sl:Bc (AX AF))(u:Jd):Meets (Builtin.«object.__getattribute__» ⟨[.ref a,.str "append" u],[]⟩) (λA R s=>s.heap.get? a=B {cls:=.type "list",dict:=AJ,data:=.seq xs k,slots:=sl}/\(∀tk,R (.ok (.ret (.ref s.heap.objs.size))) {s with heap:=s.heap.push (LF a),toks:=tk})):=Meets.of_wp λprog w A R s L=>by
 rcases s with⟨E,g,d,tk,os⟩;refine Aa L λD L=>?_;have V:(⟨E,g,d,tk,os⟩:AE).TypeIs (.ref a) "list":=⟨_,D,rfl⟩;have b:=G7.lookup;unfold Builtin.«object.__getattribute__»;repeat(any_goals(first|assumption|wp_step))
 refine BB (by refine J (CB _ _) (J BP ?_);kernel_rfl) (AB (m:=Uy (B (Value.builtin "list.append")) (B (.builtin "method_descriptor.__get__"))) (BB (a:=AJ) ?_ ?_));· unfold Uy Builtin.ObjectAttr.takesStores;dsimp only;refine J jT (J ZW ?_);rfl
 repeat(any_goals(first|assumption|wp_step))
 have S:=Oi;refine FN Pl.plain UQ (Pl.check _ _ _ _ _ _ _ _ S (W6 _ _ _) ?_);unfold Builtin.«method_descriptor.__get__»;refine AB (BB (a:=(.builtin "list.append",B (.ref a),B (.type "list"))) rfl ?_);dsimp only;refine J (Ab (by decide+kernel)) (AB (AB (BB (a:=(BR "append",.type "list")) (by kernel_rfl) ?_)));dsimp only;refine AB (Of (b:=AO) V (by refine J (Ek _ _) ?_;kernel_rfl) ?_);refine J (Ab (by decide)) (AH (AB (GW ?_ (by show _<=_;simp[Ay]))));exact AH (AH ⟨_,rfl,L _⟩)
theorem UO:ED (.type "list") "__getattr__"=Bz AJ:=list_getattr_none
theorem WZ{prog:DH}{w:Em}{A:BQ}{E:AF->AE->Prop}{s:AE}{a:AW}{S:U AF}{k:Z}{Q:AF->AE->Prop}(D:s.heap.get? a=B (BM S k))(h:∀tk,s.toks<=tk->Q (.ref s.heap.objs.size) {s with heap:=s.heap.push (LF a),toks:=tk}):Aj (BF prog w) A (dR (.ref a) "append" AO) Q E s:=by
 refine Ad (CM (Q:=λv s'=>∃tk,v=.ref s.heap.objs.size/\s'={s with heap:=s.heap.push (LF a),toks:=tk}) ?_) (λv s' X=>by refine Aa X λi G=>AI G λtk e1 I=>by subst e1 I;exact h tk i) λM M x=>x.2;rcases s with⟨c,g,d,tk,os⟩;have V:∀b,(⟨c,g,d,b,os⟩:AE).TypeIs (.ref a) "list":=λM=>⟨_,D,rfl⟩;have F:=Jj.lookup;have j:=Jj.bind (.ref a);have W:=UO;unfold dR getAttrBy;repeat(any_goals(first|assumption|exact V _|((refine(?_:Aj _ _ (Hi (Value.builtin "list.__getattribute__") _ _) _ _ _));refine QA Jj (V _) am_entry_list_getattribute (PySem.F.args_list_getattribute_2 _ _) (PO a S.toArray k #[] _) ⟨D,λb=>?_⟩)|wp_step))
 refine(?_:Aj _ A (handedOut (.ref _)) _ _ _);exact AH ⟨b,rfl,rfl⟩
section
section
variable{M:eD}{A:BQ}{E:AF->AE->Prop}{s:AE}
theorem UW{pos:EQ}{u a:AW}{F:U (BC×Sem AF)}{Q:AF->AE->Prop}(b:F.any (·.1)=AD)(h:Aj M A (evalArgs (.ref u) AO F []) (λx s₁=>s₁.heap.get? u=B (LF a)/\Aj M A (Hi (.ref u) ([]++x.pos) x.kw) Q E s₁) E s):Aj M A (callWith pos (.ref u) [] F []) Q E s:=by
 unfold callWith;refine AB (Co (Ad h (λx s₁ C=>AB (Dx ?_)) λd d x=>x));refine Aa C λho c=>?_;dsimp only;rw[b];refine AB (AB (Gl ho ?_));refine AH (AB (Ad c (λr y hr=>AB (Co (oN (AH hr)))) λd d x=>x))
end
section
variable{prog:DH}{w:Em}{A:BQ}{E:AF->AE->Prop}{s:AE}
theorem az:(Tg "list.append").isSome=AO:=by kernel_rfl
noncomputable def b9:Manifest.Signature:=(Tg "list.append").get az
theorem fF:Tg "list.append"=B b9:=(AX.some_get _).symm
theorem Zr(a v:AF):Bind.checkArgs "list.append" {b9 with full:=toString (Bind.lastOf "list")++toString "."++toString (Bind.lastOf "list.append")} ⟨[a,v],[]⟩=Bz ():=by kernel_rfl
theorem cH:builtinKind "list.append"=B .method:=by kernel_rfl
theorem d6{u a:AW}{v:AF}{S:U AF}{n:Z}{Q:AF->AE->Prop}(i:s.heap.get? u=B (LF a))(ho:s.heap.get? a=B (BM S n))(H:S.length<=Ay)(h:∀h',h'.get? a=B (BM (S++[v]) (n+1))->(∀b,b≠a->h'.get? b=s.heap.get? b)->Q .none {s with heap:=h'}):Aj (BF prog w) A (Hi (.ref u) [v]) Q E s:=by
 refine Gm (aJ ?_);refine AB (Gl i ?_);refine(?_:Aj _ A.in1 (do checkBoundCall "list.append" ⟨[.ref a,v],[]⟩;Du (.builtin "list.append" ⟨[.ref a,v],[]⟩)) _ _ s);have V:s.TypeIs (.ref a) "list":=⟨_,ho,rfl⟩;refine AB ?_;unfold checkBoundCall;refine J fF (J cH ?_);dsimp only;refine AB (Of (b:=AD) V (by kernel_rfl) ?_);refine AB (AB (HB ho ?_));refine AH (AB (wpAny_typeOf V ?_));refine BB (Zr _ _) (AH ⟨iH G7.plain _,JQ PySem.F.entry_list_append ?_⟩);refine list_append a S.toArray n v (by exact H) prog w A (wants Q E) s ⟨ho,?_⟩;have R:(s.heap.update a (CV λxs=>xs.push v)).get? a=B (BM (S++[v]) (n+1)):=by
  have e:=Hy S.toArray n v;refine J (Ca _ ho (by refine(?_:(CV _ (BM S n)).isFreed=AD);rfl)) (J (show(CV (λxs=>xs.push v) (BM S n))=_ from e) ?_);simp[BM]
 exact h _ R λb hb=>D0 _ _ _ _ hb
end
variable{F:Fx}{h₀:BJ}{σ:AS}{Y:U AW}{c:Cx}
noncomputable def d7(a:AW)(G:EJ)(v:AF):Prop:=∃u,v=.ref u/\G u=B (LF a)
theorem Vy(a:AW):Sr (d7 a):=λG p v L X=>by refine AI X λu e h=>AK u e (L _ _ h (.inl F7))
noncomputable def Rj(a:AW):V:=.abs (d7 a)
theorem W9{x:BA}{a:AW}{xs:U V}{X pos:EQ}{Q:V->Prop}(D:σ.lookup x=B (.own a xs))(K:∀b∈Y,b∈F.X σ)(q:Q (Rj a))(hd:(x==("__debug__":BA))=AD:=by decide)(hg:Hd x=AD:=by decide):WE F σ Y (.Attribute (.Name x X) "append" pos) Q:=by
 intro A E s N j T;refine WF (FX.J4 T D (λS n ho r=>WZ ho λtk c=>?_) hd hg);exact Gr.of j (.refl _ _) ⟨⟨_,tk,rfl,λb o e=>AR _ e⟩,c⟩ (.abs (Vy a) ⟨_,rfl,Al.mpr ⟨(T.Ft K).size,Ag _ rfl⟩⟩) q
theorem JO{f x:BA}{a:AW}{xs:U V}{e:BL}{X K pos:EQ}{Q:Ha->AS->Prop}(P:σ.lookup f=B (.v (Rj a)))(D:σ.lookup x=B (.own a xs))(H:xs.length<=Ay)(h:WE F σ (F.X σ) e λd=>Q .next (σ.put x (.own a (xs++[d]))))(he:∀env,Bn [e] env=[(AD,Gp e env)]:=by intro M;rfl)(hi:No F.env=AD:=by rfl)(hd:(f==("__debug__":BA))=AD:=by decide)(hg:Hd f=AD:=by decide):W1 F h₀ σ (.Expr (.Call (.Name f X) [e] [] K) pos) Q:=by
 intro A E s N T;refine dq ?_ hi rfl;refine AI (T.rep.slot f _ P) λL v b=>IW (Gn ((v hg).load T.rep.ok.kind ?_) hd);induction b using Rd.eA with|abs _ b=>
 refine AI b λu z R=>?_;clear b;subst z;have hb:∀pos,Fg pos (Bn [e] F.env)=(AD,Gp e F.env)::Fg pos []:=λpos=>by refine J (he _) ?_;rfl
 refine UW (a:=a) (by refine J (hb _) ?_;rfl) (J (hb _) (oh (CS (hb _) ?_)));have r:OV F σ (F.X σ) [e] λI=>∃d,I=[d]/\Q .next (σ.put x (.own a (xs++[d]))):=Cz (h.mono λd q=>Er ⟨d,rfl,q⟩) λenv=>by refine J (he _) ?_;rfl
 refine r.bind N T.st T.rep λS s₁ I l w t m H=>AI H λd e q=>?_;clear H;subst e;induction m using C3.eC with|cons m n=>induction n using C3.eN;have g:=w.get (Al.mp R).2 F7;refine DU (t.slot x _ D) λM M M M G=>Au G λc i y o=>?_;have j:=T.next l w;refine⟨g,?_⟩;refine d6 g y (by refine CS o.length H) λh' p C=>Aa (j.NW D p C (o.append (.cons m .nil)) (AN _)) λY k=>Dm .next _ Y ((CZ.DO w).trans j k) Bl q
end
section
open PySem.Builtin PySem.Builtin.Re
theorem QJ:ED (.type "function") "__call__"=Bz (B (.builtin "function.__call__")):=by kernel_rfl
theorem VK(f g:AF):reNamed "re.Pattern.sub" "sub" ["repl","string","count"] 2 [f,g] []=Bz [B f,B g,AJ]:=rfl
theorem Wc{M:eD}{A:BQ}{E:AF->AE->Prop}{s:AE}{id:oK}{x:BA}{t:Jd}{Q:LL->AE->Prop}(q:Q () s):Aj M A (reNotHeld id (.str x t)) Q E s:=by
 unfold reNotHeld;refine AB (Of (b:=AD) (G0 _ _ _) (by kernel_rfl) ?_);exact AH q
theorem d4{c:Cx}{n:Z}{d:AW}{l:U Z}{t:Jd}{f:AF}{s:AE}{A:BQ}{E:AF->AE->Prop}{Q:AF->AE->Prop}(b:Q5 c.hB d)(V:s.TypeIs f "function")(e:dM c n s.heap f)(N:FD A (n+1))(j:St c s)(g:l.length<=1000000)(h:∀r s',St c s'->Bk c.hB s.heap s'.heap->(∃t,r=.str (tx (Gg l)) t)->Q r s'):Aj (BF c.prog c.w) A (Hi (.builtin "re.Pattern.sub") [.ref d,f,.str (tx l) t]) Q E s:=by
 have S:s.TypeIs (.ref d) "re.Pattern":=by
  refine j8 (b.grow j.grow) λo Y D v items m G t2 W C M=>AK o W C
 refine Gm (FN Ii.plain OP (Ii.check _ _ _ _ _ _ _ _ S (PY _ _ _) ?_));unfold Builtin.«re.Pattern.sub» reSubstitute;dsimp only;refine J (VK _ _) (AB (AH ?_));refine AB (AH ?_);refine AB (aI V QJ ?_);refine AB (AH ?_);refine AB (AH ?_);refine AB (Co (V6 (b.grow j.grow) ?_));refine AB (Wc ?_);refine AB (Ug ?_ (by simp[Ay]));generalize q:({cls:=.type "list",data:=.seq ([]:U AF).toArray}:Gq)=R;have a:=j.keeps (Kp.push s R);have i:s.heap.get? s.heap.objs.size=AJ:=EK _;refine AH ⟨iH Jq _,?_⟩;refine aq b e (Bk.none j.grow i) i g (l.length-0) 0 0 _ A _ rfl (Ao _) N a (Bk.push R) ⟨[],0,?_,[],rfl,rfl,Ao _⟩ λr s' x u hr=>h r s' x u hr;refine J (Ag _ (by refine CS q rfl)) (CS q ?_);rfl
variable{F:Fx}{h₀:BJ}{σ:AS}{Y:U AW}{c:Cx}
noncomputable def iB(c:Cx)(n:Z)(d:V):Prop:=∀Y s f,St c s->Hf Y s.heap->Rd (fz Y s.heap) d f->dM c n s.heap f
theorem cX{i:Dl}{body:Mz}{S:Cw}{cv:U (BA×V)}{Y:U AW}{s:AE}{v:AF}(h:Rd (fz Y s.heap) (YG i body S cv) v):s.TypeIs v "function":=by
 induction h using Rd.eA with|abs _ D=>refine jB D λa o fd cd N b t H C T M=>J H (AK o (Al.mp C).2 T)
theorem dG{x:BA}{P ap cp:EQ}{e1 I:BL}{d n:AW}{Q:V->Prop}(p:F.n=n+1)(hw:Wf F.c)(R:F.env.kindOf x=B .globalImplicit)(K:F.c.mg x=B (.ref d))(b:Q5 F.c.hB d)(h:OV F σ F.Xo [e1,I] λu=>∃i body S cv l,u=[YG i body S cv,.str l]/\iB F.c n (YG i body S cv)/\l.length<=1000000/\Q (.str (Gg l)))(k:∀env,Hr (.Name x P) "sub" env (eval (.Name x P) env)=eval (.Name x P) env:=by intro M;rfl)(hfew:∀env,((Fg cp (Bn [e1,I] env)).all (λx=>!x.1)&&(SD cp (LN [] env)).all (λx=>x.1.isSome)&&B9 ([e1,I].length+([]:U IX).length+(if([]:U IX).isEmpty then 0 else 1)<30))=AO:=by intro M;rfl)(hline:(ap.endLine==cp.line)=AO:=by rfl)(he:∀env,Bn [e1,I] env=(AD,eval e1 env)::Bn [I] env:=by intro env;rfl)(hp:∀pos env,(Fg pos (Bn [I] env)).any (·.1)=AD:=by intro M M;rfl)(hd:(x==("__debug__":BA))=AD:=by decide):WE F σ Y (.Call (.Attribute (.Name x P) "sub" ap) [e1,I] [] cp) Q:=by
 refine Li λA E s N j hR=>Ff (k _) (hfew _) hline rfl (P0 hw j hR.ok R K ?_ hd);refine U7 (b.grow j.grow) λo fs D v items m G t2 W C T M=>Ld "re.Pattern" "re.Pattern.sub" NY Ii PB ⟨o,W,C⟩ (λa e=>by cases(e);exact AK o W T) (E2 (h.bind N j hR λrs y u f z w c H=>?_) (he _) (hp _ _));refine jF H λi body S cv l e mk g q=>?_;clear H;subst e;induction c using C3.eC with|cons L c=>induction c using C3.eC with|cons rb c=>induction c using C3.eN;induction rb using Rd.eS with|str t=>exact d4 b (cX L) (mk _ _ _ f (w.Ft Be) L) (p▸N) f g λr s' S' g' X=>by refine Aw X λt e=>⟨S',z.trans g',.str (Gg l),e▸.str _ _,Bl,q⟩
theorem ZX{n:Z}{i:Dl}{body:BL}{S:Cw}{x:BA}(p:Wf c)(R:S.kind=.function)(X:S.isCoroutine=AD)(I:S.isGenerator=AD)(P:(S.names.all λx=>x.2 !=.cell)=AO)(C:S.names.lookup x=B .local)(w:∀(fd:EA)(l:U AF),fd.params=i->fd.defaults=.none->l.length=1->ES fd ⟨l,[]⟩=Bz ([x].zip l))(h:∀L z q fa cd Y ch,WE (Fx.lam c n S L z q fa cd Y) (Cv [x] [RF ch]) (Fx.lam c n S L z q fa cd Y).Xo body λd=>d=.str [92,ch]):iB c (n+1) (YG i (.expr body) S []):=by
 intro y g f W F T A E s Y v ch Q N j hg V hL D k;have a:Rd (fz Y s.heap) (YG i (.expr body) S []) f:=by
  refine Rd.sub ?_ T;intro b o e hc;rw[Al]at e⊢;refine⟨λK=>?_,hg.Nc e.2 hc⟩;rw[V b K]at e;cases e.2
 refine Ad (RI [x] p N j hL a (.cons D .nil) rfl R X I P (by simp) (by simp[C]) rfl w (Q:=λd=>d=.str [92,ch]) λL z q fa cd=>?_) (λr s' H=>?_) λM M x=>x;· have :=h L z q fa cd Y ch;simpa[YN]using this
 · refine B7 H λS' u G=>?_;clear H;refine AI G λd m e=>?_;clear G;subst e;induction m using Rd.eS with|str t=>exact k _ s' S' u ⟨t,rfl⟩
end
section
open PySem.Builtin PySem.Builtin.Re
theorem XN{prog:DH}{w:Em}{ch:Z}{v:AF}{t1:Jd}{s:AE}{Y:U AW}{A:BQ}{E:AF->AE->Prop}{Q:AF->AE->Prop}(D:Rd (fz Y s.heap) (RF ch) v)(h:Q (.str (tx [ch]) s.toks) {s with toks:=s.toks+1}):Aj (BF prog w) A (Hi (.builtin "re.Match.group") [v,.int 1 t1]) Q E s:=by
 induction D using Rd.eA with|abs _ D=>
 refine U7 D λa l t d k li tup n G W C R=>?_;clear D;subst G;have F:=(Al.mp W).2;have b:=(Al.mp C).2;have S:s.TypeIs (.ref a) "re.Match":=⟨_,F,rfl⟩;refine Gm (FN Ij.plain OQ (Ij.check _ _ _ _ _ _ _ _ S (PZ _ _) ?_));unfold Builtin.«re.Match.group»;dsimp only;refine AB (BB rfl ?_);refine AB (AB (AB (Gl F (AH ?_))));refine AB (AB (KO b rfl ?_));refine AH (AH ?_);refine AB (AB (BB rfl ?_));refine AB (BB rfl ?_);have c:Bc.map aQ ((B #[BI (k:Z),BI ((k+1:Z):O),BI (k:Z),BI ((k+1:Z):O)]).getD #[])=#[(k:O),((k+1:Z):O),(k:O),((k+1:Z):O)]:=by simp only[Et,U.map_toArray,Bo,Ky];rfl
 dsimp only;refine J (show Bc.map aQ ((B [BI (k:Z),BI ((k+1:Z):O),BI (k:Z),BI ((k+1:Z):O)].toArray).getD #[])=#[(k:O),((k+1:Z):O),(k:O),((k+1:Z):O)]from c) (AH (AB (?_:Aj _ _ (if(B9 ((k:O)<0)||B9 (((k+1:Z):O)<0))=AO then Bz IL else do let x<-reTextOf (.str (tx l) t)reSlice x.1 x.2 (k:O).toNat ((k+1:Z):O).toNat) _ _ _)));refine AB (BB rfl ?_);refine(?_:Aj _ _ (mkStr ⟨(tx l).cps.extract k (k+1)⟩) _ _ _);have e:(⟨(tx l).cps.extract k (k+1)⟩:BA)=tx [ch]:=by
  congr 1;apply Gd.mp;rcases(Az.mp R)with⟨u,hg⟩;simp;refine J (Cu u) (J hg ?_);rfl
 refine J e (Rv (AH h) (by show _<=_;refine J (EL _) ?_;simp[Ay]))
variable{F:Fx}{h₀:BJ}{σ:AS}{Y:U AW}{c:Cx}
theorem Zv{o:BL}{i:O}{I K:EQ}{e:BL}{ch:Z}{Q:V->Prop}(ho:WE F σ F.Xo o λd=>d=RF ch/\WE F σ F.Xo e λd=>d=.int 1/\Q (.str [ch]))(p:∀env,Hr o "group" env (eval o env)=eval o env:=by intro M;rfl)(hfew:∀env,((Fg K (Bn [e] env)).all (λx=>!x.1)&&(SD K (LN [] env)).all (λx=>x.1.isSome)&&B9 ([e].length+([]:U IX).length+(if([]:U IX).isEmpty then 0 else 1)<30))=AO:=by intro M;rfl)(hline:(I.endLine==K.line)=AO:=by rfl)(he:∀env,Bn [e] env=[(AD,eval e env)]:=by intro env;rfl):WE F σ Y (.Call (.Attribute o "group" I) [e] [] K) Q:=by
 refine Li λA E s N j T=>Ff (p _) (hfew _) hline rfl (ho.bind N j T λP s₁ d v w D m H=>?_);refine Aa H λe1 S=>?_;clear H;subst e1;have h:=m;induction m using Rd.eA with|abs _ m=>
 refine U7 m λa l t pa k li tup n G W C R=>?_;clear m;subst G;refine Ld "re.Match" "re.Match.group" PG Ij PC ⟨_,(Al.mp W).2,rfl⟩ (λb e=>by cases(e);exact AK _ (Al.mp W).2 rfl) ?_;have r:OV F σ F.Xo [e] λu=>u=[.int 1]/\Q (.str [ch]):=Cz (S.mono λd X=>by refine Aa X λe q=>Er ⟨by refine J e rfl,q⟩) λenv=>by refine J (he _) rfl
 refine E2 (r.bind N v D λrs y u f z g c H=>?_) (by refine J (he _) rfl) (rfl);refine Aa H λe q=>?_;clear H;subst e;induction c using C3.eC with|cons L c=>induction c using C3.eN;induction L using Rd.eI with|int t1=>exact XN (h.sub (DB z _)) ⟨f.keeps (Kp.tok _ (BH _)),w.trans z,.str [ch],.str _ _,Bl,q⟩
end
section
section
variable{h h':BJ}{P:AW}{o:Gq}
theorem Kr.but{c:AW}(i:Kr h c)(g:h.get? P=B o)(j:o.cls=.none)(D:EH P h h'):c≠P/\Kr h' c:=by
 refine Cj i λN S e f hd=>?_;have w:c≠P:=λq=>by rw[q,g]at e;clear hd;replace e:=EY e;induction e using EC;rw[j]at f;cases(f)
 exact⟨w,N,S,D _ _ w e,f,hd⟩
theorem CodeRec.but{c:AW}{q:BA}(x:h.CodeRec (.ref c) q)(w:c≠P)(D:EH P h h'):h'.CodeRec (.ref c) q:=by
 refine MO x λC o' S t e g r=>?_;cases(e);exact PL c o' S t rfl (D _ _ w g) r
theorem CodeHd.but{c F:AW}(x:oa h c F)(g:h.get? P=B o)(j:o.cls=.none)(D:EH P h h'):oa h' c F:=by
 refine bX x λN S f k e l i u z a b d r=>?_;have w:c≠P:=λq=>by rw[q,g]at a;clear d;replace a:=EY a;induction a using EC;rw[j]at b;cases(b)
 exact bn N S f k e l i u z (D _ _ w a) b d r
theorem Ja.but{hB:BJ}{ck F:AW}{T:Z->Z->BA}{ps:Bc AF}(t:Ja hB h ck F T ps)(w:F≠P)(g:h.get? P=B o)(j:o.cls=.none)(D:EH P h h'):Ja hB h' ck F T ps where
 hd:=CodeHd.but t.hd g j D
 tab:=D _ _ w t.tab
 ok:=t.ok
 is:=t.is
 recs:=λpos cv e=>by refine CF (t.recs pos cv e) λC e1 i r=>by refine Aa (i.but g j D) λn l=>F8 C e1 l (by subst e1;exact CodeRec.but r n D)
theorem Wa.but{hB:BJ}(x:Wa hB h)(I:P≠33)(p:P=73\/P=144)(g:h.get? P=B o)(j:o.cls=.none)(D:EH P h h'):Wa hB h':=by
 refine AI x λps t r=>AK ps (t.but I.symm g j D) (λpos C e=>?_);refine Dg (r pos C e) λF m n L n2 b=>Dm F m (n.but (p.elim (λq=>q▸n2) (λq=>q▸b)) g j D) L n2 b
theorem JP.inner{hB:BJ}{ck:AW}{ps m:Bc AF}(x:JP hB h)(t:Ja hB h ck P dg ps)(I:P≠33)(d:P≠73)(c:P≠144)(D:EH P h h')(n:Ja hB h' ck P dg m):JP hB h' where
 key:=by
  clear d c;refine AI x.key λg u r=>AK g (u.but I.symm t.tab rfl D) (λpos C e=>?_);clear I;refine Dg (r pos C e) λf a t2 L n2 b=>?_;by_cases i:f=P;· subst i;exact Dm f m ⟨CodeHd.but t2.hd t.tab rfl D,n.tab,n.ok,n.is,n.recs⟩ L n2 b
  ·exact Dm f a (t2.but i t.tab rfl D) L n2 b
 tr:=by refine Aw x.tr λa y=>⟨a,y.but d.symm t.tab rfl D⟩
 law:=by refine Aw x.law λa y=>⟨a,y.but c.symm t.tab rfl D⟩
end
theorem KA(p pos:EQ)(c:AF):∀l:U AF,Ye l->Ep p (l++[BI pos.line,BI pos.col,c])=match Ep p l with|B v=>B v|AJ=>if pos.line=p.line/\pos.col=p.col then B c else AJ:=by
 intro l h;fun_induction Ye l with
 |case1=>dsimp only[Fz,Ep,BI];by_cases W:pos.line=p.line<;>by_cases C:pos.col=p.col<;>simp[W,C]<;>(first|exact z162 ‹_›|omega)|case2 a t b u x R I=>
dsimp only[Dw,Ep];split;·rfl
·exact I h|case3 l W C=>exact h.elim
theorem Ja.more{hB h h':BJ}{ck P C:AW}{T:Z->Z->BA}{ps:Bc AF}{pos:EQ}{q:BA}(t:Ja hB h ck P T ps)(c:Ep pos ps.toList=AJ)(D:EH P h h')(b:h'.get? P=B (NM (ps++#[BI pos.line,BI pos.col,.ref C])))(hi:Kr h' C)(hr:h'.CodeRec (.ref C) q)(u:q=T pos.line pos.col):Ja hB h' ck P T (ps++#[BI pos.line,BI pos.col,.ref C])where
 hd:=CodeHd.but t.hd t.tab rfl D
 tab:=b
 ok:=by refine J (show(ps++#[BI pos.line,BI pos.col,HD C]).toList=ps.toList++[BI pos.line,BI pos.col,.ref C]by simp) (TriplesOk_snoc _ _ _ _ t.ok)
 is:=t.is
 recs:=λp cv e=>by
  rw[show(ps++#[BI pos.line,BI pos.col,HD C]).toList=ps.toList++[BI pos.line,BI pos.col,.ref C]by simp,KA _ _ _ _ t.ok]at e;cases E:Ep p ps.toList with|some v=>rw[E]at e;cases(e);refine CF (t.recs p cv E) λg e1 i r=>?_;clear E;refine Aa (i.but t.tab rfl D) λn l=>F8 g e1 l (by subst e1;exact CodeRec.but r n D)|none=>
rw[E]at e;dsimp only at e;split at e;· rename_i a;replace e:=EY e;induction e using EC;exact F8 C rfl hi (by refine CS a.1 (CS a.2 (CS u hr)))
·exact Eb e
structure Su(hB:BJ)(ck P:AW)(qn:Z->Z->BA):Prop where
get:∀h,JP hB h->∃ps,Ja hB h ck P qn ps
put:∀h h' o ps,JP hB h->h.get? P=B o->o.cls=.none->EH P h h'->Ja hB h' ck P qn ps->JP hB h'
theorem gn(hB:BJ):Su hB 77 73 qnT where
 get:=λh t=>t.tr
 put:=λh h' o ps t ho f D n=>⟨t.key.but (by decide) (.inl rfl) ho f D,⟨ps,n⟩,by refine Aw t.law λa x=>⟨a,x.but (by decide) ho f D⟩⟩
theorem Tw(hB:BJ):Su hB 146 144 qnL where
 get:=λh t=>t.law
 put:=λh h' o ps t ho f D n=>⟨t.key.but (by decide) (.inr rfl) ho f D,by refine Aw t.tr λa x=>⟨a,x.but (by decide) ho f D⟩,⟨ps,n⟩⟩
noncomputable def Oc(c:Cx):Prop:=∃I R,c.mg "__builtins__"=B (.ref I)/\I≠CU/\c.hB.get? I=B R/\R.cls=.type "module"/\R.dict=B CU/\R.data=.plain
section
variable{c:Cx}{A:BQ}{E:AF->AE->Prop}{s:AE}
theorem RP{hB h h':BJ}{P:AW}{ps Y:Bc AF}(a:Vf hB P)(g:h.get? P=B (NM ps))(c:h'.get? P=B (NM (ps++Y)))(D:EH P h h'):Bk hB h h':=by
 intro b o e;by_cases hb:b=P;· clear D;subst hb;rw[g]at e;replace e:=EY e;induction e using EC;exact .inr ⟨a,rfl,ps,Y,rfl,c⟩
 ·exact .inl (D b o hb e)
theorem Sv{env:Nx}{ck P:AW}{T:Z->Z->BA}{ps:Bc AF}{pos:EQ}{L:Z}{name k:BA}{p:Dl}{scope:Cw}{body:Mz}{Q:AF->AE->Prop}(t:Ja c.hB s.heap ck P T ps)(d:∀h' m,EH P s.heap h'->Ja c.hB h' ck P T m->JP c.hB h')(f:env.code=.ref ck)(j:St c s)(l:k=T pos.line pos.col)(h:∀C s' m,St c s'->Bk c.hB s.heap s'.heap->Ja c.hB s'.heap ck P T m->Kr s'.heap C->s'.heap.CodeRec (.ref C) k->Q (.ref C) s'):Aj (BF c.prog c.w) A (WK env pos L name k p scope body) Q E s:=by
 cases V:Ep pos ps.toList with|some cv=>refine CF (t.recs pos cv V) λC z i r=>?_;subst z;exact wpAny_functionCode_hit f (t.hd.code t.tab t.ok) V (h C s ps j (.refl _ _) t i (l▸r))|none=>refine Ad (CM (Q:=λv s'=>∃C,v=.ref C/\∃h' tk,s'={s with heap:=h',toks:=tk}/\EH P s.heap h'/\Kr h' C/\h'.CodeRec (.ref C) k/\h'.get? P=B (NM (ps++#[BI pos.line,BI pos.col,.ref C]))) (wpAny_functionCodeX f (t.hd.code t.tab t.ok) (t.hd.tab t.tab) V λC h' tk D Y u M b a X=>by refine DU X λF M M o M=>Dg o λN S e1 I y M=>⟨C,rfl,h',tk,rfl,D,⟨N,S,e1,I,y⟩,b,a.2⟩)) (λv s' H=>?_) λM M x=>x.2;refine Aa H λq G=>?_;clear H;refine AI G λC e W=>?_;clear G;refine Jt W λh' tk w D i hr a=>?_;clear W;subst e w;have g:=RP t.is t.tab a D;have n:=t.more V D a i hr l;exact h C _ _ ⟨j.grow.trans g,j.os,j.bare,d _ _ D n,AA j.toks q⟩ g n i hr
theorem ab{env:Nx}{ck P:AW}{T:Z->Z->BA}{pos:EQ}{L:Z}{name k:BA}{p:Dl}{scope:Cw}{body:Mz}{Q:AF->AE->Prop}(l:Su c.hB ck P T)(f:env.code=.ref ck)(j:St c s)(u:k=T pos.line pos.col)(h:∀C s',St c s'->Bk c.hB s.heap s'.heap->Kr s'.heap C->s'.heap.CodeRec (.ref C) k->Q (.ref C) s'):Aj (BF c.prog c.w) A (WK env pos L name k p scope body) Q E s:=by
 refine Aw (l.get _ j.tabs) λps t=>Sv t (λh' m D n=>l.put _ _ _ _ j.tabs t.tab rfl D n) f j u λC s' m a b M d e=>h C s' a b d e
end
variable{F:Fx}{h₀:BJ}{σ:AS}{Y:U AW}
structure jr(F:Fx)(σ:AS)(Y:U AW)(scope:Cw)(cv:U (BA×V)):Prop where
free:∀y∈scope.names,y.2=.free->(F.env.cells.lookup y.1).isSome=AO
only:∀x k,(Lr F.env scope.names []).lookup x=B k->scope.names.lookup x=B .free
cov:∀x,scope.names.lookup x=B .free->∃d,cv.lookup x=B d
val:∀x d,cv.lookup x=B d->scope.names.lookup x=B .free/\σ.lookup x=B (.v d)/\F.env.kindOf x≠B .local/\Hd x=AD/\∀k,F.env.cells.lookup x=B k->k∉Y
theorem LI{Cv:Dl}{body:BL}{scope:Cw}{pos:EQ}{cv:U (BA×V)}{Q:V->Prop}{ck P:AW}{qn:Z->Z->BA}(p:Wf F.c)(wq:Oc F.c)(TA:Su F.c.hB ck P qn)(f:F.env.code=.ref ck)(wr:F.env.qual++"<lambda>"=qn pos.line pos.col)(wn:∀env,defaultsOf Cv env=([],[]))(hY:∀a∈Y,a∈F.X σ)(h:jr F σ Y scope cv)(q:Q (YG Cv (.expr body) scope cv)):WE F σ Y (.Lambda Cv body scope pos) Q:=by
 intro A E s N j T;refine kla_eval (wn _) ?_;rewrite[makeFunction_eq];simp only[U.zip_nil_right,iQ,Tn,KH,pure_bind];unfold makeTail;refine J (NH h.free) (J T.ok.glob (AB (AH ?_)));refine PJ wq λbm ob b1 b2 b3 b4 b5 b6=>?_;have wo:∀(H:AF)(s:AE),St F.c s->Pd F.env σ (F.X σ) s.heap->Aj F.M A (do let code<-WK F.env pos pos.line "<lambda>" (F.env.qual++"<lambda>") Cv scope (.expr body)let bi<-builtinsFor Cc F.env.builtins let m<-nsGet Cc "__name__"let doc<-(Bz IL:Sem AF)newObj (.type "function") (.func {name:="<lambda>",qualname:=F.env.qual++"<lambda>",params:=Cv,body:=.expr body,scope,globals:=Cc,closure:=Lr F.env scope.names [],closureTuple:=H,code,builtins:=bi,defaults:=.none,kwdefaults:=.none,annotations:=AJ,pyModule:=m.getD .none,doc})) (Gr F Y s Q) E s:=by
    intro H s j T;refine AB (ab TA f j wr λC s₁ l w i hr=>?_);have hg:=Ns.grow l.grow p.g;have t:=T.grow w;refine AB (Nl hg b1 b2 (l.grow.Gk b3 (by refine J b6 MQ)) b4 b5 b6 ?_);refine AB (Nk hg ?_);refine AB (AH (GW ?_ (by size_fits)));have kp:=Kp.push s₁ {cls:=.type "function",data:=.func {name:="<lambda>",qualname:=F.env.qual++"<lambda>",params:=Cv,body:=.expr body,scope,globals:=Cc,closure:=Lr F.env scope.names [],closureTuple:=H,code:=.ref C,builtins:=CU,defaults:=.none,kwdefaults:=.none,annotations:=AJ,pyModule:=(F.c.mg "__name__").getD .none,doc:=.none}};refine Gr.of l w kp (.abs Vt ?_) q;have wi:=t.Ft hY;refine Cj i λoc S e1 I e3=>Km hr λc2 o2 wx t2 f1 f2 f3 f4=>?_;cases(f1);rw[e1]at f2;replace f2:=EY f2;induction f2 using EC;rw[e3]at f3;cases(f3);have up:∀b o,s₁.heap.get? b=B o->b∉Y->fz Y (s₁.heap.push {cls:=.type "function",data:=.func {name:="<lambda>",qualname:=F.env.qual++"<lambda>",params:=Cv,body:=.expr body,scope,globals:=Cc,closure:=Lr F.env scope.names [],closureTuple:=H,code:=.ref C,builtins:=CU,defaults:=.none,kwdefaults:=.none,annotations:=AJ,pyModule:=(F.c.mg "__name__").getD .none,doc:=.none}}) b=B o:=λb o e hb=>Al.mpr ⟨hb,AR _ e⟩;have wg:∀y k,(Lr F.env scope.names []).lookup y=B k->F.env.cells.lookup y=B k:=λy k e=>Hv _ _ h.free (λz k e=>by simp at e) e;refine Y1 s₁.heap.objs.size _ _ C oc S t2 rfl (Al.mpr ⟨wi.size,Ag _ rfl⟩) rfl rfl rfl rfl rfl rfl rfl rfl rfl (up _ _ e1 λK=>(wi _ K).2 ⟨oc,S,e1,I,e3⟩) I e3 f4 ⟨λx d e=>?_,λx k e=>?_,λx y k e1 I=>t.inj x y k (wg _ _ e1) (wg _ _ I)⟩
    · refine UB (h.val x d e) λhf L g wt R=>AI (t.slot x _ L) λv av D=>Aw (Bt.mp (Vx (env:=F.env) scope.names [] (.inl hf))) λk wj=>?_;have c:=wg _ _ wj;have Uj:=(Ed hY _).trans (DB (hB:=F.c.hB) (B4 kp) Y);have wl:s₁.heap.IsCell k (B v):=by
       clear wj;focus(refine AC (av wt) ?_ ?_;rotate_left;(focus(intro X;focus(refine AC X ?_ ?_;rotate_left;(focus(intro X;refine Aa X λky G=>AI G λc2 I n=>?_));rotate_right;(focus(intro X;refine Aa X λky G=>AI G λc2 I n=>?_)))));rotate_right;(focus(intro X;refine Aa X λky M=>?_)))
       ·exact B8 ky g
       ·rw[I]at c;replace c:=EY c;induction c using EC;exact n
       ·rw[I]at c;replace c:=EY c;induction c using EC;exact n
      refine AI wl λwm wh hd=>UE k wm v wj (up _ _ wh (R k c)) hd (Rd.sub Uj D)
    · have R:=wg x k e;refine Au (t.cell x k R) λu wm wh hd=>?_;have wu:=h.only x k e;refine Aw (h.cov x wu) λd W=>FK wm u (up _ _ wh ((h.val x d W).2.2.2.2 k R)) hd
 cases wg:Lr F.env scope.names []with|nil=>refine AB (AH ?_);have :=wo .none s j T;rw[wg]at this;exact this|cons q0 r0=>refine AB (Uq ?_);have kp:=Kp.push s {cls:=.type "tuple",data:=.seq (((q0::r0).mergeSort λa b=>a.1.cps.toList<=b.1.cps.toList).map (.ref ·.2)).toArray};have :=wo (.ref s.heap.objs.size) _ (j.keeps kp) (T.grow (B4 (hB:=F.c.hB) kp));rw[wg]at this;refine Ad this (λr s' wv=>by refine B7 wv λa b G=>AI G λd rd q'=>⟨a,(B4 kp).trans b,d,rd,q'⟩) λM M x=>x
end
noncomputable def Dq(c:Cx)(f:BA)(i fa ck:Z)(T:BA):Prop:=c.mg f=B (.ref fa)/\∃o fd,Xe c i fa o fd/\fd.defaults=.none/\fd.code=.ref ck/\fd.qualname=T
noncomputable def Fx.hG(c:Cx)(n:Z)(S:Cw)(fa L:AW)(Y:U AW)(q:BA)(cd:AF)(a:U AW):Fx:={c:=c,n:=n,env:=YH S L q fa cd,Mu:=a,Yc:=Y}
theorem Ef.Xv{c:Cx}{n i:Z}{fa ck:AW}{qn:BA}{o:Gq}{fd:EA}{names:U BA}{P:U V->(V->Prop)->Prop}(hw:Wf c)(D:Xe c i fa o fd)(xT:fd.code=.ref ck)(xU:fd.qualname=qn)(R:(E8 i).scope.kind=.function)(xV:(E8 i).scope.isCoroutine=AD)(xD:(E8 i).scope.isGenerator=AD)(xE:names.Nodup)(wq:(names.all λx=>(E8 i).scope.names.lookup x==B .local||((E8 i).scope.names.lookup x==B .cell&&((E5 0 (E8 i).scope.names []).lookup x).isSome))=AO)(M:AW->U AW)(hM:∀L,∀b∈M L,b∈J7 (E8 i).scope L)(h:∀S Q,P S Q->∃wg:U V,(S++wg).length=names.length/\(∀G l,C3 G S l->∃wr,C3 G wg wr/\∀A(E:AF->AE->Prop)s(Q':U (BA×AF)->AE->Prop),St c s->Q' (names.zip (l++wr)) s->Aj (BF c.prog c.w) A (ES fd ⟨l,[]⟩) Q' E s)/\∀L Y h₀,(∀y k,(E5 (L+1) (E8 i).scope.names []).lookup y=B k->k∉Y/\k≠L/\h₀.get? k=AJ)->WS (Fx.hG c n (E8 i).scope fa L Y (qn++".<locals>.") (.ref ck) (M L)) h₀ (Mine.Cv names (S++wg)) (E8 i).body (J3 Q)):Ef c (n+1) fa P:=by
  rcases D with⟨ho,wm,xF,xe,wz,wh,xG,xH,xI⟩;intro A s Y x8 xJ Q N j hL wu hP;refine CF (h xJ Q hP) λwg wv xK wx=>AI (xK _ _ wu) λwr xL w=>?_;have xM:=j.grow.Gk ho (by refine J wm MQ);refine Ks N.room xM wm (wh▸xV) (wh▸xD) wz (CodeRec.grow j.grow xF) ?_;have wt:=wu.append xL;clear xK xL;generalize x8++wr=xN at wt w;generalize xJ++wg=S at wt wv wx;have xW:=wt.length▸wv;have wl:(names.zip xN).map (·.1)=names:=by refine J (N6 (B6 xW.symm)) rfl
  have xO:∀x∈names,fd.scope.names.lookup x=B .local\/(fd.scope.names.lookup x=B .cell/\∀n,((E5 n fd.scope.names []).lookup x).isSome=AO):=by
    intro x hx;have :=Bi.mp wq x hx;simp only[FI,Bs,BG]at this;refine J wh (AC this (λh=>(.inl h)) λX=>(Aa X λh h'=>.inr ⟨h,λn=>cellsFrom_some _ _ _ (.inl h)⟩))
  refine w _ _ _ _ j (J xG (Ey (AN _) (dm (wh▸R) ?_ λenv he s₁ x=>?_)))
  · intro x hx;rcases x with⟨y,v⟩;have t:y∈names:=by refine CS wl (BO.mpr ⟨(y,v),hx,rfl⟩)
    exact(xO y t).imp id λxX=>by refine Aa xX λa b=>⟨a,b _⟩
  · generalize wn:s.heap.objs.size=L at*;subst he;intro xY;refine⟨(NoLimit.grow j.grow hw.lim).keeps x.toInCall.keep,WM ?_⟩;refine Au x.done λC tk x9 xA=>?_;subst x9;have xB:=wn▸EK _;have u:∀y k,(LP fd L fa).cells.lookup y=B k->s.heap.get? k=AJ:=by
      intro y k e;have :=x.above y k (mem_of_lookup e);cases I:s.heap.get? k with|none=>rfl|some o'=>have W:=Bg I;rw[wn]at W;exact B8 W (LR.mpr (BE this))
    have hF:(Fx.hG c n (E8 i).scope fa L Y (qn++".<locals>.") (.ref ck) (M L)).env=LP fd L fa:=by
      unfold Fx.hG LP YH;refine J wh (J xH (J xI (J xU (J xT ?_))));rfl
    have xP:=wx L Y s.heap (λy k e=>by
      have e':(LP fd L fa).cells.lookup y=B k:=by unfold LP;refine J wh e
      have hn:=u y k e';exact Cf (hL.fresh hn) (DR (x.above y k (mem_of_lookup e'))) hn);generalize wj:Fx.hG c n (E8 i).scope fa L Y (qn++".<locals>.") (.ref ck) (M L)=F at hF xP;have xZ:F.c=c:=by refine CS wj rfl
    have xc:F.n=n:=by refine CS wj ?_;rfl
    have wi:F.Mu=M L:=by refine CS wj ?_;rfl
    have xQ:F.Yc=Y:=by refine CS wj ?_;rfl
    subst xZ;have wo:F.X (Mine.Cv names S)=M L++Y:=by
      simp[Fx.X,Fx.Xo,wi,xQ,H0]
    have wy:∀b∈M L,b=L\/∃y,(LP fd L fa).cells.lookup y=B b:=by
      intro b hb;clear wn x xB u hF wi wj wo;refine AC (Ae.mp (hM L b hb)) ?_ λhb=>?_;intro X;subst X;·exact .inl rfl
      · refine AI (Qe.mp hb) λp u_ hp=>.inr ⟨p.1,?_⟩;unfold LP;refine J wh hp
    have xC:∀b∈M L,s.heap.get? b=AJ:=by
      intro b hb;clear wn x hF wi wj wo;focus(refine AC (wy b hb) ?_ ?_;rotate_left;(focus(intro X;refine Aw X λy t=>?_));rotate_right;(focus(intro X;subst X)))
      ·exact xB
      ·exact u y b t
    have xR:∀b∈M L,Lv C b:=by
      intro b hb;clear wn xB u hF wi wj wo xC;focus(refine AC (wy b hb) ?_ ?_;rotate_left;(focus(intro X;refine Aw X λy t=>?_));rotate_right;(focus(intro X;subst X)))
      ·exact Lv.ns x.toInCall.ns
      ·exact Lv.cell (x.cell y b t)
    have Uj:MB (fz Y s.heap) (fz (M L++Y) C):=by
      intro b ob e f;rw[Al]at e⊢;refine⟨λK=>?_,xA b ob e.2⟩;refine AC (Ai.mp K) (λK=>?_) λK=>(e.1 K);·rw[xC b K]at e;cases e.2
    have g1:Bk F.c.hB s.heap C:=.of_keep xA;have T:FX F s.heap (Mine.Cv names S) {s with heap:=C,toks:=tk}:=by
      refine⟨j.keep xA xY,?_,g1,j.grow,?_⟩
      · refine J hF ⟨⟨by refine(?_:fd.scope.kind=_);refine J wh R,xH,xI⟩,⟨_,x.toInCall.ns⟩,λy k e=>⟨_,x.cell y k e⟩,?_,?_,?_,?_⟩;· intro y z k e1 I;exact name_of_addr x.apart (Ea e1) (Ea I)
        · intro y sl e;refine Cj (MN wt e) λd v x9 K m=>?_;subst x9;have t:y∈names:=by refine CS wl (BO.mpr ⟨(y,v),K,rfl⟩)
          refine AK v ?_ ?_;· intro u_;refine AC (xO y t) (λg=>(.inl ⟨g,_,x.toInCall.ns,Tc (by refine J wl xE) K g⟩)) λX=>?_;· refine Aa X λg hs=>Aw (Bt.mp (hs (L+1))) λk xS=>.inr (.inl ⟨g,k,xS,?_⟩);have :=x.cell y k xS;rw[Td (by refine J wl xE) K g]at this;exact this
          · refine(?_:Rd (fz (F.X (Mine.Cv names S)) C) d v);refine J wo (Rd.sub Uj m)
        · intro a ha;rw[wo]at ha;refine AC (Ai.mp ha) (λh=>(xR a h)) λh=>((hL a h).grow g1)
        · intro y z a xs ys e1 I;have :=Cn e1;rw[H0]at this;exact JZ this
      · intro b hb;refine AC hb (λhb=>(xC b (wi▸hb))) λhb=>?_;·rw[H0]at hb;exact JZ hb
    refine Ad (hF▸xP _ _ _ (xc.symm▸N.deeper _) T) (λfl s' H=>?_) λu_ u_ x=>x;refine Dg H λxd σ' T' m' r q=>?_;clear H;have wk:∀d v,Rd (fz F.Xo s'.heap) d v->Rd (fz Y s'.heap) d v:=λd v m=>Rd.sub (Ed (λa ha=>Ac _ (xQ▸ha)) _) m;cases(fl)<;>cases(xd)<;>simp only[Nh]at r<;>try exact r.elim
    ·exact Ju .none .none rfl T'.st T'.grow .none q
    ·exact q.elim
    ·exact q.elim
    ·exact Ju _ _ rfl T'.st T'.grow (wk _ _ r) q
theorem Ef.U6{c:Cx}{n i:Z}{fa ck:AW}{T:BA}{o:Gq}{fd:EA}{names:U BA}{P:U V->(V->Prop)->Prop}(p:Wf c)(D:Xe c i fa o fd)(v:fd.code=.ref ck)(r:fd.qualname=T)(R:(E8 i).scope.kind=.function)(X:(E8 i).scope.isCoroutine=AD)(I:(E8 i).scope.isGenerator=AD)(t:names.Nodup)(N:fd.defaults=.none)(w:∀(fd:EA)(l:U AF),fd.params=(E8 i).args->fd.defaults=.none->l.length=names.length->ES fd ⟨l,[]⟩=Bz (names.zip l))(j:(names.all λx=>(E8 i).scope.names.lookup x==B .local||((E8 i).scope.names.lookup x==B .cell&&((E5 0 (E8 i).scope.names []).lookup x).isSome))=AO)(M:AW->U AW)(u:∀L,∀b∈M L,b∈J7 (E8 i).scope L)(a:∀S Q,P S Q->S.length=names.length)(h:∀L Y S Q h₀,(∀y k,(E5 (L+1) (E8 i).scope.names []).lookup y=B k->k∉Y/\k≠L/\h₀.get? k=AJ)->P S Q->WS (Fx.hG c n (E8 i).scope fa L Y (T++".<locals>.") (.ref ck) (M L)) h₀ (Mine.Cv names S) (E8 i).body (J3 Q)):Ef c (n+1) fa P:=by
 refine Ef.Xv p D v r R X I t j M u λS Q g=>⟨[],by refine J (BW _) (a S Q g),λG l m=>⟨[],.nil,λA E s C d q=>?_⟩,λL Y h₀ f=>by refine J (BW _) (h L Y S Q h₀ f g)⟩;refine J (w fd l D.params N (m.length▸a S Q g)) ?_;rw[BW]at q;exact AH q
section
structure LK(s s':AE):Prop where
gens:s'.gens=s.gens
drawn:s'.drawn=s.drawn
os:s'.os=s.os
theorem LK.refl(s:AE):LK s s:=⟨rfl,rfl,rfl⟩
theorem LK.trans{a b c:AE}(x:LK a b)(y:LK b c):LK a c:=⟨y.gens.trans x.gens,y.drawn.trans x.drawn,y.os.trans x.os⟩
theorem LK.heap(s:AE)(h':BJ):LK s {s with heap:=h'}:=⟨rfl,rfl,rfl⟩
theorem LK.both(s:AE)(h':BJ)(tk:Z):LK s {s with heap:=h',toks:=tk}:=⟨rfl,rfl,rfl⟩
section
variable{prog:DH}{w:Em}{A:BQ}{E:AF->AE->Prop}{s:AE}{h0:BJ}{chg news:U (AW×Gq)}
theorem fY{o:Gq}{Q:AW->AE->Prop}(D:FF h0 s.heap chg news)(V:o.isFreed=AD)(q:∀a s',LK s s'->FF h0 s'.heap chg ((a,o)::news)->Q a s'):Aj (BF prog w) A (alloc o) Q E s:=oP (q _ _ (LK.heap _ _) (D.alloc V))
theorem Vc{n:oK}{d:iK}{Q:AF->AE->Prop}(D:FF h0 s.heap chg news)(q:∀a s',LK s s'->FF h0 s'.heap chg ((a,{cls:=.type n,dict:=AJ,data:=d,slots:=#[]})::news)->Q (.ref a) s')(hd:sizeOk d:=by size_fits)(V:({cls:=.type n,dict:=AJ,data:=d,slots:=#[]}:Gq).isFreed=AD:=by rfl):Aj (BF prog w) A (newObj (.type n) d) Q E s:=GW (q _ _ (LK.heap _ _) (D.alloc V)) hd
theorem bv{a:AW}{f:Gq->Gq}{o o':Gq}{Q:LL->AE->Prop}(D:FF h0 s.heap chg news)(i:Z)(hi:news[i]?=B (a,o))(he:f o=o')(V:o'.isFreed=AD)(q:∀s',LK s s'->FF h0 s'.heap chg (news.set i (a,o'))->Q () s'):Aj (BF prog w) A (update a f) Q E s:=wpAny_update (D.at i a o hi) (q _ (LK.heap _ _) (he▸D.update hi (he▸V)))
theorem Lg{a:AW}{p:AX AF}{f:Gq->Gq}{o o':Gq}{Q:LL->AE->Prop}(D:FF h0 s.heap chg news)(i:Z)(hi:news[i]?=B (a,o))(he:f o=o')(V:o'.isFreed=AD)(q:∀s',LK s s'->FF h0 s'.heap chg (news.set i (a,o'))->Q () s'):Aj (BF prog w) A (updatePart a p f) Q E s:=YY (D.at i a o hi) (q _ (LK.heap _ _) (he▸D.update hi (he▸V)))
theorem Gi{a:AW}{o:Gq}{x:BA}{r:AX AF}{Q:AX AF->AE->Prop}(ho:s.heap.get? a=B o)(hr:nsLook x o=Bz r)(q:Q r s):Aj (BF prog w) A (nsGet a x) Q E s:=AB (HB ho (BB hr q))
theorem Y4{a:AW}{c:AF}{d:AX AW}{es:Bc DX}{n:Z}{sl:Bc (AX AF)}{x:BA}{v:AF}{Q:LL->AE->Prop}{o':O->Jd->Gq}(D:FF h0 s.heap chg news)(i:Z)(hi:news[i]?=B (a,⟨c,d,.dict es n,sl⟩))(W:HA x es=AD)(he:∀h t,IN x h (.str x t) v ⟨c,d,.dict es n,sl⟩=o' h t)(V:∀h t,(o' h t).isFreed=AD)(q:∀h t s',LK s s'->FF h0 s'.heap chg (news.set i (a,o' h t))->Q () s'):Aj (BF prog w) A (nsSet a x v) Q E s:=by
 refine AB (AB (Og (AH ?_)));refine AB (Q7 ?_);refine AB (HB (D.at i a _ hi) ?_);dsimp only;refine J W (J (Ab (by decide)) ?_);generalize(if x.cps.isEmpty=AO then(0:O)else _)=l;exact Lg D i hi (he _ _) (V _ _) λs' k b=>q _ _ s' (LK.trans (LK.both s s.heap (s.toks+1)) k) b
theorem Za{a:AW}{c:AF}{d:AX AW}{es:Bc DX}{n:Z}{sl:Bc (AX AF)}{x:BA}{v:AF}{Q:LL->AE->Prop}{o':O->Jd->Gq}(D:FF h0 s.heap chg news)(i:Z)(hi:news[i]?=B (a,⟨c,d,.dict es n,sl⟩))(W:HA x es=AD)(he:∀h t,IN x h (.str x t) v ⟨c,d,.dict es n,sl⟩=o' h t)(V:∀h t,(o' h t).isFreed=AD)(H:B9 (es.size>Ay)=AD)(q:∀h t s',LK s s'->FF h0 s'.heap chg (news.set i (a,o' h t))->Q () s'):Aj (BF prog w) A (ka a x v) Q E s:=by
 unfold ka;refine AB (HB (D.at i a _ hi) ?_);dsimp only;refine J H (J (LY _) (J (Ab (by decide)) (Y4 D i hi W he V q)))
theorem LA{a:AW}{i:Z}{v:AX AF}{o o':Gq}{Q:LL->AE->Prop}(D:FF h0 s.heap chg news)(k:Z)(R:news[k]?=B (a,o))(hi:i<100)(he:{o with slots:=(o.slots++IT (i+1-o.slots.size) AJ).setIfInBounds i v}=o')(V:o'.isFreed=AD)(q:∀s',LK s s'->FF h0 s'.heap chg (news.set k (a,o'))->Q () s'):Aj (BF prog w) A (jy a i v) Q E s:=by
 unfold jy;refine J (Ab (by simp[Ay];exact rg ‹_›)) (AB (AH (Lg D k R he V q)))
theorem fX{a:AW}{o o':Gq}{x:BA}{Q:BC->AE->Prop}(D:FF h0 s.heap chg news)(k:Z)(R:news[k]?=B (a,o))(S:nsHas x o=Bz AO)(he:Obj.dropName x o=o')(V:o'.isFreed=AD)(q:∀s',LK s s'->FF h0 s'.heap chg (news.set k (a,o'))->Q AO s'):Aj (BF prog w) A (nsDel a x) Q E s:=by
 unfold nsDel;refine AB (HB (D.at k a _ R) (AB (BB S ?_)));exact AB (Lg D k R he V λs' e b=>AH (q s' e b))
theorem Ps{a:AW}{c:AF}{d:AX AW}{cd:Yk}{sl:Bc (AX AF)}{f:Yk->Yk}{o':Gq}{Q:LL->AE->Prop}(D:FF h0 s.heap chg news)(k:Z)(R:news[k]?=B (a,⟨c,d,.cls cd,sl⟩))(he:Obj.mapCls f ⟨c,d,.cls cd,sl⟩=o')(V:o'.isFreed=AD)(g:o'.data.pastItsLine=AJ)(q:∀s',LK s s'->FF h0 s'.heap chg (news.set k (a,o'))->Q () s'):Aj (BF prog w) A (updateCls a f) Q E s:=by
 unfold updateCls;refine AB (Gl (D.at k a _ R) ?_);refine AB (bv D k R he V λs' e b=>?_);have u:=(Az.mp R).1;refine AB (HB (b.at k a o' (by simp[u])) ?_);refine J g (AH (q s' e b))
theorem bw{k:AW}{c:AF}{d:AX AW}{cd:Yk}{sl:Bc (AX AF)}{o:Gq}{x:BA}{r:AX AF}{Q:AX AF->AE->Prop}(R:s.heap.get? k=B ⟨c,d,.cls cd,sl⟩)(K:cd.mro=[.ref k,.type "object"])(p:s.heap.get? cd.ns=B o)(g:nsLook x o=Bz r)(q:Q (r.orElse λM=>builtinOwn "object" x) s):Aj (BF prog w) A (ED (.ref k) x) Q E s:=by
 refine AB (AB (AB (Gl R (AH (AH ?_)))));refine J K ?_;rewrite[DJ];have f:∀C:AX AF->AE->Prop,C r s->Aj (BF prog w) A (classOwn (.ref k) x) C E s:=λC y=>by
  exact AB (AB (Gl R (AH (Gi p g y))))
 refine AB (AB (AB (f _ ?_)));clear g f;cases r with|some v=>exact AH (AH (AH q))|none=>refine AH ?_;dsimp only;rewrite[DJ];refine AB (AB (AH ?_));cases hb:builtinOwn "object" x with|some v=>rw[hb]at q;exact AH (AH (AH q))|none=>rw[hb]at q;refine AH ?_;dsimp only;exact AH (AH q)
theorem ZZ{a:AW}{c:AF}{d:AX AW}{cd:Yk}{sl:Bc (AX AF)}{o:Gq}{Q:LL->AE->Prop}(R:s.heap.get? a=B ⟨c,d,.cls cd,sl⟩)(K:cd.mro=[.ref a,.type "object"])(p:s.heap.get? cd.ns=B o)(g:nsLook (BR "__new__") o=Bz AJ)(F:(sl[4]?).join.isNone=AD)(q:Q () s):Aj (BF prog w) A (Bind.refreshMaker a) Q E s:=by
 refine AB (AB (HB R (AH ?_)));refine J F (J (Ab (by decide)) (AB (bw R K p g ?_)));refine J (show((AJ:AX AF).orElse λM=>builtinOwn "object" (BR "__new__"))=B (.builtin "object.__new__")from by kernel_rfl) ?_;dsimp only;refine J (show("object.__new__".endsWith ".__new__")=AO from by decide+kernel) (AH q)
theorem ND{a:AW}{c:AF}{d:AX AW}{es:Bc DX}{n:Z}{sl:Bc (AX AF)}{Q:Bc DX->AE->Prop}(ho:s.heap.get? a=B ⟨c,d,.dict es n,sl⟩)(q:Q es s):Aj (BF prog w) A (oV a) Q E s:=by
 unfold oV;exact AB (Gl ho (AH q))
theorem Y5{X c:Type}{body:X->c->Sem (aF c)}{b:c}{Q:c->AE->Prop}:∀(l:U X),(∀x∈l,∀C:aF c->AE->Prop,C (.yield b) s->Aj (BF prog w) A (body x b) C E s)->Q b s->Aj (BF prog w) A (WY l b body) Q E s:=by
 intro l;induction l with|nil=>intro M q;exact AH q|cons x l I=>intro h q;rewrite[DJ];exact AB (h x AQ _ (I (λy t=>h y (AU _ t)) q))
end
end
section
open PySem.W.X PySem.W.XRun
noncomputable def nA(news:U (AW×Gq))(i:Z):Z:=(news.getD i (0,{cls:=.none})).1
noncomputable def nO(news:U (AW×Gq))(i:Z):Gq:=(news.getD i (0,{cls:=.none})).2
theorem ma{h0 h:BJ}{chg news:U (AW×Gq)}(D:FF h0 h chg news){n:Z}(g:news.length=n)(i:Z)(hi:i<n):h.get? (nA news i)=B (nO news i):=by
 refine D.at i _ _ ?_;have  :=g▸hi;simp[nA,nO,U.getD,this]
theorem gu{h0 h:BJ}{chg news:U (AW×Gq)}(D:FF h0 h chg news){n:Z}(g:news.length=n)(i:Z)(hi:i<n):h0.get? (nA news i)=AJ:=by
 have u:=g▸hi;have :(nA news i,nO news i)∈news:=by
  have e:(nA news i,nO news i)=news[i]:=by simp[nA,nO,U.getD,u]
  refine J e (Gc u)
 exact(D.nw _ this).2
noncomputable def XQ(P:AF->U (AW×Gq)->U (AW×Gq)->Prop)(s:AE)(Q:AF->AE->Prop):Prop:=∀v h' tk chg news,FF s.heap h' chg news->P v chg news->Q v {s with heap:=h',toks:=tk}
theorem xq{P:AF->U (AW×Gq)->U (AW×Gq)->Prop}{s:AE}{v:AF}{Q:AF->AE->Prop}{h':BJ}{tk:Z}{chg news:U (AW×Gq)}(Y:XQ P s Q)(D:FF s.heap h' chg news)(e:P v chg news):Q v {s with heap:=h',toks:=tk}:=Y v h' tk chg news D e
structure jo(k:Z)(v:AF)(chg news:U (AW×Gq)):Prop where
len:news.length=1
chg:chg=[]val:v=.ref (nA news 0)obj:nO news 0={cls:=.type "super",dict:=AJ,data:=.fields #[.ref k,.ref k,.ref k],slots:=#[]}
end
local macro_rules | `(tactic| x_close) => `(tactic| exact xq ‹_› (by first | assumption | exact PySem.W.X.Mem.start _) (by constructor <;> kernel_rfl))
section
open PySem.W.X PySem.W.XRun
theorem eq{prog:DH}{w:Em}{A:BQ}{s:AE}{Q E:AF->AE->Prop}{k ns bt:Z}{N a:Jd}{m:AF}(S:A.handled=AJ)(R:s.heap.get? k=B {cls:=.type "type",dict:=AJ,data:=.cls {name:="K",bases:=[.type "object"],mro:=[.ref k,.type "object"],ns:=ns,qualname:="cmp_to_key.<locals>.K",hasDict:=AD,slotNames:=["obj"]},slots:=#[B (.ref bt),AJ,B (.str "K" N),B (.str "cmp_to_key.<locals>.K" a),B (.builtin "object.__new__"),B (.bool AD)]})(Y:XQ (jo k) s Q):Aj (BF prog w) A (Hi (.type "super") [.ref k,.ref k]) Q E s:=by
 x_run
structure nV(v:AF)(chg news:U (AW×Gq)):Prop where chg:chg=[]val:v=.none
theorem Yw{prog:DH}{w:Em}{A:BQ}{s:AE}{Q E:AF->AE->Prop}{k ns bt u:Z}{N a:Jd}{m:AF}(S:A.handled=AJ)(R:s.heap.get? k=B {cls:=.type "type",dict:=AJ,data:=.cls {name:="K",bases:=[.type "object"],mro:=[.ref k,.type "object"],ns:=ns,qualname:="cmp_to_key.<locals>.K",hasDict:=AD,slotNames:=["obj"]},slots:=#[B (.ref bt),AJ,B (.str "K" N),B (.str "cmp_to_key.<locals>.K" a),B (.builtin "object.__new__"),B (.bool AD)]})(i:s.heap.get? u=B {cls:=.type "builtin_function_or_method",dict:=AJ,data:=.fields #[.builtin "object.__init_subclass__",.ref k],slots:=#[]})(Y:XQ nV s Q):Aj (BF prog w) A (Hi (.ref u) []) Q E s:=by
 x_run
structure dL(k:Z)(v:AF)(chg news:U (AW×Gq)):Prop where
len:news.length=1
chg:chg=[]val:v=.ref (nA news 0)obj:nO news 0={cls:=.type "builtin_function_or_method",dict:=AJ,data:=.fields #[.builtin "object.__init_subclass__",.ref k],slots:=#[]}
theorem et{prog:DH}{w:Em}{A:BQ}{s:AE}{Q E:AF->AE->Prop}{k ns bt:Z}{N a:Jd}(S:A.handled=AJ)(R:s.heap.get? k=B {cls:=.type "type",dict:=AJ,data:=.cls {name:="K",bases:=[.type "object"],mro:=[.ref k,.type "object"],ns:=ns,qualname:="cmp_to_key.<locals>.K",hasDict:=AD,slotNames:=["obj"]},slots:=#[B (.ref bt),AJ,B (.str "K" N),B (.str "cmp_to_key.<locals>.K" a),B (.builtin "object.__new__"),B (.bool AD)]})(Y:XQ (dL k) s Q):Aj (BF prog w) A (Hi (.builtin "classmethod_descriptor.__get__") [.builtin "object.__init_subclass__",.none,.ref k]) Q E s:=by
 x_run
end
section
variable{F:Fx}{h₀:BJ}{σ:AS}{Y:U AW}{c:Cx}
theorem Bv.cO(a b:AW)(h:a=b):Bv c .Is (F0 a) (F0 b) AO:=.of λA E s m I Q M N L X k=>by
 refine J L.IC (J X.IC (J h (wpAny_is_ref_self (k _ (Keeps.refl s)))))
theorem Bv.Zg(a b:AW)(h:a=b):Bv c .IsNot (F0 a) (F0 b) AD:=.of λA E s m I Q M N L X k=>by
 refine J L.IC (J X.IC (J h (wpAny_isNot_ref_self (k _ (Keeps.refl s)))))
theorem Bv.cN(l:U Z)(b:AW):Bv c .Is (.str l) (F0 b) AD:=.of λA E s m I Q M N L X k=>by
 refine J X.IC ?_;induction L using Rd.eS;exact wpAny_is_other rfl (by simp) (k _ (Keeps.refl s))
theorem Bv.Vi(l:U Z)(b:AW):Bv c .IsNot (.str l) (F0 b) AO:=.of λA E s m I Q M N L X k=>by
 refine J X.IC ?_;induction L using Rd.eS;exact wpAny_isNot_other rfl (by simp) (k _ (Keeps.refl s))
theorem Bv.nE{x:V}{xs:U V}(D:Ls x)(a:Ls (.tup xs)):Bv c .In x (.tup xs) ((V.TH xs).any λy=>FS y x.pd):=.of λA E s m I Q M N L X k=>by
 refine Aw (Rd.reads D.1 L) λg e=>Aw (Rd.reads a.1 X) λl d=>?_;have W:=a.2.1;have C:=a.2.2;simp only[V.pd]at W C d;simp only[My,MD]at W C;exact PySem.SeqAt.in_tuple_reads d e W D.2.1 (by have :=N.units;exact pV ‹_› ‹_›) (k _ (Keeps.refl s))
noncomputable def WJ(F:Fx)(σ:AS):U BL->U Z->(U Z->Prop)->Prop|[],C,Q=>C.length<=Ay/\Q C|e::es,C,Q=>WE F σ F.Xo e λd=>∃l,d=.str l/\(C++l).length<=Ay/\WJ F σ es (C++l) Q
theorem Mk(a b:U Z):tx a++tx b=tx (a++b):=by
 have :(tx a++tx b).cps.toList=a++b:=by simp[Str.cps_append]
 cases h:tx a++tx b with|mk c=>rw[h]at this;simp only[tx];refine CS this ?_;rfl
theorem Tu{A:BQ}{E:AF->AE->Prop}{s0:AE}{Q:U Z->Prop}(N:FD A F.n):∀(es:U BL)(C:U Z)(s:AE),St F.c s->Pd F.env σ (F.X σ) s.heap->Bk F.c.hB s0.heap s.heap->WJ F σ es C Q->Aj F.M A (joinParts (tx C) (evalEach es F.env)) (Gr F F.Xo s0 λd=>∃l,d=.str l/\Q l) E s:=by
 intro es;induction es with|nil=>intro C s j T g h;exact joinParts_nil (Gr.of j g (Kp.tok _ (BH _)) (.str _ _) ⟨_,rfl,h.2⟩) (by exact h.1)|cons e es I=>intro C s j T g h;refine joinParts_cons (WE.bind h N j T λr s₁ d a w b m H=>?_);refine CF H ?_;clear H;intro l e1 H o;subst e1;induction m using Rd.eS with|str t=>exact⟨by refine J (Mk _ _) (J (EL _) H),by refine J (Mk _ _) (I _ s₁ a b (g.trans w) o)⟩
theorem Uc{c f:BL}{es:U BL}{pos:EQ}{Q:V->Prop}(h:WJ F σ (c::f::es) [] λl=>Q (.str l)):WE F σ Y (.JoinedStr (c::f::es) pos) Q:=by
 refine Li λA E s N j T=>JoinedStr_many (Ad (Tu N (c::f::es) [] s j T (.refl _ _) h) (λr s' X=>by refine B7 X λa b G=>AI G λd m W=>AI W λl e q=>⟨a,b,d,m,by rewrite[e];trivial,by rewrite[e];exact q⟩) λM M x=>x)
theorem Ub{e:BL}{pos:EQ}{Q:V->Prop}(h:WE F σ Y e λd=>∃l,d=.str l/\l.length<=Ay/\Q (.str l)):WE F σ Y (.FormattedValue e (-1) AJ pos) Q:=by
 intro A E s N j T;refine FormattedValue_plain (h.bind N j T λr s₁ d a w b m H=>?_);refine CF H ?_;clear H;intro l e1 H q;subst e1;induction m using Rd.eS with|str t=>refine Ad (CM (formatField_str (Q:=λv s'=>∃n tk,v=.str (tx l) n/\s'={s₁ with toks:=tk}) (λn tk=>⟨n,tk,rfl,rfl⟩) (by exact H))) (λv s' H=>?_) λM M x=>x.2;refine Aa H λi G=>?_;clear H;refine Au G λn tk e1 I=>?_;clear G;subst e1 I;exact Gr.of a w (Kp.tok _ i) (.str _ _) q
noncomputable def CN(ls:U (U Z)):U V:=ls.map .str
noncomputable def H6(d:U Z):U (U Z)->U Z|[]=>[]|[x]=>x|x::r=>x++d++H6 d r
theorem UM(d:U Z):∀ls:U (U Z),WN (tx d) (ls.map tx)=tx (H6 d ls)
|[]=>rfl|[x]=>rfl|x::y::r=>by
 refine(?_:tx x++tx d++WN (tx d) ((y::r).map tx)=_);rw[UM d (y::r),Mk,Mk];rfl
theorem Xq{G:EJ}{ls:U (U Z)}{S:U AF}(h:C3 G (CN ls) S):∃T:U (BA×Jd),S=Eo T/\T.map (·.1)=ls.map tx:=by
 induction ls generalizing S with|nil=>induction h using C3.eN;exact AK [] rfl rfl|cons l ls I=>have h:=h;induction h using C3.eC with|cons a b=>refine AI (I b) λT e1 c=>?_;induction a using Rd.eS with|str t=>exact AK ((tx l,t)::T) (by refine J e1 rfl) (by refine J Bo (J c ?_);rfl)
theorem Do.H6(d:U Z)(ls:U (U Z))(h:(ls.map DF).sum+ls.length*d.length<=Ay):Do c (.builtin "str.join") [.str d,.list (CN ls)] (.str (H6 d ls)):=λA E Y s F Q N j K m k=>by
 induction m using C3.eC with|cons a b=>induction b using C3.eC with|cons g b=>induction b using C3.eN;induction a using Rd.eS with|str t=>induction g using Rd.eL with|@list _ f n e r=>
refine AI (Xq r) λT z o=>?_;subst z;have w:KI ((T.map (·.1)).toArray.foldl (·+·.length+(tx d).length) 0)=AD:=by
 refine J (StrLaws.joinTotal _ _) (J o ?_);have e1:((ls.map tx).map (·.length)).sum=(ls.map DF).sum:=by
  refine J EE rfl;first|exact FO λx M=>EL x|skip
 refine J e1 (J (AL _) (J (EL _) ?_));unfold KI;simpa using h
refine QA Nw (G0 _ _ _) PySem.F.entry_str_join (PySem.F.args_str_join_2 _ _) (meets_str_join_list (tx d) t f T w) ⟨⟨_,(Al.mp e).2,rfl,n,rfl⟩,post_join T ⟨joinFit_length w,λi tk=>?_⟩⟩;have I:Txt.join (tx d) (T.map (·.1))=tx (Mine.H6 d ls):=by
 refine(?_:Builtin.Str.glued _ _=_);refine J (nc _ _) (J o (J (UM _ _) ?_));rfl
refine J I (k _ _ (Keeps.tok _ _) (.str _ _))
noncomputable def Xr(a b k:O):V:=.abs λG v=>∃r t u w,v=.ref r/\G r=B {cls:=.type "range",dict:=AJ,data:=.fields #[.int a t,.int b u,.int k w],slots:=#[]}
theorem U3(a b k:O):Sr λG v=>∃r t u w,v=.ref r/\G r=B {cls:=.type "range",dict:=AJ,data:=.fields #[.int a t,.int b u,.int k w],slots:=#[]}:=λG p v L X=>by refine Ge X λr t u w e h=>MR r t u w e (L _ _ h (.inl F7))
theorem Do.j0(a b k:O)(R:k≠0)(P:a.natAbs<2^20)(hb:b.natAbs<2^20)(r:k.natAbs<2^20):Do c (.type "range") [.int a,.int b,.int k] (Xr a b k):=λA E Y s F Q N j K m T=>by
 induction m using C3.eC with|cons d m=>induction m using C3.eC with|cons o m=>induction m using C3.eC with|cons e m=>induction m using C3.eN;induction d using Rd.eI with|int t=>induction o using Rd.eI with|int u=>induction e using Rd.eI with|int v=>exact call_range_3 R (T _ _ (Keeps.push _ _) (.abs (U3 a b k) ⟨_,t,u,v,rfl,Al.mpr ⟨K.size,Ag _ rfl⟩⟩)) (.inl (aR (by exact rY ‹_›)))
structure PObj(v:AF)(chg news:U (AW×Gq)):Prop where
len:news.length=1
chg:chg=[]val:v=.ref (nA news 0)obj:nO news 0={cls:=.type "object",dict:=AJ,data:=.plain,slots:=#[]}
open PySem PySem.W PyProof.Rows PySem.Calls PySem.W.X PySem.W.XRun
theorem aY{prog:DH}{w:Em}{A:BQ}{s:AE}{Q E:AF->AE->Prop}(S:A.handled=AJ)(Y:XQ PObj s Q):Aj (BF prog w) A (Hi (.type "object") []) Q E s:=by
 x_run
end
section
variable{F:Fx}{h₀:BJ}{σ:AS}{Y:U AW}{c:Cx}
noncomputable def He(a b:O):U V:=(Ar (a-b).toNat).map λ(i:Z)=>V.int (a+(i:O)*(-1))
theorem HX.down(a b:O)(L:FY a b (-1)=AO):HX c (Xr a b (-1)) (He a b):=by
 intro A E s Y v Q N j K f k;induction f using Rd.eA with|abs m e=>
    refine Ge e ?_;clear e;intro r t u w T e;subst T;have g:=(Al.mp e).2;refine Uo g L ?_;have p:Br a b (-1)=(((He a b).length:Z):O):=by
      simp only[He,AL,CW,Br];have W:¬((-1:O)>0):=by decide
      simp only[W,KL,O.neg_neg,Kz];split<;>(first|exact rT ‹_›|exact rS ‹_›|omega)
    refine k _ [s.heap.objs.size] _ _ (EK _) rfl rfl (λF y=>oW y _ a (-1) _) ?_ (λb hb=>.inl (AM.mp hb)) ?_ ?_;· have :=Ag s.heap (o:={cls:=.type "range_iterator",data:=.fields #[BI a,BI (Br a b (-1)),BI (-1)]}) rfl;refine(?_:(s.heap.push _).get? _=B {cls:=.type "range_iterator",dict:=AJ,data:=.fields #[BI (a+(0:Z)*(-1)),BI (((He a b).length:Z)-(0:Z)),BI (-1)],slots:=#[]});refine J this (J p ?_);simp
    · intro i h hi;exact AK _ hi rfl
    · intro i v hi R;refine Aw R λt z=>?_;clear R;subst z;refine AK (.int (a+(i:Z)*(-1))) ?_ (.int _ _);have d:=by simpa[He]using hi
      simp[He,d]
theorem Zw{x:BA}{p X pos K:EQ}{Q:Ha->AS->Prop}(j:Wf F.c)(R:F.env.kindOf "object"=B .globalImplicit)(D:Pn F.c "object" (.type "object"))(k:DG F x)(h:∀a,F.c.hB.get? a=AJ->a∉F.X σ->Q .next (σ.put x (.v (F0 a)))):W1 F h₀ σ (.Assign [.Name x p] (.Call (.Name "object" X) [] [] K) pos) Q:=by
 intro A E s N T;refine EF ?_ rfl;refine IW (Ig j T.st T.rep.ok R D.1 D.2 ?_);refine callWith_of (P:=λM=>Nt) rfl (λh M=>⟨.machine,.inr (.inl rfl),Looks.of_pure rfl⟩) (evalArgs_nil3 ⟨Bl,?_⟩);refine Ad (CM (aY (Q:=λv s'=>∃h' tk a,s'={s with heap:=h',toks:=tk}/\v=.ref a/\(∀b o,s.heap.get? b=B o->h'.get? b=B o)/\s.heap.get? a=AJ) N.handled λv h' tk chg news D P=>?_)) (λv s' H=>?_) λM M x=>x.2;· have f:=P.chg;subst f;exact UE h' tk _ rfl P.val (λb o e=>D.keep b o e (by refine J (FI _ _) (.inr rfl))) (gu D P.len 0 (by decide))
 · refine Aa H λi G=>?_;clear H;refine Lc G λh' tk a e1 I R g=>?_;clear G;subst e1 I;have L:Kp s {s with heap:=h',toks:=tk}:=⟨⟨_,_,rfl,R⟩,i⟩;have Y:=T.next (T.st.keeps L) (B4 L);refine Ew (sl:=.v (F0 a)) Y Y.rep k (Rd.F0 a) λW c d=>⟨.next,_,c,?_,Bl,h a (T.st.grow.none g) ((T.rep.Ft CX).fresh g)⟩;exact(CZ.DO (B4 L)).trans Y (CZ.store d)
end
noncomputable def FU:U Z:=[40,41,91,93,123,125,63,42,43,45,124,94,36,92,46,38,126,35,32,9,10,13,11,12]
noncomputable def chF(x:U (U Z)×U Z×Z)(g:U (U Z)×U Z×Z->U (U Z)):U (U Z):=(E6 x.2.1 45 x.2.2 x.2.1.length).casesOn (if x.2.1.isEmpty=AD then x.1++[x.2.1]else x.1.dropLast++[x.1.getLastD []++[45]]) λk=>g (x.1++[x.2.1.take k],x.2.1.drop (k+1),2)
noncomputable def DV(v:U (U Z))(l:U Z)(c:Z):U (U Z):=Si (λx=>x.2.1.length) chF [] (l.length+1) (v,l,c)
theorem cq{l:U Z}{s k:Z}(h:E6 l 45 s l.length=B k):(l.drop (k+1)).length<l.length:=by
 refine J Bh ?_;exact iN (An (Ao _) (GQ h).2.1) (NN k)
theorem Ri(v:U (U Z))(l:U Z)(c:Z):DV v l c=chF (v,l,c) λx=>DV x.1 x.2.1 x.2.2:=OL (m:=λ(x:U (U Z)×U Z×Z)=>x.2.1.length) (F:=chF) (d:=[]) (λM M M h=>mZ λM e=>h _ (cq e)) (v,l,c)
theorem JX{v:U (U Z)}{l:U Z}{c k:Z}(h:E6 l 45 c l.length=B k):DV v l c=DV (v++[l.take k]) (l.drop (k+1)) 2:=by
 refine(Ri _ _ _).trans (?_:D1 (motive:=λM=>U (U Z)) (E6 l 45 c l.length) _ _=_);rw[h]
theorem IH{v:U (U Z)}{l:U Z}{c:Z}(h:E6 l 45 c l.length=AJ):DV v l c=if l.isEmpty=AD then v++[l]else v.dropLast++[v.getLastD []++[45]]:=by
 refine(Ri _ _ _).trans (?_:D1 (motive:=λM=>U (U Z)) (E6 l 45 c l.length) _ _=_);rw[h]
noncomputable def ER(v:U (U Z))(k:Z):U (U Z):=if(v.getD k []).headD 0<(v.getD (k-1) []).getLastD 0 then(v.set (k-1) ((v.getD (k-1) []).dropLast++(v.getD k []).drop 1)).eraseIdx k else v
noncomputable def Ec(v:U (U Z)):Z->U (U Z)|0=>v|k+1=>Ec (ER v (k+1)) k
noncomputable def IG(l:U Z):U Z:=Fh 45 [92,45] (Fh 92 [92,92] l)
noncomputable def CO(b:U Z):Z:=if b.headD 0==33 then 2 else 1
noncomputable def Fo(b:U Z):U Z:=if b.contains 45=AD then Fh 92 [92,92] b else H6 [45] ((Ec (DV [] b (CO b)) ((DV [] b (CO b)).length-1)).map IG)
noncomputable def JK(a:U Z):U Z:=if a.isEmpty=AO then[40,63,33,41]else if(a==[33])=AO then[46]else if(a.headD 0==33)=AO then[91]++([94]++a.drop 1)++[93]else if(a.headD 0==94||a.headD 0==91)=AO then[91]++([92]++a)++[93]else[91]++a++[93]
noncomputable def Gf(b:U Z):U Z:=JK (Gg (Fo b))
noncomputable def oB(x:BC×U Z)(g:BC×U Z->U (AX (U Z))):U (AX (U Z)):=x.2.casesOn [] λc R=>if c=42 then(if x.1=AO then g (AO,R)else AJ::g (AO,R))else if c=63 then B [46]::g (AD,R)else if c=91 then(DL R).casesOn (B [92,91]::g (AD,R)) λe=>B (Gf (R.take e))::g (AD,R.drop (e+1))else B (Hh FU c)::g (AD,R)
noncomputable def Cb(star:BC)(l:U Z):U (AX (U Z)):=Si (λx=>x.2.length) oB [] (l.length+1) (star,l)
theorem Il(star:BC)(l:U Z):Cb star l=oB (star,l) λx=>Cb x.1 x.2:=by
 refine OL (m:=λx=>x.2.length) (F:=oB) (λa f g h=>?_) (star,l);rcases a with⟨s,l⟩;induction l using NS with|nil=>rfl|cons c R=>have W:∀b,f (b,R)=g (b,R):=λb=>h _ (B5 _);have C:∀e,f (AD,R.drop e)=g (AD,R.drop e):=λe=>h _ (DA (YJ _ _));dsimp only[oB];simp only[W,C]
theorem Eg(star:BC):Cb star []=[]:=Il star []
theorem HM(R:U Z)(star:BC):Cb star (42::R)=if star=AO then Cb AO R else AJ::Cb AO R:=Il _ _
theorem Hu(star:BC)(R:U Z):Cb star (63::R)=B [46]::Cb AD R:=Il _ _
theorem Ht(star:BC)(R:U Z)(e:Z)(h:DL R=B e):Cb star (91::R)=B (Gf (R.take e))::Cb AD (R.drop (e+1)):=by
 refine(Il _ _).trans (?_:D1 (motive:=λM=>U (AX (U Z))) (DL R) _ _=_);rw[h]
theorem HN(star:BC)(R:U Z)(h:DL R=AJ):Cb star (91::R)=B [92,91]::Cb AD R:=by
 refine(Il _ _).trans (?_:D1 (motive:=λM=>U (AX (U Z))) (DL R) _ _=_);rw[h]
theorem HO(star:BC)(c:Z)(R:U Z)(W:c≠42)(C:c≠63)(T:c≠91):Cb star (c::R)=B (Hh FU c)::Cb AD R:=(Il _ _).trans ((Ab W).trans ((Ab C).trans (Ab T)))
noncomputable def F5(ps:U (AX (U Z))):U (U Z):=eR (motive:=λM=>U (U Z)) [] (λo M I=>o.casesOn [] λl=>l::I) ps
noncomputable def DC(ps:U (AX (U Z))):U (AX (U Z)):=eR (motive:=λM=>U (AX (U Z))) [] (λo r I=>o.casesOn (AJ::r) λM=>I) ps
theorem PA(r:U (AX (U Z))):F5 (AJ::r)=[]:=rfl
theorem Z0(l:U Z)(r:U (AX (U Z))):F5 (B l::r)=l::F5 r:=rfl
theorem W4(r:U (AX (U Z))):DC (AJ::r)=AJ::r:=rfl
theorem W3(l:U Z)(r:U (AX (U Z))):DC (B l::r)=DC r:=rfl
theorem Qp:F5 []=[]:=rfl
theorem XR:DC []=[]:=rfl
theorem Nd:∀ps,(DC ps).length<=ps.length:=by
 intro ps;induction ps with|nil=>exact AN _|cons d r I=>cases d with|none=>exact AN _|some _=>exact Cm (I)
theorem J8:∀ps,DC ps=[]\/∃r,DC ps=AJ::r:=by
 intro ps;induction ps with|nil=>exact .inl rfl|cons d r I=>cases d with|none=>exact .inr ⟨r,rfl⟩|some _=>exact I
noncomputable def o4(ps:U (AX (U Z)))(g:U (AX (U Z))->U Z):U Z:=ps.casesOn [] λo r=>o.casesOn (if(DC r).isEmpty=AO then[46,42]++(F5 r).flatten else[40,63,62,46,42,63]++(F5 r).flatten++[41]++g (DC r)) λM=>[]
noncomputable def CL(ps:U (AX (U Z))):U Z:=Si DF o4 [] (ps.length+1) ps
theorem ML(ps:U (AX (U Z))):CL ps=o4 ps CL:=by
 refine OL (F:=o4) (λa f g h=>?_) ps;induction a using NS with|nil=>rfl|cons o r=>induction o using D1 with|some _=>rfl|none=>dsimp only[o4];rw[h _ (DA (Nd r))]
theorem JT:CL []=[]:=ML []
theorem SW(l:U Z)(r:U (AX (U Z))):CL (B l::r)=[]:=ML _
theorem GN(r:U (AX (U Z))):CL (AJ::r)=if(DC r).isEmpty=AO then[46,42]++(F5 r).flatten else[40,63,62,46,42,63]++(F5 r).flatten++[41]++CL (DC r):=ML _
noncomputable def Hc(ps:U (AX (U Z))):U Z:=[40,63,115,58]++((F5 ps).flatten++CL (DC ps))++[41,92,90]
noncomputable def Ml(A:U Z):U Z:=Hc (Cb AD A)
noncomputable def Ql:U (AX (U Z))->Prop|AJ::AJ::_=>Dp|_::r=>Ql r|[]=>Nt
theorem Sc:∀(n:Z)(l:U Z),l.length<=n->∀star,Ql (Cb star l)/\(star=AO->∀r,Cb star l≠AJ::r):=by
 intro n;induction n with
 |zero=>intro m;cases m with|nil=>intro M star;rewrite[Eg];exact⟨Bl,λM r=>by simp⟩|cons _ _=>intro d;exact B8 d (F1 _)
 |succ n I=>intro m;cases m with|nil=>intro M star;rewrite[Eg];exact⟨Bl,λM r=>by simp⟩|cons c R=>
      intro g star;simp only[Ah]at g;have cons:∀(p:U Z)(b:BC)(l:U Z),l.length<=n->Ql (B p::Cb b l)/\(star=AO->∀r,B p::Cb b l≠AJ::r):=λp b l h=>⟨(I l h b).1,λM r e=>by cases(e)⟩;by_cases W:c=42;· subst W;refine J (HM _ _) ?_;have I:=I R (by exact z0 ‹_›) AO;cases star with|true=>exact I|false=>refine⟨?_,λh=>J2 h⟩;refine(?_:Ql (AJ::Cb AO R));cases E:Cb AO R with|nil=>trivial|cons p ps=>cases p with|none=>exact B8 E (I.2 rfl ps)|some l=>rw[E]at I;exact I.1
      · by_cases C:c=63;·subst C;refine J (Hu _ _) (cons _ _ _ (by exact z0 ‹_›))
        · by_cases T:c=91;· clear W C;subst T;cases f:DL R with|some e=>refine J (Ht _ _ _ f) (cons _ _ _ (by simp;exact iU ‹_›))|none=>refine J (HN _ _ f) (cons _ _ _ (by exact z0 ‹_›))
          ·refine J (HO _ _ _ W C T) (cons _ _ _ (by exact z0 ‹_›))
structure jp(c:Cx):Prop where
isin:Pn c "isinstance" (.builtin "isinstance")str:Pn c "str" (.type "str")smap:c.mg "_special_chars_map"=B (.ref 61)tab:gg c 61 FU
object:Pn c "object" (.type "object")esc:Dn c "escape" 10 71
trans:Dq c "_translate" 12 78 77 "_translate"join:Dn c "_join_translated_parts" 13 85
translate:Dn c "translate" 7 59
pat:c.mg "_twin_re_1"=B (.ref 52)patAt:Q5 c.hB 52
bm:Oc c
theorem ZR{c:Cx}(N:Nm c)(T:jp c)(n:Z):Ef c (n+1) 71 (λS Q=>∃x,S=[.str [x]]/\Q (.str (Hh FU x))):=by
 refine Aa T.esc λM G=>Au G λo fd D hd=>Ef.NZ (names:=["pattern"]) N.wf D rfl rfl rfl (by decide) hd (λfd l E hd g=>HQ E hd g λM=>by kernel_rfl) (by decide+kernel) λL Y q cd S Q h₀ b=>AI b λx z u=>?_;clear b;subst z;refine⟨rfl,?_⟩;let F:=Fx.fn c n (E8 10).scope 71 L Y q cd;have H:VH F (E8 10).scope []:=⟨N,(by intro M W;exact JZ W),rfl,rfl⟩;refine(?_:WS F _ _ _ _);refine FL (IU (H9 (YR N.wf T.isin rfl Be (Cz (vE.IB H ?_) (λM=>rfl)))));refine Cz (YU N.wf rfl T.str ?_) (λM=>rfl);refine Er ⟨_,.isStr _,AO,.bool _,λM=>?_,λh=>NI h⟩;refine vS.ok H (?_:WE _ _ _ _ _);refine OX WP PySem.F.type_str_translate (vE.IB H ⟨_,rfl,?_⟩);refine Cz (YT N.wf rfl T.smap ?_) (λM=>rfl);exact Er ⟨_,.trans T.tab x,Bl,u⟩
theorem Kb{F:Fx}{σ:AS}{Y:U AW}{x:BA}{k:Z}{pos:EQ}{Q:V->Prop}(l:U Z)(e:x.cps.toList=l)(q:Q (.str l)):WE F σ Y (.Constant (.str x) k pos) Q:=dF (e▸q)
theorem TS:∀ls:U (U Z),H6 [] ls=ls.flatten
|[]=>rfl|[x]=>by refine(?_:x=_);simp|x::y::r=>by
 refine(?_:x++[]++H6 [] (y::r)=_);refine J (TS (y::r)) ?_;simp
theorem Do.nB{c:Cx}(ls:U (U Z))(h:ls.flatten.length<=1000000):Do c (.builtin "str.join") [.str [],.list (CN ls)] (.str ls.flatten):=by
 have :=Do.H6 (c:=c) [] ls (by refine J BU (J (Z.mul_zero _) (J (SH _) (CS QD ?_)));simp only[Ay];exact qc ‹_›);rw[TS]at this;exact this
theorem OZ{F:Fx}{σ:AS}{Y:U AW}{x:BA}{k:Z}{e:BL}{pos I K:EQ}{Q:V->Prop}(D:x="")(h:WE F σ F.Xo e λd=>∃ls,d=.list (CN ls)/\ls.flatten.length<=1000000/\Q (.str ls.flatten))(he:∀env,Bn [e] env=(AD,Gp e env)::Bn [] env:=by intro M;rfl)(hfew:∀env,((Fg K (Bn [e] env)).all (λx=>!x.1)&&(SD K (LN [] env)).all (λx=>x.1.isSome)&&B9 ([e].length+([]:U IX).length+(if([]:U IX).isEmpty then 0 else 1)<30))=AO:=by intro M;rfl)(hline:(I.endLine==K.line)=AO:=by rfl):WE F σ Y (.Call (.Attribute (.Constant (.str x) k pos) "join" I) [e] [] K) Q:=by
 subst D;refine OX Nw dT (hline:=hline) (hfew:=hfew) (he:=he) (Kb [] rfl ⟨[],rfl,?_⟩);exact Cz (h.mono λd X=>by refine CF X λls e g q=>by subst e;exact Er ⟨_,.nB ls g,Bl,q⟩) he
noncomputable def VM(x:BA)(a:AW)(Y:U V):AS:=[(x,.own a Y)]
noncomputable def Gh(st:AW):AX (U Z)->V|AJ=>F0 st|B l=>.str l
theorem Ph(a b:U (U Z)):CN (a++b)=CN a++CN b:=by simp[CN]
noncomputable def Z5:AX (U Z)->BC|AJ=>AD|B _=>AO
theorem Bv.QW{c:Cx}(st:AW)(p:AX (U Z)):Bv c .IsNot (Gh st p) (F0 st) (Z5 p):=by
 cases p with|none=>exact .Zg _ _ rfl|some l=>exact .Vi l st
theorem Bv.j4{c:Cx}(st:AW)(p:AX (U Z)):Bv c .Is (Gh st p) (F0 st) (!Z5 p):=by
 cases p with|none=>exact .cO _ _ rfl|some l=>exact .cN l st
theorem Nf{ps:U (AX (U Z))}(h:Ql ps):∀i,Ql (ps.drop i)
|0=>h|i+1=>by
 match ps,h with|[],_=>trivial|AJ::AJ::_,h=>exact h.elim|[AJ],_=>cases(i)<;>trivial|AJ::B l::r,h=>exact Nf (ps:=B l::r) h i|B l::r,h=>exact Nf (ps:=r) h i
theorem Hq.part{ps:U (AX (U Z))}{st:AW}{i:Z}{p:AX (U Z)}(h:ps[i]?=B p)(g:ps.length<=1000000):Hq (i:O) (ps.map (Gh st)) (Gh st p):=by
 refine .nat (by refine J B3 (J h ?_);rfl) ?_;have :=(Az.mp h).1;exact qb ‹_› ‹_›
theorem fO{c:Cx}(N:Nm c)(T:jp c)(n:Z):Ef c (n+1) 85 (λS Q=>∃ps st,S=[.list (ps.map (Gh st)),F0 st]/\ps.length<=1000000/\(Hc ps).length<=1000000/\Ql ps/\Q (.str (Hc ps))):=by
  refine Ef.Mq ["inp","STAR"] ["i","n","res","add","fixed"] N T.join (λfd xT E hd g=>GU E hd g λM M=>by kernel_rfl) (by decide+kernel) λF S Q h₀ H f hn xG=>Jt xG λps st P W xH xN hq=>?_;clear xG;subst P;refine⟨rfl,vS.ok H ?_⟩;generalize xI:(F5 ps).flatten++CL (DC ps)=wi;have xJ:Hc ps=[40,63,115,58]++wi++[41,92,90]:=by unfold Hc;refine J xI rfl
  have xU:=by rw[xJ]at xH;simp at xH;exact qa ‹_›
  have xK:ps.length<=Ay:=AA W (by decide);refine(?_:W1 _ _ _ _ _);refine DN (H.st _ (by decide)) (N8.GH H ?_);refine AV (by decide) λa xV xO=>(?_:WE _ _ _ _ _);refine W9 rfl CX (?_:W1 _ _ _ _ _);refine Rn ["i","n"] (λx D=>H.st x (((Tm _).cons_cons _|>.cons_cons _).subset D)) (vE.GH H ?_) rfl (H.Xm rfl);refine AK _ (.PP _ (by refine J (AL _) (Bu.mpr (An W (by decide))))) (AV (show 2<=_ by decide) ⟨_,rfl,rfl,?_⟩);let BV:Z->U V->AS:=λi S=>[("inp",.v (.list (ps.map (Gh st)))),("STAR",.v (F0 st)),("res",.own a S),("add",.v (Rj a)),("n",.v (.int ps.length)),("i",.v (.int i))];let s:=λi done=>BV i (CN done);refine Gx (σ':=s 0 []) (Aq (λk:Z=>([("inp",.v (.list (ps.map (Gh st)))),("STAR",.v (F0 st)),("res",.own a []),("add",.v (Rj a)),("n",.v (.int k)),("i",.v (.int 0))]:AS)) (AL ..)) (?_:W1 _ _ _ _ _);refine Ki H (λk σ'=>∃(i:Z)(done:U (U Z)),σ'=s i done/\k=ps.length-i/\i<=ps.length/\done.length<=i/\done++F5 (ps.drop i)=F5 ps/\DC (ps.drop i)=DC ps) _ ⟨0,[],rfl,rfl,Ao _,AN _,rfl,rfl⟩ λk σ' K R=>PJ R λi done P C hi I wj m=>?_;clear R;subst P;subst C;intro u1 u2 Du;have wq:(CN done).length<=Ay:=by rewrite[CN];refine J (AL _) (AA I (AA hi xK))
  refine(?_:WT _ _ _ _);refine DQ (DY (b:=B9 (i<ps.length)) (b':=Z5 (ps.getD i AJ)) (vT.ok H ?_) (λu=>EM (vT.ok H ?_)) (AV (λf=>?_) (λf=>?_)));·exact EN.mpr Bu
  · have u:=Bq u;have hg:ps[i]?=B (ps.getD i AJ):=by simp[u]
    exact AK _ (.list (.part hg W)) (AK _ (.QW st _) rfl)
  ·
    simp only[Bs,HY]at f;refine Aa f λu L=>Cj (Fn u) λp t wr wo ht=>?_;have wl:ps.getD i AJ=p:=by refine J AG (J wo ?_);rfl
    rw[wl]at L;clear wl;cases p with|none=>exact J2 L|some l=>rw[wr]at wj m;refine(?_:W1 _ _ _ _ _);refine JO (x:="res") (xs:=CN done) rfl rfl wq (vE.GH H ?_) (hi:=H.ni);refine AK _ (.list (.part wo W)) (Du _ _ (BX u (B5 i)) ⟨i+1,done++[l],Aq (λS=>BV (i+1) S) (GS V.str done l),rfl,u,by refine J AZ ?_;exact Ax I,by refine J ht ?_;simpa[F5]using wj,by refine J ht ?_;exact m⟩)
  have wm:ps.drop i=DC ps/\F5 (ps.drop i)=[]:=by
    refine AC (CJ i ps.length) (λu=>?_) λY=>?_
    · refine Cj (Fn u) λp t wr wo ht=>?_;have wl:ps.getD i AJ=p:=by refine J AG ?_;refine J wo ?_;rfl
      rw[wl]at f;clear wo wl;cases p with|some l=>simp[u,Z5]at f|none=>rw[wr]at m⊢;exact⟨m,rfl⟩
    ·rw[BY Y]at m⊢;exact⟨m,rfl⟩
  have xB:done=F5 ps:=by rw[wm.2]at wj;simpa using wj
  clear f m Du u1 u2 K;let Tl:AS->Prop:=λv=>v=[]\/∃d,v=Dz "fixed" d;refine(?_:W1 _ _ _ _ _);refine W1.mono (Q:=λo σ'=>o=.next/\∃(done:U (U Z))(v:AS),σ'=s ps.length done++v/\Tl v/\done.flatten=wi/\done.length<=2*ps.length) (Ki H (λk σ'=>∃(i:Z)(done:U (U Z))(v:AS),σ'=s i done++v/\Tl v/\k=ps.length-i/\i<=ps.length/\done.length<=2*i/\done.flatten++CL (ps.drop i)=wi/\ps.drop i=DC (ps.drop i)) _ ⟨i,done,[],by simp,.inl rfl,rfl,hi,by exact qP ‹_›,by refine J xB ?_;refine J wm.1 ?_;refine J xI ?_;rfl,by refine J wm.1 ?_;focus(refine AC (J8 ps) ?_ ?_;rotate_left;(focus(intro X;refine Aw X λr h=>?_));rotate_right;(focus(intro h)))<;>refine J h ?_<;>rfl⟩ ?_) ?_
  · clear wj wm xB I wq hi done i;intro k σ' K R;refine U8 R λi done v C A xP hi I wh m=>?_;clear R;subst C;subst xP;intro brk M Du;have wq:done.length+1<=Ay:=AA (Ax (AA I (CE 2 (AA hi W)))) (by decide);have wv:(CN done).length<=Ay:=by rewrite[CN];refine J (AL _) ?_;exact E3 wq
    have wt:done.flatten.length+(CL (ps.drop i)).length=wi.length:=by refine CS wh ?_;simp
    refine AV (λu=>?_) (λu=>?_)
    · have u:i<ps.length:=fZ u;refine Cj (Fn u) λp t wr wo ht=>?_;have x8:=Nf xN i
      rw[wr]at m wh x8 wt;clear wr;cases p with|some l=>
        refine AC (J8 (B l::t)) (λh=>?_) λX=>?_;·rw[h]at m;exact di m
        ·refine Aw X λr h=>?_;clear X;rw[h]at m;cases(m)|none=>
      clear m;rw[GN]at wh wt;refine AK _ (.list (.part wo W)) (AK _ (.j4 st _) (AV rfl ?_));refine(?_:W1 _ _ _ _ _);refine Pg H (AV (λwg=>?_) (λwg=>?_))
      · have wg:i+1=ps.length:=MH.mp (Fe wg);have xQ:t=[]:=by refine CS ht ?_;refine J wg ?_;refine J (BY (AN _)) ?_;with_reducible rfl
        rw[xQ]at wh;refine(?_:W1 _ _ _ _ _);refine JO (x:="res") (a:=a) (xs:=CN done) rfl rfl wv (vE.GH H ?_) (hi:=H.ni);refine brk _ ⟨rfl,done++[[46,42]],v,?_,A,?_,?_⟩;·refine CS wg ?_;exact Aq (λS=>BV (i+1) S++v) (GS V.str done [46,42])
        ·refine CS wh ?_;simp[XR,Qp]
        ·refine J AZ ?_;refine CS wg ?_;exact AA (Ax I) (BH _)
      · have w:i+1<ps.length:=IY u λe=>Un wg (Aq Z.cast e);refine Cj (Fn w) λq t2 x9 xL xW=>?_;have :t=q::t2:=by refine CS ht ?_;exact x9
        clear x9;subst this;cases q with|none=>exact x8.elim|some l2=>
        refine AK _ (.list (.part (i:=i+1) xL W)) (AK _ (.QW st _) (AV rfl ?_));refine(?_:W1 _ _ _ _ _);refine DN (H.st _ (by decide)) (N8.GH H ?_);refine AV (by decide) λb xX xR=>?_;have L:((s i done++v).put "i" (.v (.int ((i:O)+1)))).put "fixed" (.own b [])=s (i+1) done++VM "fixed" b (CN []):=by
          focus(refine AC A ?_ ?_;rotate_left;(focus(clear A;intro X;refine Aw X λd z=>?_;clear X;subst z));rotate_right;(focus(clear A;intro X;subst X)))<;>rfl
        refine Gx L ?_;clear L A;generalize hr:B l2::t2=r at*;refine(?_:W1 _ _ _ _ _);refine W1.mono (Q:=λo σ'=>o=.next/\∃(j:Z),σ'=s j done++VM "fixed" b (CN (F5 r))/\i+1<=j/\j<=ps.length/\ps.drop j=DC r) (Ki H (λk σ'=>∃(j:Z)(fx:U (U Z)),σ'=s j done++VM "fixed" b (CN fx)/\k=ps.length-j/\i+1<=j/\j<=ps.length/\fx.length<=j/\fx++F5 (ps.drop j)=F5 r/\DC (ps.drop j)=DC r) _ ⟨i+1,[],rfl,rfl,AN _,u,Ao _,by refine J ht ?_;rfl,by refine J ht ?_;with_reducible rfl⟩ ?_) ?_
        · clear Du brk;intro k σ' K R;refine X1 R λj fx P C wu hj xC wj m=>?_;clear R;subst P;subst C;intro M M Du;refine(?_:WT _ _ _ _);refine DQ (DY (b:=B9 (j<ps.length)) (b':=Z5 (ps.getD j AJ)) (vT.ok H ?_) (λu=>EM (vT.ok H ?_)) (AV (λf=>?_) (λf=>?_)));·exact EN.mpr Bu
          · have u:j<ps.length:=Bq u;have hg:ps[j]?=B (ps.getD j AJ):=by simp[u]
            exact AK _ (.list (.part hg W)) (AK _ (.QW st _) rfl)
          · simp only[Bs,HY]at f;refine Aa f λu L=>?_;clear f;refine Cj (Fn u) λp t3 wx wn xD=>?_;have wl:ps.getD j AJ=p:=by refine J AG ?_;refine J wn ?_;rfl
            rw[wl]at L;clear wl;cases p with|none=>exact J2 L|some l=>rw[wx]at wj m;refine(?_:W1 _ _ _ _ _);refine Ix (a:=b) (ys:=CN fx) H (by rewrite[CN];refine J (AL _) ?_;exact AA xC (AA hj xK)) ?_;refine AK _ (.list (.part wn W)) ?_;exact Du _ _ (BX u (B5 j)) ⟨j+1,fx++[l],Aq (λS=>s (j+1) done++VM "fixed" b S) (GS V.str fx l),rfl,Cm wu,u,by refine J AZ ?_;exact Ax xC,by refine J xD ?_;simpa[F5]using wj,by refine J xD ?_;exact m⟩
          · have xA:ps.drop j=DC r/\F5 (ps.drop j)=[]:=by
              refine AC (CJ j ps.length) (λu=>?_) λY=>?_
              · refine Cj (Fn u) λp t3 wx wn xD=>?_;have wl:ps.getD j AJ=p:=by refine J AG ?_;refine J wn ?_;rfl
                rw[wl]at f;clear wn wl;cases p with|some l=>simp[u,Z5]at f|none=>rw[wx]at m⊢;exact⟨m,rfl⟩
              ·rw[BY Y]at m⊢;exact⟨m,rfl⟩
            rw[xA.2,BW]at wj;exact⟨rfl,j,by refine J wj ?_;with_reducible rfl,wu,hj,xA.1⟩
        · intro o σ' wy;refine Aa wy λxE G=>?_;clear wy;refine DU G λj z wu hj wz=>?_;clear G;subst z;subst xE;have xC:(F5 r).flatten.length<=wi.length:=by
            split at wt<;>simp only[AZ,Ah,BU]at wt<;>(first|with_reducible exact q6 ‹_›|with_reducible exact q3 ‹_›|omega)
          refine(?_:WE _ _ _ _ _);refine OZ rfl (Di (b:=b) rfl Be xR ⟨_,rfl,by with_reducible exact pw ‹_› ‹_›,?_⟩);refine Gx (σ':=s j done++Dz "fixed" (.str (F5 r).flatten)) rfl ?_;refine(?_:W1 _ _ _ _ _);refine Pg H (AV (λwg=>?_) (λwg=>?_))
          · have wg:j=ps.length:=MH.mp (Fe wg);have xF:DC r=[]:=by refine CS wz ?_;refine J wg ?_;refine J (BY (AN _)) ?_;with_reducible rfl
            rw[xF]at wh;refine(?_:W1 _ _ _ _ _);refine JO (x:="res") (a:=a) (xs:=CN done) rfl rfl wv (vE.GH H ?_) (hi:=H.ni);refine(?_:W1 _ _ _ _ _);refine JO (x:="res") (a:=a) (xs:=CN done++[.str [46,42]]) rfl rfl (by rewrite[CN];refine J AZ ?_;refine J (AL _) ?_;exact wq) (vE.GH H ?_) (hi:=H.ni);refine Du _ _ (BX u (AY wu hj)) ⟨ps.length,done++[[46,42],(F5 r).flatten],Dz "fixed" (.str (F5 r).flatten),?_,.inr ⟨_,rfl⟩,rfl,AN _,?_,?_,?_⟩;·refine J wg ?_;exact Aq (λS=>BV ps.length S++_) (by rewrite[CN];rewrite[CN];refine J DI ?_;rewrite[Bw];rfl)
            ·refine J AZ ?_;exact AA (Cg I 2) (CE 2 u)
            ·refine J (BY (AN _)) ?_;refine CS wh ?_;simp[JT]
            ·refine J (BY (AN _)) ?_;rfl
          · have w:j≠ps.length:=λe=>Un wg (Aq Z.cast e);have xF:(DC r).isEmpty=AD:=by
              refine CS wz ?_;cases hd:ps.drop j with|nil=>have :=Aq DF hd;simp at this;with_reducible exact(pn ‹_› ‹_› ‹_›).elim|cons x y=>rfl
            rw[xF]at wh wt;simp only[Fa,KL]at wh wt;refine(?_:W1 _ _ _ _ _);refine JO (x:="res") (a:=a) (xs:=CN done) rfl rfl wv (Uc ?_) (hi:=H.ni);refine Kb [40,63,62,46,42,63] rfl ⟨_,rfl,by simp[Ay],?_⟩;refine Ub (vE.IB H ?_);refine⟨_,rfl,by simp only[Ay];with_reducible exact pk ‹_› ‹_›,_,rfl,by simp only[AZ,Ah,BU,Ay];with_reducible exact pg ‹_› ‹_›,?_⟩;refine Kb [41] rfl ⟨_,rfl,by simp only[AZ,Ah,BU,Ay];with_reducible exact lZ ‹_› ‹_›,by simp only[AZ,Ah,BU,Ay];with_reducible exact lZ ‹_› ‹_›,?_⟩;refine Du _ _ (BX u wu) ⟨j,done++[[40,63,62,46,42,63]++(F5 r).flatten++[41]],Dz "fixed" (.str (F5 r).flatten),Aq (λS=>BV j S++_) (GS V.str done _),.inr ⟨_,rfl⟩,rfl,hj,?_,?_,?_⟩;·refine J AZ ?_;exact AA (Ax I) (AA (BH _) (CE 2 wu))
            ·refine J wz ?_;refine CS wh ?_;simp
            ·refine J wz ?_;focus(refine AC (J8 r) ?_ ?_;rotate_left;(focus(intro X;refine Aw X λr' h=>?_;clear X));rotate_right;(focus(intro h)))<;>refine J h ?_<;>rfl
    · have xS:i=ps.length:=Cy hi (Bx (fb u));rw[xS]at wh I⊢;rw[BY (AN _)]at wh;exact⟨rfl,done,v,rfl,A,by simpa[JT]using wh,I⟩
  · clear wj wm xB I wq hi done i;intro o σ' wy;refine Aa wy λxE G=>?_;clear wy;refine Dg G λdone v P A xM I=>?_;clear G;subst P;subst xE;refine AV (FR _) ?_;refine(?_:WE _ _ _ _ _);refine OZ rfl (Di (b:=a) rfl Be xO ⟨_,rfl,by refine J xM ?_;with_reducible exact pf ‹_›,?_⟩);refine J xM ?_;refine(?_:WE _ _ _ _ _);refine Uc ?_;refine Kb [40,63,115,58] rfl ⟨_,rfl,by simp[Ay],?_⟩;refine Ub (vE.IB H ?_);refine⟨_,rfl,by simp only[Ay];with_reducible exact pb ‹_›,_,rfl,by simp only[AZ,Ah,BU,Ay];with_reducible exact pZ ‹_›,?_⟩;refine Kb [41,92,90] rfl ⟨_,rfl,by simp only[AZ,Ah,BU,Ay];with_reducible exact lX ‹_›,by simp only[AZ,Ah,BU,Ay];with_reducible exact lX ‹_›,?_⟩;refine(?_:Q _);rw[xJ]at hq;exact hq
section
open Sem (wp)
noncomputable def YX(prog:DH)(w:Em)(cenv:Nx)(x:BA)(elt:BL)(items:Bc AF)(F:Z->AF->Prop):Prop:=∀(A:BQ)E i v(s:AE)m,A.handled=AJ->1<=s.toks->items[i]?=B v->s.heap.Ns cenv.locals m->m x=B v->Aj (BF prog w) A (Gp elt cenv) (λy s'=>F i y/\SE s s') E s
noncomputable def Wu(C I l:AW)(n:Z)(F:Z->AF->Prop):Protocol:=λm g v s a=>F (n-1-m) v/\GenSince C [I] g s/\∀N:AE,1<=N.toks->(∀b∈[C,I,l],∀o,s.heap.get? b=B o->N.heap.get? b=B o)->a (.send .none) N
noncomputable def jb(C I:AW):GenEnd:=λn g r s₁=>r=.ok .next/\(n=0/\GenSince C [I] g s₁)
noncomputable def goT(C I l:AW)(items:Bc AF)(i:Z)(m:BA->AX AF)(h:BJ):Prop:=h.IsListIter I l i/\h.IsList l items/\h.Ns C m
section
variable{prog:DH}{w:Em}{A:BQ}{I l:AW}{items:Bc AF}{F:Z->AF->Prop}{elt iter:BL}{x:BA}{px pos:EQ}{scope:Cw}{cenv:Nx}
theorem ZG(S:A.handled=AJ)(D:cenv.kindOf x=B .local)(E:(cenv.scope.kind==.class||(cenv.scope.kind==.module&&cenv.locals !=cenv.globals))=AD)(X:cenv.scope.isCoroutine=AD)(wt:l≠I)(wo:cenv.locals≠I)(wu:cenv.locals≠l)(hq:YX prog w cenv x elt items F):∀(k i:Z)(g s:AE)(m:BA->AX AF),items.size-i=k->i<=items.size->1<=s.toks->goT cenv.locals I l items i m s.heap->GenSince cenv.locals [I] g s->Seg (BF prog w) A (jb cenv.locals I) (Wu cenv.locals I l items.size F) k g (.compLoop (.GeneratorExp elt [⟨.Name x px,iter,[],0⟩] scope pos) 0 (.ref I) .none cenv) ((BF prog w).den (.compLoop (.GeneratorExp elt [⟨.Name x px,iter,[],0⟩] scope pos) 0 (.ref I) .none cenv)) [] s:=by
 have wq:(A.over (.compLoop (.GeneratorExp elt [⟨.Name x px,iter,[],0⟩] scope pos) 0 (.ref I) .none cenv) []).handled=AJ:=S;have W:=Walks.list (prog:=prog) (w:=w) wq I l wt items;have wv:=λh=>wo (AM.mp h);intro k;induction k with|zero=>
    intro i g s m R hi wx hg L;obtain rfl:i=items.size:=by exact rQ ‹_› ‹_›
    refine(?_:Seg _ A _ _ _ g _ ((WL (.GeneratorExp elt [⟨.Name x px,iter,[],0⟩] scope pos) 0 (.ref I) .none cenv).onRaise (leaving cenv)) [] s);rewrite[compTurn_gen];refine J (Tf _ _) (Dy (Dx (Dy (W.done s _ _ ⟨hg.1,hg.2.1⟩ λh' tk wy=>?_))));exact seg_end (.ok .next) ⟨rfl,rfl,L.step λb o M p e=>wy b o p e⟩|succ k ih=>
    intro i g s m R hi wx hg L;have u:=by exact rP ‹_›
    refine(?_:Seg _ A _ _ _ g _ ((WL (.GeneratorExp elt [⟨.Name x px,iter,[],0⟩] scope pos) 0 (.ref I) .none cenv).onRaise (leaving cenv)) [] s);rewrite[compTurn_gen];refine J (Tf _ _) (Dy (Dx ?_));refine Dy (Ad (CM (W.item i s (λr s'=>∃v C V,r=B v/\s'={s with heap:=C,toks:=V}/\items[i]?=B v/\(C.IsListIter I l (i+1)/\C.IsList l items)/\∀b o,b∉[I]->s.heap.get? b=B o->C.get? b=B o) _ u ⟨hg.1,hg.2.1⟩ λv C V n T q=>⟨v,C,V,rfl,rfl,n,T,λb o hb e=>q b o hb e⟩)) (λr s' H=>?_) λM M h=>h.2);refine Aa H λwl G=>?_;clear H;refine UA G λv C V e1 e2 n T q=>?_;clear G;subst e1 e2;have wl:s.toks<=V:=wl;refine Dy (BB (rfl:Lo (.Name x px) (.ref I) v=Bz ()) ?_);refine Dy (Ad (CM (GY (Hx (Q:=λM s'=>∃P wg,s'={s with heap:=P,toks:=wg}/\P.Ns cenv.locals (λy=>if y=x then B v else m y)/\∀b o,b≠cenv.locals->C.get? b=B o->P.get? b=B o) D (hg.2.2.at' λo e=>q _ o wv e) (λP wh Y=>⟨P,_,rfl,wh,λb o hb e=>Y.extBut b o hb e⟩) E))) (λM s' H=>?_) λM M h=>h.2);refine Aa H λwm G=>?_;clear H;refine Cj G λP wg e2 wh wj=>?_;clear G;subst e2;have wm:V<=wg:=wm;dsimp only;refine Dy (BB rfl ?_);simp only[KH];have t:∀v,yieldOut cenv v=yieldValue v:=λv=>by simp only[yieldOut,X,Fa,KL]
    simp only[t];refine J (Sem.bind_eq_wrap' _ _) (J (Sem.bind_eq_wrap' _ _) ?_);rewrite[Sem.wrap_wrap];rewrite[Sem.wrap_wrap];refine seg_wrap (Ad (CM (hq _ _ i v _ _ wq (by refine(?_:1<=wg);exact rF ‹_› ‹_› ‹_›) n wh (by simp))) (λy xA H=>?_) λM M h=>h.2);refine B7 H λwz x8 G=>?_;clear H;refine Au G λK x9 e4 wi=>?_;clear G;subst e4;have up:=λb o hb p e=>wi b o (wj b o hb (q b o p e));have wn:K.IsListIter I l (i+1)/\K.IsList l items:=by
      refine Aa T λd Q=>CF d λo1 z b1 j=>CF Q λo2 a2 b2 c2=>⟨⟨o1,wi _ _ (wj _ _ wo.symm z),b1,j⟩,⟨o2,wi _ _ (wj _ _ wu.symm a2),b2,c2⟩⟩
    refine seg_at (seg_yield rfl rfl rfl ⟨?_,L.step λb o hb p e=>up b o hb p e,λN wr f=>?_⟩)
    · have e:=by exact qy ‹_›
      refine(?_:F (items.size-1-k) y);refine J e x8
    ·refine jz rfl (ih (i+1) N N _ (by exact ll ‹_›) u wr ⟨(CF wn.1 λo a b c=>F8 o (f _ (by simp) _ a) b c),(CF wn.2 λo a b c=>F8 o (f _ (by simp) _ a) b c),(wh.keeps wi).at' λo e=>f _ (by simp) o e⟩ (GenSince.refl _ _ _))
theorem Wq(S:A.handled=AJ)(D:cenv.kindOf x=B .local)(E:(cenv.scope.kind==.class||(cenv.scope.kind==.module&&cenv.locals !=cenv.globals))=AD)(X:cenv.scope.isCoroutine=AD)(b:l≠I)(d:cenv.locals≠I)(e:cenv.locals≠l)(u:YX prog w cenv x elt items F)(s:AE)(m:BA->AX AF)(c:1<=s.toks)(hg:goT cenv.locals I l items 0 m s.heap):Seg (BF prog w) A (jb cenv.locals I) (Wu cenv.locals I l items.size F) items.size s (.compStart (.GeneratorExp elt [⟨.Name x px,iter,[],0⟩] scope pos) 0 (.ref I) .none cenv) ((BF prog w).den (.compStart (.GeneratorExp elt [⟨.Name x px,iter,[],0⟩] scope pos) 0 (.ref I) .none cenv)) [] s:=by
 have h:(A.over (.compStart (.GeneratorExp elt [⟨.Name x px,iter,[],0⟩] scope pos) 0 (.ref I) .none cenv) []).handled=AJ:=S;have a:=ZG (iter:=iter) (px:=px) (scope:=scope) (pos:=pos) S D E X b d e u items.size 0 s s m (Z.sub_zero _) (Ao _) c hg (GenSince.refl _ _ _);have W:=Walks.list (prog:=prog) (w:=w) h I l b items;refine(?_:Seg _ A _ _ _ s _ ((kA (.GeneratorExp elt [⟨.Name x px,iter,[],0⟩] scope pos) 0 (.ref I) .none cenv).onRaise (leaving cenv)) [] s);unfold kA;refine J (Tf _ _) (?_:Seg _ A _ _ _ s _ ((ask>>=_).wrap _ _ _ _) [] s);refine Dy (Og ?_);split;·exact jz rfl a
 ·first|exact Dy (IJ (Dy (Dx (Dy (W.self 0 s _ _ ⟨hg.1,hg.2.1⟩ (jz rfl a))))))|(refine Dy (IJ ?_);show Seg _ A _ _ _ s _ ((WH iter.pos>>=_).wrap _ _ _ _) [] s;exact Dy (Dx (Dy (W.self 0 s _ _ ⟨hg.1,hg.2.1⟩ (jz rfl a)))))
noncomputable def nW(prog:DH)(w:Em)(A:BQ)(a g C I l:AW)(n:Z)(F:Z->AF->Prop)(j:Z)(s:AE):Prop:=s.heap.IsGen a g/\s.heap.NoLimit/\1<=s.toks/\∃c,s.gens[g]?=B c/\∀N:AE,1<=N.toks->(∀b∈[C,I,l],∀o,s.heap.get? b=B o->N.heap.get? b=B o)->c.Goes (BF prog w) A.in1 (jb C I) (Wu C I l n F) (n-j) (.send .none) N
theorem ij(S:A.handled=AJ){a g C:AW}{n:Z}(wm:a≠C)(wn:a≠I)(f:a≠l)(D:A.depth<Ry)(wo:JB≠C)(p:JB≠I):WalksS prog w A a [a,C,I,l,JB] [C,I] (GenOnlyQ g) n F (nW prog w A a g C I l n F)where
 sub:=λb hb=>by simp at hb⊢;focus(refine AC hb ?_ ?_;rotate_left;(focus(intro h));rotate_right;(focus(intro h)))<;>simp[h]
 grefl:=λM=>.inl rfl
 gtrans:=λM M M x y=>x.trans y
 frame:=λj s h' tk st c R=>by
  refine Fb st λd wg i G=>AI G λgs u k=>H4 d λo nm T ho r=>AI wg λz W wh=>⟨⟨o,nm,T,R a (by simp) o ho,r⟩,⟨z,W.at' λo e=>R JB (by simp) o e,wh⟩,by refine(?_:1<=tk);exact rO ‹_› ‹_›,gs,u,λN t f=>k N t λb hb o e=>f b hb o (R b (by simp at hb⊢;focus(refine AC hb ?_ ?_;rotate_left;(focus(intro X;focus(refine AC X ?_ ?_;rotate_left;(focus(intro h));rotate_right;(focus(intro h)))));rotate_right;(focus(intro h)))<;>simp[h]) o e)⟩
 item:=λj s Q E hj st Y=>by
  refine Fb st λhg hl i G=>AI G λgs u k=>?_;obtain⟨m,K⟩:∃m,n-j=m+1:=⟨n-j-1,by exact rL ‹_›⟩;rw[K]at k;refine Ey (AN s.toks) (oM S hl D hg u (k _ i λM M M e=>e) (λv s₁ wi hb hv=>?_) (λs₁ hp h' R=>B8 hp.1 (Th m)));refine B7 hv λH wg L=>?_;clear hv;refine Au wg λwj V P q=>?_;clear wg;subst P;have wl:=by exact rE ‹_›
  rw[wl]at H;have wq:=λh=>wn (AM.mp h);intro c;refine Y v _ H ⟨by refine H4 hg λo nm T ho r=>R8 o nm T (q a o wm wq ho) r,(by refine AI hl λz W wh=>AK z (W.at' λo e=>q JB o wo (λh=>p (AM.mp h)) e) wh),AA i c,wi,Nn (Nn u),λN t f=>?_⟩ ⟨λb o hb e=>q b o (λh=>hb (h▸AQ ..)) (λh=>hb (AU _ h)) e,GenOnlyQ.of ((SF s g .running).trans (SF _ g wi)) (Nn (Nn u)) hb,rfl,rfl,c⟩;have e:=by exact ll ‹_›
  refine J e (L N t f)
 done:=λs Q E st Y=>by
  refine Fb st λhg hl i G=>AI G λgs u k=>?_;rw[NO]at k;refine Ey (AN s.toks) (oM S hl D hg u (k _ i λM M M e=>e) (λv s₁ wi hb hv=>(B7 hv λM M L=>Dp.elim (L {s₁ with toks:=1} (AN 1) λM M M e=>e))) (λs₁ hp h' R=>?_));· refine Aa hp λM G=>?_;clear hp;refine Au G λwj V P q=>?_;clear G;subst P;intro c;exact Y _ ⟨λb o hb e=>R b o (q b o (λh=>hb (h▸AQ ..)) (λh=>hb (AU _ h)) e),GenOnlyQ.of ((SF s g .running).trans (SF _ g .finished)) (Nn (Nn u)) rfl,rfl,rfl,c⟩
 self:=λM M M M st Y=>wpAny_pyIter_gen st.1 Y
end
end
section
section
variable{c:Cx}{A:BQ}{E:AF->AE->Prop}{s:AE}
theorem aZ{env:Nx}{ck P:AW}{T:Z->Z->BA}{pos:EQ}{k:BA}{scope:Cw}{Q:AF->AE->Prop}(l:Su c.hB ck P T)(f:env.code=.ref ck)(j:St c s)(d:k=T pos.line pos.col)(h:∀C s',St c s'->Bk c.hB s.heap s'.heap->s'.gens=s.gens->s'.drawn=s.drawn->Q (.ref C) s'):Aj (BF c.prog c.w) A (genexprCode env pos k scope) Q E s:=by
 refine Aw (l.get _ j.tabs) λps t=>?_;cases V:Ep pos ps.toList with|some cv=>refine CF (t.recs pos cv V) λC z i r=>?_;subst z;exact wpAny_genexprCode_hit f (t.hd.code t.tab t.ok) V (h C s j (.refl _ _) rfl rfl)|none=>refine Ad (CM (Q:=λv s'=>∃C,v=.ref C/\∃h' tk,s'={s with heap:=h',toks:=tk}/\EH P s.heap h'/\Kr h' C/\h'.CodeRec (.ref C) k/\h'.get? P=B (NM (ps++#[BI pos.line,BI pos.col,.ref C]))) (wpAny_genexprCodeX f (t.hd.code t.tab t.ok) (t.hd.tab t.tab) V λC h' tk D Y u M b a X=>by refine DU X λF M M o M=>Dg o λN S e1 I y M=>⟨C,rfl,h',tk,rfl,D,⟨N,S,e1,I,y⟩,b,a.2⟩)) (λv s' H=>?_) λM M x=>x.2;refine Aa H λm G=>?_;clear H;refine AI G λC e W=>?_;clear G;refine Jt W λh' tk p D i hr a=>?_;clear W;subst e p;have g:=RP t.is t.tab a D;have n:=t.more V D a i hr d;exact h C _ ⟨j.grow.trans g,j.os,j.bare,l.put _ _ _ _ j.tabs t.tab rfl D n,AA j.toks m⟩ g rfl rfl
end
variable{F:Fx}{h₀:BJ}{σ:AS}{Y:U AW}{c:Cx}
theorem Wr{T:U (BA×Jd)}{ls:U (U Z)}(h:T.map (·.1)=ls.map tx){i:Z}{v:AF}(e:(Eo T).toArray[i]?=B v):∃l u,ls[i]?=B l/\v=.str (tx l) u:=by
 simp only[Eo,HV,B3]at e;refine AI (BK.mp e) λp E H=>CS H ?_;have W:(T.map (·.1))[i]?=B p.1:=by refine J B3 (J E ?_);rfl
 rw[h,B3]at W;refine AI (BK.mp W) λl g I=>FK l p.2 g (by refine J I ?_;rfl)
theorem XW{d:BA}{x xs:BA}{a:AW}{ls:U (U Z)}{g:U Z->U Z}{ks:Z}{ps px np ap pos cp:EQ}{elt:BL}{scope:Cw}{ck P:AW}{qn:Z->Z->BA}{Q:V->Prop}(hw:Wf F.c)(xh:Oc F.c)(TA:Su F.c.hB ck P qn)(f:F.env.code=.ref ck)(xi:F.env.qual++"<genexpr>"=qn pos.line pos.col)(xJ:σ.lookup xs=B (.own a (CN ls)))(w:a∉F.Xo)(xK:scope.isCoroutine=AD)(x8:JS scope F.env=Bz [])(x9:∀y∈scope.names,y.2≠.cell)(h0:scope.names.lookup (".0":BA)=B NameKind.local)(D:scope.names.lookup x=B .local)(wm:scope.kind=.function)(xL:∀C code ts,ts.map (·.1)=ls.map tx->YX F.c.prog F.c.w (ke scope [] C code CU F.env) x elt (Eo ts).toArray (λi y=>∃u,y=.str (tx (g (ls.getD i []))) u))(xj:((ls.map g).map DF).sum+ls.length*d.length<=Ay)(p:ls.length<=1000000)(q:Q (.str (H6 d.cps.toList (ls.map g))))(L:∀env v,genFold (.Name xs np) env v=Bz v:=by intro M M;rfl)(xA:∀env,Hr (.Constant (.str d) ks ps) "join" env (Gp (.Constant (.str d) ks ps) env)=Gp (.Constant (.str d) ks ps) env:=by intro M;rfl)(hfew:∀env,((Fg cp (Bn [.GeneratorExp elt [⟨.Name x px,.Name xs np,[],0⟩] scope pos] env)).all (λx=>!x.1)&&(SD cp (LN [] env)).all (λx=>x.1.isSome)&&B9 (([.GeneratorExp elt [⟨.Name x px,.Name xs np,[],0⟩] scope pos]:U BL).length+([]:U IX).length+(if([]:U IX).isEmpty then 0 else 1)<30))=AO:=by intro M;rfl)(hline:(ap.endLine==cp.line)=AO:=by rfl)(hd:(xs==("__debug__":BA))=AD:=by decide)(hg:Hd xs=AD:=by decide):WE F σ Y (.Call (.Attribute (.Constant (.str d) ks ps) "join" ap) [.GeneratorExp elt [⟨.Name x px,.Name xs np,[],0⟩] scope pos] [] cp) Q:=by
  refine Li λA E s N hS hR=>Ff (xA _) (hfew _) hline rfl (FA ?_);refine Ld "str" _ JC Nw dT (G0 _ _ _) (λM e=>(by have xk:=e;cases(xk))) ?_;have S0:St F.c {s with toks:=s.toks+1}:=hS.keeps (Kp.tok _ (BH _));have g0:Bk F.c.hB s.heap ({s with toks:=s.toks+1}:AE).heap:=.refl _ _;have R0:Pd F.env σ (F.X σ) ({s with toks:=s.toks+1}:AE).heap:=hR;generalize({s with toks:=s.toks+1}:AE)=s0 at S0 g0 R0⊢;generalize s.toks=t0;refine E2 (Fl ?_ rfl) rfl rfl;refine wpAny_GeneratorExp_make xK x8 x9 h0 wm N.room ?_ (L _);clear w;refine DU (R0.slot xs _ xJ) λM av xl xm G=>Au G λS nn ho m=>?_;clear G;subst xl;clear xJ xm;refine AI (Xq m) λts z xM=>?_;subst z;have xB:=by have :=Aq DF xM;simpa using this
  have hl:s0.heap.IsList a (Eo ts).toArray:=⟨_,ho,rfl,nn,rfl⟩;refine Gn ((av hg).load R0.ok.kind ?_) hd;refine Nj hl ?_;have xC:s0.heap.get? s0.heap.objs.size=AJ:=EK _;have wt:a<s0.heap.objs.size:=Bg ho;have xD:=Kp.push s0 {cls:=.type "list_iterator",data:=.fields #[.ref a,.int 0 0]};have S1:=S0.keeps xD;have xN:(s0.heap.push {cls:=.type "list_iterator",data:=.fields #[.ref a,.int 0 0]}).get? s0.heap.objs.size=B {cls:=.type "list_iterator",data:=.fields #[.ref a,.int 0 0]}:=Ag _ rfl;have xn:=hl.push {cls:=.type "list_iterator",data:=.fields #[.ref a,.int 0 0]};have xO:({s0 with heap:=s0.heap.push {cls:=.type "list_iterator",data:=.fields #[.ref a,.int 0 0]}}:AE).gens=s0.gens:=rfl;have g1:Bk F.c.hB s0.heap (s0.heap.push {cls:=.type "list_iterator",data:=.fields #[.ref a,.int 0 0]}):=B4 xD;generalize hI:s0.heap.objs.size=I at*;refine⟨NoLimit.grow S1.grow hw.lim,?_⟩;refine aZ TA f S1 xi λc' r S2 g2 xP xQ=>?_;clear av hl xD S1 xn xO hI xP xQ;refine PJ xh λbm ob b1 b2 b3 b4 b5 b6=>J R0.ok.glob (Nl (Ns.grow S2.grow hw.g) b1 b2 (S2.grow.Gk b3 (by refine J b6 ?_;exact MQ)) b4 b5 b6 ?_);intro T xR xS;have wq:=g2.Nc xN (.inl (F7));have wn:r.heap.get? a=B (BM (Eo ts) nn):=(g1.trans g2).Nc ho (.inl (F7));have wj:I<r.heap.objs.size:=Bg wq;have wi:T.objs.size=r.heap.objs.size+1:=by refine J xS.1 ?_;refine J (EO _ _) ?_;with_reducible rfl
  have xE:∀b o,r.heap.get? b=B o->T.get? b=B o:=λb o e=>xS.extBut b o (CQ (Bg e)) (AR _ e);have wg:∀b o,r.heap.get? b=B o->(T.push {cls:=.type "generator",data:=.fields #[.int r.gens.size 0,.str "<genexpr>" (r.toks+1),.str (F.env.qual++"<genexpr>") (r.toks+1+1)]}).get? b=B o:=λb o e=>AR _ (xE b o e);have wl:r.heap.NoLimit:=NoLimit.grow S2.grow hw.lim;have wu:JB<r.heap.objs.size:=by refine AI wl λM hn M=>?_;clear wl;exact hn.lt
  have xT:r.heap.get? r.heap.objs.size=AJ:=EK _;have wv:JB≠I:=λe=>by
    have h1:s0.heap.get? JB=AJ:=e▸xC;refine AI (NoLimit.grow S0.grow hw.lim) λM xU M=>?_;refine H4 xU λo M M t M=>?_;clear xU;rw[h1]at t;exact Eb t
  refine GI ((?_:Aj _ _ (Hi (.builtin "str.join") [.str d t0,.ref T.objs.size]) _ _ _));generalize xF:T.push {cls:=.type "generator",data:=.fields #[.int r.gens.size 0,.str "<genexpr>" (r.toks+1),.str (F.env.qual++"<genexpr>") (r.toks+1+1)]}=h4 at wg⊢;have xo:h4.get? T.objs.size=B {cls:=.type "generator",data:=.fields #[.int r.gens.size 0,.str "<genexpr>" (r.toks+1),.str (F.env.qual++"<genexpr>") (r.toks+1+1)]}:=xF▸Ag _ rfl;have xV:h4.Ns r.heap.objs.size (λy=>if y=".0"then B (.ref I)else AJ):=xF▸xR.push _;have xW:h4.objs.size=T.objs.size+1:=by refine CS xF ?_;refine J (EO _ _) ?_;with_reducible rfl
  have xX:T.objs.size≠r.heap.objs.size:=by refine J wi ?_;exact kq _
  have wx:T.objs.size≠I:=by refine J wi ?_;exact DR (Bm wj)
  have wh:a<r.heap.objs.size:=Bg wn;have wy:T.objs.size≠a:=by refine J wi ?_;exact DR (Bm wh)
  have wz:∀(s':AE)(l:U (BA×Jd)),Moved [r.heap.objs.size,I] (GenOnlyQ r.gens.size) {r with gens:=r.gens.push (.fresh (.compStart (.GeneratorExp elt [⟨.Name x px,.Name xs np,[],0⟩] scope pos) 0 (.ref I) .none (ke scope [] r.heap.objs.size (.ref c') CU F.env))),toks:=r.toks+1+1+1,heap:=h4} s'->kl (λi y=>∃u,y=.str (tx (g (ls.getD i []))) u) (Eo l).toArray ts.length->l.map (·.1)=(ls.map g).map tx/\∀k,r.toks<=k->St F.c {s' with toks:=k}/\Bk F.c.hB s.heap s'.heap:=by
    intro s' l K wr;constructor
    · apply kJ;intro j;have xY:l.length=ts.length:=by simpa[Eo]using wr.1
      by_cases hj:j<ts.length;· have xZ:j<l.length:=xY▸hj;refine Aw (wr.2 j (.str l[j].1 l[j].2) (by simp[Eo,AP xZ])) λu n=>?_;injection n with h1 _;have xp:j<ls.length:=xB▸hj;simp[AP xZ,AP xp,h1,AG]
      ·refine J (Fc (by simpa[xY]using Bx hj)) ?_;refine J (Fc (by simpa[<-xB]using Bx hj)) ?_;with_reducible rfl
    · intro k R;have wo:∀b∈[r.heap.objs.size,I],s0.heap.get? b=AJ:=λb hb=>by
       refine AC (Ae.mp hb) (λX=>?_) λhb=>?_;·subst X;exact(g1.trans g2).none xT
       ·refine J (AM.mp hb) ?_;exact xC
      have h:∀b o,b∉[r.heap.objs.size,I]->r.heap.get? b=B o->s'.heap.get? b=B o:=λb o hb e=>K.heap b o hb (wg b o e);have xc:∀b∈[r.heap.objs.size,I],F.c.hB.get? b=AJ:=λb hb=>S0.grow.none (wo b hb);have S3:=S2.but (h':=s'.heap) (tk:=k) [r.heap.objs.size,I] xc (λb hb o S e ed=>by
       clear ed;refine AC (Ae.mp hb) ?_ λhb=>?_;intro X;subst X;·rw[xT]at e;exact Eb e
       ·rw[AM.mp hb,wq]at e;replace e:=EY e;induction e using EC;rfl) h R;have xG:AllBare s'.gens:=(S2.bare.push (g:=.fresh (.compStart (.GeneratorExp elt [⟨.Name x px,.Name xs np,[],0⟩] scope pos) 0 (.ref I) .none (ke scope [] r.heap.objs.size (.ref c') CU F.env))) rfl).movedS K;exact⟨⟨S3.grow,by refine CS S2.os ?_;exact K.os,xG,S3.tabs,S3.toks⟩,g0.trans ((g1.trans g2).but [r.heap.objs.size,I] wo h)⟩
  have W:=ij (prog:=F.c.prog) (w:=F.c.w) (A:=A.in1.in1) (a:=T.objs.size) (g:=r.gens.size) (C:=r.heap.objs.size) (I:=I) (l:=a) (n:=ts.length) (F:=λi y=>∃u,y=.str (tx (g (ls.getD i []))) u) N.handled xX wx wy N.room (CQ wu) wv;have xd:(Eo ts).toArray.size=ts.length:=by simp[Eo]
  have xe:nW F.c.prog F.c.w A.in1.in1 T.objs.size r.gens.size r.heap.objs.size I a ts.length (λi y=>∃u,y=.str (tx (g (ls.getD i []))) u) 0 {r with gens:=r.gens.push (.fresh (.compStart (.GeneratorExp elt [⟨.Name x px,.Name xs np,[],0⟩] scope pos) 0 (.ref I) .none (ke scope [] r.heap.objs.size (.ref c') CU F.env))),toks:=r.toks+1+1+1,heap:=h4}:=by
    refine⟨⟨_,_,_,xo,rfl,rfl,rfl⟩,wl.keeps wg,by refine(?_:1<=r.toks+1+1+1);with_reducible exact pv,_,Bc.getElem?_push_size ..,λxr xf xH=>⟨rfl,?_⟩⟩;refine J (Z.sub_zero _) ?_;refine CS xd ?_;refine Wq (A:=A.in1.in1.in1) (cenv:=ke scope [] r.heap.objs.size (.ref c') CU F.env) N.handled D (by simp[ke,wm]) xK (CQ wt) (DR wj) (DR wh) (xL _ _ ts xM) xr _ xf ⟨⟨_,xH I (by simp) _ (wg _ _ wq),rfl,rfl⟩,⟨_,xH a (by simp) _ (wg _ _ wn),rfl,nn,rfl⟩,xV.at' λo e=>xH _ (AQ ..) o e⟩
  refine Ad (CM (SC.joinGen (x:=d) (t:=t0) (Q:=λv s'=>∃(s1:AE)(k:Z),s'={s1 with toks:=k}/\(∃t',v=.str (tx (H6 d.cps.toList (ls.map g))) t')/\(∀k,r.toks<=k->St F.c {s1 with toks:=k}/\Bk F.c.hB s.heap s1.heap)) W (λi s st=>st.1.typeIs) xe (λb hb=>?_) (by simp) (λi v n=>by refine Aw n λu e=>?_;clear n;exact Io _ u e) (λs' l K wr=>?_) (by refine J xB ?_;simp[Ay];with_reducible exact z145 ‹_›))) (λv s' H=>?_) λM M x=>x.2
  · refine(?_:b<h4.objs.size);refine J xW ?_;refine J wi ?_;have h5:a<r.heap.objs.size:=wh;simp only[Ae,Dv,JA]at hb;clear ho g1 xC wt xN g2 xR wq wn wv xV wx wy wz W xe h5;focus(refine AC hb ?_ ?_;rotate_left;(focus(clear hb;intro X;focus(refine AC X ?_ ?_;rotate_left;(focus(clear X;intro X;focus(refine AC X ?_ ?_;rotate_left;(focus(clear X;intro X;focus(refine AC X ?_ ?_;rotate_left;(focus(clear X;intro X;subst X));rotate_right;(focus(clear X;intro X;subst X)))));rotate_right;(focus(clear X;intro X;subst X)))));rotate_right;(focus(clear X;intro X;subst X)))));rotate_right;(focus(clear hb;intro X;subst X)))
    ·refine J wi ?_;exact B5 _
    ·exact Bm (B5 _)
    ·exact Bm (Bm wj)
    ·exact Bm (Bm wh)
    ·exact Bm (Bm wu)
  · refine Aa (wz s' l K wr) λe1 xI=>?_;have xt:JoinOk d (l.map (·.1))=AO:=by
      unfold JoinOk;refine J (StrLaws.joinTotal _ _) ?_;refine J e1 ?_;have e2:(((ls.map g).map tx).map (·.length)).sum=((ls.map g).map DF).sum:=by
       refine J EE ?_;congr 1;try exact FO λx M=>EL x
      refine J e2 ?_;refine J (AL _) ?_;refine J (AL _) ?_;unfold KI;simpa using xj
    have e3:Txt.join d (l.map (·.1))=tx (H6 d.cps.toList (ls.map g)):=by
      refine(?_:Builtin.Str.glued _ _=_);refine J (nc _ _) ?_;refine J e1 ?_;refine CS (UM _ _) ?_;congr 1
    exact⟨xt,λt' k=>⟨s',k,rfl,⟨t',by refine J e3 ?_;with_reducible rfl⟩,xI⟩⟩
  · refine Aa H λc G=>?_;clear H;refine Cj G λs1 k e1 xg xI=>?_;clear G;refine Aw xg λt' e2=>?_;clear xg;subst e1 e2;refine Aa (xI k (by have c:r.toks+1+1+1<=k:=c;with_reducible exact pt ‹_›)) λS9 g9=>?_;exact⟨S9,g9,.str (H6 d.cps.toList (ls.map g)),.str _ _,Bl,q⟩
theorem Xk{prog:DH}{w:Em}{A:BQ}{E:AF->AE->Prop}{s:AE}{env:Nx}{o:BL}{y z:BA}{x:Z}{d b:Z}{a f j K:EQ}{Q:AF->AE->Prop}(m:y=tx [x])(u:(y==z)=AD)(h:Aj (BF prog w) A (Gp o env) (λP s₁=>∃l t,P=.str (tx l) t/\1<=s₁.toks/\l.length+(l.length+1)*z.length<=16777216/\∀n k,s₁.toks<=k->Q (.str (tx (Fh x z.cps.toList l)) n) {s₁ with toks:=k}) E s)(p:Hr o "replace" env (Gp o env)=Gp o env:=by rfl)(hfew:((Fg K (Bn [.Constant (.str y) d a,.Constant (.str z) b f] env)).all (λx=>!x.1)&&(SD K (LN [] env)).all (λx=>x.1.isSome)&&B9 (([.Constant (.str y) d a,.Constant (.str z) b f]:U BL).length+([]:U IX).length+(if([]:U IX).isEmpty then 0 else 1)<30))=AO:=by rfl)(hline:(j.endLine==K.line)=AO:=by rfl):Aj (BF prog w) A (Gp (.Call (.Attribute o "replace" j) [.Constant (.str y) d a,.Constant (.str z) b f] [] K) env) Q E s:=by
 refine Ff p hfew hline rfl (Ad h (λP s₁ H=>?_) λM M e=>e);refine Dg H λl t e c g q=>?_;clear H;subst e;refine Ld "str" _ JC Yi Yh (G0 _ _ _) (λM e=>(by have W:=e;cases(W))) (E2 ?_ rfl rfl);refine Fl (FA ?_) rfl;refine Fl (FA (GI ?_)) rfl;have e:Np (tx l) y z=tx (Fh x z.cps.toList l):=by
  have :=O9 l x z.cps.toList;refine J m (CS this ?_);rfl
 refine Ad (CM (SC.replace (Q:=λr s'=>∃n k,s'={s₁ with toks:=k}/\r=.str (tx (Fh x z.cps.toList l)) n) (gc.mp c) (Th _) (CQ (B5 _)) u (by exact g) λn k=>⟨n,k,rfl,by refine J e ?_;rfl⟩)) (λr s' H=>?_) λM M x=>x.2;refine Aa H λi G=>?_;clear H;refine Au G λn k e1 I=>?_;clear G;subst e1 I;exact q n k (by exact pH ‹_›)
theorem bD(x:Z):∀l:U Z,(Fh x [92,x] l).length<=2*l.length:=by
 intro l;induction l with|nil=>simp[Fh]|cons a b I=>have I:=I;have :Fh x [92,x] (a::b)=(if a=x then[92,x]else[a])++Fh x [92,x] b:=rfl;refine J this (J AZ (J Ah ?_));split<;>simp only[Ah,BU]<;>(first|exact pT ‹_›|exact pQ ‹_›|omega)
theorem g8{prog:DH}{w:Em}{cenv:Nx}{x:BA}{ls:U (U Z)}{T:U (BA×Jd)}{F z1 M z2:BA}{a V e Q:Z}{X H q p L f h t z:EQ}(o:T.map (·.1)=ls.map tx)(R:cenv.scope.kind=.function)(D:cenv.kindOf x=B .local)(hd:(x==("__debug__":BA))=AD)(e1:F=tx [92])(I:z1=tx [92,92])(Y:M=tx [45])(G:z2=tx [92,45])(hb:∀l∈ls,l.length<=1000000)(b:(f.endLine==h.line)=AO)(j:(t.endLine==z.line)=AO):YX prog w cenv x (.Call (.Attribute (.Call (.Attribute (.Name x X) "replace" f) [.Constant (.str F) a H,.Constant (.str z1) V q] [] h) "replace" t) [.Constant (.str M) e p,.Constant (.str z2) Q L] [] z) (Eo T).toArray (λi y=>∃u,y=.str (tx (Fh 45 [92,45] (Fh 92 [92,92] (ls.getD i [])))) u):=by
 intro A E i v s m N c hi W K;refine Au (Wr o hi) λl u g C=>?_;subst C;have d:ls.getD i []=l:=by refine J AG (J g ?_);rfl
 have S:=hb l (By g);have P:=bD 92 l;subst e1 I Y G;refine Xk rfl (rfl) (Xk rfl (rfl) (Gn (GX R D W K ?_) hd) (hline:=b)) (hline:=j);refine Dm l u rfl c (by simp[EL];exact lD ‹_›) (λn k R=>⟨_,n,rfl,by refine(?_:1<=k);exact pr ‹_› ‹_›,by simp[EL];exact pq ‹_› ‹_›,λt2 V r=>⟨⟨t2,by refine J d rfl⟩,Keeps.tok _ _⟩⟩)
end
section
theorem OD{l:U Z}{x b hi:Z}(h:hi<=b):E6 l x b hi=AJ:=by
 unfold E6;refine J (show hi-b=0 by exact rN ‹_›) rfl
theorem TG{l:U Z}{x b hi:Z}(h:b<hi):E6 l x b hi=if l[b]?=B x then B b else E6 l x (b+1) hi:=by
  unfold E6;refine J (show hi-b=(hi-(b+1))+1 by exact lF ‹_›) (J U.range'_succ (J HI ?_));by_cases f:l[b]?=B x;·simp[f]
  · refine J (Ab f) ?_;have :(l[b]?==B x)=AD:=by simpa using f
    refine J this rfl
theorem PF{l:U Z}{x b hi:Z}(h:b<hi)(D:l[b]?=B x):E6 l x b hi=B b:=by refine J (TG h) (J (Ap D) ?_);rfl
theorem Mp{l:U Z}{x b hi:Z}(D:l[b]?≠B x):E6 l x b hi=E6 l x (b+1) hi:=by
 by_cases h:b<hi;·refine J (TG h) (J (Ab D) ?_);rfl
 ·refine J (OD (by exact nz ‹_›)) (J (OD (by exact rM ‹_›)) ?_);rfl
theorem Ww{l d:U Z}{x b hi:Z}(h:∀i,i<hi->l[i]?=d[i]?):E6 l x b hi=E6 d x b hi:=by
 unfold E6;have :∀(r:U Z),(∀i∈r,i<hi)->r.find? (λi=>l[i]?==B x)=r.find? λi=>d[i]?==B x:=by
  intro r;induction r with|nil=>intro M;rfl|cons a r I=>intro hr;refine J HI (J HI (J (h a (hr a AQ)) (J (I λi hi=>hr i (AU _ hi)) ?_)));rfl
 refine this _ λi hi=>?_;have :=JD.mp hi;exact z88 ‹_›
theorem Wv(A:U Z)(x i j c:Z)(hi:i<=j)(o:j<=A.length):E6 A x (i+c) j=(E6 ((A.take j).drop i) x c ((A.take j).drop i).length).map (i+·):=by
 have W:(A.take j).length=j:=by simp;exact rJ ‹_›
 have :=TF (A.take j) x i c (by exact z76 ‹_› ‹_›);rw[W]at this;refine CS this (Ww λk R=>by simp[R])
theorem cw(R:U Z)(c:Z)(h:c=(let b:=if R.headD 0==33 then 1 else 0;if R[b]?=B 93 then b+1 else b)):E6 R 93 c R.length=DL R:=by
  unfold DL;by_cases S:(R.headD 0==33)=AO
  · rw[Ap S]at h⊢;dsimp only at h;by_cases f:R[1]?=B 93;·rw[Ap f]at h;refine J h ?_;rfl
    ·rw[Ab f]at h;refine J h (J (Mp f) ?_);rfl
  · rw[Ab S]at h⊢;dsimp only at h;by_cases f:R[0]?=B 93;·rw[Ap f]at h;refine J h ?_;rfl
    ·rw[Ab f]at h;refine J h (J (Mp f) ?_);rfl
structure ej(cs:U (U Z))(l:U Z)(skip:Z):Prop where
mid:∀m,1<=m->m<cs.length->2<=(cs.getD m []).length
hd:0<cs.length->1<=(cs.getD 0 []).length
one:cs=[]->1<=skip/\l≠[]two:cs≠[]->2<=skip
theorem ej.next{v:U (U Z)}{l:U Z}{c k:Z}(a:ej v l c)(h:E6 l 45 c l.length=B k):ej (v++[l.take k]) (l.drop (k+1)) 2:=by
  have E:=GQ h;have R:=(Ci ..).trans (Ck (BE E.2.1));refine⟨λm W C=>?_,λM=>?_,λe=>by simp at e,λM=>AN _⟩
  · simp only[AZ,Ah,BU]at C;by_cases K:m<v.length;·refine J AG (J (I3 K) (CS AG (a.mid m W K)))
    · have  :=by exact rG ‹_› ‹_›
      clear C K;subst this;refine J AG (J (Hm (AN _)) (J (NO _) ?_));dsimp only[U.getElem?_cons_zero,Et,R];exact R.symm▸AA (a.two (λe=>by rw[e]at W;simp at W)) E.1
  ·cases f:v with|nil=>have :=(a.one f).1;exact AA this (AA E.1 (B6 R.symm))|cons x r=>have :=a.hd (by refine J f ?_;simp);rw[f]at this;simpa using this
structure iC(cs:U (U Z))(k:Z):Prop where
lt:k<cs.length
mid:∀m,1<=m->m<k->2<=(cs.getD m []).length
hd:1<=k->1<=(cs.getD 0 []).length
at_:1<=k->1<=(cs.getD k []).length
theorem ej.done{v:U (U Z)}{l:U Z}{c:Z}(a:ej v l c)(b:U (U Z))(h:b=if l.isEmpty=AD then v++[l]else v.dropLast++[v.getLastD []++[45]]):iC b (b.length-1)/\0<b.length:=by
  subst h;by_cases g:l.isEmpty=AD
  · refine J (Ap g) ?_;have q:1<=l.length:=by clear a;cases(l)<;>simp at g⊢
    refine⟨⟨by simp,λm W C=>?_,λW=>?_,λW=>?_⟩,by simp⟩;· simp at C;refine J AG (J (I3 C) (CS AG (a.mid m W C)))
    · simp at W;refine J AG (J (I3 W) (CS AG (a.hd W)))
    ·simp;exact q
  · refine J (Ab g) ?_;have q:l=[]:=by clear a;cases(l)<;>simp at g⊢
    have w:=λe=>(a.one e).2 q;have f:=gd.mpr w;have I:v.dropLast.length=v.length-1:=by simp
    have d:∀m,m<v.length-1->(v.dropLast++[v.getLastD []++[45]]).getD m []=v.getD m []:=λm K=>by
     refine J AG (J (I3 (by exact rB ‹_› ‹_›)) (J U.getElem?_dropLast (J (Ap K) (CS AG ?_))));rfl
    refine⟨⟨by simp,λm W C=>?_,λW=>?_,λW=>?_⟩,by simp⟩;· simp at C;refine J (d m (by exact qw ‹_›)) (a.mid m W (by exact qv ‹_›))
    · simp at W;refine J (d 0 (by exact qu ‹_›)) (a.hd f)
    · refine J AG (J (Hm (by simp)) ?_);simp
theorem iC.next{v:U (U Z)}{k:Z}(m:iC v (k+1)):iC (ER v (k+1)) k:=by
  have u:=m.lt;unfold ER;refine J (Qd _ _) ?_;split
  · refine⟨?_,λj W C=>(J AG (J NR (J (Ap (by exact z4 ‹_›)) (J SM (J (Ab (by exact rC ‹_›)) (CS AG (m.mid j W (by exact z4 ‹_›)))))))),λW=>(J AG (J NR (J (Ap (by exact qz)) (J SM (J (Ab (by exact qx ‹_›)) (CS AG (m.hd (by exact z5)))))))),λW=>?_⟩;·refine J U.length_eraseIdx (J V0 ?_);split<;>(first|exact z168 ‹_›|omega)
    · refine J AG (J NR (J (Ap (by exact z7)) (J SM (J (Ap rfl) (J (Ap (by exact lW ‹_›)) ?_)))));have :=m.mid k W (by exact z7);refine J AZ (J Ou (qt ‹_›))
  ·exact⟨by exact lW ‹_›,λj W C=>m.mid j W (by(first|exact lW ‹_›|exact z4 ‹_›)),λW=>m.hd (by exact z5),λW=>by have :=m.mid k W (by exact z7);(first|exact lW ‹_›|exact z47 ‹_›)⟩
theorem Kn(d:U (U Z))(x y:U Z)(c:U (U Z)):ER (d++x::y::c) (d.length+1)=if y.headD 0<x.getLastD 0 then d++(x.dropLast++y.drop 1)::c else d++x::y::c:=by
 unfold ER;have W:(d++x::y::c).getD (d.length+1) []=y:=by
  refine J AG (J (Hm (by exact z81)) ?_);simp
 have h0:(d++x::y::c).getD d.length []=x:=by
  refine J AG (J (Hm (by exact rD)) ?_);simp
 refine J (Qd _ _) (J W (J h0 ?_));split;· refine J nk (J (Ab (CI _)) (J (NO _) (J DS (J ((U.eraseIdx_append_of_length_le (BH _)) _) ?_))));simp
 ·rfl
theorem Sy{v:U (U Z)}{k:Z}(h:k+1<v.length):∃d x y c,v=d++x::y::c/\d.length=k:=by
 refine MR (v.take k) (v[k]) (v[k+1]) (v.drop (k+2)) ?_ (by simp;exact qp ‹_›);refine CS (Cu h) (CS (Cu (show k<v.length by exact lW ‹_›)) (J (Jg _ _) ?_));rfl
theorem OH{v:U (U Z)}{k:Z}(h:k+1<v.length):(ER v (k+1)).flatten.length<=v.flatten.length/\(ER v (k+1)).length<=v.length:=by
 refine Ge (Sy h) λd x y c T f=>?_;subst T;subst f;rewrite[Kn];split;· simp only[CP,Ba,AZ,Ah,Ou,Bh];exact qg
 ·exact⟨AN _,AN _⟩
theorem Lf:∀(k:Z)(v:U (U Z)),iC v k->(Ec v k).flatten.length<=v.flatten.length/\(Ec v k).length<=v.length:=by
 intro k;induction k with|zero=>intro v M;exact⟨AN _,AN _⟩|succ k I=>intro v m;have W:=OH m.lt;have C:=I _ m.next;refine(?_:(Ec (ER v (k+1)) k).flatten.length<=_/\(Ec (ER v (k+1)) k).length<=_);exact qq ‹_› ‹_›
theorem RQ{ls:U (U Z)}{l:U Z}(h:l∈ls):l.length<=ls.flatten.length:=by
 induction ls with|nil=>exact JZ h|cons x r I=>
refine AC (Ae.mp h) (λX=>?_) λh=>?_;·subst X;simp
·have :=I h;simp only[Ba,AZ];exact z170 ‹_›
theorem TV(v:U (U Z))(k:Z):(v.getD k []).length<=v.flatten.length:=by
 refine J AG ?_;cases h:v[k]? with|none=>simp|some l=>exact RQ (By h)
theorem KC:∀(n:Z)(l:U Z),l.length<=n->∀v c,ej v l c->(iC (DV v l c) ((DV v l c).length-1)/\0<(DV v l c).length)/\(DV v l c).flatten.length<=v.flatten.length+l.length+1/\(DV v l c).length<=v.length+l.length+1
|n,l,g,v,c,a=>by
 cases h:E6 l 45 c l.length with
 |none=>
      refine J (IH h) ⟨a.done _ rfl,?_⟩;clear g h;split;·simp<;>omega
      · rename_i q;have d:l=[]:=by clear a;cases(l)<;>simp at q⊢
        have w:=λe=>(a.one e).2 d;have e:v=v.dropLast++[v.getLastD []]:=by
         refine J Fm (J (E4 w) ((V1 w).symm))
        have W:v.flatten.length=v.dropLast.flatten.length+(v.getLastD []).length:=by
         conv=>lhs;rw[e]
         simp
        refine⟨?_,?_⟩;·simp only[CP,Ba,DK,BW,AZ,Ah,BU];exact qj ‹_›
        ·simp;exact qh|some k=>have E:=GQ h;match n,g with
      |0,g=>exact B8 (AY E.2.1 g) (Fy k)|n+1,g=>
        refine J (JX h) ?_;have hd:(l.drop (k+1)).length=l.length-(k+1):=by simp
        have i:=(Ci ..).trans (Ck (BE E.2.1));have I:=KC n (l.drop (k+1)) (by exact pI ‹_› ‹_›) (v++[l.take k]) 2 (a.next h);refine⟨I.1,?_⟩;have C:=I.2;rw[hd]at C;simp only[CP,Ba,DK,BW,AZ,Ah,BU,i]at C;have e:k+(l.length-(k+1))+1=l.length:=by rewrite[Ev];refine J (GK E.2.1) ?_;rfl
        refine⟨AA C.1 (by refine J ((Ct _ k) _) (Ax (Av (BE (FZ (B5 _) e)) _))),AA C.2 (Ax ?_)⟩;rewrite[Ct];exact Av (AA (B6 (CK ..)) (AY (DA (Bp _ k)) (B6 e))) _
theorem dC(b:U Z)(hb:b≠[]):ej [] b (CO b):=⟨λm W C=>by simp at C,λh=>by simp at h,λM=>⟨by unfold CO;split<;>(first|exact z5|omega),hb⟩,λh=>B8 rfl h⟩
theorem OB(x:Z):∀l:U Z,(Fh x [92,x] l).length<=2*l.length
|[]=>by simp[Fh]|a::b=>by
 have I:=OB x b;have :Fh x [92,x] (a::b)=(if a=x then[92,x]else[a])++Fh x [92,x] b:=rfl;refine J this (J AZ (J Ah ?_));split<;>simp only[Ah,BU]<;>(first|exact pT ‹_›|exact pQ ‹_›|omega)
theorem g7(l:U Z):(IG l).length<=4*l.length:=by
 have W:=OB 45 (Fh 92 [92,92] l);have C:=OB 92 l;unfold IG;exact qo ‹_› ‹_›
theorem ON:∀ls:U (U Z),((ls.map IG).map DF).sum<=4*ls.flatten.length
|[]=>by decide|l::ls=>by
 have :=ON ls;have :=g7 l;simp only[Bo,IQ,Ba,AZ];exact qm ‹_› ‹_›
theorem RK(d:U Z):∀ls:U (U Z),(H6 d ls).length<=(ls.map DF).sum+ls.length*d.length
|[]=>Ao _|[x]=>by refine(?_:x.length<=_);simp|x::y::r=>by
 have I:=RK d (y::r);have e:H6 d (x::y::r)=x++d++H6 d (y::r):=rfl;have a:((y::r).length+1)*d.length=(y::r).length*d.length+d.length:=SG _ _;refine J e (J AZ (J AZ (J Bo (J IQ (J Ah (J a (qi ‹_›)))))))
theorem bJ{j s f m u v b a K:Z}(F:j<=s+m)(T:s<=4*f)(C:f<=u)(y:m<=v)(W:u<=b+1)(P:v<=b+1)(h:b<=a)(d:4*(a+1)+(a+1)<=K):j<=K:=have e:=Ax h
AA F (AA (CR (AA T (CE 4 (AA C (AA W e)))) (AA y (AA P e))) d)
theorem ZC{b:U Z}(h:b.length<=1000)(hb:b≠[]):(Fo b).length<=20000:=by
 unfold Fo;split;·have :=OB 92 b;exact qk ‹_› ‹_›
 · have W:=KC _ b (AN _) [] (CO b) (dC b hb);have C:=Lf _ _ W.1.1;have T:=ON (Ec (DV [] b (CO b)) ((DV [] b (CO b)).length-1));have F:=RK [45] ((Ec (DV [] b (CO b)) ((DV [] b (CO b)).length-1)).map IG);simp only[AL,Ah,BU,DK,eK,ET,SH]at W F;exact bJ F T C.1 C.2 W.2.1 W.2.2 h (by decide)
end
theorem OA(x:Z)(w:U Z):∀(l:U Z)(y:Z),y∈Fh x w l->y∈l\/y∈w:=by
 intro l;induction l with|nil=>intro y h;simp[Fh]at h|cons a b I=>
    intro y h;have e:Fh x w (a::b)=(if a=x then w else[a])++Fh x w b:=rfl;rw[e,Ai]at h;refine AC h (λh=>?_) λh=>(AC (I y h) (λh=>(.inl (AU _ h))) λh=>(.inr h))
    · split at h;·exact .inr h
      ·rw[AM]at h;refine J h (.inl AQ)
theorem cb{l:U Z}{y:Z}(h:y∈IG l):y∈l\/y=92\/y=45:=by
 refine AC (OA _ _ _ _ h) (λh=>?_) λh=>?_;· refine AC (OA _ _ _ _ h) (λh=>(.inl h)) λh=>?_;·simp at h;exact .inr (.inl h)
 ·simp at h;exact .inr h
theorem TU(d:U Z):∀(ls:U (U Z))(y:Z),y∈H6 d ls->(∃l∈ls,y∈l)\/y∈d
|[],y,h=>JZ (show y∈[]from h)|[x],y,h=>.inl ⟨x,AQ,h⟩|x::z::r,y,h=>by
 have e:H6 d (x::z::r)=x++d++H6 d (z::r):=rfl;rw[e,Ai,Ai]at h;rcases h with(h|h)|h;·exact .inl ⟨x,AQ,h⟩
 ·exact .inr h
 ·refine AC (TU d (z::r) y h) (λX=>(AI X λl g h=>.inl ⟨l,AU _ g,h⟩)) λh=>(.inr h)
theorem VV{v:U (U Z)}{k:Z}(R:k+1<v.length){y:Z}(h:y∈(ER v (k+1)).flatten):y∈v.flatten:=by
  refine Ge (Sy R) λd a b c T f=>?_;subst T;subst f;rw[Kn]at h;split at h
  · simp only[CP,Ba,Ai]at h⊢;rcases h with h|(h|h)|h;·exact .inl h
    ·exact .inr (.inl (eW _ h))
    ·exact .inr (.inr (.inl (Hz _ _ h)))
    ·exact .inr (.inr (.inr h))
  ·exact h
theorem VU:∀(k:Z)(v:U (U Z)),iC v k->∀y,y∈(Ec v k).flatten->y∈v.flatten:=by
 intro k;induction k with|zero=>intro v M y h;exact h|succ k I=>intro v m y h;exact VV m.lt (I _ m.next y h)
theorem Q2:∀(n:Z)(l:U Z),l.length<=n->∀v c y,y∈(DV v l c).flatten->y∈v.flatten\/y∈l\/y=45
|n,l,g,v,c,y,t=>by
 cases h:E6 l 45 c l.length with
 |none=>
rw[IH h]at t;split at t;· simp only[CP,Ba,DK,BW,Ai]at t;refine AC t (λt=>(.inl t)) λt=>(.inr (.inl t))
· simp only[CP,Ba,DK,BW,Ai,AM]at t;refine AC t (λt=>(AI (Gb.mp t) λd W C=>.inl (Gb.mpr ⟨d,eW _ W,C⟩))) λX=>AC X (λt=>?_) λt=>(.inr (.inr t));· left;cases f:v with|nil=>rw[f]at t;simp at t|cons a b=>rw[f,Fm,E4 (by simp)]at t;exact Gb.mpr ⟨_,U.getLast_mem (by simp),t⟩
 |some k=>have E:=GQ h;match n,g with
|0,g=>omega|n+1,g=>
rw[JX h]at t;have hd:(l.drop (k+1)).length=l.length-(k+1):=by simp
refine AC (Q2 n (l.drop (k+1)) (by exact pI ‹_› ‹_›) _ 2 y t) (λW=>?_) λX=>AC X (λW=>(.inr (.inl (Hz _ _ W)))) λW=>(.inr (.inr W));· simp only[CP,Ba,DK,BW,Ai]at W;refine AC W (λW=>(.inl W)) λW=>(.inr (.inl (Tk _ _ W)))
theorem Wo{b:U Z}(hb:b≠[]){y:Z}(h:y∈Fo b):y∈b\/y=92\/y=45:=by
  unfold Fo at h;split at h;· refine AC (OA _ _ _ _ h) (λh=>(.inl h)) λh=>?_;·simp at h;exact .inr (.inl h)
  · refine AC (TU _ _ _ h) (λX=>?_) λh=>?_;· refine AI X λl g h=>AI (BO.mp g) λm K P=>?_;subst P;refine AC (cb h) (λh=>?_) λh=>(.inr h);· have W:=KC _ b (AN _) [] (CO b) (dC b hb);have C:=VU _ _ W.1.1 y (Gb.mpr ⟨m,K,h⟩);refine AC (Q2 _ b (AN _) _ _ _ C) (λT=>?_) λX=>AC X (λT=>(.inl T)) λT=>(.inr (.inr T));·simp at T
    ·simp at h;exact .inr (.inr h)
section
theorem cD(v:U (U Z))(w:v≠[]):(CN v).set (v.length-1) (.str (v.getLastD []++[45]))=CN (v.dropLast++[v.getLastD []++[45]]):=by
 obtain⟨d,z,rfl⟩:∃d z,v=d++[z]:=⟨v.dropLast,v.getLast w,(V1 w).symm⟩;simp[CN,nk]
theorem OO{X c:Type}(f:X->c):∀(l:U X)(i:Z),(l.map f).eraseIdx i=(l.eraseIdx i).map f|[],_=>by simp|a::l,0=>by simp|a::l,i+1=>by simp[OO f l i]
theorem b7(a:Z)(P:a<=2^20):FY (a:O) 0 (-1)=AO:=small_down (DT (by decide) (BS a)) (Qh (Gw.mpr P) (by decide)) (by decide) (by decide)
theorem ak(a b:U Z):(tx a==tx b)=(a==b):=by
 refine AC (Decidable.em (a=b)) (λX=>?_) λh=>?_;·subst X;simp
 ·refine J (BD.mpr λq=>h (We q)) (J (BD.mpr h) ?_);rfl
theorem bx:Ls (.tup [.str [94],.str [91]]):=by
 have a:=LB [94] (by decide);have b:=LB [91] (by decide);refine Cf ⟨Bl,Bl,Bl⟩ ?_ ?_;· simp only[V.pd,V.TH,My,WO,KJ,Bs];exact⟨a.2.1,b.2.1⟩
 ·exact DE rfl
theorem gR(x:Z):((V.TH [V.str [94],V.str [91]]).any λy=>FS y (V.str [x]).pd)=(x==94||x==91):=by
 simp only[V.TH,V.pd,FS,QR,U.any_nil,QT];refine J (ak _ _) (J (ak _ _) (J (QH _ _) (J (QH _ _) (J (pB (a:=x)) (J (pB (a:=x)) ?_)))));rfl
theorem ZB{X c:Type}(f:X->c)(l:U X)(i j:Z)(z:X):((l.map f).set i (f z)).eraseIdx j=((l.set i z).eraseIdx j).map f:=by
 refine CS U.map_set ?_;rewrite[OO];rfl
theorem Vv(K:Z):(He (K:O) 0).length=K:=by simp[He]
theorem ce{K r:Z}{d:V}(h:(He (K:O) 0)[r]?=B d):r<K/\d=.int ((K-r:Z):O):=by
 have hr:=by have :=(Az.mp h).1;rwa[Vv]at this
 refine⟨hr,?_⟩;rw[He,B3,FP (by simpa using hr)]at h;simp only[Fw,B.injEq]at h;refine CS h (Aq V.int (by exact pY ‹_›))
theorem cr{X:Type}(l:U X)(h:1<=l.length):Kg l AJ (B (-1))=l.dropLast:=by
 unfold Kg;simp only[Fw,Kf,Et,N2,LV,U.dropLast_eq_take];congr 1;unfold Kh;refine J (Ap (by decide)) pW
noncomputable def Hb(ps:U (AX (U Z))):BC:=ps.getLast?==B AJ
theorem SX(ps:U (AX (U Z)))(l:U Z):Hb (ps++[B l])=AD:=by simp[Hb]
theorem SY(ps:U (AX (U Z))):Hb (ps++[AJ])=AO:=by simp[Hb]
theorem VL:∀(n:Z)(l:U Z),l.length<=n->∀star,(Cb star l).length<=l.length:=by
 intro n;induction n with
 |zero=>intro m;cases m with|nil=>intro M star;rewrite[Eg];simp|cons _ _=>intro d;exact B8 d (F1 _)
 |succ n I=>intro m;cases m with|nil=>intro M star;rewrite[Eg];simp|cons c R=>
      intro g star;simp only[Ah]at g⊢;by_cases W:c=42
      · subst W;refine J (HM _ _) ?_;have I:=I R (by exact z0 ‹_›) AO;split;·exact z16 ‹_›
        ·simp;exact z2 ‹_›
      · by_cases C:c=63;·subst C;refine J (Hu _ _) ?_;have :=I R (by exact z0 ‹_›) AD;simp;exact z2 ‹_›
        · by_cases T:c=91;· subst T;cases f:DL R with|some e=>refine J (Ht _ _ _ f) ?_;have :=I (R.drop (e+1)) (by simp;exact iU ‹_›) AD;simp at this⊢;exact pU ‹_›|none=>refine J (HN _ _ f) ?_;have :=I R (by exact z0 ‹_›) AD;simp;exact z2 ‹_›
          ·refine J (HO _ _ _ W C T) ?_;have :=I R (by exact z0 ‹_›) AD;simp;exact z2 ‹_›
namespace Tr
noncomputable def T4(v:AS):Prop:=v=[]\/∃d,v=Dz "chunk" d
noncomputable def T3(v:AS):Prop:=v=[]\/∃ch k b,v=Dz "chunks" ch++(Dz "k" k++b)/\T4 b
noncomputable def T2(v:AS):Prop:=v=[]\/∃s b,v=Dz "stuff" s++b/\T3 b
noncomputable def T1(v:AS):Prop:=v=[]\/∃j b,v=Dz "j" j++b/\T2 b
noncomputable def T0(v:AS):Prop:=v=[]\/∃c b,v=Dz "c" c++b/\T1 b
theorem T4.own{v:AS}(h:T4 v):CT v=[]:=by focus(refine AC h ?_ ?_;rotate_left;(focus(clear h;intro X;refine Aw X λM z=>?_;clear X;subst z));rotate_right;(focus(clear h;intro X;subst X)))<;>rfl
theorem T3.own{v:AS}(h:T3 v):CT v=[]:=by
 refine AC h (λX=>?_) λX=>?_;·clear h;subst X;rfl
 ·clear h;refine H4 X λM M b C h=>?_;clear X;subst C;exact h.own
theorem T2.own{v:AS}(h:T2 v):CT v=[]:=by
 refine AC h (λX=>?_) λX=>?_;·clear h;subst X;rfl
 ·clear h;refine Au X λM b P h=>?_;clear X;subst P;exact h.own
theorem T1.own{v:AS}(h:T1 v):CT v=[]:=by
 refine AC h (λX=>?_) λX=>?_;·clear h;subst X;rfl
 ·clear h;refine Au X λM b P h=>?_;clear X;subst P;exact h.own
theorem T0.put{v:AS}(h:T0 v)(d:V):∃b,v.put "c" (.v d)=Dz "c" d++b/\T1 b:=by
 refine AC h (λX=>?_) λX=>?_;·clear h;subst X;exact AK [] rfl (.inl rfl)
 ·clear h;refine Au X λM b P h=>?_;clear X;subst P;exact AK b rfl h
theorem T1.put{v:AS}(h:T1 v)(d:V):∃b,v.put "j" (.v d)=Dz "j" d++b/\T2 b:=by
 refine AC h (λX=>?_) λX=>?_;·clear h;subst X;exact AK [] rfl (.inl rfl)
 ·clear h;refine Au X λM b P h=>?_;clear X;subst P;exact AK b rfl h
theorem T2.put{v:AS}(h:T2 v)(d:V):∃b,v.put "stuff" (.v d)=Dz "stuff" d++b/\T3 b:=by
 refine AC h (λX=>?_) λX=>?_;·clear h;subst X;exact AK [] rfl (.inl rfl)
 ·clear h;refine Au X λM b P h=>?_;clear X;subst P;exact AK b rfl h
end Tr
open Tr
theorem bB{n:Z}(h:0<n):GJ (-1) n=B (n-1):=by
 cases n with|zero=>exact B8 h (CI 0)|succ n=>
have e:=by
 refine(?_:-1+((n:O)+1)=n);refine J (SQ _ _) ?_;rewrite[O.add_assoc];exact O.add_zero _
show(if(B9 (0<=oJ _ _ _)&&B9 (oJ _ _ _<((n+1:Z):O)))=AO then B (l8 (oJ _ _ _))else AJ)=_;refine J e (J (DW (BS n)) (J (DW (Bu.mpr (B5 n))) ?_));rfl
theorem VQ{b:BC}(h:(!b)=AD):b=AO:=by
 cases b with|true=>rfl|false=>exact NI h
theorem bS{c:Cx}(N:Nm c)(T:jp c)(n:Z):Ef c (n+3) 78 (λS Q=>∃A st,S=[.str A,F0 st,.str [46]]/\A.length<=1000/\(∀x∈A,x<0x110000)/\Q (.list ((Cb AD A).map (Gh st)))):=by
  refine Aa T.trans λM wn=>Dg wn λo fd D hd yo yp=>Ef.U6 (names:=["pat","STAR","QUESTION_MARK"]) N.wf D yo yp rfl rfl rfl (by decide) hd (λfd yO E hd g=>Zu E hd g λM M M=>by kernel_rfl) (by decide+kernel) (λL=>J7 (E8 12).scope L) (λL b hb=>hb) (λS Q yq=>by refine Au yq λA st e M=>by refine J e rfl) λL Y S Q h₀ xx xj=>Dg xj λA st xD x9 yr hq=>?_;clear xj;subst xD;have yt:(Cb AD A).length<=1000:=AA (VL _ _ (AN _) _) x9;let F:=Fx.hG c (n+2) (E8 12).scope 78 L Y ("_translate"++".<locals>.") (.ref 77) (J7 (E8 12).scope L);have H:VH F (E8 12).scope ["res","add","i","n","c","j","stuff","chunks","k","chunk"]:=⟨N,Z4 (by kernel_rfl) rfl,rfl,rfl⟩;refine(?_:WS F _ _ _ _);refine vS.ok H ?_;have yu:=WG x9;refine(?_:W1 _ _ _ _ _);refine DN (H.st _ (by decide)) (N8.GH H ?_);refine AV (by decide) λa zJ yP=>(?_:WE _ _ _ _ _);refine W9 rfl CX (?_:W1 _ _ _ _ _);refine Rn ["i","n"] (λx hx=>H.st x (((Tm _).cons_cons _|>.cons_cons _).cons _|>.cons _|>.subset hx)) (vE.GH H ?_) rfl (H.Xm rfl);refine AK _ (.UI _ yu) (AV (show 2<=_ by decide) ⟨_,rfl,rfl,?_⟩);let BV:Z->U V->AS:=λi S=>[("pat",.v (.str A)),("STAR",.v (F0 st)),("QUESTION_MARK",.v (.str [46])),("res",.own a S),("add",.v (Rj a)),("n",.v (.int A.length)),("i",.v (.int i))];let zL:Z->U (AX (U Z))->AS:=λi ps=>BV i (ps.map (Gh st));let Inv:=λk σ'=>∃(i:Z)(ps:U (AX (U Z)))(tl:AS),σ'=zL i ps++tl/\T0 tl/\k=A.length-i/\i<=A.length/\ps++Cb (Hb ps) (A.drop i)=Cb AD A;refine(?_:W1 _ _ _ _ _);refine Ki H Inv _ ⟨0,[],[],rfl,.inl rfl,rfl,Ao _,rfl⟩ λk σ' K xF=>UA xF λi ps tl xQ yQ yv hi wh=>?_;clear xF;subst xQ;subst yv;intro M M Du;have x8:(ps.map (Gh st)).length<=1000:=by
    refine J (AL _) ?_;have e:=Aq DF wh;rw[AZ]at e;exact AA (aV e) yt
  refine AV (λu=>?_) (λu=>?_)
  · have u:=fZ u;refine Cj (Fn u) λx R xy yR wg=>?_;have xG:i+1+R.length=A.length:=by refine CS wg (J Bh (GK u))
    rw[xy]at wh;refine AK _ (.str (.nat yR (aG u x9))) ?_;clear yR;refine AI (yQ.put (.str [x])) λxH e1 xk=>Gx (σ':=zL i ps++(Dz "c" (.str [x])++xH)) (by refine CS e1 rfl) ?_;clear e1 yQ;have yC:A.length-(i+1)<A.length-i:=BX u (B5 i);have xI:∀(l:U Z)(xe:AS)(i':Z),T1 xe->i<i'->i'<=A.length->ps++(B l::Cb AD (A.drop i'))=Cb AD A->K .next (BV i' (ps.map (Gh st)++[Gh st (B l)])++(Dz "c" (.str [x])++xe)):=λl xe i' W h2 h3 h4=>Du _ _ (BX u h2) ⟨i',ps++[B l],Dz "c" (.str [x])++xe,Aq (λS=>BV i' S++_) (FV (Gh st) ps (B l)),.inr ⟨_,_,rfl,W⟩,rfl,h3,by refine J (SX _ _) ?_;simpa using h4⟩;refine(?_:W1 _ _ (zL (i+1) ps++(Dz "c" (.str [x])++xH)) _ _);refine Pg H (AV (λwr=>?_) (λwr=>?_))
    · have wr:x=42:=RU wr;clear xy xI;subst wr;rw[HM]at wh;refine(?_:W1 _ _ _ _ _);refine IU (DQ (Mf (b:=ps.isEmpty) (b':=!Hb ps) (UY (H9 ?_)) (λxf=>Mg (Kq ?_)) (AV (λf=>vS.ok H ?_) (λf=>vS.ok H ?_))));· refine Di (b:=a) rfl Be yP (AK _ (.list _ (An x8 (by decide))) ?_);clear x8 wh;cases(ps)<;>rfl
      · obtain⟨p,E⟩:∃p,ps.getLast?=B p:=by
          cases hg:ps.getLast? with|none=>rw[U.getLast?_eq_none_iff]at hg;rw[hg]at xf;exact NI xf|some p=>exact⟨p,rfl⟩
        refine Ei (a:=a) rfl Be (vE.IB H ?_);refine Fs (-1) (Gh st p) rfl (.last (by refine J kH ?_;refine J E ?_;rfl)) (vE.IB H (AK _ (.QW st p) ?_));unfold Hb;refine J E ?_;clear E;cases(p)<;>rfl
      · have yw:Hb ps=AD:=by
          clear x8 wh;cases hs:Hb ps with|false=>rfl|true=>rw[hs,BC.not_true,QT,To]at f;rw[f]at hs;exact J2 hs
        rw[yw,Ab Qj]at wh;refine(?_:W1 _ _ _ _ _);refine JO (x:="res") (a:=a) (xs:=ps.map (Gh st)) rfl rfl (Wl x8) (vE.GH H ?_);exact Du _ _ yC ⟨i+1,ps++[AJ],Dz "c" (.str [42])++xH,Aq (λS=>BV (i+1) S++(Dz "c" (.str [42])++xH)) (FV (Gh st) ps AJ),.inr ⟨_,_,rfl,xk⟩,rfl,u,by refine J (SY _) ?_;refine J wg ?_;simpa using wh⟩
      · have yS:Hb ps=AO:=by
          rw[BC.or_eq_false_iff]at f;exact VQ f.2
        rw[yS,Ap rfl]at wh;exact Du _ _ yC ⟨i+1,ps,Dz "c" (.str [42])++xH,rfl,.inr ⟨_,_,rfl,xk⟩,rfl,u,by refine J yS ?_;refine J wg ?_;exact wh⟩
    have wr:x≠42:=RV wr;refine(?_:W1 _ _ _ _ _);refine Pg H (AV (λwv=>?_) (λwv=>?_));· have wv:x=63:=RU wv;clear xy wr;subst wv;rw[Hu]at wh;refine(?_:W1 _ _ _ _ _);refine JO (x:="res") (a:=a) (xs:=ps.map (Gh st)) rfl rfl (Wl x8) (vE.GH H ?_);exact xI [46] xH (i+1) xk (B5 i) u (by refine J wg ?_;exact wh)
    have wv:x≠63:=RV wv;refine(?_:W1 _ _ _ _ _);refine Pg H (AV (λxR=>?_) (λxR=>?_))
    · have xR:x=91:=RU xR;clear xy wr wv;subst xR;have xS:∀m,m<R.length->A[i+1+m]?=B (R.getD m 0):=λm hm=>by
        rw[<-wg]at hm⊢;refine J AG ?_;refine J (AP hm) ?_;refine CS Ic ?_;refine J (AP hm) ?_;rfl
      have wx:∀m,m<R.length->i+1+m<2^63:=λm hm=>aG (FZ (E0 hm _) xG) x9;have xA:∀m:Z,B9 (((i+1+m:Z):O)<(A.length:O))=B9 (m<R.length):=λm=>EN.mpr (by refine CS xG ?_;exact Bu.trans Z.add_lt_add_iff_left);have xl:R.headD 0=R.getD 0 0:=by clear wg xG wh xS wx xA;cases(R)<;>rfl
      refine AI (xk.put (.int ((i+1:Z):O))) λyF e1 yT=>?_;let C:Z->Z->AS:=λiv jv=>zL iv ps++(Dz "c" (.str [91])++(Dz "j" (.int jv)++yF));refine(?_:W1 _ _ (zL (i+1) ps++(Dz "c" (.str [91])++xH.put "j" (.v (.int ((i+1:Z):O))))) _ _);refine J e1 ?_;clear e1;let j1:Z:=if R.headD 0==33 then 1 else 0;refine(?_:W1 _ _ (C (i+1) (i+1+0)) _ _);refine W1.mono (Q:=λo σ'=>o=.next/\σ'=C (i+1) (i+1+j1)) (IU (DQ (DY (b:=B9 (0<R.length)) (b':=R.headD 0==33) (vT.ok H ?_) (λg=>EM (vT.ok H ?_)) (AV (λf=>vS.ok H ?_) (λf=>vS.ok H ?_))))) ?_;·exact xA 0
      ·exact AK _ (.str (.nat (xS 0 (Bq g)) (wx 0 (Bq g)))) (by refine J xl ?_;exact QH _ _)
      · have hj:j1=1:=Ap (Fv f).2;exact⟨rfl,by refine J hj ?_;rfl⟩
      · have hj:j1=0:=by
          refine Ab λh=>?_;rw[h,KJ]at f;clear wg xG wh xS wx xA xl j1;cases R with|nil=>exact J2 h|cons y r=>exact NI f
        exact⟨rfl,by refine J hj ?_;with_reducible rfl⟩
      intro o σ' wj;refine Aa wj λwq wm=>?_;clear wj;subst wq;subst wm;have yU:j1<=R.length:=by
        refine(?_:(if R.headD 0==33 then 1 else 0)<=_);clear wg xG wh xS wx xA xl j1;cases R with|nil=>exact AN _|cons y r=>split;exact Bp 1 _;exact Ao _
      let j2:Z:=if R[j1]?=B 93 then j1+1 else j1;refine(?_:W1 _ _ _ _ _);refine W1.mono (Q:=λo σ'=>o=.next/\σ'=C (i+1) (i+1+j2)) (IU (DQ (DY (b:=B9 (j1<R.length)) (b':=R.getD j1 0==93) (vT.ok H ?_) (λg=>EM (vT.ok H ?_)) (AV (λf=>vS.ok H ?_) (λf=>vS.ok H ?_))))) ?_;·exact xA j1
      ·exact AK _ (.str (.nat (xS j1 (Bq g)) (wx j1 (Bq g)))) (QH _ _)
      · have f:=Fv f;have hj:j2=j1+1:=Ap (by refine CS (Fe f.2) ?_;refine J AG ?_;refine J (AP (Bq f.1)) ?_;rfl);exact⟨rfl,by refine J hj ?_;rfl⟩
      · have hj:j2=j1:=by
          refine Ab λh=>?_;have W:=(Az.mp h).1;rw[AG,h,DW W]at f;exact NI f
        exact⟨rfl,by refine J hj ?_;with_reducible rfl⟩
      intro o σ' wj;refine Aa wj λwq wm=>?_;clear wj;subst wq;subst wm;have yV:j2<=R.length:=by
        refine(?_:(if R[j1]?=B 93 then j1+1 else j1)<=_);split;·rename_i h;exact(Az.mp h).1
        ·exact yU
      have wy:=cw R j2 rfl;clear_value j2;refine(?_:W1 _ _ _ _ _);refine W1.mono (Q:=λo σ'=>o=.next/\∃m,σ'=C (i+1) (i+1+m)/\m<=R.length/\((DL R=AJ/\m=R.length)\/DL R=B m)) (Ki H (λk σ'=>∃m,σ'=C (i+1) (i+1+m)/\k=R.length-m/\m<=R.length/\E6 R 93 m R.length=DL R) _ ⟨j2,rfl,rfl,yV,wy⟩ ?_) ?_
      · intro k σ' K xF;refine DU xF λm wm xD hm xm=>?_;clear xF;subst wm;subst xD;intro M M Du;refine(?_:WT _ _ _ _);refine DQ (DY (b:=B9 (m<R.length)) (b':=R.getD m 0 !=93) (vT.ok H ?_) (λg=>EM (vT.ok H ?_)) (AV (λf=>?_) (λf=>?_)));·exact xA m
        ·exact AK _ (.str (.nat (xS m (Bq g)) (wx m (Bq g)))) (jd _ _)
        · have f:=Fv f;have g:m<R.length:=Bq f.1;refine Du _ _ (BX g (B5 m)) ⟨m+1,rfl,rfl,g,?_⟩;refine CS xm ?_;refine(Mp λh=>bne_iff_ne.mp f.2 ?_).symm;refine J AG ?_;refine J h ?_;rfl
        · refine⟨rfl,m,rfl,hm,?_⟩;refine AC (CJ m R.length) (λg=>?_) λg=>?_;· rw[DW g,BC.true_and,bne_eq_false_iff_eq]at f;right;refine CS xm ?_;refine PF g ?_;refine CS f ?_;refine J AG ?_;refine J (AP g) ?_;rfl
          · left;exact⟨by refine CS xm ?_;refine J (OD g) ?_;with_reducible rfl,Cy hm g⟩
      intro o σ' wj;refine Aa wj λwq wn=>?_;clear wj;refine CF wn λm wm hm xT=>?_;clear wn;subst wm;subst wq;clear wy yV yU;refine(?_:W1 _ _ _ _ _);refine Pg H (AV (λxE=>?_) (λxE=>?_))
      · have xE:A.length<=i+1+m:=Gw.mp (Bq xE);have xU:DL R=AJ:=by
          refine AC xT (λh=>?_) λh=>?_;·clear xT;exact h.1
          ·clear xT;exact B8 (Xh (xG.symm▸xE)) (kt (Hp h).2)
        rw[HN _ _ xU]at wh;refine(?_:W1 _ _ _ _ _);refine JO (x:="res") (a:=a) (xs:=ps.map (Gh st)) rfl rfl (Wl x8) (vE.GH H ?_);exact xI [92,91] (Dz "j" (.int ((i+1+m:Z):O))++yF) (i+1) (.inr ⟨_,_,rfl,yT⟩) (B5 i) u (by refine J wg ?_;exact wh)
      have xE:¬A.length<=i+1+m:=λq=>IV xE (Gw.mpr q);have xx:DL R=B m:=by
        refine AC xT (λh=>?_) λh=>?_;·clear xT;exact B8 (by refine J h.2 ?_;exact B6 xG.symm) xE
        ·clear xT;exact h
      have xV:=Hp xx;clear xT;rw[Ht _ _ _ xx]at wh;have xn:i+1+m<=A.length:=ku xE;have xJ:i+1+m<=1000:=AA xn x9;have xo:A.length<=Ay:=Wl x9;clear xE hm;generalize hb:R.take m=b at wh;have xz:b.length=m:=by refine CS hb ?_;refine J Ci ?_;exact Ck (BE xV.2)
      have xp:b.length<=1000:=by refine J xz ?_;exact AA (Bp _ _) xJ
      have xd:b≠[]:=λe=>by rw[e]at xz;rw[<-xz]at xV;exact(by have xW:=xV.1;cases(xW))
      let P:Z->U Z:=λiv=>(A.take (i+1+m)).drop iv;have yG:P (i+1)=b:=by
        refine(?_:(A.take (i+1+m)).drop (i+1)=b);refine CS hb ?_;refine CS wg ?_;refine J LW ?_;refine J (Cr _ _) ?_;with_reducible rfl
      have yW:b.headD 0=R.headD 0:=by
        refine CS hb ?_;clear xz yG xJ xn;cases R with|nil=>refine J Yn ?_;with_reducible rfl|cons y r=>clear xx hb wh;cases m with|zero=>exact(by have xW:=xV.1;cases(xW))|succ m=>rfl
      refine AK _ (.str xo) ?_;have wz:Kg A (B ((i+1:Z):O)) (B ((i+1+m:Z):O))=b:=by
        rewrite[Ma];refine J wg ?_;refine CS hb ?_;refine J (Cr _ _) ?_;with_reducible rfl
      refine AI (yT.put (.str b)) λy0 e1 xr=>?_;let Dd:Z->U Z->AS->AS:=λiv s tl=>zL iv ps++(Dz "c" (.str [91])++(Dz "j" (.int ((i+1+m:Z):O))++(Dz "stuff" (.str s)++tl)));refine Gx (σ':=Dd (i+1) b y0) (show zL (i+1) ps++(Dz "c" (.str [91])++(Dz "j" (.int ((i+1+m:Z):O))++yF.put "stuff" (.v (.str (Kg A _ _)))))=_ by refine J wz ?_;refine J e1 ?_;with_reducible rfl) ?_;clear wz e1;refine(?_:W1 _ _ _ _ _);refine W1.mono (Q:=λo σ'=>o=.next/\∃iv tl,σ'=Dd iv (Fo b) tl/\T3 tl) (IU (vT.ok H (AK _ (.be [45] b) (AV (λf=>vS.ok H ?_) (λf=>FT H 7 _ _ _ ?_))))) ?_;· rw[Mb]at f;refine(?_:WE _ _ _ _ _);refine XU (x:=92) rfl (by decide) (vE.IB H ⟨b,rfl,lD (AA xp (by decide)),?_⟩);exact⟨rfl,i+1,y0,Aq (λs=>Dd (i+1) s y0) (Ap (Pq f)).symm,xr⟩
      · rw[Mb]at f;have xt:Fo b=H6 [45] ((Ec (DV [] b (CO b)) ((DV [] b (CO b)).length-1)).map IG):=Ab (by refine J (VQ f) ?_;exact Dc);refine(?_:W1 _ _ _ _ _);refine DN (H.st _ (by decide)) (N8.GH H ?_);refine AV (by decide) λb0 zK xu=>?_;refine(?_:W1 _ _ _ _ _);refine EZ (H.st _ (by decide)) (WE.mono (Q:=(·=.int ((i+1+CO b:Z):O))) (vE.GH H ?_) λd hd=>?_)
        · refine AK _ (.str (.nat (xS 0 (An (Ao _) xV.2)) (wx 0 (An (Ao _) xV.2)))) ?_;have yX:(([R.getD 0 0]:U Z)==[33])=(b.headD 0==33):=by refine J yW ?_;refine J xl ?_;exact QH _ _
          refine AV (λh=>?_) (λh=>?_);· have hk:CO b=2:=Ap (yX.symm.trans h);refine(?_:V.int _=_);refine J hk ?_;rfl
          · have hk:CO b=1:=Ab (by refine CS yX ?_;exact G6.mp h);refine(?_:V.int _=_);refine J hk ?_;rfl
        clear xl yW;let GL:Z->U V->V->AS->AS:=λiv S kv tl=>Dd iv b (VM "chunks" b0 S++(Dz "k" kv++tl));let G:Z->U (U Z)->V->AS->AS:=λiv v kv tl=>GL iv (CN v) kv tl;obtain⟨wt,hs,xg⟩:∃wt,((Dd (i+1) b y0).put "chunks" (.own b0 [])).put "k" (.v d)=G (i+1) [] (.int ((i+1+CO b:Z):O)) wt/\T4 wt:=by
          refine J hd ?_;refine AC xr (λX=>?_) λX=>?_;·clear xr;subst X;exact AK [] rfl (.inl rfl)
          ·clear xr;refine H4 X λM M xe xQ h=>?_;clear X;subst xQ;exact AK xe rfl h
        refine Gx hs ?_;clear hs xr hd d;refine(?_:W1 _ _ _ _ _);refine W1.mono (Q:=λo σ'=>o=.next/\∃iv v wi,σ'=G iv v (.int (-1)) wt/\i+1<=iv/\iv<=i+1+m/\E6 (P iv) 45 wi (P iv).length=AJ/\v.length<=iv/\ej v (P iv) wi/\DV v (P iv) wi=DV [] b (CO b)) (Ki H (λk σ'=>∃iv v wi,σ'=G iv v (.int ((iv+wi:Z):O)) wt/\k=i+1+m-iv/\i+1<=iv/\iv<=i+1+m/\v.length<=iv/\ej v (P iv) wi/\DV v (P iv) wi=DV [] b (CO b)) _ ⟨i+1,[],CO b,rfl,rfl,AN _,As _ _,Ao _,by refine J yG ?_;exact dC b xd,by refine J yG ?_;with_reducible rfl⟩ ?_) ?_
        · intro k σ' K xF;refine U8 xF λiv v wi xQ yx yH xK xB xC wu=>?_;clear xF;subst xQ;subst yx;intro brk M Du;refine(?_:WT _ _ _ _);refine H9 (vE.IB H (AK AO (.bool _) (AV (λM=>?_) (λh=>NI h))));refine(?_:WE _ _ _ _ _);refine OX Je dU (vE.IB H ⟨_,rfl,N8.IB H (F8 _ (.nF A 45 (iv+wi) (i+1+m)) Bl ?_)⟩);have yY:E6 A 45 (iv+wi) (EV (i+1+m) A.length)=(E6 (P iv) 45 wi (P iv).length).map (iv+·):=by
            refine J (Ck xn) ?_;exact Wv A 45 iv (i+1+m) wi xK xn
          refine Gx (σ':=G iv v (.int (ZK ((E6 (P iv) 45 wi (P iv).length).map (iv+·)))) wt) (Aq (λk=>G iv v (.int (ZK k)) wt) yY) ?_;clear yY;refine(?_:W1 _ _ _ _ _);cases E:E6 (P iv) 45 wi (P iv).length with|none=>refine Pg H (AV (λM=>?_) (λh=>NI h));exact brk _ ⟨rfl,iv,v,wi,rfl,yH,xK,E,xB,xC,wu⟩|some q=>
            have hq:=GQ E;refine Pg H (AV (λh=>B8 (Bq h) (Qg.mpr (BS (iv+q)))) (λM=>?_));refine(?_:W1 _ _ _ _ _);refine Ix (a:=b0) (ys:=CN v) H (by rewrite[CN];refine J (AL _) ?_;exact Wl (AA xB (AA xK xJ))) ?_;refine AK _ (.str xo) ?_;have yI:iv+q+1<=i+1+m:=by
              have yJ:(P iv).length=i+1+m-iv:=by refine(?_:((A.take _).drop _).length=_);refine J Bh ?_;refine J Ci ?_;refine J (Ck xn) ?_;with_reducible rfl
              exact En (yJ▸hq.2.1)
            have wz:Kg A (B (iv:O)) (B ((iv+q:Z):O))=(P iv).take q:=by
              refine(?_:_=((A.take _).drop _).take q);rewrite[Ma];refine J LW ?_;refine J oy ?_;refine J (Cr _ _) ?_;refine J (Ck (Z.le_sub_of_add_le' (E3 yI))) ?_;with_reducible rfl
            have yZ:P (iv+q+1)=(P iv).drop (q+1):=by refine(?_:(A.take _).drop _=((A.take _).drop _).drop _);refine J EB ?_;rfl
            refine Du (i+1+m-(iv+q+1)) _ (BX (An (As iv q) yI) (DA (As iv q))) ⟨iv+q+1,v++[(P iv).take q],2,?_,rfl,AA yH (AA (As iv q) (BH _)),yI,?_,by refine J yZ ?_;exact xC.next E,by refine J yZ ?_;refine CS (JX E) ?_;exact wu⟩;·exact(Aq (λd=>GL (iv+q+1) (CN v++[V.str d]) (.int ((iv+q+1+2:Z):O)) wt) wz).trans (Aq (λS=>GL (iv+q+1) S _ wt) (FV V.str v _))
            ·refine J AZ ?_;exact Ax (AA xB (As iv q))
        intro o σ' wj;refine Aa wj λwq wn=>?_;clear wj;refine U8 wn λiv v wi xQ yH xK E xB xC wu=>?_;clear wn;subst xQ;subst wq;generalize g:P iv=l at E xC wu;have yJ:l.length<=1000:=by refine CS g ?_;refine(?_:((A.take _).drop _).length<=_);refine J Bh ?_;refine J Ci ?_;exact AA (Cd _ _) (AA (HG _ _) xJ)
        have xL:=KC _ b (AN _) [] (CO b) (dC b xd);rw[IH E]at wu;generalize DV [] b (CO b)=wl at wu xt xL;refine AK _ (.str xo) ?_;have wz:Kg A (B (iv:O)) (B ((i+1+m:Z):O))=l:=by
          rewrite[Ma];refine CS g ?_;exact(LW ..).symm
        let y3:U V->V->AS:=λS kv=>GL iv S kv (Dz "chunk" (.str l));let G5:U (U Z)->V->AS:=λv kv=>y3 (CN v) kv;refine Gx (σ':=G5 v (.int (-1))) (by refine J wz ?_;focus(refine AC xg ?_ ?_;rotate_left;(focus(clear xg;intro X;refine Aw X λM wm=>?_;clear X;subst wm));rotate_right;(focus(clear xg;intro X;subst X)))<;>rfl) ?_;clear wz g xg;refine(?_:W1 _ _ _ _ _);refine W1.mono (Q:=λo σ'=>o=.next/\σ'=G5 wl (.int (-1))) (Pg H (AK _ (.str l (An yJ (by decide))) (AV (λh=>?_) (λh=>?_)))) ?_;· rw[Ap (Pq h)]at wu;refine(?_:W1 _ _ _ _ _);refine Ix (a:=b0) (ys:=CN v) H (by rewrite[CN];refine J (AL _) ?_;exact Wl (AA xB (AA xK xJ))) ?_;exact⟨rfl,Aq (λS=>y3 S (.int (-1))) (by refine CS wu ?_;exact FV V.str v l)⟩
        · have h:=VQ h;have yy:l=[]:=To.mp h;rw[Ab (by refine J h ?_;exact Dc)]at wu;have xf:v≠[]:=λe=>(xC.one e).2 yy;have ya:0<v.length:=gd.mpr xf;have hg:v.getLast?=B (v.getLastD []):=by refine J Fm ?_;refine J (E4 xf) ?_;rfl
          have xm:(v.getLastD []++[45]).length<=2000:=AA (RQ (ls:=wl) (by refine CS wu ?_;exact Ac _ (.head _))) (AA xL.2.1 (Ax (AA (B6 (ET _)) (AA xp (by decide)))));refine(?_:W1 _ _ _ _ _);refine Xb (a:=b0) (xs:=CN v) rfl (vE.IB H ⟨-1,v.length-1,.str (v.getLastD []),rfl,?_,?_,by decide,by decide,vE.GH H (AK _ (.UX (v.getLastD []) [45] (by refine CS AZ ?_;exact AA xm (by decide))) ?_)⟩);·rewrite[CN];refine J (AL _) ?_;exact bB ya
          ·rewrite[CN];refine J B3 ?_;refine CS Lq ?_;refine J hg ?_;rfl
          ·exact⟨rfl,Aq (λS=>y3 S (.int (-1))) ((cD v xf).trans (Aq CN wu))⟩
        intro o σ' wj;refine Aa wj λwq wm=>?_;clear wj;subst wq;subst wm;clear wu xC E xB v wi;rw[DK,BU,BU,ET]at xL;have yz:b.length+1<=2000:=Ax (AA xp (by decide));have wy:wl.length<=1001:=AA xL.2.2 (Ax xp);have yb:wl.flatten.length<=2000:=AA xL.2.1 yz;refine(?_:W1 _ _ _ _ _);refine W1.mono (Q:=λo σ'=>o=.next/\∃kv,σ'=G5 (Ec wl (wl.length-1)) kv) (dJ (λr σ'=>∃v kv,σ'=G5 v kv/\iC v (wl.length-1-r)/\Ec v (wl.length-1-r)=Ec wl (wl.length-1)/\v.flatten.length<=2000/\v.length<=1001) (H.st _ (by decide)) ?_) ?_
        · refine YR N.wf N.range rfl CX (Cz (Lj CX (Li (vE.IB H ?_))) (λM=>rfl));refine(?_:WE _ _ _ _ _);refine Di (b:=b0) rfl Be xu ?_;refine AK _ (.PP (CN wl) (by rewrite[CN];refine J (AL _) ?_;exact Bu.mpr (An wy (by decide)))) (AV Bl ?_);refine vE.GH H (AK _ (.fB _ _) (N8.GH H ?_));have hK:((CN wl).length:O)-1=((wl.length-1:Z):O):=by rewrite[CN];refine J (AL _) ?_;exact(O.ofNat_sub xL.1.2).symm
          refine J hK ?_;have yc:wl.length-1<2^20:=An (AA (Cd _ 1) wy) (by decide);refine⟨_,.j0 _ _ _ (by decide) (by refine J (O.natAbs_natCast _) ?_;exact yc) (by decide) (by decide),_,.down _ _ (b7 _ (BE yc)),⟨wl,_,rfl,xL.1.1,rfl,yb,wy⟩,?_,?_⟩
          · intro I r σ' d hI hd xj;refine Jt xj λv kv xD xM xX xv xU=>?_;clear xj;subst xD;have H':=H.hold I;have yd:b0∉(F.hold I).Xo:=λh=>(Ai.mp h).elim (λh=>xu (Ak _ h)) λh=>(Ae.mp h).elim (λe=>hI (e▸(.tail a (.head []):b0∈CT (G5 v kv)))) λh=>xu (Ac _ h);refine Aa (ce hd) λzA wm=>?_;subst wm;obtain⟨k,hk,xw⟩:∃k,wl.length-1-r=k+1/\wl.length-1-(r+1)=k:=⟨wl.length-1-(r+1),by rewrite[on];exact(Eu (Lx zA)).symm,rfl⟩;rw[hk]at xM xX⊢;have u:=xM.lt;have xY:k<v.length:=EU u;have wr:1<=(v.getD k []).length:=by
              clear xX hk xw;refine AC (IZ k) (λh=>?_) λE=>?_;·rw[h]at xM⊢;exact xM.hd (km _)
              ·exact E3 (xM.mid k E (B5 k))
            have wv:1<=(v.getD (k+1) []).length:=xM.at_ (Ax (Ao k));have ye:(v.getD k []).length<=2000:=AA (TV v k) xv;have yf:(v.getD (k+1) []).length<=2000:=AA (TV v (k+1)) xv;have yg:=xM.next;have xh:=OH u;have yA:∀j,j<v.length->(CN v)[j]?=B (V.str (v.getD j [])):=λj hj=>by
              rewrite[CN];refine J B3 ?_;refine J AG ?_;refine J (AP hj) ?_;rfl
            have xi:∀j,j<v.length->j<2^63:=λj hj=>AY hj (AA xU (by decide));have yK:((k+1:Z):O)-1=(k:O):=iR (k:O) 1;refine(?_:WS (F.hold I) _ (G5 v (.int ((k+1:Z):O))) _ _);refine vS.ok H' ?_;refine(?_:W1 _ _ _ _ _);refine Pg H' ?_;refine(?_:WE _ _ _ _ _);refine Di (b:=b0) rfl Be yd ?_;refine AK _ (by refine J yK ?_;exact .list (.nat (yA k xY) (xi k xY))) (AK _ (.str (.last (x:=(v.getD k []).getLastD 0) ?_)) ?_);· refine J Fm ?_;cases hg:v.getD k []with|nil=>rw[hg]at wr;exact(by have xW:=wr;cases(xW))|cons y ys=>refine J (E4 (l7 _ _)) ?_;rfl
            refine(?_:WE _ _ _ _ _);refine Di (b:=b0) rfl Be yd ?_;refine AK _ (.list (.nat (yA (k+1) u) (xi _ u))) (AK _ (.str (.nat (j:=0) (x:=(v.getD (k+1) []).headD 0) ?_ (by decide))) (AK _ (.gtS _ _) ?_));·cases hg:v.getD (k+1) []with|nil=>rw[hg]at wv;exact(by have xW:=wv;cases(xW))|cons y ys=>rfl
            refine J (lt1 _ _) ?_;refine AV (λf=>?_) (λf=>?_);· have yB:ER v (k+1)=(v.set k ((v.getD k []).dropLast++(v.getD (k+1) []).drop 1)).eraseIdx (k+1):=Ap (Bq f);refine(?_:W1 _ _ _ _ _);refine XZ (a:=b0) (xs:=CN v) rfl (Lj CX (OY CX (Ei (a:=b0) rfl CX (vE.IB H' ⟨(k:O),_,Aq V.int yK,.nat (yA k xY) (xi k xY),vE.IB H' ⟨-1,rfl,AK _ (.str (AA ye (by decide))) ?_⟩⟩))));refine OY CX (Ei (a:=b0) rfl CX (vE.IB H' ⟨((k+1:Z):O),_,rfl,.nat (yA (k+1) u) (xi _ u),vE.IB H' ⟨1,rfl,AK _ (.str (AA yf (by decide))) ?_⟩⟩));have zB:Kg (v.getD k []) AJ (B (-1))=(v.getD k []).dropLast:=cr _ wr;have yL:Kg (v.getD (k+1) []) (B 1) AJ=(v.getD (k+1) []).drop 1:=UR _ 1;refine J zB ?_;refine J yL ?_;refine AK _ (.UX _ _ (by refine J Ou ?_;refine J Bh ?_;exact AA (CR (AA (Cd _ _) ye) (AA (Cd _ _) yf)) (by decide))) (vE.IB H' ⟨(k:O),k,Aq V.int yK,ix (by rewrite[CN];refine J (AL _) ?_;exact xY),by rewrite[CN];refine J (AL _) ?_;exact xY,DT (by decide) (BS k),Bu.mpr (xi k xY),?_⟩);refine(?_:W1 _ _ _ _ _);refine Xa (a:=b0) (xs:=(CN v).set k (.str ((v.getD k []).dropLast++(v.getD (k+1) []).drop 1))) rfl (by refine J V0 ?_;rewrite[CN];refine J (AL _) ?_;exact AA xU (by decide)) (vE.IB H' ⟨((k+1:Z):O),k+1,rfl,ix (by refine J V0 ?_;rewrite[CN];refine J (AL _) ?_;exact u),DT (by decide) (BS (k+1)),Bu.mpr (xi _ u),?_⟩);refine Ju (ER v (k+1)) (.int ((k+1:Z):O)) ?_ (by refine J xw ?_;exact yg) (by refine J xw ?_;exact xX) (AA xh.1 xv) (AA xh.2 xU);exact Aq (λS=>y3 S (.int ((k+1:Z):O))) (by refine J yB ?_;exact ZB V.str v k (k+1) _)
            · have yB:ER v (k+1)=v:=Ab (IV f);refine Ju v (.int ((k+1:Z):O)) rfl (by refine J xw ?_;refine CS yB ?_;exact yg) ?_ xv xU;refine J xw ?_;refine CS xX ?_;refine(?_:_=Ec (ER v (k+1)) k);refine J yB ?_;with_reducible rfl
          · intro σ' yh;refine Jt yh λv kv xD xM xX xv xU=>?_;clear yh;subst xD;refine⟨rfl,kv,?_⟩;rw[Vv,NO]at xX;exact Aq (λv=>G5 v kv) xX
        intro o σ' wj;refine Aa wj λwq wn=>?_;clear wj;refine Aw wn λkv wm=>?_;clear wn;subst wm;subst wq;have xh:=Lf _ _ xL.1.1;generalize Ec wl (wl.length-1)=ms at xh xt;have yD:=AA xh.1 yb;have zC:∀l∈ms,l.length<=2000:=λl h=>AA (RQ h) yD;have yi:ms.length<=1001:=AA xh.2 wy;refine(?_:WE _ _ _ _ _);refine XW (a:=b0) (ls:=ms) (g:=IG) N.wf T.bm (gn _) rfl (by rfl) rfl xu rfl rfl (by decide) rfl rfl rfl (λC code ts zD=>g8 zD rfl rfl rfl rfl rfl rfl rfl (λl h=>AA (zC l h) (by decide)) rfl rfl) ?_ (AA yi (by decide)) ?_;·exact AA (CR (AA (ON ms) (CE 4 yD)) (AA (B6 (eK _)) yi)) (by decide)
        refine CS xt ?_;refine(?_:WS F _ ((G5 ms kv).put "stuff" (.v (.str (Fo b)))) _ _);refine LG "chunks" (a:=b0) (xs:=CN ms) rfl xu ?_ (Ng ?_);· intro b1 hb;have e:CT (((G5 ms kv).put "stuff" (.v (.str (Fo b)))).put "chunks" (.v (.list (CN ms))))=[a]:=rfl;rw[e]at hb;refine J (AM.mp hb) ?_;exact FK "res" _ (by decide) rfl
        exact⟨rfl,iv,_,rfl,.inr ⟨_,_,_,rfl,.inr ⟨_,rfl⟩⟩⟩
      · intro o σ' wj;refine Aa wj λwq wn=>?_;clear wj;refine Au wn λiv wt xD xg=>?_;clear wn;subst xD;subst wq;have yE:=ZC xp xd;have yj:=PD (Fo b);refine(?_:WE _ _ _ _ _);refine dG (n:=n+1) rfl N.wf rfl T.pat T.patAt ?_;refine Cz (LI (cv:=[]) N.wf T.bm (gn _) rfl (by rfl) (by intro M;rfl) Be ?_ ?_) (λM=>rfl)
        · refine⟨λy t h=>?_,λx k h=>?_,λx h=>?_,λx d h=>?_⟩;·rw[AM.mp t]at h;cases(h)
          ·exact Eb h
          ·simp only[Am,Nq]at h;split at h<;>(first|exact Eb h|(replace h:=EY h;cases(h)))
          ·exact Eb h
        refine N8.IB H ?_;refine jP _ _ _ _ _ rfl (ZX (x:="_m") N.wf rfl rfl rfl rfl rfl (λfd yO E hd g=>HQ E hd g λM=>by kernel_rfl) ?_) (AA yE (by decide)) ?_;· intro L zI q fa cd Y ch;refine Lj Be ?_;refine Kb [92] rfl ?_;refine iA ?_;refine Zv (ch:=ch) (i:=1) ?_;refine E9 rfl Be ?_;refine⟨rfl,?_⟩;refine XX ?_;refine⟨rfl,AO,.str [ch] (show 1<_ by decide),λM=>?_,λh=>NI h⟩;exact AK _ (.UX _ _ (show 2<=_ by decide)) rfl
        have xN:(Gg (Fo b)).length<=40000:=AA yj (CE 2 yE);generalize hw:Gg (Fo b)=w at xN;have wo:Gf b=JK w:=by unfold Gf;refine J hw ?_;with_reducible rfl
        have xZ:∀s' l,Gf b=l->K .next (BV (i+1+m+1) (ps.map (Gh st)++[Gh st (B l)])++(Dz "c" (.str [91])++(Dz "j" (.int ((i+1+m:Z):O))++(Dz "stuff" (.str s')++wt)))):=λs' l g=>xI l _ _ (.inr ⟨_,_,rfl,.inr ⟨_,_,rfl,xg⟩⟩) (DA (AA (BH i) (As (i+1) m))) (FZ (E0 xV.2 _) xG) (by rw[<-wg,EB,g]at wh;exact wh);refine(?_:W1 _ _ (Dd (i+1+m+1) w wt) _ _);refine Pg H (AK _ (.str w (An xN (by decide))) (AV (λxO=>?_) (λxO=>?_)))
        · have ho:Gf b=[40,63,33,41]:=by refine J wo ?_;rewrite[JK];refine J (Ap (VQ (Pq xO))) ?_;with_reducible rfl
          refine(?_:W1 _ _ _ _ _);refine JO (x:="res") (a:=a) (xs:=ps.map (Gh st)) rfl rfl (Wl x8) (vE.GH H ?_);exact xZ w _ ho
        · have xO:w.isEmpty=AD:=Pq (VQ xO);have zE:w≠[]:=λe=>by rw[e]at xO;exact NI xO
          rw[JK,Ab (by refine J xO ?_;exact Dc)]at wo;refine(?_:W1 _ _ _ _ _);refine Pg H (AV (λxP=>?_) (λxP=>?_));· have xP:(w==[33])=AO:=xP;rw[Ap xP]at wo;refine(?_:W1 _ _ _ _ _);refine JO (x:="res") (a:=a) (xs:=ps.map (Gh st)) rfl rfl (Wl x8) (vE.GH H ?_);exact xZ w _ wo
          · have xP:(w==[33])=AD:=xP;rw[Ab (G6.mp xP)]at wo;have yM:w[0]?=B (w.headD 0):=by
              clear hw wo xO xP xN;cases w with|nil=>exact B8 rfl zE|cons y r=>rfl
            refine(?_:W1 _ _ _ _ _);refine W1.mono (Q:=λo σ'=>o=.next/\∃s',σ'=Dd (i+1+m+1) s' wt/\s'.length<=50000/\Gf b=[91]++s'++[93]) (Pg H (AK _ (.str (.nat (j:=0) yM (by decide))) (AV (λxc=>?_) (λxc=>?_)))) ?_
            · have xc:(w.headD 0==33)=AO:=(QH _ _).symm.trans xc;refine AK _ (.str (AA xN (by decide))) ?_;have yL:Kg w (B 1) AJ=w.drop 1:=UR _ 1;refine J yL ?_;have yk:(w.drop 1).length<=40000:=by refine J Bh ?_;exact AA (Cd _ _) xN
              refine AK _ (.UX [94] (w.drop 1) (AA (Av yk 1) (by decide))) ?_;exact⟨rfl,[94]++w.drop 1,rfl,by refine J AZ ?_;exact AA (Av yk 1) (by decide),by refine J wo ?_;refine J (Ap xc) ?_;with_reducible rfl⟩
            · have xc:(w.headD 0==33)=AD:=(QH _ _).symm.trans xc;rw[Ab (G6.mp xc)]at wo;refine(?_:W1 _ _ _ _ _);refine Pg H (AK _ (.str (.nat (j:=0) yM (by decide))) (AV (show 2<=_ by decide) (AK _ (.nE (LB _ λy t=>?_) bx) ?_)))
              · refine J (AM.mp t) ?_;have zF:w.headD 0∈Gg (Fo b):=by refine J hw ?_;exact By yM
                refine AI (U.mem_flatMap.mp zF) λz hz t=>?_;have h3:w.headD 0=z\/w.headD 0=92:=by
                  split at t;·exact(Ae.mp t).elim .inr λh=>.inl (AM.mp h)
                  ·exact .inl (AM.mp t)
                refine AC h3 (λh3=>?_) λh3=>?_
                · refine J h3 ?_;refine AC (Wo xd hz) (λh4=>?_) λX=>AC X (λh4=>?_) λh4=>?_;· refine yr _ ?_;have h5:z∈R:=Tk _ _ (hb▸h4);rw[<-wg]at h5;exact Hz _ _ h5
                  ·clear X;refine J h4 ?_;decide
                  ·clear X;refine J h4 ?_;decide
                ·refine J h3 ?_;decide
              · refine J (gR _) ?_;refine AV (λyN=>?_) (λyN=>?_);· refine AK _ (.UX [92] w (AA (Av xN 1) (by decide))) ?_;exact⟨rfl,[92]++w,rfl,by refine J AZ ?_;exact AA (Av xN 1) (by decide),by refine J wo ?_;refine J (Ap yN) ?_;with_reducible rfl⟩
                ·exact⟨rfl,w,rfl,AA xN (by decide),by refine J wo ?_;refine J (Ab (G6.mp yN)) ?_;with_reducible rfl⟩
            intro o σ' wj;refine Aa wj λwq wn=>?_;clear wj;refine CF wn λs' wm yl ho=>?_;clear wn;subst wm;subst wq;refine(?_:W1 _ _ _ _ _);refine JO (x:="res") (a:=a) (xs:=ps.map (Gh st)) rfl rfl (Wl x8) (Uc ?_);have ym:([91]++s').length<=50001:=by refine J AZ ?_;refine J (CK _ _) ?_;exact Ax yl
            have yn:([91]++s'++[93]).length<=50002:=by refine J AZ ?_;exact Ax ym
            refine Kb [91] rfl ⟨_,rfl,show 1<=_ by decide,Ub (vE.IB H ?_)⟩;refine⟨_,rfl,AA yl (by decide),_,rfl,AA ym (by decide),?_⟩;refine Kb [93] rfl ⟨_,rfl,AA yn (by decide),AA yn (by decide),?_⟩;exact xZ s' _ ho
    · have xR:x≠91:=RV xR;rw[HO _ _ _ wr wv xR]at wh;refine(?_:W1 _ _ _ _ _);refine JO (x:="res") (a:=a) (xs:=ps.map (Gh st)) rfl rfl (Wl x8) (MJ H T.esc (ZR N T (n+1)) CX ?_);refine AK x rfl ?_;exact xI (Hh FU x) xH (i+1) xk (B5 i) u (by refine J wg ?_;exact wh)
  · have zG:i=A.length:=Cy hi (Bx (fb u));rw[zG]at wh⊢;rw[BY (AN _)]at wh;have zH:ps=Cb AD A:=by rw[Eg,BW]at wh;exact wh
    refine AV (FR _) ?_;refine(?_:WE _ _ _ _ _);refine Di (b:=a) rfl Be yP ?_;refine J zH ?_;exact hq
end
theorem Wp{b:U Z}(h:b.length<=64)(hb:b≠[]):(Fo b).length<=400:=by
 unfold Fo;split;·have :=OB 92 b;exact qO ‹_› ‹_›
 · have W:=KC _ b (AN _) [] (CO b) (dC b hb);have C:=Lf _ _ W.1.1;have T:=ON (Ec (DV [] b (CO b)) ((DV [] b (CO b)).length-1));have F:=RK [45] ((Ec (DV [] b (CO b)) ((DV [] b (CO b)).length-1)).map IG);simp only[AL,Ah,BU,DK,eK,ET,SH]at W F;exact bJ F T C.1 C.2 W.2.1 W.2.2 h (by decide)
theorem ZE(w:U Z):(JK w).length<=w.length+4:=by
  unfold JK;split;·simp
  · split;·simp
    · split;·simp only[AZ,Ah,BU,Bh];exact qM
      ·split<;>simp only[AZ,Ah,BU]<;>(first|exact qK|exact qJ|omega)
theorem Wm{b:U Z}(h:b.length<=64)(hb:b≠[]):(Gf b).length<=804:=by
 have W:=Wp h hb;have C:=PD (Fo b);have T:=ZE (Gg (Fo b));unfold Gf;exact qN ‹_› ‹_› ‹_›
noncomputable def Sa:AX (U Z)->Z|AJ=>10|B l=>l.length
theorem il(ps:U (AX (U Z)))(m:Z)(h:∀p∈ps,Sa p<=m):(ps.map Sa).sum<=ps.length*m:=by
 induction ps with|nil=>simp|cons p r I=>have W:=h p AQ;have C:=I λq u=>h q (AU _ u);simp only[Bo,IQ,Ah,SG];exact lq ‹_› ‹_›
theorem Sx:∀ps:U (AX (U Z)),(F5 ps).flatten.length+((DC ps).map Sa).sum=(ps.map Sa).sum:=by
 intro ps;induction ps with|nil=>rfl|cons d r I=>cases d with|none=>simp[PA,W4]|some l=>have :=I;simp only[Z0,W3,Ba,AZ,Bo,IQ,Sa];exact qI ‹_›
theorem Pj:∀(n:Z)(ps:U (AX (U Z))),ps.length<=n->(CL ps).length<=(ps.map Sa).sum
|n,[],_=>by rewrite[JT];decide|n,B l::r,_=>by rewrite[SW];simp|n+1,AJ::r,h=>by
 have h0:=Sx r;have g:=Nd r;simp only[Ah]at h;have I:=Pj n (DC r) (by exact qL ‹_› ‹_›);rewrite[GN];simp only[Bo,IQ,Sa];split<;>simp only[AZ,Ah,BU]<;>(first|exact qH ‹_›|exact qG ‹_› ‹_›|omega)
theorem Wy:∀(n:Z)(l:U Z),l.length<=n->l.length<=64->∀star,∀p∈Cb star l,Sa p<=804:=by
 intro n;induction n with
 |zero=>intro m;cases m with|nil=>intro M M star p E;rw[Eg]at E;exact JZ E|cons _ _=>intro d;exact B8 d (F1 _)
 |succ n I=>intro m;cases m with|nil=>intro M M star p E;rw[Eg]at E;exact JZ E|cons c R=>
      intro g o star p E;simp only[Ah]at g o;by_cases W:c=42
      · subst W;rw[HM]at E;split at E;·exact I R (by exact z0 ‹_›) (by exact gj ‹_›) _ p E
        · refine AC (Ae.mp E) (λX=>?_) λE=>(I R (by exact z0 ‹_›) (by exact gj ‹_›) _ p E);·subst X;simp[Sa]
      · by_cases C:c=63;· clear W;subst C;rw[Hu]at E;refine AC (Ae.mp E) (λX=>?_) λE=>(I R (by exact z0 ‹_›) (by exact gj ‹_›) _ p E);·subst X;simp[Sa]
        · by_cases T:c=91;· clear W C;subst T;cases f:DL R with|some e=>have :=Hp f;rw[Ht _ _ _ f]at E;refine AC (Ae.mp E) (λX=>?_) λE=>(I (R.drop (e+1)) (by simp;exact iU ‹_›) (by simp;exact lr ‹_›) _ p E);·subst X;exact Wm (by simp;exact lu ‹_›) λh=>by have :=Aq DF h;rw[Ci,BU]at this;exact z73 ‹_› ‹_›|none=>rw[HN _ _ f]at E;refine AC (Ae.mp E) (λX=>?_) λE=>(I R (by exact z0 ‹_›) (by exact gj ‹_›) _ p E);·subst X;decide
          · rw[HO _ _ _ W C T]at E;refine AC (Ae.mp E) (λX=>?_) λE=>(I R (by exact z0 ‹_›) (by exact gj ‹_›) _ p E);· subst X;refine(?_:(Hh FU c).length<=804);unfold Hh;split<;>simp
theorem Sb:∀(n:Z)(l:U Z),l.length<=n->∀star,(Cb star l).length<=l.length:=by
 intro n;induction n with
 |zero=>intro m;cases m with|nil=>intro M star;rewrite[Eg];simp|cons _ _=>intro d;exact B8 d (F1 _)
 |succ n I=>intro m;cases m with|nil=>intro M star;rewrite[Eg];simp|cons c R=>
      intro g star;simp only[Ah]at g⊢;by_cases W:c=42
      · subst W;refine J (HM _ _) ?_;have I:=I R (by exact z0 ‹_›) AO;split;·exact z16 ‹_›
        ·simp;exact z2 ‹_›
      · by_cases C:c=63;·subst C;refine J (Hu _ _) ?_;have :=I R (by exact z0 ‹_›) AD;simp;exact z2 ‹_›
        · by_cases T:c=91;· clear W C;subst T;cases f:DL R with|some e=>refine J (Ht _ _ _ f) ?_;have :=I (R.drop (e+1)) (by simp;exact iU ‹_›) AD;simp at this⊢;exact pU ‹_›|none=>refine J (HN _ _ f) ?_;have :=I R (by exact z0 ‹_›) AD;simp;exact z2 ‹_›
          ·refine J (HO _ _ _ W C T) ?_;have :=I R (by exact z0 ‹_›) AD;simp;exact z2 ‹_›
theorem TR{A:U Z}(h:A.length<=64):(Hc (Cb AD A)).length<=100000/\(Cb AD A).length<=64:=by
 have W:=Sb _ A (AN _) AD;have C:=il _ 804 (Wy _ A (AN _) h AD);have T:=Sx (Cb AD A);have F:=Pj _ (DC (Cb AD A)) (AN _);have y:(Cb AD A).length*804<=64*804:=On _ (by exact lE ‹_› ‹_›);refine⟨?_,by exact lE ‹_› ‹_›⟩;unfold Hc;simp only[AZ,Ah,BU];exact qF ‹_› ‹_› ‹_› ‹_›
theorem U4{c:Cx}(N:Nm c)(T:jp c)(n:Z):Ef c (n+4) 59 (λS Q=>∃A,S=[.str A]/\A.length<=64/\(∀x∈A,x<0x110000)/\Q (.str (Ml A))):=by
 refine Aa T.translate λM G=>Au G λo fd D hd=>Ef.NZ (names:=["pat"]) N.wf D rfl rfl rfl (by decide) hd (λfd l E hd g=>HQ E hd g λM=>by kernel_rfl) (by decide+kernel) λL Y q cd S Q h₀ b=>DU b λA z g d u=>?_;clear b;subst z;refine⟨rfl,?_⟩;have f:=TR g;let F:=Fx.fn c (n+3) (E8 7).scope 59 L Y q cd;have H:VH F (E8 7).scope ["STAR","parts"]:=⟨N,Z4 (by kernel_rfl) rfl,rfl,rfl⟩;refine(?_:WS F _ _ _ _);refine FL (Zw N.wf rfl T.object (H.st _ (by decide)) λa e w=>vS.ok H ?_);refine Aa T.trans λm G=>Au G λv W p M=>(?_:WE _ _ _ _ _);refine Mt N.wf rfl m p.at_ p.data (bS N T n) CX (N8.GH H ?_);refine Dm A a rfl (AA g (by decide)) d (?_:WE _ _ _ _ _);refine MJ H T.join (fO N T (n+2)) Be (Ju _ _ rfl (by(first|exact iV ‹_›|exact pS ‹_›)) (by(first|exact iV ‹_›|exact pR ‹_›)) (Sc _ _ (AN _) AD).1 u)
section
structure Lk(F:Fx)(h₀:BJ)(s₁:AE)(σ₁:AS)(I:AW)(fp:U AW)(P:Z->AF->Prop)(S:Z->BJ->Prop)(xs:U V):Prop where
T₁:FX F h₀ σ₁ s₁
hn:s₁.heap.get? I=AJ
W:∀A',A'.handled=AJ->Walks F.c.prog F.c.w A' I fp [I] xs.length P S
hfp:∀b∈fp,b=I\/(b∉F.X σ₁/\∃ob,s₁.heap.get? b=B ob/\ob.cls≠.none)SI:∀i h,S i h->∃o',h.get? I=B o'/\EX o'.cls=AD
hP:∀i v,i<xs.length->P i v->∃d,xs[i]?=B d/\Rd (fz (F.X σ₁) s₁.heap) d v
structure KW(F:Fx)(h₀:BJ)(s₁:AE)(σ₁:AS)(I:AW)(S:Z->BJ->Prop)(i:Z)(σ:AS)(s:AE):Prop where
T:FX (F.hold I) h₀ σ s
m:CZ F σ₁ σ s₁ s
ho:I∉CT σ
S:S i s.heap
variable{F:Fx}{h₀:BJ}{s₁:AE}{σ₁:AS}{I:AW}{fp:U AW}{P:Z->AF->Prop}{S:Z->BJ->Prop}{xs:U V}{σ σ':AS}{s s':AE}{i:Z}
theorem Lk.h0(H:Lk F h₀ s₁ σ₁ I fp P S xs):h₀.get? I=AJ:=H.T₁.grow.none H.hn
theorem Lk.mu(H:Lk F h₀ s₁ σ₁ I fp P S xs):I∉F.Mu:=λK=>H.T₁.X9 K H.hn
theorem Lk.loc(H:Lk F h₀ s₁ σ₁ I fp P S xs):F.env.locals≠I:=λq=>by refine Ge H.T₁.rep.ns λm t M M i M=>?_;rw[q,H.hn]at i;exact Eb i
theorem Lk.cel(H:Lk F h₀ s₁ σ₁ I fp P S xs):∀y k,F.env.cells.lookup y=B k->k≠I:=λy k e q=>by refine Au (H.T₁.rep.cell y k e) λu N V M=>?_;rw[q,H.hn]at V;exact Eb V
theorem Lk.fpk(H:Lk F h₀ s₁ σ₁ I fp P S xs)(m:CZ F σ₁ σ' s₁ s'):∀b∈fp,b≠I->∃R,s₁.heap.get? b=B R/\s'.heap.get? b=B R:=by
 intro b hb w;refine AC (H.hfp b hb) (λq=>(B8 q w)) λX=>?_;· refine Aa X λu G=>AI G λa z f=>AK a z (m.grow.get z (λK=>u ?_) f);refine AC (Ai.mp K) (λh=>(Ak _ (Ak _ h))) λh=>(Ac _ h)
theorem KW.step(H:Lk F h₀ s₁ σ₁ I fp P S xs)(a:KW F h₀ s₁ σ₁ I S i σ s)(W:FX (F.hold I) h₀ σ' s')(m:CZ (F.hold I) σ σ' s s'):KW F h₀ s₁ σ₁ I S i σ' s':=by
  have k:=a.m.trans (FX.NU a.T) (CZ.hold.mp m);refine AI (H.SI _ _ a.S) λl g p=>⟨W,k,λK=>?_,(H.W {depth:=0,units:=0,handled:=AJ} rfl).frame _ _ _ a.S λb hb R e=>?_⟩;· refine AC (m.own I K) (λh=>(a.ho h)) λh=>?_;·rw[g]at h;exact jc h
  · clear W;by_cases q:b=I;· subst q;refine AC (m.grow b R (λK=>by
refine AC (Ai.mp K) (λh=>(H.mu h)) λh=>(a.ho h)) e) (λr=>r) λX=>?_;· refine B7 X λM f M=>?_;have  :=Af (e.symm.trans g);rw[this]at f;rw[f]at p;exact NI p
    · refine AI (H.fpk a.m b hb q) λc e1 y=>AI (H.fpk k b hb q) λd j r=>?_;have  :=Af (oz e.symm y);have C:=Af (e1.symm.trans j);refine J this (J C r)
theorem KW.moved(H:Lk F h₀ s₁ σ₁ I fp P S xs)(a:KW F h₀ s₁ σ₁ I S i σ s){h':BJ}{tk j:Z}(c:s.toks<=tk)(n:∀b R,b∉[I]->s.heap.get? b=B R->h'.get? b=B R)(d:S j h'):KW F h₀ s₁ σ₁ I S j σ {s with heap:=h',toks:=tk}:=by
 refine AI (H.SI _ _ a.S) λl g p=>AI (H.SI _ _ d) λo' t V=>⟨a.T.held H.h0 g p t V H.mu a.ho n H.loc H.cel c,⟨λb R hb e=>?_,a.m.own⟩,a.ho,d⟩;have q:b∉[I]:=λq=>by rw[AM.mp q,H.hn]at e;exact Eb e
 refine AC (a.m.grow b R hb e) (λz=>(.inl (n b R q z))) λX=>(B7 X λx y G=>Au G λf Y hd z=>.inr ⟨x,y,f,Y,hd,n b _ q z⟩)
theorem KW.rd(H:Lk F h₀ s₁ σ₁ I fp P S xs)(a:KW F h₀ s₁ σ₁ I S i σ s){d:V}{v:AF}(r:Rd (fz (F.X σ₁) s₁.heap) d v):Rd (fz ((F.hold I).X σ) s.heap) d v:=by
 refine Rd.sub ?_ r;intro b R e f;have e1:=CZ.sub H.T₁ a.m b R e f;rw[Al]at e1⊢;refine⟨λK=>?_,e1.2⟩;refine AC (E7.mp K) (λq=>?_) λK=>(e1.1 K);·rw[q]at e;rw[Al,H.hn]at e;cases e.2
theorem KW.next{A:BQ}{E:AF->AE->Prop}{Q:AX AF->AE->Prop}(H:Lk F h₀ s₁ σ₁ I fp P S xs)(N:A.handled=AJ)(a:KW F h₀ s₁ σ₁ I S i σ s)(u:i<xs.length)(k:∀v d s',xs[i]?=B d->Rd (fz ((F.hold I).X σ) s'.heap) d v->KW F h₀ s₁ σ₁ I S (i+1) σ s'->Q (B v) s'):Aj F.M A (kY (.ref I)) Q E s:=by
 refine Ey (AN _) ((H.W A N).item i s _ _ u a.S λv h' tk b f n c=>?_);refine AI (H.hP i v u b) λd hd m=>?_;have g:=a.moved H c n f;exact k v d _ hd (g.rd H m) g
theorem KW.done{A:BQ}{E:AF->AE->Prop}{Q:AX AF->AE->Prop}(H:Lk F h₀ s₁ σ₁ I fp P S xs)(N:A.handled=AJ)(a:KW F h₀ s₁ σ₁ I S xs.length σ s)(k:∀s',FX F h₀ σ s'->CZ F σ₁ σ s₁ s'->Q AJ s'):Aj F.M A (kY (.ref I)) Q E s:=by
 refine AI (H.SI _ _ a.S) λl g p=>Ey (AN _) ((H.W A N).done s _ _ a.S λh' tk n c=>?_);have d:I∉F.X σ:=λK=>by
  refine AC (Ai.mp K) (λh=>?_) λh=>(a.ho h);· have :=(H.T₁.rep.live I (Ak _ h)).1;rw[H.hn]at this;exact J2 this
 refine k _ (a.T.YD H.h0 g p a.ho d n H.loc H.cel c) ⟨λb R hb e=>?_,a.m.own⟩;have u:b∉[I]:=λq=>by rw[AM.mp q,H.hn]at e;exact Eb e
 refine AC (a.m.grow b R hb e) (λz=>(.inl (n b R u z))) λX=>(B7 X λx y G=>Au G λf Y hd z=>.inr ⟨x,y,f,Y,hd,n b _ u z⟩)
theorem KW.for_{A:BQ}{E:AF->AE->Prop}{Q:Flow->AE->Prop}{x y:BA}{px X pos:EQ}{b:U G1}(wt:Lk F h₀ s₁ σ₁ I fp P S xs)(N:FD A F.n)(wu:Z->AS->Prop)(hi:i<=xs.length)(a:KW F h₀ s₁ σ₁ I S i σ s)(D:DG F x)(t:σ.lookup y=B (.v (F0 I)))(hJ:wu i σ)(G:∀i σ' d,xs[i]?=B d->wu i σ'->WS (F.hold I) h₀ (σ'.put x (.v d)) b (eh (λM M=>Dp) λl=>wu (i+1) l))(k:∀σ' s',wu xs.length σ'->FX F h₀ σ' s'->CZ F σ₁ σ' s₁ s'->Q .next s')(L:∀env x,El (.Name y X) env x=Bz x:=by intro M M;rfl)(hd:(y==("__debug__":BA))=AD:=by decide)(hg:Hd y=AD:=by decide):Aj F.M A (exec (.For (.Name x px) (.Name y X) b [] pos) F.env) Q E s:=by
  have wo:WE (F.hold I) σ (F.hold I).Xo (.Name y X) (λd=>d=F0 I):=E9 t Be rfl (hd:=hd) (hg:=hg);refine wpAny_For (wo.bind N a.T.st a.T.rep λv wi d f z g m e=>?_) (L _);subst e;have n:=m.IC;refine J n ?_;have wg:=a.step wt (a.T.next f z) (.DO z);refine(wt.W A N.handled).self i wi _ _ wg.S (codeAny_forLoop (λk s'=>∃i σ',k+i=xs.length+1/\i<=xs.length/\KW F h₀ s₁ σ₁ I S i σ' s'/\wu i σ') ?_ (xs.length+1-i) ⟨i,σ,by exact rR ‹_›,hi,wg,hJ⟩);intro k' s' wq;refine Dg wq λj σ' R o a' wj=>?_;by_cases u:j<xs.length
  · refine a'.next wt N.handled u λv d W hd m h=>GY (Ew (F:=F.hold I) (sl:=.v d) h.T h.T.rep (D) m λc wh wl=>?_);have K:=h.step wt wh (CZ.store wl);refine Ad (G j σ' d hd wj A _ c N wh) (λfl wr H=>?_) λM M x=>x;refine Dg H λC w V wm r q=>?_;clear H;have Y:=K.step wt V wm;cases(fl)<;>cases(C)<;>simp only[Nh]at r<;>try exact r.elim
    ·exact⟨xs.length-j,by exact Yv ‹_› ‹_›,j+1,w,by(first|exact Yv ‹_› ‹_›|exact iX ‹_›),u,Y,q⟩
    ·exact q.elim
    ·exact⟨xs.length-j,by exact Yv ‹_› ‹_›,j+1,w,by(first|exact Yv ‹_› ‹_›|exact iX ‹_›),u,Y,q⟩
    ·exact q.elim
  · have T:=by exact iW ‹_› ‹_›
    clear R o u;subst T;exact a'.done wt N.handled λW p wn=>Ez (k _ _ wj p wn)
end
section
noncomputable abbrev MP(es:Bc DX)(n:Z):Gq:={cls:=.type "dict",dict:=AJ,data:=.dict es n,slots:=#[]}
structure KB(c:Cx)(h0:BJ)(s:AE)(ns:AW)(es:Bc DX)(ck P:AW):Prop where
st:St c s
gr:Bk c.hB h0 s.heap
obj:∃n,s.heap.get? ns=B (MP es n)new:h0.get? ns=AJ
bas:c.hB.get? ns=AJ
tab:∃ps,Ja c.hB s.heap ck P dg ps
n33:P≠33
n73:P≠73
n144:P≠144
noncomputable def KS(ns:AW)(h h':BJ):Prop:=∀b o,h.get? b=B o->dN o->b≠ns->h'.get? b=B o
theorem KS.refl(ns:AW)(h:BJ):KS ns h h:=λM M e M M=>e
theorem KS.trans{ns:AW}{a b d:BJ}(x:KS ns a b)(y:KS ns b d):KS ns a d:=λk o e f n=>y k o (x k o e f n) f n
theorem KS.grow{hB h h':BJ}{ns:AW}(g:Bk hB h h'):KS ns h h':=λb o e f M=>g.Nc e f
theorem Bk.outs{hB h0 h h':BJ}{a:AW}(g:Bk hB h0 h)(p:h0.get? a=AJ)(D:EH a h h'):Bk hB h0 h':=by
 intro b o e;have w:b≠a:=λq=>by rw[q,p]at e;exact Eb e
 refine AC (g b o e) (λz=>(.inl (D b o w z))) λX=>(B7 X λi f G=>Au G λS Y hd z=>.inr ⟨i,f,S,Y,hd,D b _ w z⟩)
section
variable{c:Cx}{A:BQ}{E:AF->AE->Prop}{s:AE}{h0:BJ}{ns ck P:AW}{es:Bc DX}
theorem KB.grow(K:KB c h0 s ns es ck P){s':AE}(S:St c s')(g:Bk c.hB s.heap s'.heap)(t:∃ps,Ja c.hB s'.heap ck P dg ps):KB c h0 s' ns es ck P:=⟨S,K.gr.trans g,K.obj.imp λn e=>g.Nc e (.inl (F7)),K.new,K.bas,t,K.n33,K.n73,K.n144⟩
theorem KB.keep(K:KB c h0 s ns es ck P){s':AE}(k:Kp s s'):KB c h0 s' ns es ck P:=by
 refine K.grow (K.st.keeps k) (B4 k) (Aw K.tab λps t=>Aa k λd M=>Au d λh' tk H k=>J H ⟨ps,t.H5 λb o M e M M=>k b o e⟩)
theorem jV{x:BA}{v:AF}{Q:LL->AE->Prop}{es':O->Jd->Bc DX}(K:KB c h0 s ns es ck P)(d:Z)(W:HA x es=AD)(he:∀n h t,IN x h (.str x t) v (MP es n)=MP (es' h t) (n+d))(q:∀h t s',KB c h0 s' ns (es' h t) ck P->KS ns s.heap s'.heap->Q () s'):Aj (BF c.prog c.w) A (nsSet ns x v) Q E s:=by
 refine Aw K.obj λn a=>AB (AB (Og (AH ?_)));refine AB (Q7 ?_);refine AB (HB a ?_);dsimp only;refine J W (J (Ab (by decide)) ?_);generalize(if x.cps.isEmpty=AO then(0:O)else _)=l;refine YY a (q l s.toks _ ?_ ?_);all_goals have D:EH ns s.heap (s.heap.update ns λo=>IN x l (.str x s.toks) v o):=(Lu ..).extBut
 · have f:Rs s.heap (s.heap.update ns λo=>IN x l (.str x s.toks) v o):=λb o S e hd M=>D b o (λq=>by rw[q,a]at e;replace e:=EY e;induction e using EC;cases(hd)) e;refine Aw K.tab λps t=>⟨⟨K.st.grow.outs K.bas D,K.st.os,K.st.bare,K.st.tabs.H5 f,Cm K.st.toks⟩,K.gr.outs K.new D,?_,K.new,K.bas,⟨ps,t.H5 f⟩,K.n33,K.n73,K.n144⟩;have :=Ca (λo=>IN x l (.str x s.toks) v o) a (by rewrite[he];rfl);exact⟨_,this.trans (Aq B (he _ _ _))⟩
 ·exactλb o e M n=>D b o n e
theorem J6{env:Nx}{x:BA}{v:AF}{Q:LL->AE->Prop}{es':O->Jd->Bc DX}(K:KB c h0 s ns es ck P)(d:Z)(T:FC env x v=dt env x v)(g:env.locals=ns)(W:HA x es=AD)(he:∀n h t,IN x h (.str x t) v (MP es n)=MP (es' h t) (n+d))(q:∀h t s',KB c h0 s' ns (es' h t) ck P->KS ns s.heap s'.heap->Q () s'):Aj (BF c.prog c.w) A (FC env x v) Q E s:=by
 refine Aw K.obj λn a=>J T ?_;unfold dt;refine J g (AB (Gl a ?_));exact jV K d W he q
noncomputable def NE(name k:BA)(Cv:Dl)(body:Mz)(scope:Cw)(z:U (BA×AW))(a:AF)(C:AW)(H:AF):Gq:={cls:=.type "function",data:=.func {name,qualname:=k,params:=Cv,body,scope,globals:=Cc,closure:=z,closureTuple:=H,code:=.ref C,builtins:=CU,defaults:=.none,kwdefaults:=.none,annotations:=AJ,pyModule:=a,doc:=.none}}
theorem n4{name k:BA}{Cv:Dl}{body:U G1}{scope:Cw}{env:Nx}{pos:EQ}{fl:Z}{z:U (BA×AW)}{kwd:U (AX AF)}{Q:AF->AE->Prop}(K:KB c h0 s ns es ck P)(p:Wf c)(wj:Oc c)(wg:env.code=.ref ck)(u:k=dg pos.line pos.col)(G:JS scope env=Bz z)(Y:env.globals=Cc)(wh:docOf body=AJ)(V:Cv.kwonlyargs=[])(q:∀f C H s',KB c h0 s' ns es ck P->Bk c.hB s.heap s'.heap->s.heap.get? f=AJ->s'.heap.get? f=B (NE name k Cv (.stmts body) scope z ((c.mg "__name__").getD .none) C H)->Kr s'.heap C->s'.heap.CodeRec (.ref C) k->Q (.ref f) s'):Aj (BF c.prog c.w) A (makeFunction name k Cv (.stmts body) scope env [] kwd [] pos fl) Q E s:=by
 rewrite[makeFunction_eq];simp only[V,kG,iQ,Tn,KH,pure_bind];unfold makeTail;refine J G (J Y (AB (AH ?_)));refine PJ wj λI R b1 b2 b3 W b5 N=>?_;have l:∀(H:AF)(j:AE),KB c h0 j ns es ck P->Bk c.hB s.heap j.heap->Aj (BF c.prog c.w) A (do let code<-WK env pos fl name k Cv scope (.stmts body)let bi<-builtinsFor Cc env.builtins let m<-nsGet Cc "__name__"let doc<-(match docOf body with|B s=>mkText s|AJ=>Bz .none:Sem AF)newObj (.type "function") (.func {name,qualname:=k,params:=Cv,body:=.stmts body,scope,globals:=Cc,closure:=z,closureTuple:=H,code,builtins:=bi,defaults:=.none,kwdefaults:=.none,annotations:=AJ,pyModule:=m.getD .none,doc})) Q E j:=by
  intro H j X T;refine Aw X.tab λps t=>AB (Sv t (λh' wi D n=>X.st.tabs.inner t X.n33 X.n73 X.n144 D n) wg X.st u λC r wi x h t2 i hr=>?_);have hg:=Ns.grow x.grow p.g;refine AB (Nl hg b1 b2 (x.grow.Gk b3 (by refine J N MQ)) W b5 N ?_);refine AB (Nk hg ?_);refine J wh (AB (AH (GW ?_ (by size_fits))));have L:=Kp.push r (NE name k Cv (.stmts body) scope z ((c.mg "__name__").getD .none) C H);have K2:=(X.grow x h ⟨wi,t2⟩).keep L;have M:=λb o(e:r.heap.get? b=B o)=>AR (NE name k Cv (.stmts body) scope z ((c.mg "__name__").getD .none) C H) e;have w:=(T.trans h).none (by
cases e:r.heap.get? r.heap.objs.size with|none=>rfl|some o=>exact B8 (Bg e) (CI _));refine q _ C H _ K2 ((T.trans h).trans (B4 L)) w (Ag _ rfl) (Cj i λo S a b d=>Fs o S (M _ _ a) b d) (MO hr λg v wl t2 f1 y F=>PL g v wl t2 f1 (M _ _ y) F)
 cases G:z with|nil=>refine AB (AH ?_);have :=l .none s K (.refl _ _);rw[G]at this;exact this|cons q0 r0=>refine AB (Uq ?_);have L:=Kp.push s {cls:=.type "tuple",data:=.seq (((q0::r0).mergeSort λa b=>a.1.cps.toList<=b.1.cps.toList).map (.ref ·.2)).toArray};have :=l (.ref s.heap.objs.size) _ (K.keep L) (B4 L);rw[G]at this;exact this
end
end
section
section
variable{c:Cx}{A:BQ}{E:AF->AE->Prop}{s:AE}{h0:BJ}{ns ck P:AW}{es:Bc DX}
theorem jW{name:BA}{F:Dl}{body:U G1}{scope:Cw}{env:Nx}{pos:EQ}{z:U (BA×AW)}{Q:Flow->AE->Prop}(K:KB c h0 s ns es ck P)(hw:Wf c)(k:Oc c)(wh:env.code=.ref ck)(wi:Uu env name name=env.qual++name)(u:env.qual++name=dg pos.line pos.col)(G:JS scope env=Bz z)(Y:env.globals=Cc)(i:docOf body=AJ)(wj:F.kwonlyargs=[])(N:defaultsOf F env=([],[]))(wg:annotationsOf (F.args++F.posonlyargs++F.vararg.toList++F.kwonlyargs++F.kwarg.toList) env=[])(T:∀v,FC env name v=dt env name v)(hl:env.locals=ns)(W:HA name es=AD)(he:∀v n h t,IN name h (.str name t) v (MP es n)=MP (es.push ⟨h,.str name t,v⟩) (n+1))(q:∀f C H l t s',KB c h0 s' ns (es.push ⟨l,.str name t,.ref f⟩) ck P->KS ns s.heap s'.heap->s.heap.get? f=AJ->s'.heap.get? f=B (NE name (env.qual++name) F (.stmts body) scope z ((c.mg "__name__").getD .none) C H)->Kr s'.heap C->s'.heap.CodeRec (.ref C) (env.qual++name)->Q .next s'):Aj (BF c.prog c.w) A (exec (.FunctionDef name F body [] AJ [] scope AJ name pos) env) Q E s:=by
 have I:∀f C H j,KB c h0 j ns es ck P->Bk c.hB s.heap j.heap->s.heap.get? f=AJ->j.heap.get? f=B (NE name (env.qual++name) F (.stmts body) scope z ((c.mg "__name__").getD .none) C H)->Kr j.heap C->j.heap.CodeRec (.ref C) (env.qual++name)->Aj (BF c.prog c.w) A (FC env name (.ref f)) (λM s'=>Q .next s') E j:=by
  intro f C H j X g p V hi hr;refine J6 X 1 (T _) hl W (he _) λl t r D k2=>Aw X.obj λL Ko=>?_;have wl:f≠ns:=λq=>by rw[q,Ko]at V;exact(by have wm:=Aq Hk (Af V);cases(wm))
  have w:C≠ns:=λq=>by refine Cj hi λo S a b d=>?_;rw[q,Ko]at a;rw[<-Af a]at d;cases(d)
  refine q f C H l t r D ((KS.grow g).trans k2) p (k2 _ _ V (.inl (F7)) wl) (Cj hi λo S a b d=>Fs o S (k2 _ _ a (.inl (by refine J b F7)) w) b d) ?_;· refine Cj hi λo S a b d=>MO hr λc2 o2 R t2 e y f3=>?_;cases(e);rw[a]at y;replace y:=EY y;induction y using EC;exact PL _ o R t2 rfl (k2 _ _ a (.inl (by refine J b F7)) w) f3
 rewrite[arm_exec_FunctionDef];unfold defStmt;rcases F with⟨po,a,m,ko,kd,wn,df⟩;simp only at wj wg;subst wj;simp only[BW]at wg;have eo:∀env,evalOpt AJ env=AJ:=λM=>rfl;simp only[N,wg,Tn,BC.not_true,LY,Fa,KL,evalEach,Ky,eo,Kf,AX.toList_none,BW,kG,U.reverse_nil];repeat(any_goals(first|assumption|((refine(?_:Aj _ _ (makeFunction _ _ _ _ _ _ _ _ _ _ _) _ _ _));refine n4 K hw k wh (wi▸u) G Y i rfl λf C H j X g p V hi hr=>?_)|((refine(?_:Aj _ _ (FC _ _ _) _ _ _));refine Ad (I f C H j X g p (wi▸V) hi (wi▸hr)) (λM s' h=>?_) (λM M x=>x))|((refine(?_:Aj _ _ (evalNamed _) _ _ _));refine AH ?_)|wp_step))
end
end
section
set_option genInjectivity false
set_option genSizeOf false
structure Cls where
body:U G1
scope:Cw
statics:U BA
pos:EQ
noncomputable def nN(l:U G1):Cls:=NS l ⟨[],⟨.function,[],AD,AD,[]⟩,[],⟨0,0,0,0⟩⟩ λs M=>fG s (λM M M M=>⟨[],⟨.function,[],AD,AD,[]⟩,[],⟨0,0,0,0⟩⟩) (λb sc st p=>⟨b,sc,st,p⟩) ⟨[],⟨.function,[],AD,AD,[]⟩,[],⟨0,0,0,0⟩⟩
noncomputable def gC(s:G1):U G1:=fG s (λM b M M=>b) (λM M M M=>[]) []
noncomputable def Iq:Cls:=nN (gC (FH.main.body.getD 2 (.Pass ⟨0,0,0,0⟩)))
noncomputable def kS(i:Z):G1:=Iq.body.getD i (.Pass ⟨0,0,0,0⟩)
structure Dk where
args:Dl
body:U G1
scope:Cw
pos:EQ
noncomputable def dkOf(s:G1):Dk:=fG s (λa b s p=>⟨a,b,s,p⟩) (λM M M M=>⟨⟨[],[],AJ,[],[],AJ,[]⟩,[],⟨.function,[],AD,AD,[]⟩,⟨0,0,0,0⟩⟩) ⟨⟨[],[],AJ,[],[],AJ,[]⟩,[],⟨.function,[],AD,AD,[]⟩,⟨0,0,0,0⟩⟩
noncomputable def dk(i:Z):Dk:=dkOf (kS i)
noncomputable def jY(i:Z)(nm:BA):G1:=.FunctionDef nm (dk i).args (dk i).body [] AJ [] (dk i).scope AJ nm (dk i).pos
theorem cL:Iq.body=[kS 0,kS 1,jY 2 "__init__",jY 3 "__lt__",jY 4 "__gt__",jY 5 "__eq__",jY 6 "__le__",jY 7 "__ge__",kS 8]:=by kernel_rfl
theorem kS0:kS 0=.Assign [.Name "__module__" ⟨6,8,6,18⟩] (.Constant (.str "cpy313.functools") 0 ⟨6,21,6,39⟩) ⟨6,8,6,39⟩:=by kernel_rfl
theorem kS1:kS 1=.Assign [.Name "__slots__" ⟨7,8,7,17⟩] (.List [.Constant (.str "obj") 0 ⟨7,21,7,26⟩] ⟨7,20,7,27⟩) ⟨7,8,7,27⟩:=by kernel_rfl
theorem kS8:kS 8=.Assign [.Name "__hash__" ⟨26,8,26,16⟩] (.Constant .none 0 ⟨26,19,26,23⟩) ⟨26,8,26,23⟩:=by kernel_rfl
noncomputable def Lh(ns ck fr cell:Z)(b:AW):Nx:={scope:=Iq.scope,locals:=ns,globals:=Cc,qual:="cmp_to_key.<locals>.K.",code:=.ref ck,frame:=B fr,builtins:=b,cells:=[("mycmp",cell)]}
section
variable{c:Cx}{A:BQ}{E:AF->AE->Prop}{s:AE}{h0:BJ}{ns ck P fr cell b:AW}{es:Bc DX}
theorem O5(x:BA)(v:AF)(R:(Iq.scope.names.lookup x==B .local)=AO):FC (Lh ns ck fr cell b) x v=dt (Lh ns ck fr cell b) x v:=by
 have h:=by simpa using R
 have C:(Lh ns ck fr cell b).kindOf x=B .local:=h;unfold FC;refine J C rfl
theorem kd(i:Z)(nm:BA)(R:(Iq.scope.names.lookup nm==B .local)=AO):(Uu (Lh ns ck fr cell b) nm nm)="cmp_to_key.<locals>.K."++nm:=by
 have h:=by simpa using R
 have C:(Lh ns ck fr cell b).kindOf nm=B .local:=h;unfold Uu;refine J C rfl
structure Ni(cell:AW)(i:Z)(nm:BA)(Zq:U (BA×AW)):Prop where
pos:(BR "cmp_to_key.<locals>.K.")++nm=dg (dk i).pos.line (dk i).pos.col
clo:∀ns ck fr b,JS (dk i).scope (Lh ns ck fr cell b)=Bz Zq
doc:docOf (dk i).body=AJ
kwo:(dk i).args.kwonlyargs=[]dfl:∀ns ck fr b,defaultsOf (dk i).args (Lh ns ck fr cell b)=([],[])ann:∀ns ck fr b,annotationsOf ((dk i).args.args++(dk i).args.posonlyargs++(dk i).args.vararg.toList++(dk i).args.kwonlyargs++(dk i).args.kwarg.toList) (Lh ns ck fr cell b)=[]nam:(Iq.scope.names.lookup nm==B .local)=AO
theorem fit2(cell:AW):Ni cell 2 "__init__" []:=⟨by kernel_rfl,λM M M M=>by kernel_rfl,by kernel_rfl,by kernel_rfl,λM M M M=>by kernel_rfl,λM M M M=>by kernel_rfl,by kernel_rfl⟩
theorem fit3(cell:AW):Ni cell 3 "__lt__" [("mycmp",cell)]:=⟨by kernel_rfl,λM M M M=>by kernel_rfl,by kernel_rfl,by kernel_rfl,λM M M M=>by kernel_rfl,λM M M M=>by kernel_rfl,by kernel_rfl⟩
theorem fit4(cell:AW):Ni cell 4 "__gt__" [("mycmp",cell)]:=⟨by kernel_rfl,λM M M M=>by kernel_rfl,by kernel_rfl,by kernel_rfl,λM M M M=>by kernel_rfl,λM M M M=>by kernel_rfl,by kernel_rfl⟩
theorem fit5(cell:AW):Ni cell 5 "__eq__" [("mycmp",cell)]:=⟨by kernel_rfl,λM M M M=>by kernel_rfl,by kernel_rfl,by kernel_rfl,λM M M M=>by kernel_rfl,λM M M M=>by kernel_rfl,by kernel_rfl⟩
theorem fit6(cell:AW):Ni cell 6 "__le__" [("mycmp",cell)]:=⟨by kernel_rfl,λM M M M=>by kernel_rfl,by kernel_rfl,by kernel_rfl,λM M M M=>by kernel_rfl,λM M M M=>by kernel_rfl,by kernel_rfl⟩
theorem fit7(cell:AW):Ni cell 7 "__ge__" [("mycmp",cell)]:=⟨by kernel_rfl,λM M M M=>by kernel_rfl,by kernel_rfl,by kernel_rfl,λM M M M=>by kernel_rfl,λM M M M=>by kernel_rfl,by kernel_rfl⟩
theorem PQ{i:Z}{nm:BA}{z:U (BA×AW)}{Q:Flow->AE->Prop}(D:Ni cell i nm z)(K:KB c h0 s ns es ck P)(p:Wf c)(k:Oc c)(W:HA nm es=AD)(he:∀v n h t,IN nm h (.str nm t) v (MP es n)=MP (es.push ⟨h,.str nm t,v⟩) (n+1))(q:∀f C H l t s',KB c h0 s' ns (es.push ⟨l,.str nm t,.ref f⟩) ck P->KS ns s.heap s'.heap->s.heap.get? f=AJ->s'.heap.get? f=B (NE nm ("cmp_to_key.<locals>.K."++nm) (dk i).args (.stmts (dk i).body) (dk i).scope z ((c.mg "__name__").getD .none) C H)->Kr s'.heap C->s'.heap.CodeRec (.ref C) ("cmp_to_key.<locals>.K."++nm)->Q .next s'):Aj (BF c.prog c.w) A (exec (jY i nm) (Lh ns ck fr cell b)) Q E s:=jW K p k rfl (kd i nm D.nam) D.pos (D.clo _ _ _ _) rfl D.doc D.kwo (D.dfl _ _ _ _) (D.ann _ _ _ _) (λv=>O5 nm v D.nam) rfl W he q
end
end
section
noncomputable def Hw(c:Cx)(h0 h:BJ)(i:Z)(nm:BA)(z:U (BA×AW))(f:AW):Prop:=h0.get? f=AJ/\∃C H,h.get? f=B (NE nm ("cmp_to_key.<locals>.K."++nm) (dk i).args (.stmts (dk i).body) (dk i).scope z ((c.mg "__name__").getD .none) C H)/\Kr h C/\h.CodeRec (.ref C) ("cmp_to_key.<locals>.K."++nm)
theorem Hw.keep{c:Cx}{h0 h h':BJ}{i:Z}{nm:BA}{z:U (BA×AW)}{f ns:AW}{es:Bc DX}(x:Hw c h0 h i nm z f)(p:∃n,h.get? ns=B (MP es n))(k:KS ns h h'):Hw c h0 h' i nm z f:=by
 refine Aa x λn G=>Cj G λC H V hi hr=>Aw p λm p=>?_;have Q:f≠ns:=λq=>by rw[q,p]at V;exact(by have W:=Aq Hk (Af V);cases(W))
 have w:C≠ns:=λq=>by refine Cj hi λo S a b d=>?_;rw[q,p]at a;rw[<-Af a]at d;cases(d)
 refine⟨n,C,H,k _ _ V (.inl (F7)) Q,?_⟩;refine Cj hi λo S a b d=>MO hr λg v R t2 j y F=>?_;cases(j);rw[a]at y;replace y:=EY y;induction y using EC;have e:=k _ _ a (.inl (by refine J b F7)) w;exact⟨⟨o,S,e,b,d⟩,_,o,R,t2,rfl,e,F⟩
section
variable{c:Cx}{A:BQ}{E:AF->AE->Prop}{s:AE}{h0:BJ}{ns ck P fr cell b:AW}
theorem fm{f z F:O}{m t1 t2 Y N:Jd}{v0:AF}{Q:Flow->AE->Prop}(K:KB c h0 s ns #[⟨f,.str "__module__" m,v0⟩,⟨z,.str "__qualname__" t1,.str "cmp_to_key.<locals>.K" Y⟩,⟨F,.str "__firstlineno__" t2,.int 5 N⟩] ck P)(p:Wf c)(k:Oc c)(q:∀(s':AE)(L u:Jd)(w y a g l x S wg:O)(t3 t4 t5 t6 t7 t8 t9 I:Jd)(sl j W f6 f7 f8 f9:AW),KB c h0 s' ns #[⟨f,.str "__module__" m,.str "cpy313.functools" L⟩,⟨z,.str "__qualname__" t1,.str "cmp_to_key.<locals>.K" Y⟩,⟨F,.str "__firstlineno__" t2,.int 5 N⟩,⟨w,.str "__slots__" t3,.ref sl⟩,⟨y,.str "__init__" t4,.ref j⟩,⟨a,.str "__lt__" t5,.ref W⟩,⟨g,.str "__gt__" t6,.ref f6⟩,⟨l,.str "__eq__" t7,.ref f7⟩,⟨x,.str "__le__" t8,.ref f8⟩,⟨S,.str "__ge__" t9,.ref f9⟩,⟨wg,.str "__hash__" I,.none⟩] ck P->KS ns s.heap s'.heap->h0.get? sl=AJ->s'.heap.get? sl=B {cls:=.type "list",dict:=AJ,data:=.seq #[.str "obj" u] 0,slots:=#[]}->Hw c h0 s'.heap 2 "__init__" [] j->Hw c h0 s'.heap 3 "__lt__" [("mycmp",cell)] W->Hw c h0 s'.heap 4 "__gt__" [("mycmp",cell)] f6->Hw c h0 s'.heap 5 "__eq__" [("mycmp",cell)] f7->Hw c h0 s'.heap 6 "__le__" [("mycmp",cell)] f8->Hw c h0 s'.heap 7 "__ge__" [("mycmp",cell)] f9->Q .next s'):Aj (BF c.prog c.w) A (execs Iq.body (Lh ns ck fr cell b)) Q E s:=by
 refine J cL (J kS0 (J kS1 (J kS8 (CH (EF (FA ?_) rfl)))));have X:=K.keep (Kp.tok s (BH s.toks));refine J6 X 0 (O5 _ _ (by kernel_rfl)) rfl (by kernel_rfl) (es':=λM M=>#[⟨f,.str "__module__" m,.str "cpy313.functools" s.toks⟩,⟨z,.str "__qualname__" t1,.str "cmp_to_key.<locals>.K" Y⟩,⟨F,.str "__firstlineno__" t2,.int 5 N⟩]) (λn h t=>by kernel_rfl) λM M r K2 H=>?_;have wj:KS ns s.heap r.heap:=H;refine CH (EF (Q9 (Fl (FA (GI ⟨by simp[Ay],?_⟩)) rfl)) rfl);have wh:Kp r {r with heap:=r.heap.push {cls:=.type "list",dict:=AJ,data:=.seq #[.str "obj" r.toks] 0,slots:=#[]},toks:=r.toks+1}:=⟨⟨_,_,rfl,λb o e=>AR _ e⟩,BH _⟩;have K3:=K2.keep wh;have n3:=K2.gr.none (by
cases e:r.heap.get? r.heap.objs.size with|none=>rfl|some o=>exact B8 (Bg e) (CI _));have e3:(r.heap.push {cls:=.type "list",dict:=AJ,data:=.seq #[.str "obj" r.toks] 0,slots:=#[]}).get? r.heap.objs.size=B {cls:=.type "list",dict:=AJ,data:=.seq #[.str "obj" r.toks] 0,slots:=#[]}:=Ag _ rfl;have d:r.heap.objs.size≠ns:=λq=>B8 (K2.obj.elim λn e=>q▸Bg e) (CI _);generalize D:r.heap.objs.size=sl at n3 e3 d;refine J6 K3 1 (O5 _ _ (by kernel_rfl)) rfl (by kernel_rfl) (es':=λh t=>#[⟨f,.str "__module__" m,.str "cpy313.functools" s.toks⟩,⟨z,.str "__qualname__" t1,.str "cmp_to_key.<locals>.K" Y⟩,⟨F,.str "__firstlineno__" t2,.int 5 N⟩,⟨h,.str "__slots__" t,.ref r.heap.objs.size⟩]) (λn h t=>by kernel_rfl) λw t3 s4 K4 k4=>?_;have G:=k4 _ _ e3 (.inl (F7)) d;have wl:=(wj.trans (KS.grow (B4 (hB:=c.hB) wh))).trans k4;refine CH (PQ (fit2 cell) K4 p k (by kernel_rfl) (λv n h t=>by kernel_rfl) λj c4 wm y t4 s5 K5 k5 n5 o5 i5 r5=>?_);have R:Hw c h0 s5.heap 2 "__init__" [] j:=⟨K4.gr.none n5,c4,wm,o5,i5,r5⟩;have e5:=k5 _ _ G (.inl (F7)) d;have wn:=wl.trans k5;refine CH (PQ (fit3 cell) K5 p k (by kernel_rfl) (λv n h t=>by kernel_rfl) λW c5 wo a t5 s6 K6 k6 n6 o6 i6 r6=>?_);have M5:Hw c h0 s6.heap 3 "__lt__" [("mycmp",cell)] W:=⟨K5.gr.none n6,c5,wo,o6,i6,r6⟩;have e6:=k6 _ _ e5 (.inl (F7)) d;have wq:=wn.trans k6;replace R:=R.keep K5.obj k6;refine CH (PQ (fit4 cell) K6 p k (by kernel_rfl) (λv n h t=>by kernel_rfl) λf6 c6 wr g t6 s7 K7 k7 n7 o7 i7 r7=>?_);have M6:Hw c h0 s7.heap 4 "__gt__" [("mycmp",cell)] f6:=⟨K6.gr.none n7,c6,wr,o7,i7,r7⟩;have e7:=k7 _ _ e6 (.inl (F7)) d;have wt:=wq.trans k7;replace R:=R.keep K6.obj k7;replace M5:=M5.keep K6.obj k7;refine CH (PQ (fit5 cell) K7 p k (by kernel_rfl) (λv n h t=>by kernel_rfl) λf7 c7 wu l t7 s8 K8 k8 n8 o8 i8 r8=>?_);have M7:Hw c h0 s8.heap 5 "__eq__" [("mycmp",cell)] f7:=⟨K7.gr.none n8,c7,wu,o8,i8,r8⟩;have e8:=k8 _ _ e7 (.inl (F7)) d;have wv:=wt.trans k8;replace R:=R.keep K7.obj k8;replace M5:=M5.keep K7.obj k8;replace M6:=M6.keep K7.obj k8;refine CH (PQ (fit6 cell) K8 p k (by kernel_rfl) (λv n h t=>by kernel_rfl) λf8 c8 wx x t8 T K9 k9 n9 o9 i9 r9=>?_);have M8:Hw c h0 T.heap 6 "__le__" [("mycmp",cell)] f8:=⟨K8.gr.none n9,c8,wx,o9,i9,r9⟩;have e9:=k9 _ _ e8 (.inl (F7)) d;have wy:=wv.trans k9;replace R:=R.keep K8.obj k9;replace M5:=M5.keep K8.obj k9;replace M6:=M6.keep K8.obj k9;replace M7:=M7.keep K8.obj k9;refine CH (PQ (fit7 cell) K9 p k (by kernel_rfl) (λv n h t=>by kernel_rfl) λf9 c9 wz S t9 x8 V C x9 xA xB xC=>?_);have M9:Hw c h0 x8.heap 7 "__ge__" [("mycmp",cell)] f9:=⟨K9.gr.none x9,c9,wz,xA,xB,xC⟩;have xD:=C _ _ e9 (.inl (F7)) d;have wi:=wy.trans C;replace R:=R.keep K9.obj C;replace M5:=M5.keep K9.obj C;replace M6:=M6.keep K9.obj C;replace M7:=M7.keep K9.obj C;replace M8:=M8.keep K9.obj C;refine CH (EF (wpAny_Constant_none ?_) rfl);refine J6 V 1 (O5 _ _ (by kernel_rfl)) rfl (by kernel_rfl) (es':=λh t=>#[⟨f,.str "__module__" m,.str "cpy313.functools" s.toks⟩,⟨z,.str "__qualname__" t1,.str "cmp_to_key.<locals>.K" Y⟩,⟨F,.str "__firstlineno__" t2,.int 5 N⟩,⟨w,.str "__slots__" t3,.ref sl⟩,⟨y,.str "__init__" t4,.ref j⟩,⟨a,.str "__lt__" t5,.ref W⟩,⟨g,.str "__gt__" t6,.ref f6⟩,⟨l,.str "__eq__" t7,.ref f7⟩,⟨x,.str "__le__" t8,.ref f8⟩,⟨S,.str "__ge__" t9,.ref f9⟩,⟨h,.str "__hash__" t,.none⟩]) (λn h t=>by kernel_rfl) λwg I xE xF i=>Ez (q xE _ _ _ _ _ _ _ _ _ _ _ _ _ _ _ _ _ _ _ _ _ _ _ _ _ xF (wi.trans i) n3 (i _ _ xD (.inl (F7)) d) (R.keep V.obj i) (M5.keep V.obj i) (M6.keep V.obj i) (M7.keep V.obj i) (M8.keep V.obj i) (M9.keep V.obj i))
end
end
section
section
variable{c:Cx}{A:BQ}{E:AF->AE->Prop}{s:AE}
theorem QN(pos:EQ)(c:AF)(l:U AF)(h:Ye l)(V:Ep pos l=AJ):Ep pos (l++[BI pos.line,BI pos.col,c])=B c:=by
 refine J (KA _ _ _ _ h) (J V ?_);simp
theorem ae{env:Nx}{pos:EQ}{L:Z}{name:BA}{scope:Cw}{Q:AF->AE->Prop}(f:env.code=.ref 37)(j:St c s)(h:∀ck P s',St c s'->Bk c.hB s.heap s'.heap->(∃ps,Ja c.hB s'.heap ck P dg ps)->P≠33->P≠73->P≠144->Kr s'.heap ck->s'.heap.CodeRec (.ref ck) "cmp_to_key.<locals>.K"->Q (.ref ck) s'):Aj (BF c.prog c.w) A (classCode env pos L name "cmp_to_key.<locals>.K" scope) Q E s:=by
 refine AI j.tabs.key λps t T=>?_;have hC:=t.hd.code t.tab t.ok;refine bb (id hC) λo S wv tf wq tg wx u tt op ho hd wr C k h9 X W wt wy wz=>?_;unfold classCode codeAt;refine J f (J (Ab (show¬((HD 37==IL)=AO)from Qj)) (AB (dp ho hd ?_)));refine J wr (AB (dp W wt ?_));cases V:Ep pos ps.toList with|some cv=>refine CF (t.recs pos cv V) λck wu i r=>?_;subst wu;refine Au (T pos ck V) λP m t' n=>AH (h ck P s j (.refl _ _) ⟨m,t'⟩ n.1 n.2.1 n.2.2 i r)|none=>
refine J C (J k (J h9 (J X (AB (Ad (CM (wpAny_newCodeX (Q:=λv s'=>∃ck P h' tk,v=.ref ck/\s'={s with heap:=h',toks:=tk}/\(∀b o,s.heap.get? b=B o->h'.get? b=B o)/\s.heap.objs.size<=ck/\s.heap.objs.size<=P/\h'.IsCode ck P #[]/\h'.TableAt ck P #[]/\h'.CodeRec (.ref ck) "cmp_to_key.<locals>.K") λck P h' tk R z F w y a=>⟨ck,P,h',tk,rfl,rfl,R,z,F,w,y,a⟩)) (λv s' H=>?_) λM M x=>x.2)))));refine Aa H λht G=>?_;clear H;refine jG G λck P h' tk e e' R z F w y a=>?_;clear G;subst e e';have wl:=Af (W.symm.trans t.tab);subst wl;have wg:=R _ _ W;have wh:=Bg W;have wm:=DR (AY wh z);have wj:=DR (AY wh F);refine AB (wpAny_updateFieldsOfTheText wg rfl ?_);have D:EH 33 h' (h'.update 33 λo=>Nv (λS=>if(Ep pos S.toList).isSome=AO then S else S++#[BI pos.line,BI pos.col,.ref ck]) o):=(Lu ..).extBut;have wn:Nv (λS=>if(Ep pos S.toList).isSome=AO then S else S++#[BI pos.line,BI pos.col,.ref ck]) (NM ps)=NM (ps++#[BI pos.line,BI pos.col,.ref ck]):=by
 simp only[Nv,V];rfl
have l:=Ca (λo=>Nv (λS=>if(Ep pos S.toList).isSome=AO then S else S++#[BI pos.line,BI pos.col,.ref ck]) o) wg (by rfl);rw[wn]at l;generalize(h'.update 33 λo=>Nv (λS=>if(Ep pos S.toList).isSome=AO then S else S++#[BI pos.line,BI pos.col,.ref ck]) o)=C at D l⊢;refine AB (dp l rfl ?_);refine J (show(ps++#[BI pos.line,BI pos.col,HD ck]).toList=ps.toList++[BI pos.line,BI pos.col,.ref ck]by simp) (J (QN _ _ _ t.ok V) ?_);have K:EH 33 s.heap C:=λb o n e=>D b o n (R b o e);have hi:Kr C ck:=by
 refine Aa y λd M=>Dg d λo S e1 I e3 M=>Fs o S (D _ _ wm e1) I e3
have hr:=CodeRec.but a wm D;have t2:=t.more V K l hi hr rfl;have hP:=j.grow.none (by
 cases e:s.heap.get? P with|none=>rfl|some o=>exact B8 (Bg e) (Jm F));have t3:Ja c.hB C ck P dg #[]:={hd:=CodeHd.but (CodeHd.of w y) wg rfl D,tab:=D _ _ wj y.2,ok:=Bl,is:=.inl hP,recs:=λpos cv e=>Eb e};refine Aw j.tabs.tr λq1 Y=>Aw j.tabs.law λq2 N=>?_;have wo:P≠73:=λq=>B8 (Bg Y.tab) (Jm (q▸F));have wi:P≠144:=λq=>B8 (Bg N.tab) (Jm (q▸F));have g:=RP t.is t.tab l K;refine AH (h ck P _ ⟨j.grow.trans g,j.os,j.bare,⟨⟨_,t2,λp c2 e=>?_⟩,⟨q1,Y.but (by decide) t.tab rfl K⟩,⟨q2,N.but (by decide) t.tab rfl K⟩⟩,AA j.toks ht⟩ g ⟨#[],t3⟩ wj wo wi hi hr);rw[show(ps++#[BI pos.line,BI pos.col,HD ck]).toList=ps.toList++[BI pos.line,BI pos.col,.ref ck]by simp,KA _ _ _ _ t.ok]at e;cases hp:Ep p ps.toList with|some v=>rw[hp]at e;refine Dg (T p c2 (by refine J hp e)) λP' m t' n1 n2 n3=>Dm P' m (t'.but n1 t.tab rfl K) n1 n2 n3|none=>
 rw[hp]at e;dsimp only at e;split at e;·replace e:=EY e;cases(e);exact Dm P (#[]) t3 wj wo wi
 ·exact Eb e
end
end
section
open PySem.W.X PySem.W.XRun
structure nT(v:AF)(chg news:U (AW×Gq)):Prop where
len:news.length=1
chg:chg=[]val:v=.ref (nA news 0)obj:nO news 0={cls:=.type "builtin_function_or_method",dict:=AJ,data:=.fields #[.builtin "type.__prepare__",.type "type"],slots:=#[]}
theorem Yx{prog:DH}{w:Em}{A:BQ}{s:AE}{Q E:AF->AE->Prop}{t:Jd}(S:A.handled=AJ)(Y:XQ nT s Q):Aj (BF prog w) A (Hi (.builtin "type.__getattribute__") [.type "type",.str "__prepare__" t]) Q E s:=by
 x_run
structure PNs(v:AF)(chg news:U (AW×Gq)):Prop where
len:news.length=1
chg:chg=[]val:v=.ref (nA news 0)obj:nO news 0={cls:=.type "dict",dict:=AJ,data:=.dict #[] 0,slots:=#[]}
theorem Wb{prog:DH}{w:Em}{A:BQ}{s:AE}{Q E:AF->AE->Prop}{u bt:Z}{t:Jd}(S:A.handled=AJ)(i:s.heap.get? u=B {cls:=.type "builtin_function_or_method",dict:=AJ,data:=.fields #[.builtin "type.__prepare__",.type "type"],slots:=#[]})(Y:XQ PNs s Q):Aj (BF prog w) A (Hi (.ref u) [.str "K" t,.ref bt]) Q E s:=by
 x_run
theorem O7:Slot "type" "__getattribute__" "type.__getattribute__":=.of (owner:="type") (n:="__getattribute__") (by refine J (CB _ _) (J BP ?_);kernel_rfl) (by decide+kernel) (by decide+kernel) (by decide+kernel) (by first|exact .inl (by decide+kernel)|exact .inr (by decide+kernel)) (by refine J (Ek _ _) ?_;kernel_rfl)
theorem cV{prog:DH}{w:Em}{A:BQ}{s:AE}{Q:AX AF->AE->Prop}{E:AF->AE->Prop}(S:A.handled=AJ)(Y:∀u s',LK s s'->FF s.heap s'.heap [] [(u,{cls:=.type "builtin_function_or_method",dict:=AJ,data:=.fields #[.builtin "type.__prepare__",.type "type"],slots:=#[]})]->Q (B (.ref u)) s'):Aj (BF prog w) A (getAttr? (.type "type") "__prepare__") Q E s:=by
 have H:Us (.type "type")=Bz (.type "type"):=by kernel_rfl
 have F:=O7.lookup;have j:=O7.bind (.type "type");have c:hookBefore (.type "type")=Bz AJ:=by kernel_rfl
 unfold getAttr? getAttrBy? getAttrBy getAttrByItsOwn callGetattribute;refine J H ?_;repeat(any_goals(first|assumption|((fail_if_success(refine(?_:Aj _ _ (Hi _ _ _) _ _ _)));(fail_if_success(refine(?_:Aj _ _ (hookBefore _) _ _ _)));wp_step)|((refine(?_:Aj _ _ (hookBefore _) _ _ _));refine BB c ?_)))
 refine(?_:Aj _ A (Hi (.builtin "type.__getattribute__") [.type "type",.str (BR "__prepare__") s.toks]) _ _ _);refine Yx S λv h' tk chg news D P=>?_;have e:=P.val;subst e;refine(?_:Aj _ A (handedOut (.ref _)) _ _ _);have g:=P.len;refine Aw (JE.mp g) λp z=>?_;subst z;have f:=P.chg;subst f;have ho:=P.obj;rcases p with⟨d,b⟩;have :b=_:=ho;subst this;exact AH (AH (Y _ _ (LK.both s h' tk) D))
end
noncomputable def mS:AF->AW|.ref a=>a|_=>0
theorem Iy:Slot "super" "__getattribute__" "super.__getattribute__":=.of (owner:="super") (n:="__getattribute__") (by kernel_rfl) (by rfl) (by rfl) (by rfl) (by first|exact .inl (by rfl)|exact .inr (by decide+kernel)) (by kernel_rfl)
theorem RX:SA oR "super.__getattribute__"=B Builtin.«super.__getattribute__»:=HC (by kernel_rfl)
theorem Sq(a b:AF):Yb "super.__getattribute__" ⟨[a,b],[]⟩:=by kernel_rfl
theorem SV:ED (.type "super") "__getattr__"=Bz AJ:=by kernel_rfl
theorem Wg{prog:DH}{w:Em}{A:BQ}{s:AE}{Q:aC->AE->Prop}{E:AF->AE->Prop}{k ns bt u:Z}{N a t:Jd}(S:A.handled=AJ)(R:s.heap.get? k=B {cls:=.type "type",dict:=AJ,data:=.cls {name:="K",bases:=[.type "object"],mro:=[.ref k,.type "object"],ns:=ns,qualname:="cmp_to_key.<locals>.K",hasDict:=AD,slotNames:=["obj"]},slots:=#[B (.ref bt),AJ,B (.str "K" N),B (.str "cmp_to_key.<locals>.K" a),B (.builtin "object.__new__"),B (.bool AD)]})(i:s.heap.get? u=B {cls:=.type "super",dict:=AJ,data:=.fields #[.ref k,.ref k,.ref k],slots:=#[]})(W:∀C:BC->AE->Prop,C AD s->Aj (BF prog w) A Hj C E s)(Y:XQ (dL k) s λv s'=>Q (.done (.ret v)) s'):Aj (BF prog w) A (Builtin.«super.__getattribute__» ⟨[.ref u,.str "__init_subclass__" t],[]⟩) Q E s:=by
 unfold Builtin.«super.__getattribute__»;have H:Us (.builtin "object.__init_subclass__")=Bz (.type "classmethod_descriptor"):=by kernel_rfl
 have q:ED (.type "classmethod_descriptor") (BR "__get__")=Bz (B (.builtin "classmethod_descriptor.__get__")):=by refine J (CB _ _) (J BP ?_);kernel_rfl
 repeat(any_goals(first|assumption|((refine(?_:Aj _ _ Hj _ _ _));refine W _ ?_)|((fail_if_success(show Aj _ _ (WY _ _ _) _ _ _));wp_step)))
 dsimp only;generalize K:aE 1 (U.dropWhile _ _)=L;obtain rfl:L=[DZ "object"]:=by refine CS K ?_;simp
 rewrite[DJ];refine AB (AB (BB (a:=B (.builtin "object.__init_subclass__")) (by kernel_rfl) ?_));refine AB (BB H (AB (BB q ?_)));refine AB (Co ?_);refine J (Ap (by simp)) (et S R λv h' tk chg news D P=>AB (AH (AH ?_)));exact AH (AH (Y v h' tk chg news D P))
theorem Vr{prog:DH}{w:Em}{A:BQ}{s:AE}{Q E:AF->AE->Prop}{k ns bt u:Z}{N a:Jd}(S:A.handled=AJ)(R:s.heap.get? k=B {cls:=.type "type",dict:=AJ,data:=.cls {name:="K",bases:=[.type "object"],mro:=[.ref k,.type "object"],ns:=ns,qualname:="cmp_to_key.<locals>.K",hasDict:=AD,slotNames:=["obj"]},slots:=#[B (.ref bt),AJ,B (.str "K" N),B (.str "cmp_to_key.<locals>.K" a),B (.builtin "object.__new__"),B (.bool AD)]})(i:s.heap.get? u=B {cls:=.type "super",dict:=AJ,data:=.fields #[.ref k,.ref k,.ref k],slots:=#[]})(W:∀(F:BQ)(l:AF->AE->Prop)(s':AE)(C:BC->AE->Prop),s'.heap=s.heap->C AD s'->Aj (BF prog w) F Hj C l s')(Y:∀v s',LK s s'->FF s.heap s'.heap [] [(mS v,{cls:=.type "builtin_function_or_method",dict:=AJ,data:=.fields #[.builtin "object.__init_subclass__",.ref k],slots:=#[]})]->v=.ref (mS v)->Q v s'):Aj (BF prog w) A (dR (.ref u) "__init_subclass__") Q E s:=by
 have V:∀t,({s with toks:=t}:AE).TypeIs (.ref u) "super":=λM=>⟨_,i,rfl⟩;have c:s.TypeIs (.ref u) "super":=⟨_,i,rfl⟩;have h:=Iy.lookup;have j:=Iy.bind (.ref u);have m:=SV;unfold dR getAttrBy;repeat(any_goals(first|assumption|exact V _|((fail_if_success(refine(?_:Aj _ _ (Hi _ _ _) _ _ _)));wp_step)))
 refine(?_:Aj _ A (Hi (.builtin "super.__getattribute__") [.ref u,.str (BR "__init_subclass__") s.toks]) _ _ _);refine Gm (FN Iy.plain RX (Iy.check _ _ _ _ _ _ _ _ (V _) (Sq _ _) ?_));refine Wg S R i (λC q=>W _ _ _ _ rfl q) λv h' tk chg news D P=>?_;have e:=P.val;subst e;refine(?_:Aj _ A (handedOut (.ref _)) _ _ _);refine AH (Y _ _ (LK.both s h' tk) ?_ rfl);· have g:=P.len;refine Aw (JE.mp g) λp z=>?_;subst z;have f:=P.chg;subst f;have ho:=P.obj;rcases p with⟨d,b⟩;have :b=_:=ho;subst this;exact D
theorem cS{prog:DH}{w:Em}{A:BQ}{s:AE}{Q:LL->AE->Prop}{E:AF->AE->Prop}{k ns bt:Z}{N a:Jd}(S:A.handled=AJ)(R:s.heap.get? k=B {cls:=.type "type",dict:=AJ,data:=.cls {name:="K",bases:=[.type "object"],mro:=[.ref k,.type "object"],ns:=ns,qualname:="cmp_to_key.<locals>.K",hasDict:=AD,slotNames:=["obj"]},slots:=#[B (.ref bt),AJ,B (.str "K" N),B (.str "cmp_to_key.<locals>.K" a),B (.builtin "object.__new__"),B (.bool AD)]})(W:∀(F:BQ)(l:AF->AE->Prop)(s':AE)(C:BC->AE->Prop),(∀b o,s.heap.get? b=B o->s'.heap.get? b=B o)->C AD s'->Aj (BF prog w) F Hj C l s')(q:∀s',LK s s'->(∀b o,s.heap.get? b=B o->s'.heap.get? b=B o)->Q () s'):Aj (BF prog w) A (do let d<-Hi (.type "super") [.ref k,.ref k];let f<-kb [d] (dR d "__init_subclass__");let _<-Hi f [];Bz ()) Q E s:=by
 have L:∀{h h':BJ}{news:U (AW×Gq)},FF h h' [] news->∀b o,h.get? b=B o->h'.get? b=B o:=λD b o e=>D.keep b o e (by refine J (FI _ _) (.inr rfl));refine AB (eq (m:=.none) S R λv h' tk chg news D P=>?_);have e:=P.chg;subst e;have e:=P.val;refine J e ?_;have i:=ma D P.len 0 (by decide);rw[P.obj]at i;refine AB (Co (Vr S (L D _ _ R) i (λF l s' C e y=>W F l s' C (λb o u=>by refine J e (L D _ _ u)) y) λp r H c I=>?_));refine J I (AB (Yw (m:=.none) S (L c _ _ (L D _ _ R)) (c.at 0 _ _ rfl) λt T g n j m P3=>?_));have e:=P3.chg;clear P3;subst e;exact AH (q _ ((LK.both s h' tk).trans (H.trans (LK.both r T g))) λb o u=>L m _ _ (L c _ _ (L D _ _ u)))
section
theorem Kp.Wz{s s':AE}(k:LK s s')(R:∀b o,s.heap.get? b=B o->s'.heap.get? b=B o)(i:s.toks<=s'.toks):Kp s s':=by
 rcases s with⟨h,g,d,t,os⟩;rcases s' with⟨h',u,w,n,c⟩;rcases k with⟨a,b,e⟩;dsimp only at a b e;subst a b e;exact⟨⟨h',n,rfl,R⟩,i⟩
theorem VZ{h0 h:BJ}{news:U (AW×Gq)}(D:FF h0 h [] news)(b:AW)(o:Gq)(e:h0.get? b=B o):h.get? b=B o:=D.keep b o e (by refine J (FI _ _) (.inr rfl))
section
variable{prog:DH}{w:Em}{A:BQ}{s:AE}{E:AF->AE->Prop}
theorem ff{Q:AX AF->AE->Prop}(S:A.handled=AJ)(Y:∀u s',Kp s s'->s'.heap.get? u=B {cls:=.type "builtin_function_or_method",dict:=AJ,data:=.fields #[.builtin "type.__prepare__",.type "type"],slots:=#[]}->Q (B (.ref u)) s'):Aj (BF prog w) A (getAttr? (.type "type") "__prepare__") Q E s:=by
 refine Ad (CM (Q:=λv s'=>∃u,v=B (.ref u)/\LK s s'/\FF s.heap s'.heap [] [(u,{cls:=.type "builtin_function_or_method",dict:=AJ,data:=.fields #[.builtin "type.__prepare__",.type "type"],slots:=#[]})]) (cV S λu s' k D=>⟨u,rfl,k,D⟩)) (λv s' H=>?_) λM M x=>x.2;refine Aa H λi G=>?_;clear H;refine CF G λu e k D=>?_;clear G;subst e;exact Y u s' (.Wz k (λb o a=>VZ D _ _ a) i) (D.at 0 _ _ rfl)
theorem fj{Q:AF->AE->Prop}{u bt:AW}{t:Jd}(S:A.handled=AJ)(a:s.heap.get? u=B {cls:=.type "builtin_function_or_method",dict:=AJ,data:=.fields #[.builtin "type.__prepare__",.type "type"],slots:=#[]})(Y:∀ns s',Kp s s'->s.heap.get? ns=AJ->s'.heap.get? ns=B (MP #[] 0)->Q (.ref ns) s'):Aj (BF prog w) A (Hi (.ref u) [.str "K" t,.ref bt]) Q E s:=by
 refine Ad (CM (Q:=λv s'=>∃h' tk news,s'={s with heap:=h',toks:=tk}/\FF s.heap h' [] news/\PNs v [] news) (Wb S a λv h' tk chg news D P=>by
have f:=P.chg;subst f;exact bp h' tk news rfl D P)) (λv s' H=>?_) λM M x=>x.2;refine Aa H λi G=>?_;clear H;refine Na G λh' tk news e D P=>?_;clear G;have I:=P.val;subst e I;refine Y _ _ (.Wz (LK.both s h' tk) (λb o c=>VZ D _ _ c) i) (gu D P.len 0 (by decide)) ?_;have :=ma D P.len 0 (by decide);rw[P.obj]at this;exact this
end
end
section
section
variable{c:Cx}{A:BQ}{E:AF->AE->Prop}{s:AE}{h0:BJ}{ns ck P fr cell:AW}
theorem Wi(x:BA)(v:AF)(b:AW)(R:Iq.scope.names.lookup x=AJ)(f:compilersOwnNames.contains x=AO):FC (Lh ns ck fr cell b) x v=dt (Lh ns ck fr cell b) x v:=by
 have C:(Lh ns ck fr cell b).kindOf x=AJ:=R;unfold FC;refine J C (J f ?_);rfl
theorem fk{i:BA}{L:Jd}{Q:AF->AE->Prop}(K:KB c h0 s ns #[] ck P)(p:Wf c)(W:c.mg "__name__"=B (.str i L))(q:Q (.str i L) s):Aj (BF c.prog c.w) A (oU (Lh ns ck fr cell CU) "__name__") Q E s:=by
 have C:(Lh ns ck fr cell CU).kindOf "__name__"=AJ:=by kernel_rfl
 have hg:=Ns.grow K.st.grow p.g;refine Aw K.obj λn a=>?_;unfold oU;refine Dr (by kernel_rfl) (Dr (by kernel_rfl) (AB (AB (Gl a ?_))));refine LM (by rfl) (Gi a (by rfl) (AB (Nk hg ?_)));refine J W (AH q)
theorem cJ{i:BA}{L:Jd}{Q:LL->AE->Prop}(K:KB c h0 s ns #[] ck P)(p:Wf c)(W:c.mg "__name__"=B (.str i L))(q:∀f z F m t1 t2 Y N s',KB c h0 s' ns #[⟨f,.str "__module__" m,.str i L⟩,⟨z,.str "__qualname__" t1,.str "cmp_to_key.<locals>.K" Y⟩,⟨F,.str "__firstlineno__" t2,.int 5 N⟩] ck P->KS ns s.heap s'.heap->Q () s'):Aj (BF c.prog c.w) A (do FC (Lh ns ck fr cell CU) "__module__" (<-oU (Lh ns ck fr cell CU) "__name__")FC (Lh ns ck fr cell CU) "__qualname__" (<-mkText "cmp_to_key.<locals>.K")FC (Lh ns ck fr cell CU) "__firstlineno__" (<-mkInt (5:Z))Bz ():Sem LL) Q E s:=by
 refine AB (fk K p W ?_);refine AB (J6 K 1 (O5 _ _ (by kernel_rfl)) rfl (by kernel_rfl) (es':=λh t=>#[⟨h,.str "__module__" t,.str i L⟩]) (λn h t=>by kernel_rfl) λf m j X a=>?_);refine AB (Q7 ?_);have D:=X.keep (Kp.tok j (BH j.toks));refine AB (J6 D 1 (Wi _ _ _ (by kernel_rfl) (by kernel_rfl)) rfl (by kernel_rfl) (es':=λh t=>#[⟨f,.str "__module__" m,.str i L⟩,⟨h,.str "__qualname__" t,.str "cmp_to_key.<locals>.K" j.toks⟩]) (λn h t=>by kernel_rfl) λz t1 g o e=>?_);refine AB (oO ?_);have d:=o.keep (Kp.tok g (BH g.toks));refine AB (J6 d 1 (Wi _ _ _ (by kernel_rfl) (by kernel_rfl)) rfl (by kernel_rfl) (es':=λh t=>#[⟨f,.str "__module__" m,.str i L⟩,⟨z,.str "__qualname__" t1,.str "cmp_to_key.<locals>.K" j.toks⟩,⟨h,.str "__firstlineno__" t,.int 5 g.toks⟩]) (λn h t=>by kernel_rfl) λF t2 k b l=>?_);exact AH<|q f z F m t1 t2 j.toks g.toks k b ((a.trans e).trans l)
end
end
theorem q_eq{X:Type}{Q:X->AE->Prop}{a b:X}{s:AE}(h:Q a s)(e:a=b):Q b s:=e▸h
theorem Wj{prog:DH}{w:Em}{A:BQ}{E:AF->AE->Prop}{s:AE}{Q:Builtin.Slots.Plan->AE->Prop}{sl:Z}{h0 W C T F y P h7 K M X h:O}{m t1 t2 a t4 p G v H t9 I l:Jd}{i:BA}{L N:Jd}{j f5 c e f g wg:Z}{q1 u:Jd}(D:s.heap.get? sl=B {cls:=.type "list",dict:=AJ,data:=.seq #[.str "obj" u] 0,slots:=#[]})(q:∀s',LK s s'->(∀b o,s.heap.get? b=B o->s'.heap.get? b=B o)->Q {names:=["obj"],dict:=AD,weak:=AD,inherited:=[]} s'):Aj (BF prog w) A (Ux "K" [.type "object"] #[⟨h0,.str "__module__" m,.str i L⟩,⟨W,.str "__qualname__" t1,.str "cmp_to_key.<locals>.K" q1⟩,⟨C,.str "__firstlineno__" t2,.int 5 N⟩,⟨T,.str "__slots__" a,.ref sl⟩,⟨F,.str "__init__" t4,.ref j⟩,⟨y,.str "__lt__" p,.ref f5⟩,⟨P,.str "__gt__" G,.ref c⟩,⟨h7,.str "__eq__" v,.ref e⟩,⟨K,.str "__le__" H,.ref f⟩,⟨M,.str "__ge__" t9,.ref g⟩,⟨X,.str "__hash__" I,.none⟩,⟨h,.str "__static_attributes__" l,.ref wg⟩]) Q E s:=by
 have r:Builtin.Slots.bestBase [.type "object"]=Bz (.type "object"):=by kernel_rfl
 have R:Builtin.Slots.slotNamesOf (.type "object")=Bz []:=by kernel_rfl
 have t:Builtin.Slots.givesDict (.type "object")=Bz AD:=by kernel_rfl
 have Y:Ol (.type "object")=Bz AD:=by kernel_rfl
 have S:nd (.type "object")=Bz AD:=by kernel_rfl
 unfold Ux;refine AB (BB r (AB (BB R (AB (BB t (AB (BB Y (AB (BB S ?_)))))))));have V:Bc.find? (λx:DX=>x.key.isStr "__slots__") #[⟨h0,.str "__module__" m,.str i L⟩,⟨W,.str "__qualname__" t1,.str "cmp_to_key.<locals>.K" q1⟩,⟨C,.str "__firstlineno__" t2,.int 5 N⟩,⟨T,.str "__slots__" a,.ref sl⟩,⟨F,.str "__init__" t4,.ref j⟩,⟨y,.str "__lt__" p,.ref f5⟩,⟨P,.str "__gt__" G,.ref c⟩,⟨h7,.str "__eq__" v,.ref e⟩,⟨K,.str "__le__" H,.ref f⟩,⟨M,.str "__ge__" t9,.ref g⟩,⟨X,.str "__hash__" I,.none⟩,⟨h,.str "__static_attributes__" l,.ref wg⟩]=B ⟨T,.str "__slots__" a,.ref sl⟩:=by kernel_rfl
 refine J V ?_;dsimp only;refine AB (IJ ?_);have e1:Mi (DZ "list") (DZ "str")=Bz AD:=by refine J (Ek _ _) ?_;kernel_rfl
 have hT:s.TypeIs (.ref sl) "list":=⟨_,D,rfl⟩;repeat(any_goals(first|assumption|((refine(?_:Aj _ _ (collect _) _ _ _));refine wpAny_collect_seq sl (.inl rfl) D rfl rfl (λh' k=>?_))|((refine(?_:Aj _ _ (nd _) _ _ _));refine BB S ?_)|wp_step))
 have i1:Builtin.Slots.isIdentifier (BR "obj")=B AO:=by kernel_rfl
 have b1:(BR "obj"==BR "__dict__")=AD:=by kernel_rfl
 have d:(BR "obj"==BR "__weakref__")=AD:=by kernel_rfl
 have b3:(BR "obj"==BR "__del__")=AD:=by kernel_rfl
 have n:Builtin.Slots.mangle (BR "K") (BR "obj")=BR "obj":=by kernel_rfl
 have z:Bc.any #[⟨h0,.str "__module__" m,.str i L⟩,⟨W,.str "__qualname__" t1,.str "cmp_to_key.<locals>.K" q1⟩,⟨C,.str "__firstlineno__" t2,.int 5 N⟩,⟨T,.str "__slots__" a,.ref sl⟩,⟨F,.str "__init__" t4,.ref j⟩,⟨y,.str "__lt__" p,.ref f5⟩,⟨P,.str "__gt__" G,.ref c⟩,⟨h7,.str "__eq__" v,.ref e⟩,⟨K,.str "__le__" H,.ref f⟩,⟨M,.str "__ge__" t9,.ref g⟩,⟨X,.str "__hash__" I,.none⟩,⟨h,.str "__static_attributes__" l,.ref wg⟩] (λx:DX=>x.key.isStr (BR "obj"))=AD:=by kernel_rfl
 refine J i1 ?_;dsimp only;refine AB (AH ?_);refine J (Ab (by decide)) (J b1 (J (Ab (by decide)) (J d (J (Ab (by decide)) (AH ?_)))));repeat(any_goals(first|assumption|wp_step))
 refine Dr (by kernel_rfl) ?_;repeat(any_goals(first|assumption|wp_step))
 exact q_eq (q {s with heap:=h'} (LK.heap _ _) k) (by kernel_rfl)
set_option genSizeOf false in
set_option genInjectivity false in
structure KD where
h:Z->O
t:Z->Jd
f:Z->Z
x:BA
noncomputable def kE(d:KD):U DX:=[⟨d.h 2,.str "__firstlineno__" (d.t 2),.int 5 (d.t 15)⟩,⟨d.h 3,.str "__slots__" (d.t 3),.ref (d.f 3)⟩,⟨d.h 4,.str "__init__" (d.t 4),.ref (d.f 4)⟩,⟨d.h 5,.str "__lt__" (d.t 5),.ref (d.f 5)⟩,⟨d.h 6,.str "__gt__" (d.t 6),.ref (d.f 6)⟩,⟨d.h 7,.str "__eq__" (d.t 7),.ref (d.f 7)⟩,⟨d.h 8,.str "__le__" (d.t 8),.ref (d.f 8)⟩,⟨d.h 9,.str "__ge__" (d.t 9),.ref (d.f 9)⟩,⟨d.h 10,.str "__hash__" (d.t 10),.none⟩,⟨d.h 11,.str "__static_attributes__" (d.t 11),.ref (d.f 11)⟩]
noncomputable def jX(d:KD):DX:=⟨d.h 0,.str "__module__" (d.t 0),.str d.x (d.t 14)⟩
noncomputable def kE1(d:KD)(q1:Jd):DX:=⟨d.h 1,.str "__qualname__" (d.t 1),.str "cmp_to_key.<locals>.K" q1⟩
noncomputable def TQ(es:U DX)(n:Z):Gq:={cls:=.type "dict",dict:=AJ,data:=.dict es.toArray n,slots:=#[]}
noncomputable def aH(n2:Z)(a:U AF)(hd:BC)(b:U BA)(sl:Bc (AX AF)):Gq:={cls:=.type "type",dict:=AJ,data:=.cls {name:="K",bases:=[.type "object"],mro:=a,ns:=n2,qualname:="cmp_to_key.<locals>.K",hasDict:=hd,slotNames:=b},slots:=sl}
noncomputable def MV(bt ca n2:AW)(t q1:Jd):Gq:=aH n2 [.ref ca,.type "object"] AD ["obj"] #[B (.ref bt),AJ,B (.str "K" t),B (.str "cmp_to_key.<locals>.K" q1),B (.builtin "object.__new__"),B (.bool AD)]
noncomputable def kEo(d:KD)(md:AW):DX:=⟨d.h 12,.str "obj" (d.t 12),.ref md⟩
noncomputable def OJ(d:KD)(md:AW):Gq:=TQ (jX d::(kE d++[kEo d md,⟨d.h 13,.str "__doc__" (d.t 13),.none⟩])) 3
noncomputable def RJ(ca:AW)(um:Jd):Gq:={cls:=.type "member_descriptor",dict:=AJ,data:=.fields #[.str "obj" um,.ref ca,.builtin "proto.slot",.builtin "proto.slot#set",.int 0 0],slots:=#[]}
noncomputable def KD.put(d:KD)(S:O)(z:Jd)(h':O)(n:Jd):KD:=⟨λi=>if i=12 then S else if i=13 then h' else d.h i,λi=>if i=12 then z else if i=13 then n else d.t i,d.f,d.x⟩
noncomputable def XC:AF->BC|.str ..=>AO|_=>AD
theorem Zf{v:AF}(h:XC v=AO):∃x t,v=.str x t:=by
 unfold XC at h;split at h;·exact Io _ _ rfl
 ·exact J2 h
theorem allE{l:U DX}{p:DX->BC}(h:l.all p=AO){e:DX}(he:e∈l):p e=AO:=Bi.mp h e he
theorem ai{prog:DH}{w:Em}{A:BQ}{E:AF->AE->Prop}{s:AE}{Q:aC->AE->Prop}{bt ns K:Z}{t q1 u:Jd}{d:KD}(wt:s.heap.get? bt=B {cls:=.type "tuple",dict:=AJ,data:=.seq #[.type "object"] 0,slots:=#[]})(W:s.heap.get? ns=B (TQ (jX d::kE1 d q1::kE d) K))(P:(ns==Mx)=AD)(D:s.heap.get? (d.f 3)=B {cls:=.type "list",dict:=AJ,data:=.seq #[.str "obj" u] 0,slots:=#[]})(y4:s.TypeIs (.ref (d.f 4)) "function")(y5:s.TypeIs (.ref (d.f 5)) "function")(y6:s.TypeIs (.ref (d.f 6)) "function")(y7:s.TypeIs (.ref (d.f 7)) "function")(y8:s.TypeIs (.ref (d.f 8)) "function")(y9:s.TypeIs (.ref (d.f 9)) "function")(wu:s.TypeIs (.ref (d.f 11)) "tuple")(N:A.handled=AJ)(wv:∀(F:BQ)(E':AF->AE->Prop)(s':AE)(C:BC->AE->Prop),(∀b o,s.heap.get? b=B o->s'.heap.get? b=B o)->C AD s'->Aj (BF prog w) F Hj C E' s')(Y:∀s' ca n2 md um S z h' n,LK s s'->(∀b o,s.heap.get? b=B o->s'.heap.get? b=B o)->s.heap.get? ca=AJ->s.heap.get? n2=AJ->s.heap.get? md=AJ->s'.heap.get? ca=B (MV bt ca n2 t q1)->s'.heap.get? n2=B (OJ (d.put S z h' n) md)->s'.heap.get? md=B (RJ ca um)->Q (.done (.ret (.ref ca))) s'):Aj (BF prog w) A (Builtin.«type.__new__» ⟨[.type "type",.str "K" t,.ref bt,.ref ns],[]⟩) Q E s:=by
  have V:s.TypeIs (.ref bt) "tuple":=⟨_,wt,rfl⟩;have xE:s.TypeIs (.ref ns) "dict":=⟨_,W,rfl⟩;have H:Mi (DZ "tuple") (DZ "tuple")=Bz AO:=by refine J (Ek _ _) ?_;kernel_rfl
  have p2:Mi (DZ "dict") (DZ "dict")=Bz AO:=by refine J (Ek _ _) ?_;kernel_rfl
  have p:Mi (DZ "type") (DZ "type")=Bz AO:=by refine J (Ek _ _) ?_;kernel_rfl
  have L:Us (DZ "object")=Bz (.type "type"):=by kernel_rfl
  have m:dX [.type "object"]=Bz ():=by kernel_rfl
  have v:oi [.type "object"]=Bz (.type "object"):=by kernel_rfl
  have p7:ED (.type "dict") (BR "__iter__")=Bz (B (.builtin "dict.__iter__")):=by refine J (CB _ _) (J BP ?_);kernel_rfl
  have W:s.heap.get? ns=B {cls:=.type "dict",dict:=AJ,data:=.dict (jX d::kE1 d q1::kE d).toArray K,slots:=#[]}:=W;unfold Builtin.«type.__new__»;repeat(any_goals(first|assumption|((refine(?_:Aj _ _ (dX _) _ _ _));refine BB m ?_)|((refine(?_:Aj _ _ (oi _) _ _ _));refine BB v ?_)|((refine(?_:Aj _ _ (Ux _ _ _) _ _ _));refine Wj D (λj k1 k=>?_))|((refine(?_:Aj _ _ (newObj _ _) _ _ _));refine Vc (X.Mem.start _) (hd:=(by decide:12<=Ay+1)) (λn2 r k2 D2=>?_))|wp_step))
  have pm:Yl (.type "type")=Bz AJ:=by unfold Yl;refine J (show ED (.type "type") (BR "mro")=Bz (B (.builtin "type.mro"))from by refine J (CB _ _) ?_;refine J BP ?_;kernel_rfl) ?_;rfl
  refine Dr (by kernel_rfl) ?_;repeat(any_goals(first|assumption|((fail_if_success(with_reducible show Aj _ _ (nsGet _ _) _ _ _));(fail_if_success(with_reducible show Aj _ _ (nsSet _ _ _) _ _ _));(fail_if_success(with_reducible show Aj _ _ (ka _ _ _) _ _ _));(fail_if_success(with_reducible show Aj _ _ (nsDel _ _) _ _ _));(fail_if_success(with_reducible show Aj _ _ (jy _ _ _) _ _ _));(fail_if_success(with_reducible show Aj _ _ (updateCls _ _) _ _ _));(fail_if_success(with_reducible show Aj _ _ (alloc _) _ _ _));(fail_if_success(with_reducible show Aj _ _ (Yl _) _ _ _));(fail_if_success(with_reducible show Aj _ _ (Builtin.linearize _ _) _ _ _));(fail_if_success(with_reducible show Aj _ _ (Bind.refreshMaker _) _ _ _));(fail_if_success(with_reducible show Aj _ _ (oj _) _ _ _));(fail_if_success(with_reducible show Aj _ _ (nf _ _ _ _) _ _ _));(fail_if_success(with_reducible show Aj _ _ (Ol _) _ _ _));(fail_if_success(with_reducible show Aj _ _ (aD _ _) _ _ _));(fail_if_success(with_reducible show Aj _ _ (oV _) _ _ _));(fail_if_success(with_reducible show Aj _ _ (Hi _ _ _) _ _ _));(fail_if_success(with_reducible show Aj _ _ (dR _ _ _) _ _ _));(fail_if_success(with_reducible show Aj _ _ (newObj _ _) _ _ _));(fail_if_success(with_reducible show Aj _ _ (Sem.tryCatch _ _) _ _ _));first|wp_step|((with_reducible apply Dr);focus(decide+kernel;done))|((with_reducible apply LM);focus(decide+kernel;done)))))
  refine Gi (r:=B (.str "cmp_to_key.<locals>.K" q1)) (D2.at 0 _ _ rfl) (by kernel_rfl) ?_;wp_step;refine Gi (r:=B (.str "cmp_to_key.<locals>.K" q1)) (D2.at 0 _ _ rfl) (by kernel_rfl) ?_;iterate 6 wp_step
  refine Gi (r:=AJ) (D2.at 0 _ _ rfl) (by kernel_rfl) ?_;wp_step;refine fY D2 rfl (λca s3 k3 D3=>?_);iterate 2 wp_step
  refine LA (o':=aH n2 [] AO [] #[B (.ref bt)]) D3 0 rfl (by decide) (by kernel_rfl) rfl (λs4 k4 D4=>?_);dsimp only[DS]at D4;wp_step;refine LA (o':=aH n2 [] AO [] #[B (.ref bt),AJ,B (.str "K" t)]) D4 0 rfl (by decide) (by kernel_rfl) rfl (λs5 k5 D5=>?_);dsimp only[DS]at D5;iterate 2 wp_step
  refine LA (o':=aH n2 [] AO [] #[B (.ref bt),AJ,B (.str "K" t),B (.str "cmp_to_key.<locals>.K" q1)]) D5 0 rfl (by decide) (by kernel_rfl) rfl (λs6 k6 D6=>?_);dsimp only[DS]at D6;wp_step;refine fX (o':=TQ (jX d::kE d) 1) D6 1 rfl (by kernel_rfl) (by kernel_rfl) rfl (λs7 k7 D7=>?_);dsimp only[DS,Ia]at D7;wp_step;refine Gi (r:=AJ) (D7.at 1 _ _ rfl) (by kernel_rfl) ?_;iterate 7 wp_step
  refine Gi (r:=AJ) (D7.at 1 _ _ rfl) (by kernel_rfl) ?_;iterate 5 wp_step
  refine Gi (r:=AJ) (D7.at 1 _ _ rfl) (by kernel_rfl) ?_;iterate 5 wp_step
  refine Gi (r:=AJ) (D7.at 1 _ _ rfl) (by kernel_rfl) ?_;wp_step;refine Gi (r:=AJ) (D7.at 1 _ _ rfl) (by kernel_rfl) ?_;wp_step;refine BB pm ?_;wp_step;refine BB (show Builtin.linearize [.type "object"] mroOf=Bz [.type "object"]by kernel_rfl) ?_;iterate 3 wp_step
  refine J (show U.filter (λx=>x !=HD ca) (HD ca::[DZ "object"])=[DZ "object"]from by simp) ?_;iterate 7 wp_step
  refine Ps (o':=aH n2 [.ref ca,.type "object"] AO [] #[B (.ref bt),AJ,B (.str "K" t),B (.str "cmp_to_key.<locals>.K" q1)]) D7 0 rfl (by kernel_rfl) rfl rfl (λs8 k8 D8=>?_);dsimp only[DS]at D8;wp_step;refine BB (show oj (.type "object")=Bz (B "object.__new__")from by kernel_rfl) ?_;wp_step;refine LA (o':=aH n2 [.ref ca,.type "object"] AO [] #[B (.ref bt),AJ,B (.str "K" t),B (.str "cmp_to_key.<locals>.K" q1),B (.builtin "object.__new__")]) D8 0 rfl (by decide) (by kernel_rfl) rfl (λs9 k9 D9=>?_);dsimp only[DS]at D9;wp_step;refine ZZ (D9.at 0 _ _ rfl) rfl (D9.at 1 _ _ rfl) (by kernel_rfl) rfl ?_;wp_step;unfold nf;iterate 7 wp_step
  refine Gi (r:=AJ) (D9.at 1 _ _ rfl) (by kernel_rfl) ?_;iterate 5 wp_step
  refine Vc (s:={s9 with toks:=s9.toks+1}) D9 (λmd xF wx wy=>?_);wp_step;refine Za (o':=λS z=>TQ (jX d::(kE d++[⟨S,.str "obj" z,.ref md⟩])) 2) wy 2 rfl (by kernel_rfl) (λS z=>by kernel_rfl) (λS z=>rfl) (by kernel_rfl) (λS z xG i wm=>?_);dsimp only[DS,Ia]at wm;iterate 19 wp_step
  refine Ps (o':=aH n2 [.ref ca,.type "object"] AD ["obj"] #[B (.ref bt),AJ,B (.str "K" t),B (.str "cmp_to_key.<locals>.K" q1),B (.builtin "object.__new__")]) wm 1 rfl (by kernel_rfl) rfl rfl (λxH wz wn=>?_);dsimp only[DS,Ia]at wn;wp_step;refine BB (show Ol (.type "object")=Bz AD from by kernel_rfl) ?_;wp_step;refine LA (o':=aH n2 [.ref ca,.type "object"] AD ["obj"] #[B (.ref bt),AJ,B (.str "K" t),B (.str "cmp_to_key.<locals>.K" q1),B (.builtin "object.__new__"),B (.bool AD)]) wn 1 rfl (by decide) (by kernel_rfl) rfl (λxI x8 wl=>?_);dsimp only[DS,Ia]at wl;iterate 3 wp_step
  refine Gi (r:=AJ) (wl.at 2 _ _ rfl) (by kernel_rfl) ?_;iterate 2 wp_step
  refine Y4 (o':=λh' n=>TQ (jX d::(kE d++[⟨S,.str "obj" z,.ref md⟩,⟨h',.str "__doc__" n,.none⟩])) 3) wl 2 rfl (by kernel_rfl) (λh' n=>by kernel_rfl) (λh t=>rfl) (λh' n f x9 g=>?_);dsimp only[DS,Ia]at g;wp_step;refine Gi (r:=B (.ref (d.f 7))) (g.at 2 _ _ rfl) (by kernel_rfl) ?_;iterate 2 wp_step
  refine Gi (r:=B .none) (g.at 2 _ _ rfl) (by kernel_rfl) ?_;iterate 8 wp_step
  refine BB (show aD "object" ca=Bz ()from by kernel_rfl) ?_;iterate 5 wp_step
  have M:∀b o,s.heap.get? b=B o->f.heap.get? b=B o:=λb o e=>g.keep b o (k b o e) (by refine J (FI _ _) ?_;exact .inr rfl);have xA:ED (.type "str") (BR "__set_name__")=Bz AJ:=by refine J (CB _ _) ?_;refine J BP ?_;kernel_rfl
  have xB:ED (.type "int") (BR "__set_name__")=Bz AJ:=by refine J (CB _ _) ?_;refine J BP ?_;kernel_rfl
  have wr:ED (.type "list") (BR "__set_name__")=Bz AJ:=by refine J (CB _ _) ?_;refine J BP ?_;kernel_rfl
  have wi:ED (.type "function") (BR "__set_name__")=Bz AJ:=by refine J (CB _ _) ?_;refine J BP ?_;kernel_rfl
  have wj:ED (.type "NoneType") (BR "__set_name__")=Bz AJ:=by refine J (CB _ _) ?_;refine J BP ?_;kernel_rfl
  have wo:ED (.type "tuple") (BR "__set_name__")=Bz AJ:=by refine J (CB _ _) ?_;refine J BP ?_;kernel_rfl
  have wg:ED (.type "member_descriptor") (BR "__set_name__")=Bz AJ:=by refine J (CB _ _) ?_;refine J BP ?_;kernel_rfl
  have z0:f.TypeIs (.str d.x (d.t 14)) "str":=G0 _ _ _;have z2:f.TypeIs (.int 5 (d.t 15)) "int":=by refine(?_:Us _=_);kernel_rfl
  have z3:f.TypeIs (.ref (d.f 3)) "list":=⟨_,M _ _ D,rfl⟩;have z4:f.TypeIs (.ref (d.f 4)) "function":=by refine AI y4 λo e c=>?_;exact AK o (M _ _ e) c
  have z5:f.TypeIs (.ref (d.f 5)) "function":=by refine AI y5 λo e c=>?_;exact AK o (M _ _ e) c
  have z6:f.TypeIs (.ref (d.f 6)) "function":=by refine AI y6 λo e c=>?_;exact AK o (M _ _ e) c
  have z7:f.TypeIs (.ref (d.f 7)) "function":=by refine AI y7 λo e c=>?_;exact AK o (M _ _ e) c
  have z8:f.TypeIs (.ref (d.f 8)) "function":=by refine AI y8 λo e c=>?_;exact AK o (M _ _ e) c
  have z9:f.TypeIs (.ref (d.f 9)) "function":=by refine AI y9 λo e c=>?_;exact AK o (M _ _ e) c
  have z10:f.TypeIs .none "NoneType":=by refine(?_:Us _=_);kernel_rfl
  have Yv:f.TypeIs (.ref (d.f 11)) "tuple":=by refine AI wu λo e c=>?_;exact AK o (M _ _ e) c
  have iX:f.TypeIs (.ref md) "member_descriptor":=⟨_,g.at 0 _ _ rfl,rfl⟩;have wq:=g.at 2 _ _ rfl;refine wpAny_tryCatch (Co (AB (ND wq ?_)));rewrite[LU];refine AB (Y5 _ (λe he C q=>?_) ?_);· refine Eh (Zf (allE (p:=λe=>XC e.key) (by kernel_rfl) he)) λx t R=>?_;refine J R ?_;exact AB (AH (AH q))
  dsimp only;refine J (Ab (by decide)) (AB (ND wq ?_));rewrite[LU];refine AB (Y5 _ (λe he C q=>?_) ?_)
  · have R:Builtin.laidUnderItsOwnName e.key e.val=AD/\∃T,f.TypeIs e.val T/\ED (.type T) (BR "__set_name__")=Bz AJ:=by
     revert e;repeat(first|exact De _|refine AT.mpr ⟨⟨rfl,_,‹_›,‹_›⟩,?_⟩)
    refine Aa R λe1 G=>?_;refine AI G λT I y=>?_;refine J e1 ?_;refine J (Ab (by decide)) ?_;refine AB (aI I y ?_);exact AH q
  refine cS N (g.at 1 _ _ rfl) (λF E' s' C kp q=>wv F E' s' C (λb o e=>kp b o (M b o e)) q) (λxC xD wh=>?_);have l:∀a,j.heap.get? a=AJ->s.heap.get? a=AJ:=λa e=>by
    cases q:s.heap.get? a with|none=>rfl|some o=>rw[k a o q]at e;exact jc e
  refine AH (Y xC ca n2 md s9.toks S z h' n ?kin (λb o e=>wh b o (M b o e)) (l _ (g.nw _ (.tail _ (.head _))).2) (l _ (g.nw _ (.tail _ (.tail _ (.head _)))).2) (l _ (g.nw _ (.head _)).2) (wh _ _ (g.at 1 _ _ rfl)) (wh _ _ (g.at 2 _ _ rfl)) (wh _ _ ((g.at 0 _ _ rfl).trans (Aq B ?md))));case kin=>exact(k1.trans (k2.trans (k3.trans (k4.trans (k5.trans (k6.trans (k7.trans (k8.trans (k9.trans ((LK.both s9 s9.heap (s9.toks+1)).trans (wx.trans (i.trans (wz.trans (x8.trans (x9.trans xD)))))))))))))))
  case md=>kernel_rfl
theorem I9:Slot "type" "__init__" "type.__init__":=.of (owner:="type") (n:="__init__") (by refine J (CB _ _) (J BP ?_);kernel_rfl) (by decide+kernel) (by decide+kernel) (by decide+kernel) (by first|exact .inl (by decide+kernel)|exact .inr (by decide+kernel)) (by refine J (Ek _ _) ?_;kernel_rfl)
theorem QM:SA oR "type.__init__"=B Builtin.«type.__init__»:=HC (by kernel_rfl)
theorem RW:SA oR "type.__new__"=B Builtin.«type.__new__»:=HC (by kernel_rfl)
theorem Rk(a b c d:AF):Yb "type.__init__" ⟨[a,b,c,d],[]⟩:=by unfold Yb;kernel_rfl
theorem ZY:oj (.type "type")=Bz (B "type.__new__"):=by
 kernel_rfl
theorem Z1{prog:DH}{w:Em}{A:BQ}{s:AE}{Q E:AF->AE->Prop}{bt ns:Z}{t:Jd}(P:Z->AE->Prop)(g:∀ca s',P ca s'->s'.TypeIs (.ref ca) "type")(i:∀(d:BQ)(e:aC->AE->Prop)(l:AF->AE->Prop),d.handled=A.handled->(∀ca s',P ca s'->e (.done (.ret (.ref ca))) s')->Aj (BF prog w) d (Builtin.«type.__new__» ⟨[.type "type",.str "K" t,.ref bt,.ref ns],[]⟩) e l s)(q:∀ca s',P ca s'->Q (.ref ca) s'):Aj (BF prog w) A (Hi (.type "type") [.str "K" t,.ref bt,.ref ns] []) Q E s:=by
  refine Gm (aJ ?_);refine(?_:Aj _ A.in1 (callAny (.type "type") ⟨[.str "K" t,.ref bt,.ref ns],[]⟩) _ _ s);refine AH ⟨Uw _ (by decide+kernel),JQ F.entry_type_call ?_⟩;refine J (Around.under_plain (weight_type_call_type "type" [.str "K" t,.ref bt,.ref ns] []) (units_type_call_type "type" [.str "K" t,.ref bt,.ref ns] [])) ?_;have C:((Manifest.find? "type").bind (·.mro.findSome? λt=>(Manifest.find? t).bind λb=>if b.noNew then B AO else if b.attrs.any (·.1=="__new__")then B AD else AJ)).getD AD=AD:=by kernel_rfl
  have T:checkTypeCall "type" ⟨[.str "K" t,.ref bt,.ref ns],[]⟩=Bz ():=by kernel_rfl
  have f:mroOf (.type "type")=Bz [.type "type",.type "object"]:=by kernel_rfl
  have y:=ZY;have h:Mi (.type "type") (.type "type")=Bz AO:=by refine J (Ek _ _) ?_;kernel_rfl
  repeat(any_goals(first|assumption|((refine(?_:HZ _ _ _ _ _));fail)|wp_step))
  have k:checkBuiltinCall "type.__new__" ⟨[.type "type",.str "K" t,.ref bt,.ref ns],[]⟩=Bz ():=by kernel_rfl
  refine MC (R:=λr s'=>∃ca,r=.ok (.ret (.ref ca))/\P ca s') (FN (by decide+kernel) RW (BB k (i _ _ _ (by first|rfl|simp[Around.under,Around.in1]) (λca j W=>⟨ca,rfl,W⟩)))) λr j hr=>AI hr λca z W=>?_;clear hr;subst z;have V:=g _ _ W;have c:=I9.lookup;have a:=I9.bind (.ref ca);repeat(any_goals(first|assumption|((refine(?_:HZ _ _ _ _ _));fail)|wp_step))
  refine MC (R:=λr s'=>r=.ok (.ret .none)/\P ca s') (FN I9.plain QM (I9.check _ _ _ _ _ _ _ _ V (Rk _ _ _ _) ?_)) λH m z=>?_
  · unfold Builtin.«type.__init__»;repeat(any_goals(first|assumption|wp_step))
    exact⟨rfl,W⟩
  · refine Aa z λD C=>?_;clear z;subst D;repeat(any_goals(first|assumption|wp_step))
    all_goals(first|exact q _ _ C|skip)
structure ei(s s':AE)(bt ca n2 md:Z)(t q1 um:Jd)(d:KD):Prop where
kin:LK s s'
keep:(∀b o,s.heap.get? b=B o->s'.heap.get? b=B o)nca:s.heap.get? ca=AJ
nn2:s.heap.get? n2=AJ
nmd:s.heap.get? md=AJ
cls:s'.heap.get? ca=B (MV bt ca n2 t q1)ns:s'.heap.get? n2=B (OJ d md)slot:s'.heap.get? md=B (RJ ca um)
theorem XK{prog:DH}{w:Em}{A:BQ}{E:AF->AE->Prop}{s:AE}{Q:AF->AE->Prop}{bt ns K:Z}{t q1 u:Jd}(d:KD)(r:s.heap.get? bt=B {cls:=.type "tuple",dict:=AJ,data:=.seq #[.type "object"] 0,slots:=#[]})(W:s.heap.get? ns=B (TQ (jX d::kE1 d q1::kE d) K))(P:(ns==Mx)=AD)(D:s.heap.get? (d.f 3)=B {cls:=.type "list",dict:=AJ,data:=.seq #[.str "obj" u] 0,slots:=#[]})(k:s.TypeIs (.ref (d.f 4)) "function")(m:s.TypeIs (.ref (d.f 5)) "function")(p:s.TypeIs (.ref (d.f 6)) "function")(H:s.TypeIs (.ref (d.f 7)) "function")(I:s.TypeIs (.ref (d.f 8)) "function")(L:s.TypeIs (.ref (d.f 9)) "function")(j:s.TypeIs (.ref (d.f 11)) "tuple")(N:A.handled=AJ)(R:∀(F:BQ)(l:AF->AE->Prop)(s':AE)(C:BC->AE->Prop),(∀b o,s.heap.get? b=B o->s'.heap.get? b=B o)->C AD s'->Aj (BF prog w) F Hj C l s')(Y:∀ca n2 md um S z h' n s',s.toks<=s'.toks->ei s s' bt ca n2 md t q1 um (d.put S z h' n)->Q (.ref ca) s'):Aj (BF prog w) A (Hi (.type "type") [.str "K" t,.ref bt,.ref ns] []) Q E s:=by
 refine Ad (CM (Q:=λv s'=>∃ca,v=.ref ca/\∃n2 md um S z h' n,ei s s' bt ca n2 md t q1 um (d.put S z h' n)) (Z1 (λca s'=>∃n2 md um S z h' n,ei s s' bt ca n2 md t q1 um (d.put S z h' n)) (λca s' X=>by refine bZ X λn2 md um h z h' n x=>AK _ x.cls rfl) (λF C l y q=>?_) (λca s' x=>⟨ca,rfl,x⟩))) (λv s' X=>by refine Aa X λV G=>AI G λca e T=>bZ T λn2 md um h z h' n x=>e▸Y _ _ _ _ _ _ _ _ _ V x) λM M x=>x.2;exact ai r W P D k m p H I L j (y.trans N) R λs' ca n2 md um h z h' n a b c d e f g i=>q ca s' ⟨n2,md,um,h,z,h',n,⟨a,b,c,d,e,f,g,i⟩⟩
section
theorem Ik{s:AE}{o:Gq}{tk:Z}(h:s.toks<=tk):Kp s {s with heap:=s.heap.push o,toks:=tk}:=⟨⟨_,_,rfl,λM M e=>AR _ e⟩,h⟩
theorem Hw.typ{c:Cx}{h0:BJ}{s:AE}{i:Z}{nm:BA}{z:U (BA×AW)}{f:AW}(x:Hw c h0 s.heap i nm z f):s.TypeIs (.ref f) "function":=by refine Aa x λM G=>Au G λM M e M=>AK _ e rfl
section
variable{c:Cx}{A:BQ}{E:AF->AE->Prop}{s:AE}
theorem ag{env:Nx}{pos:EQ}{cell:AW}{Q:AF->AE->Prop}{x0:BA}{u0:Jd}(W:c.mg "__name__"=B (.str x0 u0))(N:A.handled=AJ)(hd:A.depth<Ry)(hw:Wf c)(k:Oc c)(wn:∃mc,c.hB.Ns JB mc/\mc "thirdparty.any"=AJ)(wz:(c.hB.get? 1).isSome=AO)(Y:env.globals=Cc)(G:JS Iq.scope env=Bz [((("mycmp":BA)),cell)])(wj:env.code=.ref 37)(j:St c s)(q:∀s9 b bt ca n2 md t q1 um d,ei s9 b bt ca n2 md t q1 um d->St c b->Bk c.hB s.heap b.heap->s.heap.get? ca=AJ->s.heap.get? n2=AJ->s.heap.get? md=AJ->Hw c s.heap b.heap 2 "__init__" [] (d.f 4)->Hw c s.heap b.heap 3 "__lt__" [("mycmp",cell)] (d.f 5)->Q (.ref ca) b):Aj (BF c.prog c.w) A (buildClass "K" "cmp_to_key.<locals>.K" [.type "object"] [] Iq.body Iq.scope Iq.statics 5 env pos AJ) Q E s:=by
 have x8:(Iq.scope.names.lookup ("__class__":BA)==B Ej)=AD:=by kernel_rfl
 have x9:(Iq.scope.names.lookup ("__classdict__":BA)==B Ej)=AD:=by kernel_rfl
 have L:Us (DZ "object")=Bz (.type "type"):=by kernel_rfl
 have m:isType (DZ "object")=Bz AO:=by kernel_rfl
 have v:isType (DZ "type")=Bz AO:=by kernel_rfl
 have I:Mi (DZ "type") (DZ "type")=Bz AO:=by refine J (Ek _ _) ?_;kernel_rfl
 unfold buildClass;refine AB (dj ?_ (by simp[Ay]));refine AB ?_;rewrite[DJ];refine AB (AB (BB m ?_));refine LM (by rfl) (Dr (by decide) (AH (?_:Aj _ _ (WY [] _ _) _ _ _)));refine J Ov (AH (AB (BB L ?_)));refine AB (BB v ?_);refine LM (by rfl) (AB ((?_:Aj _ _ (WY [DZ "object"] _ _) _ _ _)));rewrite[DJ];refine AB (AB (BB L ?_));refine AB (BB I ?_);refine LM (by rfl) (AH (?_:Aj _ _ (WY [] _ _) _ _ _));refine J Ov (AH (AB (Q7 ?_)));refine Dr (by rfl) (AB (AH ?_));refine Co (AB (ff N λu r H hu=>AB (fj N hu λns s3 k3 wh wl=>?_)));have S3:=(j.keeps (Ik (BH s.toks))).keeps (H)|>.keeps k3;have p8:ED (.type "dict") (BR "__getitem__")=Bz (B (.builtin "dict.__getitem__")):=by refine J (CB _ _) (J BP ?_);kernel_rfl
 have wo:ns≠1:=λq=>by
  clear wl;subst q;have xA:=(j.keeps (Ik (BH s.toks))).keeps H;have :=xA.grow.isSome wz;rw[wh]at this;exact J2 this
 have wi:(ns==Mx)=AD:=by simpa[Mx]using wo
 refine AB ?_;unfold notTheModulesDict;refine J wi (Dr (by rfl) (AH ?_));have V:s3.TypeIs (.ref ns) "dict":=⟨_,wl,rfl⟩;refine AB ?_;unfold specialOf;refine AB (wpAny_typeOf V (BB p8 ?_));refine Dr (by rfl) (Co (Dr (by refine J x8 ?_;rfl) (AB (AH ?_))));refine Dr (by refine J x9 ?_;rfl) (AB (AH ?_));refine AB (ae wj S3 λck P s4 S4 g4 t4 xB xC wq i4 r4=>?_);refine PJ (id k) λbm ob b1 b2 b3 b4 b5 b6=>?_;have hg:=Ns.grow S4.grow hw.g;refine J Y (AB (Nl hg b1 b2 (S4.grow.Gk b3 (by refine J b6 ?_;exact MQ)) b4 b5 b6 ?_));refine AB ?_;unfold newBodyFrame;refine AB (Nk hg ?_);refine oP (AB (BB G ?_));refine Co (J (show(BR "cmp_to_key.<locals>.K"++BR ".")=BR "cmp_to_key.<locals>.K."from by kernel_rfl) ?_);have wr:Kp s4 {s4 with heap:=s4.heap.push {cls:=.type "frame",slots:=#[B (.ref ck),B (.ref Cc),B (.ref ns),AJ,B ((c.mg "__name__").getD .none),AJ,B (.ref CU)]}}:=⟨⟨_,_,rfl,λM M e=>AR _ e⟩,AN _⟩;have xD:c.hB.get? ns=AJ:=(((j.keeps (Ik (BH s.toks))).keeps H).grow).none wh;have xE:s.heap.get? ns=AJ:=((B4 (hB:=c.hB) (Ik (BH s.toks))).trans (B4 H)).none wh;have K4:KB c s.heap s4 ns #[] ck P:=⟨S4,(((B4 (hB:=c.hB) (Ik (BH s.toks))).trans (B4 H)).trans (B4 k3)).trans g4,⟨0,g4.Nc wl (.inl (by exact F7))⟩,xE,xD,t4,xB,xC,wq⟩;have K5:=K4.keep wr;refine AB (wpAny_enterFrame (NoLimit.grow K5.st.grow hw.lim) hd ?_);refine AB (wpAny_onRaise ?_);refine cJ (fr:=s4.heap.objs.size) (cell:=cell) K5 hw W λf z F t0 t1 t2 u1 u2 s6 K6 k6=>AB (wpAny_run ?_);refine codeAny_body (by kernel_rfl) (by kernel_rfl) (fm (fr:=s4.heap.objs.size) (cell:=cell) (b:=CU) K6 hw k λs7 wt q2 w y a g l x S wu t3 wv t5 t6 t7 t8 t9 wx sl f4 f5 f6 f7 f8 f9 K7 k7 xR wm M4 M5 M6 M7 M8 M9=>AB (wpAny_onRaise ?_));refine J (show Iq.statics=[BR "obj"]from by kernel_rfl) (J U.mapM_cons (J U.mapM_nil (AB (AB (Q7 (AB (AH (AH ?_))))))));refine AB (Uq ?_);have K8:=K7.keep (Ik (o:={cls:=.type "tuple",data:=.seq #[.str "obj" s7.toks]}) (BH s7.toks));refine AB (J6 K8 1 (Wi _ _ _ (by kernel_rfl) (by kernel_rfl)) rfl (by kernel_rfl) (es':=λh t=>#[⟨f,.str "__module__" t0,.str "cpy313.functools" wt⟩,⟨z,.str "__qualname__" t1,.str "cmp_to_key.<locals>.K" u1⟩,⟨F,.str "__firstlineno__" t2,.int 5 u2⟩,⟨w,.str "__slots__" t3,.ref sl⟩,⟨y,.str "__init__" wv,.ref f4⟩,⟨a,.str "__lt__" t5,.ref f5⟩,⟨g,.str "__gt__" t6,.ref f6⟩,⟨l,.str "__eq__" t7,.ref f7⟩,⟨x,.str "__le__" t8,.ref f8⟩,⟨S,.str "__ge__" t9,.ref f9⟩,⟨wu,.str "__hash__" wx,.none⟩,⟨h,.str "__static_attributes__" t,.ref s7.heap.objs.size⟩]) (λn h t=>by kernel_rfl) λxF xG s9 K9 k9=>?_);refine AH (Dr (by rfl) ?_);have xH:s.heap.objs.size≠ns:=λq=>by
  have e:r.heap.get? s.heap.objs.size=_:=(B4 (hB:=c.hB) H).Nc (Ag s.heap rfl) (.inl (by exact F7));rw[q,wh]at e;exact Eb e
 have xI:=Ik (s:=s7) (o:={cls:=.type "tuple",data:=.seq #[.str "obj" s7.toks]}) (BH s7.toks);have o:KS ns s7.heap s9.heap:=(KS.grow (B4 (hB:=c.hB) xI)).trans k9;have xJ:KS ns r.heap s9.heap:=((((KS.grow ((B4 (hB:=c.hB) k3).trans g4)).trans (KS.grow (B4 (hB:=c.hB) wr))).trans k6).trans k7).trans o;have xK:=xJ _ _ ((B4 (hB:=c.hB) H).Nc (Ag s.heap (o:={cls:=.type "tuple",dict:=AJ,data:=.seq #[.type "object"] 0,slots:=#[]}) rfl) (.inl (by exact F7))) (.inl (by exact F7)) xH;have o7:=K7.obj;have xL:sl≠ns:=λq=>by
  refine Aw o7 λn e=>?_;clear o7;rw[q,e]at wm;exact(by have W:=Aq Hk (Af wm);cases(W))
 have D:=o _ _ wm (.inl (by exact F7)) xL;have xM:s7.heap.objs.size≠ns:=λq=>by
  refine Aw o7 λn e=>?_;clear o7;exact B8 (q▸Bg e) (CI _)
 have xN:=k9 _ _ (Ag s7.heap (o:={cls:=.type "tuple",dict:=AJ,data:=.seq #[.str "obj" s7.toks] 0,slots:=#[]}) rfl) (.inl (by exact F7)) xM;refine Aw K9.obj λnn o9=>AB (XK ⟨λi=>[f,z,F,w,y,a,g,l,x,S,wu,xF].getD i 0,λi=>[t0,t1,t2,t3,wv,t5,t6,t7,t8,t9,wx,xG,0,0,wt,u2].getD i 0,λi=>[0,0,0,sl,f4,f5,f6,f7,f8,f9,0,s7.heap.objs.size].getD i 0,"cpy313.functools"⟩ xK o9 wi D (M4.keep o7 o).typ (M5.keep o7 o).typ (M6.keep o7 o).typ (M7.keep o7 o).typ (M8.keep o7 o).typ (M9.keep o7 o).typ ⟨_,xN,rfl⟩ N (λA' E' s' C R hq=>?_) λca n2 md um xS tt h' t' b wy X=>?_);· refine AI wn λmc K p=>?_;clear wn;have xO:=Ns.grow (Bk.of_keep (hB:=c.hB) R) (Ns.grow K9.st.grow K);unfold Hj;refine AB (Nk xO ?_);refine J p ?_;exact AH hq
 have wg:Kp s9 b:=.Wz X.kin X.keep wy;have xP:St c b:=K9.st.keeps wg;have g9:=K9.gr;have xQ:=g9.trans (B4 (hB:=c.hB) wg);have T:KS ns s9.heap b.heap:=KS.grow (B4 (hB:=c.hB) wg);exact AH (q _ b _ _ _ _ _ _ _ _ X xP xQ (g9.none X.nca) (g9.none X.nn2) (g9.none X.nmd) ((M4.keep o7 o).keep ⟨_,o9⟩ T) ((M5.keep o7 o).keep ⟨_,o9⟩ T))
end
end
section
structure kR(c:Cx):Prop where
nm:∃x0 u0,c.mg "__name__"=B (.str x0 u0)bm:Oc c
op:∃mc,c.hB.Ns JB mc/\mc "thirdparty.any"=AJ
one:(c.hB.get? 1).isSome=AO
bc:c.mb "__build_class__"=B (.builtin "__build_class__")object:Pn c "object" (.type "object")
noncomputable def Rq(c:Cx)(G:EJ)(i:Z)(nm:BA)(z:U (BA×AW))(f:AW):Prop:=∃C H N S t,G f=B (NE nm ("cmp_to_key.<locals>.K."++nm) (dk i).args (.stmts (dk i).body) (dk i).scope z ((c.mg "__name__").getD .none) C H)/\G C=B N/\N.cls=.type "code"/\N.data=.fields S/\S[1]?=B (.str ("cmp_to_key.<locals>.K."++nm) t)
theorem Rq.sub{c:Cx}{G p:EJ}(L:MB G p){i:Z}{nm:BA}{z:U (BA×AW)}{f:AW}(x:Rq c G i nm z f):Rq c p i nm z f:=by refine R5 x λC H N S t a b d e g=>R7 C H N S t (L _ _ a (.inl F7)) (L _ _ b (.inl (by refine J d F7))) d e g
theorem Rq.of{c:Cx}{h0 h:BJ}{Y:U AW}{i:Z}{nm:BA}{z:U (BA×AW)}{f:AW}(x:Hw c h0 h i nm z f)(m:Hf Y h0)(l:Hf Y h):Rq c (fz Y h) i nm z f:=by
 refine Aa x λp G=>Cj G λC H V o hr=>Cj o λN S a b d=>Km hr λg v R t2 e y F j=>?_;cases(e);rw[a]at y;replace y:=EY y;induction y using EC;rw[d]at F;cases(F);exact R7 C H N S t2 (Al.mpr ⟨m.fresh p,V⟩) (Al.mpr ⟨λK=>(l _ K).2 ⟨N,S,a,b,d⟩,a⟩) b d j
noncomputable def Zd(c:Cx)(d:V)(ca:AW)(G:EJ):Prop:=∃bt n2 md t q1 um k cell,G ca=B (MV bt ca n2 t q1)/\G n2=B (OJ k md)/\G md=B (RJ ca um)/\Rq c G 2 "__init__" [] (k.f 4)/\Rq c G 3 "__lt__" [("mycmp",cell)] (k.f 5)/\∃N u,G cell=B N/\N.data=.cell (B u)/\Rd G d u
theorem Zd.sub{c:Cx}{d:V}{ca:AW}{G p:EJ}(L:MB G p)(x:Zd c d ca G):Zd c d ca p:=by refine R4 x λbt n2 md t q1 um k cell a b e f g h=>Cj h λN u i j r=>⟨bt,n2,md,t,q1,um,k,cell,L _ _ a (.inl F7),L _ _ b (.inl F7),L _ _ e (.inl F7),f.sub L,g.sub L,N,u,L _ _ i (.inr (by refine J j MQ)),j,Rd.sub L r⟩
noncomputable def KV(c:Cx)(d:V):V:=.abs λG v=>∃ca,v=.ref ca/\Zd c d ca G
theorem Zc(c:Cx)(d:V):Sr λG v=>∃ca,v=.ref ca/\Zd c d ca G:=λG p v L X=>by refine AI X λca e x=>AK ca e (x.sub L)
theorem cK:(E8 2).body=[.ClassDef "K" [.Name "object" ⟨5,12,5,18⟩] [] Iq.body [] [] Iq.scope AJ "K" Iq.statics Iq.pos,.Return (B (.Name "K" ⟨27,11,27,12⟩)) ⟨27,4,27,12⟩]:=by kernel_rfl
theorem QL{M:eD}{A:BQ}{E:AF->AE->Prop}{s:AE}{f:AF}{x:Sem AF}{R:U (BC×Sem AF)}{Q:Args->AE->Prop}(h:Aj M A (kX ((AD,x)::R)) (λS s'=>Q ⟨S,[]⟩ s') E s):Aj M A (evalArgs f AD ((AD,x)::R) []) Q E s:=by
 refine(?_:Aj M A (kX ((AD,x)::R)>>=_) Q E s);refine AB (Ad h (λS s' h'=>?_) λa a x=>x);refine Co (AB (AH (AB (AH (AH h')))))
theorem kpl:Iq.pos.line=5:=by kernel_rfl
variable{F:Fx}{h₀:BJ}{σ:AS}{c:Cx}
theorem Zx{cell:AW}{d:V}{Q:Ha->AS->Prop}(N:kR F.c)(p:Wf F.c)(f:F.env.code=.ref 37)(C:F.env.qual="cmp_to_key.<locals>.")(wl:JS Iq.scope F.env=Bz [((("mycmp":BA)),cell)])(S:F.env.kindOf "object"=B .globalImplicit)(wm:F.env.kindOf "K"=B .local)(P:F.env.cells.lookup ("mycmp":BA)=B cell)(a:F.env.kindOf "mycmp"=B .cell)(wn:cell∉F.Xo)(wh:CT σ=[])(wo:σ.lookup ("mycmp":BA)=B (.v d))(wq:DG F "K")(h:Q .next (σ.put "K" (.v (KV F.c d)))):W1 F h₀ σ (.ClassDef "K" [.Name "object" ⟨5,12,5,18⟩] [] Iq.body [] [] Iq.scope AJ "K" Iq.statics Iq.pos) Q:=by
 intro A E s hA T;refine AB (?_:Aj _ _ (evalAll []) _ _ _);refine AH (AB (Dx ?_));refine AB ?_;unfold buildClassGuard;refine J T.rep.ok.bi (AB (Nk (Ns.grow T.st.grow p.b) ?_));refine J N.bc (AH (AB (Co ?_)));refine AB ((?_:Aj _ _ (evalArgs _ AD ((AD,Gp (.Name "object" ⟨5,12,5,18⟩) F.env)::[]) []) _ _ _));refine QL ?_;have q:OV F σ F.Xo [.Name "object" ⟨5,12,5,18⟩] λu=>u=[SU (.type "object")]:=Cz (YU p S N.object (Er rfl)) λM=>rfl;refine q.bind (pos:=Iq.pos) hA T.st T.rep λz s₁ u l w wi c e=>?_;subst e;induction c using C3.eC with|cons r1 c=>
 induction c using C3.eN;induction r1.U5 using Tb;have j:=T.next l w;refine AB (Dx (Co ?_));have r:Uu F.env "K" "K"="cmp_to_key.<locals>.K":=by
  unfold Uu;refine J wm (J C ?_);rfl
 refine J r ?_;have x8:firstLineOf ([]:U BL) Iq.pos=5:=kpl;refine Eh N.nm λi L W=>ag W hA.handled hA.room p N.bm N.op N.one wi.ok.glob wl f l λs9 b bt ca n2 md t q1 um k X y x wr wt wu M4 o=>?_;have Y:=j.next y x;refine AB (AH (AB (Dx ?_)));refine AB (AB (Co (oN ?_)));have wv:F.X σ=F.Xo:=by simp[Fx.X,wh]
 have m:=j.rep.Ft λM h=>h;have K:=Y.rep.Ft λM h=>h;have wx:Rd (fz (F.X σ) b.heap) (KV F.c d) (.ref ca):=by
  refine AI (Y.rep.slot "mycmp" _ wo) λv av D=>?_;have wy:b.heap.IsCell cell (B v):=by
   refine AC (av (rfl)) (λwg=>?_) λwg=>AC wg (λwg=>?_) λwg=>?_;·refine Aa wg λH M=>?_;rw[a]at H;replace H:=EY H;cases(H)
   ·refine Aa wg λH G=>AI G λg I n=>?_;rw[P]at I;replace I:=EY I;induction I using EC;exact n
   ·refine Aa wg λH G=>AI G λg I n=>?_;rw[P]at I;replace I:=EY I;induction I using EC;exact n
  refine AI wy λoc e1 I=>.abs (Zc F.c d) ⟨ca,rfl,bt,n2,md,t,q1,um,k,cell,Al.mpr ⟨m.fresh wr,X.cls⟩,Al.mpr ⟨m.fresh wt,X.ns⟩,Al.mpr ⟨m.fresh wu,X.slot⟩,.of M4 m K,.of o m K,oc,v,Al.mpr ⟨wv▸wn,e1⟩,I,D⟩
 refine AB (Ew (sl:=.v (KV F.c d)) Y Y.rep wq wx λwz wj R=>?_);refine oN (AH ⟨.next,_,wj,?_,Bl,h⟩);exact(CZ.DO (w.trans x)).trans Y (CZ.store R)
theorem bT{c:Cx}(p:Wf c)(N:kR c)(D:Dq c "cmp_to_key" 2 38 37 "cmp_to_key")(n:Z):Ef c (n+1) 38 (λS Q=>∃d,S=[d]/\Q (KV c d)):=by
 refine Aa D λM G=>Dg G λo fd D hd j r=>Ef.U6 (names:=["mycmp"]) p D j r rfl rfl rfl (by decide) hd (λfd l E hd g=>?_) (rfl) (λL=>[L]) (λL b hb=>AM.mp hb▸AQ) (λS Q X=>by refine AI X λd e M=>by refine J e rfl) ?_;· refine Aw (JE.mp g) λv k=>J k ?_;unfold ES;refine J E (J hd ?_);show _=Bz _;kernel_rfl
 intro L Y S Q h₀ a i;refine AI i λd H u=>J H ?_;have P:(E5 (L+1) (E8 2).scope.names []).lookup ("mycmp":BA)=B (L+1):=rfl;have f:=a _ _ P;refine J cK (FL (Zx N p rfl rfl rfl rfl rfl rfl rfl ?_ rfl rfl (.inl ⟨rfl,AM.mpr rfl⟩) (FL (Mv (E9 (rfl) Be u)))));· intro K;refine AC (Ai.mp K) (λh=>(f.2.1 (AM.mp h))) λh=>(f.1 h)
end
section
noncomputable def kF4(c:Cx)(C:AW)(H:AF):Gq:=NE "__init__" ("cmp_to_key.<locals>.K."++"__init__") (dk 2).args (.stmts (dk 2).body) (dk 2).scope [] ((c.mg "__name__").getD .none) C H
noncomputable def kF5(c:Cx)(cell C:AW)(H:AF):Gq:=NE "__lt__" ("cmp_to_key.<locals>.K."++"__lt__") (dk 3).args (.stmts (dk 3).body) (dk 3).scope [("mycmp",cell)] ((c.mg "__name__").getD .none) C H
noncomputable def oC(o:Gq)(nm:BA):AX (AX AF):=match o with|⟨_,_,.dict es _,_⟩=>(match es.toList.find? (·.key.isStr nm)with|B e=>B (B e.val)|AJ=>if es.toList.any (·.refKey)then AJ else B AJ)|_=>AJ
noncomputable def cM(o:Gq)(nm:BA):AX (AX AF):=match oC o nm with|B (B v)=>B (B v)|B AJ=>(match fastBuiltinOwn "object" nm with|B v=>B (B v)|AJ=>B AJ)|AJ=>AJ
structure Fj(c:Cx)(K:Frag)(ca bt n2 md:AW)(t q1 um:Jd)(k:KD)(cell c4 c5:AW)(v4 v5:AF):Prop where cls:K.lookup ca=B (MV bt ca n2 t q1)ns:K.lookup n2=B (OJ k md)md:K.lookup md=B (RJ ca um)f4:K.lookup (k.f 4)=B (kF4 c c4 v4)f5:K.lookup (k.f 5)=B (kF5 c cell c5 v5)
section
variable{c:Cx}{K:Frag}{ca bt n2 md:AW}{t q1 um:Jd}{k:KD}{cell c4 c5:AW}{v4 v5:AF}
theorem Fj.find(S:Fj c K ca bt n2 md t q1 um k cell c4 c5 v4 v5)(nm:BA){r:AX AF}(h:cM (OJ k md) nm=B r):aN K (.ref ca) nm=B r:=by
 unfold aN;dsimp only;refine J S.cls ((?_:alongIn K nm [.ref ca,.type "object"]=B r));have e1:ownIn K nm (.ref ca)=oC (OJ k md) nm:=by
  unfold ownIn;dsimp only;refine J S.cls (?_:nsIn K n2 nm=_);unfold nsIn oC;refine J S.ns ?_;rfl
 unfold alongIn;refine J e1 ?_;unfold cM at h;cases p:oC (OJ k md) nm with|none=>rw[p]at h;exact Eb h|some x=>rw[p]at h;clear p;cases x with|some v=>exact h|none=>dsimp only at h⊢;unfold alongIn ownIn;dsimp only;cases V:fastBuiltinOwn "object" nm with|some v=>rw[V]at h;exact h|none=>rw[V]at h;exact h
theorem Fj.fi(S:Fj c K ca bt n2 md t q1 um k cell c4 c5 v4 v5):aN K (.ref ca) "__init__"=B (B (.ref (k.f 4))):=S.find _ (by kernel_rfl)
theorem Fj.fl(S:Fj c K ca bt n2 md t q1 um k cell c4 c5 v4 v5):aN K (.ref ca) "__lt__"=B (B (.ref (k.f 5))):=S.find _ (by kernel_rfl)
theorem Fj.fo(S:Fj c K ca bt n2 md t q1 um k cell c4 c5 v4 v5):aN K (.ref ca) "obj"=B (B (.ref md)):=S.find _ (by kernel_rfl)
theorem Fj.fs(S:Fj c K ca bt n2 md t q1 um k cell c4 c5 v4 v5):aN K (.ref ca) "__setattr__"=B (B (.builtin "object.__setattr__")):=S.find _ (by kernel_rfl)
theorem Fj.fg(S:Fj c K ca bt n2 md t q1 um k cell c4 c5 v4 v5):aN K (.ref ca) "__getattribute__"=B (B (.builtin "object.__getattribute__")):=S.find _ (by kernel_rfl)
theorem Fj.fh(S:Fj c K ca bt n2 md t q1 um k cell c4 c5 v4 v5):aN K (.ref ca) "__getattr__"=B AJ:=S.find _ (by kernel_rfl)
theorem Fj.tc(S:Fj c K ca bt n2 md t q1 um k cell c4 c5 v4 v5):aK K (.ref ca)=B (.type "type"):=by unfold aK;dsimp only;refine J S.cls rfl
theorem Fj.tm(S:Fj c K ca bt n2 md t q1 um k cell c4 c5 v4 v5):aK K (.ref md)=B (.type "member_descriptor"):=by unfold aK;dsimp only;refine J S.md rfl
theorem Fj.t4(S:Fj c K ca bt n2 md t q1 um k cell c4 c5 v4 v5):aK K (.ref (k.f 4))=B (.type "function"):=by unfold aK;dsimp only;refine J S.f4 rfl
theorem Fj.t5(S:Fj c K ca bt n2 md t q1 um k cell c4 c5 v4 v5):aK K (.ref (k.f 5))=B (.type "function"):=by unfold aK;dsimp only;refine J S.f5 rfl
theorem Fj.makes(S:Fj c K ca bt n2 md t q1 um k cell c4 c5 v4 v5):makesIn K ca=AO:=by
 have W:N9 K (.ref ca) "__call__"=B (B (.builtin "type.__call__")):=by unfold N9;refine J S.tc ?_;kernel_rfl
 have C:instIn K (.ref ca) (.type "type")=B AO:=by unfold instIn;refine J S.tc ?_;kernel_rfl
 unfold makesIn;refine J S.cls (J W (J C ?_));unfold MV aH;dsimp only;simp
theorem Fj.nP(S:Fj c K ca bt n2 md t q1 um k cell c4 c5 v4 v5):∃cd,clsIn K ca=B cd/\cd.mro=[.ref ca,.type "object"]/\cd.slotNames=[("obj":BA)]/\cd.hasDict=AD:=by
 unfold clsIn;refine J S.cls (IE _ rfl rfl rfl rfl)
theorem Fj.over(S:Fj c K ca bt n2 md t q1 um k cell c4 c5 v4 v5):plainOver K ca=AO:=by
 refine CF S.nP λcd h a M=>?_;unfold plainOver;refine J h (J AX.any_some (J a ?_));rfl
theorem Fj.takes(S:Fj c K ca bt n2 md t q1 um k cell c4 c5 v4 v5):takesIn K (.ref md)=B AO:=by
 have :N9 K (.ref md) "__set__"=B (B (.builtin "member_descriptor.__set__")):=by unfold N9;refine J S.tm ?_;kernel_rfl
 unfold takesIn;refine J this ?_;rfl
theorem Fj.mV(S:Fj c K ca bt n2 md t q1 um k cell c4 c5 v4 v5):takerIn K ca "obj"=B (B (.ref md)):=by
 unfold takerIn;refine J S.fo (J (N3 _ _) ?_);dsimp only;refine J S.takes rfl
theorem Fj.getter(S:Fj c K ca bt n2 md t q1 um k cell c4 c5 v4 v5):N9 K (.ref md) "__get__"=B (B (.builtin "member_descriptor.__get__")):=by unfold N9;refine J S.tm ?_;kernel_rfl
theorem Fj.slot(S:Fj c K ca bt n2 md t q1 um k cell c4 c5 v4 v5):slotIn K md ca=B 0:=by
 unfold slotIn recIn clsIn;refine J S.md (J S.cls ?_);unfold RJ MV aH;dsimp only;simp
theorem Fj.in{h:BJ}(e1:h.get? ca=B (MV bt ca n2 t q1))(I:h.get? n2=B (OJ k md))(y:h.get? md=B (RJ ca um))(G:h.get? (k.f 4)=B (kF4 c c4 v4))(r:h.get? (k.f 5)=B (kF5 c cell c5 v5)):∃K:Frag,K.In h/\Fj c K ca bt n2 md t q1 um k cell c4 c5 v4 v5:=by
  have b:n2≠ca:=λq=>by rw[q,e1]at I;exact(by have W:=Aq Hk (Af I);cases(W))
  have f:md≠ca:=λq=>by rw[q,e1]at y;exact(by have W:=Aq Hk (Af y);cases(W))
  have g:md≠n2:=λq=>by rw[q,I]at y;exact(by have W:=Aq Hk (Af y);cases(W))
  have i:(k.f 4)≠ca:=λq=>by rw[q,e1]at G;exact(by have W:=Aq Hk (Af G);cases(W))
  have j:(k.f 4)≠n2:=λq=>by rw[q,I]at G;exact(by have W:=Aq Hk (Af G);cases(W))
  have l:(k.f 4)≠md:=λq=>by rw[q,y]at G;exact(by have W:=Aq Hk (Af G);cases(W))
  have m:(k.f 5)≠ca:=λq=>by rw[q,e1]at r;exact(by have W:=Aq Hk (Af r);cases(W))
  have n:(k.f 5)≠n2:=λq=>by rw[q,I]at r;exact(by have W:=Aq Hk (Af r);cases(W))
  have p:(k.f 5)≠md:=λq=>by rw[q,y]at r;exact(by have W:=Aq Hk (Af r);cases(W))
  have s:(k.f 5)≠(k.f 4):=λq=>by
    rw[q,G]at r;have e:=Aq Hk (Af r);have e:=Aq (λd=>match d with|.func fd=>fd.name|_=>"") e;exact B8 (show(BR "__init__")=BR "__lt__"from e) (by decide)
  refine AK [(ca,MV bt ca n2 t q1),(n2,OJ k md),(md,RJ ca um),(k.f 4,kF4 c c4 v4),(k.f 5,kF5 c cell c5 v5)] ?_ ⟨?_,?_,?_,?_,?_⟩
  · intro a o e;simp only[Am,Nq]at e;repeat' split at e
    all_goals first|(first|exact Eb e|(replace e:=EY e;induction e using EC))|skip
    all_goals(rename_i q;first|exact BG.mp q▸e1|exact BG.mp q▸I|exact BG.mp q▸y|exact BG.mp q▸G|exact BG.mp q▸r)
  ·simp[Am]
  ·simp[Am,BD.mpr b]
  ·simp[Am,BD.mpr f,BD.mpr g]
  ·simp[Am,BD.mpr i,BD.mpr j,BD.mpr l]
  ·simp[Am,BD.mpr m,BD.mpr n,BD.mpr p,BD.mpr s]
end
end
section
open Builtin Builtin.ObjectAttr Builtin.Getset_descriptor
theorem ZA{prog:DH}{w:Em}{A:BQ}{s:AE}{K:Frag}{x C:AW}{R:Result->AE->Prop}{a:Gq}{y:AX Gq}{v:AF}{p i:Z}(X:K.In s.heap)(I:InstAt s.heap x a C y)(E:slotIn K p C=B i)(hi:i<1000)(h:R (.ok (.ret .none)) {s with heap:=s.heap.update x λo=>{o with slots:=(o.slots++IT (i+1-o.slots.size) AJ).setIfInBounds i (B v)}}):HZ (BF prog w) A (.call (.builtin "member_descriptor.__set__") ⟨[.ref p,.ref x,v],[]⟩) R s:=by
 refine j7 (slot_of X E) λn l owner c G d sl cd ho f z hb b=>?_;subst b;rcases s with⟨S,g,k,t,os⟩;have m:=I.type (M:=BF prog w);have q:=looks_mroIn (M:=BF prog w) X z;have r:Looks (BF prog w) S (Slots.slotNamesOf (.ref C)) cd.slotNames:=(looks_clsIn X f).andThen .now;have D:=I.at_;dsimp only at ho D m q;have u:=dS (M:=BF prog w) ho 0 (v:=.str n l) rfl;have e:=dS (M:=BF prog w) ho 1 (v:=owner) rfl;have F:=dS (M:=BF prog w) ho 3 (v:=.builtin "proto.slot#set") rfl;have j:=dS (M:=BF prog w) ho 4 (v:=.int c G) rfl;refine FN oZ.plain KF.entry_mset (oZ.check _ _ _ _ _ _ _ _ ⟨_,ho,rfl⟩ (KF.args_mset _ _ _) ?_);unfold Builtin.«member_descriptor.__set__» descrSet descrStoreThrough descrCheckInstance descrNameAndClass isInstance;have W:Looks (BF prog w) S (descrItself (.ref p)) [.ref p]:=((Looks.ld (part:=AJ) ho).andThen .now).andThen (Looks.of_pure (by kernel_rfl));repeat lk
 refine⟨Uw _ (by decide+kernel),JQ KF.entry_slotset ?_⟩;unfold Builtin.«proto.slot#set» Slots.target;repeat lk
 refine J (Ab hb) ?_;refine AH (AB ?_);unfold jy;dsimp only;refine J (Ab (by refine J Jb ?_;with_reducible exact rW ‹_›)) ?_;exact YY D (AH h)
noncomputable def MX(ca l:AW)(x:AF):Gq:={cls:=.ref ca,dict:=B l,data:=.plain,slots:=#[B x]}
noncomputable def gw(c:Cx)(d:V)(i:O)(G:EJ)(v:AF):Prop:=∃a ca l t,v=.ref a/\G a=B (MX ca l (.int i t))/\G l=B FW/\Zd c d ca G
theorem XD(c:Cx)(d:V)(i:O):Sr (gw c d i):=λG p v L X=>by refine Km X λa ca l t e W C T=>UD a ca l t e (L _ _ W (.inl F7)) (L _ _ C (.inl F7)) (T.sub L)
noncomputable def LC(c:Cx)(d:V)(i:O):V:=.abs (gw c d i)
theorem cg:∃H q p L,(dk 2).body=[.Assign [.Attribute (.Name "self" H) "obj" q] (.Name "obj" p) L]:=⟨_,_,_,_,rfl⟩
theorem Ve{c:Cx}{A:BQ}{E:AF->AE->Prop}{s:AE}{Q:AF->AE->Prop}{Y:U AW}{d:V}{v:AF}{i:O}{t:Jd}(hw:Wf c)(N:FD A 2)(j:St c s)(hL:Hf Y s.heap)(rv:Rd (fz Y s.heap) (KV c d) v)(q:∀r s',St c s'->Bk c.hB s.heap s'.heap->Rd (fz Y s'.heap) (LC c d i) r->(∀ca,v=.ref ca->∃a dd x,r=.ref a/\s'.heap.get? a=B (MX ca dd x))->Q r s'):Aj (BF c.prog c.w) A (Hi v [.int i t]) Q E s:=by
  induction rv using Rd.eA with|abs _ rv=>
  refine AI rv λca z kr=>?_;clear rv;subst z;have wr:=kr;refine R4 kr λbt n2 md t1 q1 um k cell W C T m n M=>?_;clear kr;refine R5 m λc4 v4 wt wu u4 F g1 g2 g3 g4=>?_;clear m;refine PI n λc5 v5 wv wx u5 y M=>?_;clear n;refine AI (Fj.in (Al.mp W).2 (Al.mp C).2 (Al.mp T).2 (Al.mp F).2 (Al.mp y).2) λK X S=>?_;rcases s with⟨h,g,dr,tk,os⟩;have wg:∀b o,h.get? b=B o->((h.push FW).push (Od ca h.objs.size)).get? b=B o:=λb o e=>AR _ (AR _ e);refine Gm (make_core (makes_of X S.makes) (looks_findIn X S.fi) (λwj=>bind_fn X wj S.t4) (.inl rfl) ?_);have hf:=wg _ _ (Al.mp F).2;have wl:h.get? h.objs.size=AJ:=EK _;have P:(h.push FW).objs.size=h.objs.size+1:=EO ..;have wh:h.get? (h.objs.size+1)=AJ:=by
    cases e:h.get? (h.objs.size+1)with|none=>rfl|some o=>exact B8 (Bg e) (LR.mpr (BH _))
  have D:((h.push FW).push (Od ca h.objs.size)).get? (h.objs.size+1)=B (Od ca h.objs.size):=by refine CS P (Ag _ rfl)
  have wm:((h.push FW).push (Od ca h.objs.size)).get? h.objs.size=B FW:=AR _ (Ag _ rfl);have f:Heap.CodeRec ((h.push FW).push (Od ca h.objs.size)) (.ref c4) ("cmp_to_key.<locals>.K."++"__init__"):=⟨c4,wt,wu,u4,rfl,wg _ _ (Al.mp g1).2,g3,g4⟩;have wn:=by have :=N.depth;exact rX ‹_›
  refine Ks (wn) hf rfl rfl rfl rfl f ?_;have hb:∀fd:EA,fd.params=(dk 2).args->fd.defaults=.none->ES fd ⟨[.ref (h.objs.size+1),.int i t],[]⟩=Bz ((["self","obj"]:U BA).zip [HD (h.objs.size+1),Value.int i t]):=λfd hp hd=>GU hp hd rfl λM M=>by kernel_rfl
  refine BB (hb _ rfl rfl) (IK (λx D=>?_) (λx D=>?_) (λh' wo wq=>⟨?_,WM ?_⟩) rfl);· have :((dk 2).scope.names.all λx=>x.2 !=.cell)=AO:=rfl;have :=Bi.mp this x D;simpa using this
  · refine AC (Ae.mp D) (λwi=>?_) λD=>?_;·subst wi;rfl
    · refine AC (Ae.mp D) (λwi=>?_) λD=>(JZ D);·subst wi;rfl
  · have G:∀b o,((h.push FW).push (Od ca h.objs.size)).get? b=B o->h'.get? b=B o:=λb o e=>by
     have hb:b≠((h.push FW).push (Od ca h.objs.size)).objs.size:=λq=>by rw[q,EK]at e;exact Eb e
     exact(wq.2 b hb).trans (AR _ e)
    exact((NoLimit.grow j.grow hw.lim).keeps wg).keeps G
  · have G:∀b o,((h.push FW).push (Od ca h.objs.size)).get? b=B o->h'.get? b=B o:=λb o e=>by
     have hb:b≠((h.push FW).push (Od ca h.objs.size)).objs.size:=λq=>by rw[q,EK]at e;exact Eb e
     exact(wq.2 b hb).trans (AR _ e)
    refine jH cg λH p2 p L u=>?_;generalize l:(dk 2).body=bd at u;refine J u (CH (plainObj_wpAny_Assign_Attribute ?_));refine Gn (GX rfl rfl wo rfl ?_);refine Gn (GX rfl rfl wo rfl ?_);have X':K.In h':=λa o e=>G _ _ (wg _ _ (X a o e));have I:InstAt h' (h.objs.size+1) (Od ca h.objs.size) ca (B FW):=⟨G _ _ D,rfl,rfl,G _ _ wm⟩;refine set_plain X' I S.fs (osa_descr oZ X' I S.over S.mV S.tm (ZA X' I S.slot (by decide) ?_));refine Ez ⟨rfl,?_⟩;have R:(h'.update (h.objs.size+1) λo=>{o with slots:=(o.slots++IT (0+1-o.slots.size) AJ).setIfInBounds 0 (B (.int i t))}).get? (h.objs.size+1)=B (MX ca h.objs.size (.int i t)):=Ca _ (G _ _ D) rfl;have w:∀b,b≠h.objs.size+1->(h'.update (h.objs.size+1) λo=>{o with slots:=(o.slots++IT (0+1-o.slots.size) AJ).setIfInBounds 0 (B (.int i t))}).get? b=h'.get? b:=λb hb=>D0 _ _ _ _ hb;have kk:∀b o,h.get? b=B o->(h'.update (h.objs.size+1) λo=>{o with slots:=(o.slots++IT (0+1-o.slots.size) AJ).setIfInBounds 0 (B (.int i t))}).get? b=B o:=λb o e=>by
     refine J (w b λq=>by rw[q,wh]at e;exact Eb e) (G _ _ (wg _ _ e))
    generalize(h'.update (h.objs.size+1) λo=>{o with slots:=(o.slots++IT (0+1-o.slots.size) AJ).setIfInBounds 0 (B (.int i t))})=C at R w kk⊢;have g1:Bk c.hB h C:=.of_keep kk;refine q _ _ (j.keep kk (by dsimp;exact rV)) g1 (.abs (XD c d i) ⟨_,ca,_,t,rfl,Al.mpr ⟨hL.fresh wh,R⟩,Al.mpr ⟨hL.fresh wl,?_⟩,wr.sub (DB g1 Y)⟩) (λwy e=>by cases(e);exact R8 _ _ _ rfl R);refine J (w _ (by exact ln)) (G _ _ wm)
end
section
variable{F:Fx}{h₀:BJ}{σ:AS}{Y:U AW}{c:Cx}
noncomputable def GD(d:V):Prop:=∀(M:eD)Y(h:BJ)v,Rd (fz Y h) d v->∃k,(k=Keeper.frame\/k=Keeper.machine\/k=Keeper.boundFrame)/\Looks M h (keeperOf v) k
theorem GD.fn{i:Dl}{body:Mz}{S:Cw}{cv:U (BA×V)}:GD (YG i body S cv):=λM Y h v r=>by
 induction r using Rd.eA with|abs _ r=>refine jA r λa o fd cd N b t H C T F c=>J H (AK .frame (.inl rfl) ?_);intro A Q E s k q;refine AB (Gl (k _ _ (Al.mp C).2) ?_);refine J F (AH q)
theorem GD.key{d:V}:GD (KV c d):=λM Y h v r=>by
 induction r using Rd.eA with|abs _ r=>refine AI r λca H G=>R4 G λbt n2 md t1 q1 um k cell W C T m n i=>PI m λc4 v4 g o z F i=>PI n λc5 v5 u w R y i=>J H (AI (Fj.in (Al.mp W).2 (Al.mp C).2 (Al.mp T).2 (Al.mp F).2 (Al.mp y).2) λK X S=>AI (looks_keep (by
have f:N9 K (.ref ca) "__call__"=B (B (.builtin "type.__call__")):=by unfold N9;refine J S.tc ?_;kernel_rfl
unfold keepIn;dsimp only;refine J S.cls ?_;unfold MV aH;dsimp only;refine J f ?_;rfl) X) λk a b=>AK k (a.elim .inl λe=>.inr (.inl e)) b)
noncomputable def Kc(c:Cx)(n:Z)(d:V)(P:U V->(V->Prop)->Prop):Prop:=∀A E s Y v F S Q,FD A n->St c s->Hf Y s.heap->Rd (fz Y s.heap) d v->C3 (fz Y s.heap) S F->P S Q->Aj (BF c.prog c.w) A (Hi v F) (λr s'=>St c s'/\Bk c.hB s.heap s'.heap/\∃w,Rd (fz Y s'.heap) w r/\Q w) E s
theorem Kc.less{n m:Z}{d:V}{P:U V->(V->Prop)->Prop}(h:Kc c n d P)(K:n<=m):Kc c m d P:=λA E s Y v F S Q g=>h A E s Y v F S Q (g.less K)
theorem OW{f:BA}{d:V}{n pos:EQ}{e:BL}{es:U BL}{P:U V->(V->Prop)->Prop}{Q:V->Prop}(o:σ.lookup f=B (.v d))(R:GD d)(ok:Kc F.c F.n d P)(K:∀a∈Y,a∈F.X σ)(h:OV F σ Y (e::es) λu=>P u Q)(he:∀env,Bn (e::es) env=(AD,Gp e env)::Bn es env:=by intro env;rfl)(p:∀pos env,(Fg pos (Bn es env)).any (·.1)=AD:=by intro M M;rfl)(hd:(f==("__debug__":BA))=AD:=by decide)(hg:Hd f=AD:=by decide):WE F σ Y (.Call (.Name f n) (e::es) [] pos) Q:=by
 intro A E s N j T;refine AI (T.slot f _ o) λL v b=>IW (Gn ((v hg).load T.ok.kind ?_) hd);have hb:∀pos,Fg pos (Bn (e::es) F.env)=(AD,Gp e F.env)::Fg pos (Bn es F.env):=λpos=>by refine J (he _) rfl
 refine callWith_of (by refine J (hb _) (J (p _ _) ?_);rfl) (λh X=>by refine Aw X λY r=>R _ Y h L r) (J (hb _) (oh (CS (hb _) (h.bind N j T λC s₁ u l w t m g=>?_))));have c:=Rd.sub ((Ed K _).trans (DB w _)) b;exact⟨⟨Y,c⟩,Ad (ok A E s₁ Y L C u Q N l (t.Ft K) c m g) (λr y X=>by refine B7 X λk z G=>AI G λD i q=>⟨k,w.trans z,D,i,q⟩) λM M x=>x⟩
theorem Kc.key(p:Wf c)(n:Z)(d:V):Kc c (n+2) (KV c d) (λS Q=>∃i,S=[.int i]/\Q (LC c d i)):=λA E s Y v F S Q N j K D m X=>by
 refine AI X λi e q=>?_;subst e;induction m using C3.eC with|cons P m=>induction m using C3.eN;induction P using Rd.eI with|int t=>exact Ve p (N.less (by exact pM)) j K D λr s' x u G M=>⟨x,u,_,G,q⟩
theorem YS{x:BA}{d:V}{i:O}{e pos:EQ}{Q:V->Prop}(D:σ.lookup x=B (.v (LC F.c d i)))(q:Q (.int i))(hd:(x==("__debug__":BA))=AD:=by decide)(hg:Hd x=AD:=by decide):WE F σ Y (.Attribute (.Name x e) "obj" pos) Q:=by
 intro A E s N j c;refine AI (c.slot x _ D) λL v b=>WF (Gn ((v hg).load c.ok.kind ?_) hd);clear v;induction b using Rd.eA with|abs _ b=>refine Km b λa ca l t H P p G=>R4 G λbt n2 md t1 q1 um k cell W C T m n M=>PI m λc4 v4 g o z h M=>PI n λc5 v5 u w R y M=>J H (AI (Fj.in (Al.mp W).2 (Al.mp C).2 (Al.mp T).2 (Al.mp h).2 (Al.mp y).2) λK X S=>?_);have I:InstAt s.heap a (MX ca l (.int i t)) ca (B FW):=⟨(Al.mp P).2,rfl,rfl,(Al.mp p).2⟩;refine AI S.nP λcd f M=>get_bind X I S.fg (findObj_data (by refine J f rfl) S.fo S.getter S.takes) S.fh (Gm (slot_get X I S.slot rfl (handed_on rfl ?_)));exact Gr.of j (.refl _ _) (Kp.tok s (BH _)) (.int i t) q
noncomputable def QQ(c:Cx)(n:Z)(d:V)(f:O->O->O)(k:O->Prop):Prop:=Kc c n d (λS Q=>∃i j,S=[.int i,.int j]/\k i/\k j/\Q (.int (f i j)))
theorem cf:∃H q p L m v I r R k,(dk 3).body=[.Return (B (.Compare (.Call (.Name "mycmp" H) [.Attribute (.Name "self" q) "obj" p,.Attribute (.Name "other" L) "obj" m] [] v) [.Lt] [.Constant (.int 0) k I] r)) R]:=⟨_,_,_,_,_,_,_,_,_,_,rfl⟩
theorem Vj{n:Z}{A:BQ}{E:AF->AE->Prop}{s:AE}{d:V}{f:O->O->O}{wg:O->Prop}{va vb:AF}{i j:O}(hw:Wf c)(N:FD A (n+1))(hS:St c s)(hL:Hf Y s.heap)(R:GD d)(ok:QQ c n d f wg)(hi:wg i)(o:wg j)(ra:Rd (fz Y s.heap) (LC c d i) va)(rb:Rd (fz Y s.heap) (LC c d j) vb):Aj (BF c.prog c.w) A (callSpecialIfBound? va "__lt__" [vb]) (λr s'=>r=B (.bool (B9 (f i j<0)))/\St c s'/\Bk c.hB s.heap s'.heap) E s:=by
 have wl:=ra;have wm:=rb;induction ra using Rd.eA with|abs _ ra=>induction rb using Rd.eA with|abs _ rb=>
 refine Km ra λa ca dd t wh P wn G=>?_;clear ra;refine R4 G λbt n2 md t1 q1 um k cell W C T wi wj wo=>Cj wo λoc u e1 e2 e3=>PI wi λc4 v4 wv wx u4 F M=>R5 wj λc5 v5 wq wr u5 h5 g1 g2 g3 g4=>?_;subst wh;refine Km rb λb wy wz t' wh hb wu G=>?_;clear rb;refine bY G λx8 x9 xA xB xC xD k' wt xE M=>?_;subst wh;refine AI (Fj.in (Al.mp W).2 (Al.mp C).2 (Al.mp T).2 (Al.mp F).2 (Al.mp h5).2) λK X S=>?_;have I:InstAt s.heap a (MX ca dd (.int i t)) ca (B FW):=⟨(Al.mp P).2,rfl,rfl,(Al.mp wn).2⟩;have Q:Rd (fz Y s.heap) (YG (dk 3).args (.stmts (dk 3).body) (dk 3).scope [("mycmp",d)]) (.ref (k.f 5)):=by
  refine .abs Vt ⟨(k.f 5),_,_,c5,wq,wr,u5,rfl,h5,rfl,rfl,rfl,rfl,rfl,rfl,rfl,rfl,rfl,g1,g2,g3,g4,?_⟩;refine⟨λx w e=>?_,λx k2 e=>?_,λx y k2 ex ey=>?_⟩;· rw[Am]at e;cases D:x==("mycmp":BA)with|true=>rw[D]at e;replace e:=EY e;induction e using EC;exact UE cell oc u (by refine J Am (J D ?_);rfl) e1 e2 e3|false=>rw[D]at e;exact Eb e
  · rw[Am]at e;cases D:x==("mycmp":BA)with|true=>rw[D]at e;replace e:=EY e;induction e using EC;exact FK oc (B u) e1 e2|false=>rw[D]at e;exact Eb e
  · have ex:Iv x [(("mycmp":BA),cell)]=B k2:=ex;rw[Am]at ex ey;cases D:x==("mycmp":BA)with|false=>rw[D]at ex;exact Eb ex|true=>cases hy:y==("mycmp":BA)with|false=>rw[hy]at ey;exact Eb ey|true=>refine J (BG.mp D) (J (BG.mp hy) ?_);rfl
 have run:∀E',Aj (BF c.prog c.w) A (Hi (.ref (k.f 5)) [.ref a,.ref b]) (λr s'=>r=.bool (B9 (f i j<0))/\St c s'/\Bk c.hB s.heap s'.heap) E' s:=by
  intro E';refine fQ cf λp1 q p p4 p5 p6 p7 p8 p9 kk eb=>Ad (cn (Q:=λw=>w=.bool (B9 (f i j<0))) ["self","other"] hw N hS hL Q (.cons wl (.cons wm .nil)) rfl rfl rfl rfl (rfl) (by decide) (rfl) (by kernel_rfl) (λfd l hp hd g=>GU hp hd g λM M=>by kernel_rfl) λL z qn fa cd=>?_) (λr s' H=>?_) λM M x=>x;· refine FL (Mv ?_);refine XY (OW (d:=d) rfl R ok Be ?_);refine Cz (YS rfl ?_) (λM=>rfl);refine Cz (YS rfl ?_) (λM=>rfl);refine Er ⟨i,j,rfl,hi,o,?_⟩;refine XX ⟨_,.ltI _ _,rfl⟩
  · refine B7 H λS' g' G=>?_;clear H;refine AI G λw m e=>?_;clear G;subst e;induction m using Rd.eB;exact Cf rfl S' g'
 refine ifBound_K X I S.fl (BG.mpr S.t5) (Ad (run _) (λv s' H=>?_) λM M e=>e);refine Aa H λe h=>CS e ⟨rfl,h⟩
theorem fq{n:Z}{A:BQ}{E:AF->AE->Prop}{s:AE}{Q:AF->AE->Prop}{d:V}{f:O->O->O}{k:O->Prop}{m vb:AF}{i j:O}(p:Wf c)(N:FD A (n+1))(hS:St c s)(K:Hf Y s.heap)(R:GD d)(ok:QQ c n d f k)(hi:k i)(hj:k j)(L:Rd (fz Y s.heap) (LC c d i) m)(X:Rd (fz Y s.heap) (LC c d j) vb)(q:∀s',St c s'->Bk c.hB s.heap s'.heap->Q (.bool (B9 (f i j<0))) s'):Aj (BF c.prog c.w) A (compareOp .Lt m vb) Q E s:=by
  have wh:=L;have wi:=X;induction L using Rd.eA with|abs _ L=>induction X using Rd.eA with|abs _ X=>
  refine Km L λa ca l t T P wj M=>?_;clear L;subst T;refine Km X λb g wl t' T hb S G=>?_;clear X;refine bY G λwm wn wt wo wq wu C wr F M=>?_;subst T;have I:InstAt s.heap a (MX ca l (.int i t)) ca (B FW):=⟨(Al.mp P).2,rfl,rfl,(Al.mp wj).2⟩;have I':InstAt s.heap b (MX g wl (.int j t')) g (B FW):=⟨(Al.mp hb).2,rfl,rfl,(Al.mp S).2⟩;have one:Aj (BF c.prog c.w) A (tryCompare (.ref a) "__lt__" (.ref b)) (λr s'=>r=B (.bool (B9 (f i j<0)))/\St c s'/\Bk c.hB s.heap s'.heap) E s:=by
    unfold tryCompare;refine AB (Ad (Vj p N hS K R ok hi hj wh wi) (λv s' H=>?_) λM M e=>e);refine Aa H λe h=>?_;clear H;subst e;exact AH ⟨rfl,h⟩
  refine cmp_ofLt ?_;unfold richCompare;dsimp only[oneThing_ref];refine Co (AB (wpAny_cRoomFor N.unit ?_));refine AB (I.type.here (AB (I'.type.here ?_)));split
  · rename_i w;have wg:Looks (BF c.prog c.w) s.heap (Mi (.ref g) (.ref ca)) AD:=by
     have X':Frag.In [(g,MV wm g wn wo wq)] s.heap:=by
      intro a o e;simp only[Am,Nq]at e;split at e;·rename_i y;replace e:=EY e;induction e using EC;exact BG.mp y▸(Al.mp F).2
      ·exact Eb e
     refine looks_mroIn X' ?_;have W:g≠ca:=λy=>by rw[y]at w;simp at w
     unfold mroIn clsIn;simp[Am,MV,aH];exactλy=>W y.symm
    refine AB (wg.here ?_);refine AB (Ad one (λr s' z=>?_) λM M e=>e);refine B7 z λD x u=>?_;clear z;subst D;exact AH (q s' x u)
  · refine AB (AH ?_);refine AB (Ad one (λr s' z=>?_) λM M e=>e);refine B7 z λD x u=>?_;clear z;subst D;exact AH (q s' x u)
theorem jg{n:Z}{l r:BL}{pos:EQ}{d:V}{f:O->O->O}{k:O->Prop}{Q:BC->Prop}(c:Wf F.c)(p:F.n=n+1)(R:GD d)(ok:QQ F.c n d f k)(h:WE F σ F.Xo l λa=>WE F σ F.Xo r λb=>∃i j,a=LC F.c d i/\b=LC F.c d j/\k i/\k j/\Q (B9 (f i j<0)))(K:Ui .Lt r=AD:=by with_unfolding_all rfl):WT F σ (.Compare l [.Lt] [r] pos) Q:=by
 intro A E s N e T;refine na (h.bind N e T λm s₁ a D w G L C=>C.bind N D G λI y b g z t X H=>?_) K;refine Jt H λi j S v hi o q=>?_;clear H;clear C;subst S v;exact fq c (p▸N) g (t.Ft Be) R ok hi o (Rd.sub (DB z _) L) X λs' x u=>KN ⟨x,(w.trans z).trans u,q⟩
end
section
theorem QO{prog:DH}{w:Em}{A:BQ}{E:AF->AE->Prop}{s:AE}{it:AW}{x a iG:O}{Q:AF->AE->Prop}(g:og s.heap it x a iG)(b:0<a)(c:∀h',og h' it (x+iG) (a-1) iG->Heap.SameBut it s.heap h'->Q (.int x s.toks) {s with heap:=h',toks:=s.toks+1}):Aj (BF prog w) A (Hi (.builtin "next") [.ref it]) Q E s:=by
 have V:s.TypeIs (.ref it) "range_iterator":=⟨_,g,rfl⟩;refine call_function_entry (rfl) (rfl) kdk_entry_next (kdk_args_next _) (AB (BB (a:=[HD it]) (by first|rfl|kernel_rfl!) ?_));dsimp only;refine AB (aI V LQ.lookup ?_);refine wpAny_ite_split (λY=>B8 Y (by decide)) (λM=>?_);refine AB (jw V LQ (QA LQ V F.entry_range_iterator_next (F.args_range_iterator_next_1 _) (AutoRange.range_iterator___next___range_iterator_1 it x a iG (by exact qW ‹_›)) ⟨g,?_⟩));exact AH ⟨_,rfl,c _ (Ca _ (Ca _ g rfl) rfl) ((Lu ..).trans (Lu ..))⟩
noncomputable def Uf(c:Cx)(d:V)(xs:U V):Prop:=∀A E s Y v(Q:AF->AE->Prop),A.handled=AJ->St c s->Hf Y s.heap->Rd (fz Y s.heap) d v->(∀(o:Gq)(fp:U AW)(P:Z->AF->Prop)(S:Z->BJ->Prop),s.heap.get? s.heap.objs.size=AJ->EX o.cls=AD->o.isFreed=AD->(∀F,F.handled=AJ->Walks c.prog c.w F s.heap.objs.size fp [s.heap.objs.size] xs.length P S)->S 0 (s.heap.push o)->(∀b∈fp,b=s.heap.objs.size\/(b∉Y/\∃R,s.heap.get? b=B R/\R.cls≠.none))->(∀i h,S i h->∃o',h.get? s.heap.objs.size=B o'/\EX o'.cls=AD)->(∀i v,i<xs.length->P i v->∃d,xs[i]?=B d/\Rd (fz Y s.heap) d v)->(∀F l s' i(C:AF->AE->Prop),i<xs.length->S i s'.heap->(∀v h' tk,P i v->S (i+1) h'->s'.toks<=tk->(∀b R,b∉[s.heap.objs.size]->s'.heap.get? b=B R->h'.get? b=B R)->C v {s' with heap:=h',toks:=tk})->Aj (BF c.prog c.w) F (Hi (.builtin "next") [.ref s.heap.objs.size]) C l s')->Q (.ref s.heap.objs.size) {s with heap:=s.heap.push o})->Aj (BF c.prog c.w) A (kZ v) Q E s
theorem Uf.range{c:Cx}(a b:O)(L:FY a b 1=AO):Uf c (Kl a b) (Cq a b):=by
 intro A E s Y v Q N j K n k;induction n using Rd.eA with|abs m e=>
    refine Ge e ?_;clear e;intro r t u w T e;subst T;have o:=(Al.mp e).2;refine Uo o L ?_;have p:Br a b 1=(((Cq a b).length:Z):O):=by
      simp only[Cq,AL,CW,Br];simp only[Nr,aA,KH,Kz];split<;>(first|exact iZ ‹_›|exact iY ‹_›|omega)
    refine k _ [s.heap.objs.size] _ _ (EK _) rfl rfl (λF y=>oW y _ a 1 _) ?_ (λb hb=>.inl (AM.mp hb)) ?_ ?_ ?_;· have :=Ag s.heap (o:={cls:=.type "range_iterator",data:=.fields #[BI a,BI (Br a b 1),BI 1]}) rfl;refine(?_:(s.heap.push _).get? _=B {cls:=.type "range_iterator",dict:=AJ,data:=.fields #[BI (a+(0:Z)*1),BI (((Cq a b).length:Z)-(0:Z)),BI 1],slots:=#[]});refine J this (J p ?_);simp
    · intro i h hi;exact AK _ hi rfl
    · intro i v hi f;refine Aw f λt z=>?_;clear f;subst z;refine AK (.int (a+(i:Z)*1)) ?_ (.int _ _);have d:=by simpa[Cq]using hi
      simp[Cq,d]
    · intro F l s' i D hi g q;have x:=g;refine QO x (by exact qZ ‹_›) λh' W C=>q _ _ _ ⟨_,rfl⟩ ?_ (BH _) λb R hb e=>C.extBut b R (λh=>hb (by simp[h])) e;refine(?_:og h' _ (a+((i+1:Z):O)*1) (((Cq a b).length:Z)-((i+1:Z):O)) 1);have e1:a+((i+1:Z):O)*1=a+(i:O)*1+1:=by push_cast;exact qY
      have I:(((Cq a b).length:Z):O)-((i+1:Z):O)=(((Cq a b).length:Z):O)-(i:O)-1:=by push_cast;exact qX
      refine J e1 (J I W)
theorem Bv.Zh{c:Cx}{b:AW}{o:Gq}(hb:c.hB.get? b=B o)(hd:o.data=.plain)(xs:U V):Bv c .Is (.list xs) (F0 b) AD:=.of λA E s m I Q j N L X k=>by
 refine J X.IC ?_;clear X;induction L using Rd.eL with|list e r=>have C:=j.grow.Gk hb (by refine J hd MQ);refine wpAny_is_ref_other (λq=>?_) e C (by refine(?_:(DZ "list")≠.type "tuple");decide) (k _ (Keeps.refl s));clear hb;subst q;rw[C]at e;clear C;replace e:=EY e;induction e using Tb;cases(hd)
structure kQ(c:Cx):Prop where
iter:Pn c "iter" (.builtin "iter")next:Pn c "next" (.builtin "next")miss:c.mg "_initial_missing"=B (.ref 39)missAt:∃o,c.hB.get? 39=B o/\o.data=.plain
deft:∃o nn,c.hB.get? 40=B o/\o.data=.seq #[.ref 39] nn
red:c.mg "reduce"=B (.ref 47)redAt:∃o fd,Xe c 4 47 o fd/\fd.defaults=.ref 40/\fd.code=.ref 46/\fd.qualname="reduce"
theorem Zs{prog:DH}{w:Em}{A:BQ}{E:AF->AE->Prop}{s:AE}{v:AF}{Q:AF->AE->Prop}(h:Aj (BF prog w) A.in1 (kZ v) Q (λM M=>Dp) s):Aj (BF prog w) A (Hi (.builtin "iter") [v]) Q E s:=by
 refine call_function_entry (rfl) (rfl) kdk_entry_iter (kdk_args_iter _) (AB (BB (a:=[v]) (by first|rfl|kernel_rfl!) ?_));exact AB (Ad h (λr s' q=>AH ⟨_,rfl,q⟩) λM M x=>x.elim)
theorem gf{prog:DH}{w:Em}{A:BQ}{E:AF->AE->Prop}{s:AE}{fd:EA}{o:Gq}(b:fd.params=(E8 4).args)(hd:fd.defaults=.ref 40)(ho:s.heap.get? 40=B o){K:_}(k:o.data=.seq #[.ref 39] K){Q:U (BA×AF)->AE->Prop}:(∀u v,Q ((["function","sequence","initial"]:U BA).zip [u,v,.ref 39]) s->Aj (BF prog w) A (ES fd ⟨[u,v],[]⟩) Q E s)/\(∀u v x,Q ((["function","sequence","initial"]:U BA).zip [u,v,x]) s->Aj (BF prog w) A (ES fd ⟨[u,v,x],[]⟩) Q E s):=by
 have a:fd.params=⟨[],[⟨"function",AJ,⟨29,11,29,19⟩⟩,⟨"sequence",AJ,⟨29,21,29,29⟩⟩,⟨"initial",AJ,⟨29,31,29,38⟩⟩],AJ,[],[],AJ,[(BL.Name "_initial_missing" ⟨29,39,29,55⟩)]⟩:=b;constructor;· intro u v q;unfold ES;refine J a (J hd ?_);dsimp only[Bo,Ky,Fz];refine AB (AH ?_);refine AB (KO ho k ?_);exact BB (by first|rfl|kernel_rfl) q
 · intro u v x q;unfold ES;refine J a (J hd ?_);dsimp only[Bo,Ky,Fz];refine AB (AH ?_);refine AB (KO ho k ?_);exact BB (by first|rfl|kernel_rfl) q
noncomputable def RedP(c:Cx)(n:Z)(S:U V)(Q:V->Prop):Prop:=∃(f F:V)(w:U V->(V->Prop)->Prop)(xs:U V)(de:Z->V->Prop),GD f/\Kc c n f w/\(∀k acc d R,xs[k]?=B d->de k acc->(∀r,de (k+1) r->R r)->w [acc,d] R)/\(∀r,de xs.length r->Q r)/\((S=[f,F]/\Uf c F xs/\∃i,xs[0]?=B i/\de 1 i)\/(∃a,S=[f,F,.list a]/\HX c F xs/\de 0 (.list a)))
section
variable{c:Cx}{n L:Z}{Y:U AW}
noncomputable abbrev Fp(c:Cx)(n:Z)(L:AW)(Y:U AW):Fx:=Fx.hG c n (E8 4).scope 47 L Y ("reduce"++".<locals>.") (.ref 46) (J7 (E8 4).scope L)
noncomputable def ZJ(f F b:V)(I:AW)(acc:V):AS:=[("function",.v f),("sequence",.v F),("initial",.v b),("it",.v (F0 I)),("value",.v acc)]
theorem bE{h₀:BJ}{s₁:AE}{σ₁:AS}{I:AW}{fp:U AW}{P:Z->AF->Prop}{S:Z->BJ->Prop}{xs:U V}{s:AE}{i:Z}{f F b acc:V}{w:U V->(V->Prop)->Prop}{de:Z->V->Prop}{Q:V->Prop}{A:BQ}{E:AF->AE->Prop}(H:Lk (Fp c n L Y) h₀ s₁ σ₁ I fp P S xs)(N:FD A n)(hi:i<=xs.length)(a:KW (Fp c n L Y) h₀ s₁ σ₁ I S i (ZJ f F b I acc) s)(hk:GD f)(ok:Kc c n f w)(iG:∀k acc d R,xs[k]?=B d->de k acc->(∀r,de (k+1) r->R r)->w [acc,d] R)(u:∀r,de xs.length r->Q r)(h:de i acc):Aj (Fp c n L Y).M A (execs ((E8 4).body.drop 2) (Fp c n L Y).env) (λfl s'=>∃C σ',FX (Fp c n L Y) h₀ σ' s'/\CZ (Fp c n L Y) σ₁ σ' s₁ s'/\Nh (Fp c n L Y) s' fl C/\J3 Q C σ') E s:=by
  refine CH (KW.for_ H N (λk σ'=>∃acc t,σ'=ZJ f F b I acc++t/\de k acc/\(t=[]\/∃d,t=Dz "element" d)) hi a (iL ⟨rfl,AQ⟩) rfl ⟨acc,[],rfl,h,.inl rfl⟩ ?_ ?_)
  · intro k σ' d hd g;refine Cj g λm t v e o=>?_;clear g;subst v;have hs:(ZJ f F b I m++t).put "element" (.v d)=ZJ f F b I m++Dz "element" d:=by focus(refine AC o ?_ ?_;rotate_left;(focus(clear o;intro X;refine Aw X λM z=>?_;clear X;subst z));rotate_right;(focus(clear o;intro X;subst X)))<;>rfl
    refine J hs (FL (EZ (iL ⟨rfl,AQ⟩) ?_));refine OW rfl hk ok CX (Cz (E9 rfl CX ?_) (λM=>rfl));refine Cz (E9 rfl CX ?_) (λM=>rfl);refine Er (iG k m d _ hd e λr hr=>Ng ⟨r,Dz "element" d,rfl,hr,.inr ⟨_,rfl⟩⟩)
  · intro σ' s' j;refine Cj j λm t v e o=>?_;clear j;subst v;intro W G;have p:WS (Fp c n L Y) h₀ (ZJ f F b I m++t) ((E8 4).body.drop 3) (J3 Q):=by
     refine FL (Mv (E9 rfl Be ?_));exact u _ e
    exact Ad (p A E s' N W) (λfl y T=>by refine Dg T λC l D K r q=>Dm C l D (G.trans W K) r q) λM M x=>x
theorem U0{h₀:BJ}{s₁:AE}{σ₁:AS}{I:AW}{fp:U AW}{P:Z->AF->Prop}{S:Z->BJ->Prop}{xs:U V}{s:AE}{i:Z}{d:V}{v:AF}{σ:AS}{Q:LL->AE->Prop}{A:BQ}{E:AF->AE->Prop}{x:BA}(H:Lk (Fp c n L Y) h₀ s₁ σ₁ I fp P S xs)(a:KW (Fp c n L Y) h₀ s₁ σ₁ I S i σ s)(D:DG (Fp c n L Y) x)(m:Rd (fz (((Fp c n L Y).hold I).X σ) s.heap) d v)(k:∀s',KW (Fp c n L Y) h₀ s₁ σ₁ I S i (σ.put x (.v d)) s'->Q () s'):Aj (Fp c n L Y).M A (FC (Fp c n L Y).env x v) Q E s:=Ew (F:=(Fp c n L Y).hold I) (sl:=.v d) a.T a.T.rep D m λs' W u=>k s' (a.step H W (CZ.store u))
theorem VE{h₀:BJ}{s:AE}{f F wg:V}{xs:U V}{Pf:U V->(V->Prop)->Prop}{de:Z->V->Prop}{Q:V->Prop}{A:BQ}(N:Nm c)(R:kQ c)(hA:FD A n)(hk:GD f)(ok:Kc c n f Pf)(iG:∀k acc d R,xs[k]?=B d->de k acc->(∀r,de (k+1) r->R r)->Pf [acc,d] R)(hq:∀r,de xs.length r->Q r)(wl:(wg=F0 39/\Uf c F xs/\∃x0,xs[0]?=B x0/\de 1 x0)\/(∃wh,wg=.list wh/\HX c F xs/\de 0 (.list wh))){E:AF->AE->Prop}(T:FX (Fp c n L Y) h₀ [("function",.v f),("sequence",.v F),("initial",.v wg)] s):Aj (Fp c n L Y).M A (execs (E8 4).body (Fp c n L Y).env) (Ob (Fp c n L Y) h₀ [("function",.v f),("sequence",.v F),("initial",.v wg)] s (J3 Q)) E s:=by
 have hE:OV (Fp c n L Y) [("function",.v f),("sequence",.v F),("initial",.v wg)] ((Fp c n L Y).X [("function",.v f),("sequence",.v F),("initial",.v wg)]) [.Name "sequence" ⟨30,14,30,22⟩] λds=>ds=[F]:=Cz (E9 rfl CX (Er rfl)) λM=>rfl;have xH:∀(I:AW)(fp:U AW)(P:Z->AF->Prop)(S:Z->BJ->Prop)(s₁ y:AE),Bk c.hB s.heap s₁.heap->Lk (Fp c n L Y) h₀ s₁ [("function",.v f),("sequence",.v F),("initial",.v wg)] I fp P S xs->KW (Fp c n L Y) h₀ s₁ [("function",.v f),("sequence",.v F),("initial",.v wg)] I S 0 [("function",.v f),("sequence",.v F),("initial",.v wg)] y->(wg=F0 39->∀A' E' s' i(Q':AF->AE->Prop),i<xs.length->S i s'.heap->(∀v h' tk,P i v->S (i+1) h'->s'.toks<=tk->(∀b ob,b∉[I]->s'.heap.get? b=B ob->h'.get? b=B ob)->Q' v {s' with heap:=h',toks:=tk})->Aj (BF c.prog c.w) A' (Hi (.builtin "next") [.ref I]) Q' E' s')->Aj (Fp c n L Y).M A (FC (Fp c n L Y).env "it" (.ref I)) (λM wz=>Aj (Fp c n L Y).M A (execs ((E8 4).body.drop 1) (Fp c n L Y).env) (Ob (Fp c n L Y) h₀ [("function",.v f),("sequence",.v F),("initial",.v wg)] s (J3 Q)) E wz) E y:=by
  intro I fp P S s₁ y g H a nx;refine U0 H a (iL ⟨rfl,AQ⟩) (Rd.F0 I) λwz wi=>?_;have tail:∀(i:Z)(acc:V)(s':AE),i<=xs.length->de i acc->KW (Fp c n L Y) h₀ s₁ [("function",.v f),("sequence",.v F),("initial",.v wg)] I S i (ZJ f F wg I acc) s'->Aj (Fp c n L Y).M A (execs ((E8 4).body.drop 2) (Fp c n L Y).env) (Ob (Fp c n L Y) h₀ [("function",.v f),("sequence",.v F),("initial",.v wg)] s (J3 Q)) E s':=λi acc s' hi h a'=>Ad (bE H hA hi a' hk ok iG hq h) (λfl x8 xM=>by refine Dg xM λxN σ' T' m' r q=>Dm xN σ' T' ((CZ.DO g).trans H.T₁ m') r q) λM M x=>x;have xI:∀σ,WE ((Fp c n L Y).hold I) σ ((Fp c n L Y).hold I).Xo (.Name "_initial_missing" ⟨31,18,31,34⟩) λd=>d=F0 39:=λσ=>YT N.wf rfl R.miss rfl;clear hE a;focus(refine AC wl ?_ ?_;rotate_left;(focus(clear wl;intro X;refine CF X λwh z wt h0=>?_;clear X;subst z));rotate_right;(focus(clear wl;intro X;refine B7 X λxO wt G=>?_;clear X;refine AI G λx0 xJ h1=>?_;subst xO)))
  · have u:=(Az.mp xJ).1;have ht:WT ((Fp c n L Y).hold I) [("function",.v f),("sequence",.v F),("initial",.v (F0 39)),("it",.v (F0 I))] (.Compare (.Name "initial" ⟨31,7,31,14⟩) [.Is] [.Name "_initial_missing" ⟨31,18,31,34⟩] ⟨31,7,31,34⟩) λb=>b=AO:=Kq (E9 rfl Be ((xI _).mono λd e=>⟨AO,by refine J e (.cO 39 39 rfl),rfl⟩));refine CH (wpAny_If (ht.bind hA wi.T.st wi.T.rep λb x8 wm wn wu e=>?_));subst e;have wj:=wi.step H (wi.T.next wm wn) (.DO wn);refine CH (wpAny_Try_except (CH (EF ?_ (by rfl))));refine IW (Ig N.wf wj.T.st wj.T.rep.ok rfl R.next.1 R.next.2 (Jk ?_ (rfl) (rfl)));have xB:OV ((Fp c n L Y).hold I) [("function",.v f),("sequence",.v F),("initial",.v (F0 39)),("it",.v (F0 I))] ((Fp c n L Y).hold I).Xo [.Name "it" ⟨33,25,33,27⟩] λds=>ds=[F0 I]:=Cz (E9 rfl Be (Er rfl)) λM=>rfl;refine xB.bind hA wm wu λrs x9 ds wv wo xK wq e=>?_;subst e;induction wq using C3.eC with|cons r1 wq=>induction wq using C3.eN;induction r1.IC using Tb;have wr:=wj.step H (wj.T.next wv wo) (.DO wo);refine nx rfl _ _ x9 0 _ u wr.S λv h' tk xP xQ xR xS=>?_;have xA:=wr.moved H xR xS xQ;refine AI (H.hP 0 v u xP) λd hd m=>?_;rw[xJ]at hd;replace hd:=EY hd;induction hd using EC;refine U0 H xA (iL ⟨rfl,AQ⟩) (xA.rd H m) λwx wy=>Ez (Ez (Ez (tail 1 x0 wx u h1 wy)))
  · have ht:WT ((Fp c n L Y).hold I) [("function",.v f),("sequence",.v F),("initial",.v (.list wh)),("it",.v (F0 I))] (.Compare (.Name "initial" ⟨31,7,31,14⟩) [.Is] [.Name "_initial_missing" ⟨31,18,31,34⟩] ⟨31,7,31,34⟩) λb=>b=AD:=Kq (E9 rfl Be ((xI _).mono λd e=>⟨AD,by refine AI R.missAt λo h1 C=>J e (.Zh h1 C wh),rfl⟩));refine CH (wpAny_If (ht.bind hA wi.T.st wi.T.rep λb x8 wm wn wu e=>?_));subst e;have wj:=wi.step H (wi.T.next wm wn) (.DO wn);have xB:WE ((Fp c n L Y).hold I) [("function",.v f),("sequence",.v F),("initial",.v (.list wh)),("it",.v (F0 I))] (((Fp c n L Y).hold I).X [("function",.v f),("sequence",.v F),("initial",.v (.list wh)),("it",.v (F0 I))]) (.Name "initial" ⟨37,16,37,23⟩) λd=>d=.list wh:=E9 rfl CX rfl;refine CH (EF (xB.bind hA wm wu λv x9 d wv wo xK m e=>?_) (rfl));subst e;have wr:=wj.step H (wj.T.next wv wo) (.DO wo);refine U0 H wr (iL ⟨rfl,AQ⟩) m λwx wy=>Ez (tail 0 _ wx (Ao _) h0 wy)
 refine CH (EF ?_ (rfl));refine IW (Ig N.wf T.st T.rep.ok rfl R.iter.1 R.iter.2 (Jk ?_ (rfl) (rfl)));refine hE.bind hA T.st T.rep λrs s₁ ds l w t wq e=>?_;subst e;induction wq using C3.eC with|cons r1 wq=>induction wq using C3.eN;refine Zs ?_;have j:=T.next l w;have xL:∀{I:AW}{b:AW},b=I->I∉CT ([("function",.v f),("sequence",.v F),("initial",.v wg)]:AS):=λM K=>JZ K;refine AC wl (λX=>(B7 X λhe wt D=>wt A.in1 _ s₁ _ _ _ hA.handled l (t.Ft CX) r1 λo fp P S p xC xD W xE xF xG hP nx=>xH _ fp P S s₁ _ w ⟨j,p,W,xF,xG,hP⟩ ⟨j.hold o xD xC,.DO (B4 (Kp.push s₁ o)),xL rfl,xE⟩ λM=>nx)) λX=>?_;· refine CF X λwh he wt h0=>wt A.in1 _ s₁ _ _ _ hA.handled l (t.Ft CX) r1 λo fp P S p xC xD W xE xF xG hP=>xH _ fp P S s₁ _ w ⟨j,p,W,xF,xG,hP⟩ ⟨j.hold o xD xC,.DO (B4 (Kp.push s₁ o)),xL rfl,xE⟩ λq=>?_;rw[he]at q;cases(q)
theorem TK(N:Nm c)(R:kQ c)(n:Z):Ef c (n+1) 47 (RedP c n):=by
 refine Dg R.redAt λo fd D e v r=>Au R.deft λy nn k h=>Ef.Xv (names:=["function","sequence","initial"]) N.wf D v r rfl rfl rfl (by decide) (rfl) (λL=>J7 (E8 4).scope L) (λL b hb=>hb) λS Q x=>R5 x λf F w xs de hk ok iG u d=>?_;clear x;have t:∀s:AE,St c s->s.heap.get? 40=B y:=λs j=>j.grow.Gk k (by refine J h MQ);refine AC d (λX=>?_) λX=>?_;· clear d;refine B7 X λI g M=>?_;clear X;refine AI M λi K W=>?_;subst I;refine F8 [F0 39] rfl (λG l m=>⟨[.ref 39],.cons (Rd.F0 39) .nil,λA E s C j q=>?_⟩) (λL Y h₀ hc=>(λA E s V T=>VE N R V hk ok iG u (.inl ⟨rfl,g,i,K,W⟩) T));·induction m using C3.eC with|cons P m=>induction m using C3.eC with|cons H m=>induction m using C3.eN;exact(gf D.params e (t s j) h).1 _ _ q
 · refine CF X λa z g h0=>?_;subst z;refine F8 [] rfl (λG l m=>⟨[],.nil,λA E s C j q=>?_⟩) (λL Y h₀ hc=>(λA E s V T=>VE N R V hk ok iG u (.inr ⟨a,rfl,g,h0⟩) T));·induction m using C3.eC with|cons P m=>induction m using C3.eC with|cons H m=>induction m using C3.eC with|cons p m=>induction m using C3.eN;exact(gf D.params e (t s j) h).2 _ _ _ q
end
end
section
theorem Sn(elt t1 i1 t2 i2:BL)(scope:Cw)(pos:EQ)(it acc:AF)(env:Nx):WL (.ListComp elt [⟨t1,i1,[],0⟩,⟨t2,i2,[],0⟩] scope pos) 0 it acc env=(WH i1.pos>>=λM=>kY it>>=λr=>match r with|AJ=>Bz (.done .next)|B v=>Lo t1 it v>>=λM=>assign t1 env v>>=λM=>Gp i2 env>>=λx=>WH i2.pos>>=λM=>El i2 env x>>=λx=>kb [x] (kZ x)>>=λy=>runOwn (.compStart (.ListComp elt [⟨t1,i1,[],0⟩,⟨t2,i2,[],0⟩] scope pos) 1 y acc env) env>>=λM=>Du (.compLoop (.ListComp elt [⟨t1,i1,[],0⟩,⟨t2,i2,[],0⟩] scope pos) 0 it acc env)):=rfl
theorem Sm(elt t1 i1 t2 i2:BL)(scope:Cw)(pos:EQ)(it acc:AF)(env:Nx):WL (.ListComp elt [⟨t1,i1,[],0⟩,⟨t2,i2,[],0⟩] scope pos) 1 it acc env=(WH i2.pos>>=λM=>kY it>>=λr=>match r with|AJ=>Bz (.done .next)|B v=>Lo t2 it v>>=λM=>assign t2 env v>>=λM=>(Gp elt env>>=λx=>Hi (.builtin "list.append") [acc,x]>>=λM=>Bz ())>>=λM=>Du (.compLoop (.ListComp elt [⟨t1,i1,[],0⟩,⟨t2,i2,[],0⟩] scope pos) 1 it acc env)):=rfl
section
variable{prog:DH}{w:Em}{A:BQ}{R:Result->AE->Prop}{s:AE}{elt t1 i1 t2 i2:BL}{scope:Cw}{pos:EQ}{it acc:AF}{env:Nx}
theorem UU(I:Z->AE->Prop)(G:∀n s,I n s->Aj (BF prog w) A (kY it) (λr s₁=>match r with|AJ=>R (.ok .next) s₁|B v=>Aj (BF prog w) A (assign t1 env v) (λM d=>Aj (BF prog w) A (Gp i2 env) (λx W=>Aj (BF prog w) A (kZ x) (λy c=>HZ (BF prog w) A (.compStart (.ListComp elt [⟨t1,i1,[],0⟩,⟨t2,i2,[],0⟩] scope pos) 1 y acc env) (λr Q=>match r with|.ok _=>∃m,m<n/\I m Q|.error _=>Dp) c) (λM M=>Dp) W) (λM M=>Dp) d) (λM M=>Dp) s₁) (λM M=>Dp) s)(n:Z)(h:I n s)(i:∀v,Lo t1 it v=Bz ():=by intro M;rfl)(L:∀x,El i2 env x=Bz x:=by intro M;rfl):HZ (BF prog w) A (.compLoop (.ListComp elt [⟨t1,i1,[],0⟩,⟨t2,i2,[],0⟩] scope pos) 0 it acc env) R s:=by
 refine codeAny_loop rfl I (λn s a=>?_) n h;refine(?_:Aj _ A ((WL (.ListComp elt [⟨t1,i1,[],0⟩,⟨t2,i2,[],0⟩] scope pos) 0 it acc env).onRaise (λx=>do noteFrame x env;theTreesLotGoes x)) _ _ s);refine wpAny_noted ?_;rewrite[Sn];refine AB (Dx (AB (Ad (G n s a) (λr s₁ C=>?_) λM M h'=>h'.elim)));cases r with|none=>exact AH C|some v=>refine AB (BB (i v) ?_);refine AB (Ad C (λM d P=>AB (Ad P (λx W S=>?_) λM M h'=>h'.elim)) λM M h'=>h'.elim);refine AB (Dx (AB (BB (L x) (AB (Co (Ad S (λy c K=>?_) λM M h'=>h'.elim))))));refine AB (wpAny_runOwn (MC K λr Q b=>?_));cases r with|ok f=>exact AH ⟨rfl,b⟩|error e=>exact b.elim
theorem UT(I:Z->AE->Prop)(G:∀n s,I n s->Aj (BF prog w) A (kY it) (λr s₁=>match r with|AJ=>R (.ok .next) s₁|B v=>Aj (BF prog w) A (assign t2 env v) (λM y=>Aj (BF prog w) A (Gp elt env) (λx W=>Aj (BF prog w) A (Hi (.builtin "list.append") [acc,x]) (λM c=>∃m,m<n/\I m c) (λM M=>Dp) W) (λM M=>Dp) y) (λM M=>Dp) s₁) (λM M=>Dp) s)(n:Z)(h:I n s)(i:∀v,Lo t2 it v=Bz ():=by intro M;rfl):HZ (BF prog w) A (.compLoop (.ListComp elt [⟨t1,i1,[],0⟩,⟨t2,i2,[],0⟩] scope pos) 1 it acc env) R s:=by
 refine codeAny_loop rfl I (λn s a=>?_) n h;refine(?_:Aj _ A ((WL (.ListComp elt [⟨t1,i1,[],0⟩,⟨t2,i2,[],0⟩] scope pos) 1 it acc env).onRaise (λx=>do noteFrame x env;theTreesLotGoes x)) _ _ s);refine wpAny_noted ?_;rewrite[Sm];refine AB (Dx (AB (Ad (G n s a) (λr s₁ C=>?_) λM M h'=>h'.elim)));cases r with|none=>exact AH C|some v=>refine AB (BB (i v) ?_);refine AB (Ad C (λM y P=>AB (AB (Ad P (λx W S=>?_) λM M h'=>h'.elim))) λM M h'=>h'.elim);exact AB (Ad S (λM c K=>AH (AH ⟨rfl,K⟩)) λM M h'=>h'.elim)
theorem Rf(h0:HZ (BF prog w) A (.compLoop (.ListComp elt [⟨t1,i1,[],0⟩,⟨t2,i2,[],0⟩] scope pos) 1 it acc env) R s)(h:Aj (BF prog w) A (kZ it) (λa s'=>HZ (BF prog w) A (.compLoop (.ListComp elt [⟨t1,i1,[],0⟩,⟨t2,i2,[],0⟩] scope pos) 1 a acc env) R s') (λM M=>Dp) s):HZ (BF prog w) A (.compStart (.ListComp elt [⟨t1,i1,[],0⟩,⟨t2,i2,[],0⟩] scope pos) 1 it acc env) R s:=by
 refine aJ (?_:Aj _ _ ((kA (.ListComp elt [⟨t1,i1,[],0⟩,⟨t2,i2,[],0⟩] scope pos) 1 it acc env).onRaise (λx=>do noteFrame x env;WH theWindowsPlace)) _ _ s);refine wpAny_notedAt ?_;unfold kA;refine(?_:Aj _ _ (ask>>=_) _ _ s);refine AB (Og (wpAny_ite ?_));split;·first|exact AB (AH (AH (AV rfl h0)))|exact AH (AV rfl h0)
 ·first|exact AB (IJ (AB (Dx (AB (Ad h (λa s' h'=>AH (AV rfl h')) λM M x=>x.elim)))))|(refine AB (IJ ?_);show Aj _ _ (WH i2.pos>>=_) _ _ s;exact AB (Dx (AB (Ad h (λa s' h'=>AH (AV rfl h')) λM M x=>x.elim))))
end
theorem Z2{prog:DH}{w:Em}{A:BQ}{R:Result->AE->Prop}{t1 i1 i2:BL}{scope:Cw}{pos px pe:EQ}{env:Nx}{p:BA}{I l D:AW}{ys:Bc AF}{z:U AF}{K:Z}{s:AE}{m:BA->AX AF}(N:A.handled=AJ)(hk:env.scope.kind=.function)(E:env.kindOf p=B .local)(hd:(p==("__debug__":BA))=AD)(W:I≠D)(C:I≠env.locals)(T:D≠env.locals)(F:l≠D)(y:l≠env.locals)(P:l≠I)(wl:s.heap.IsListIter I l 0)(g:s.heap.IsList l ys)(V:s.heap.get? D=B (BM z K))(wm:s.heap.Ns env.locals m)(H:z.length+ys.size<=Ay)(k:∀h' tk X G,s.toks<=tk->h'.get? D=B (BM (z++ys.toList) X)->h'.Ns env.locals G->(∀b o,b≠I->b≠D->b≠env.locals->s.heap.get? b=B o->h'.get? b=B o)->R (.ok .next) {s with heap:=h',toks:=tk}):HZ (BF prog w) A (.compLoop (.ListComp (.Name p pe) [⟨t1,i1,[],0⟩,⟨.Name p px,i2,[],0⟩] scope pos) 1 (.ref I) (.ref D) env) R s:=by
  refine UT (λk' s'=>∃h' tk X G i,s'={s with heap:=h',toks:=tk}/\s.toks<=tk/\h'.IsListIter I l i/\h'.IsList l ys/\h'.get? D=B (BM (z++ys.toList.take i) X)/\h'.Ns env.locals G/\i<=ys.size/\k'=ys.size+1-i/\(∀b o,b≠I->b≠D->b≠env.locals->s.heap.get? b=B o->h'.get? b=B o)) ?_ (ys.size+1) ⟨s.heap,s.toks,K,m,0,rfl,AN _,wl,g,by simpa using V,wm,Ao _,rfl,λM M M M M e=>e⟩;intro k' s' j;refine jE j λh' tk X G i f c x q v r hi wj n=>?_;clear j;subst f;subst wj;by_cases u:i<ys.size
  · refine kW x q (x:=ys[i]) (by simp[u]) λwi wg a=>GY (Hx E (r.sameBut a (G3 C)) (λwr Q Y=>?_) (by refine J hk rfl));refine Gn (GX hk E Q (by refine J (Ap rfl) rfl) ?_) hd;have wn:=(Y.2 D T).trans ((a.2 D (G3 W)).trans v);refine ju ⟨X,wn⟩ (λS⟨n3,wo⟩h=>?_) (by simp;exact rI ‹_›);refine⟨ys.size+1-(i+1),by exact lm ‹_›,S,tk+1,n3,_,i+1,rfl,Cm c,((wg.at λo e=>(Y.2 I C).trans e).at λo e=>(h.2 I W).trans e),(((q.at λo e=>(a.2 l P).trans e).at λo e=>(Y.2 l y).trans e).at λo e=>(h.2 l F).trans e),?_,Q.sameBut h (G3 T),u,rfl,λb o d t wh e=>((h.2 b t).trans ((Y.2 b wh).trans ((a.2 b d).trans (n b o d t wh e))))⟩
    · refine J wo ?_;have :ys.toList.take (i+1)=ys.toList.take i++[ys[i]]:=by refine J DM ?_;simp[u]
      refine J this ?_;simp
  · have wq:=by exact iW ‹_› ‹_›
    subst wq;refine nY N x q (by simp) λwi L=>k wi tk X G c (L D _ (G3 W) (by refine J v (J (Ce (by simp)) ?_);rfl)) (r.extBut L (G3 C)) λb o d t wh e=>L b o d (n b o d t wh e)
variable{F:Fx}{h₀:BJ}{σ:AS}{Y:U AW}
theorem Q4{h p:BA}{ph pp pe pi pos:EQ}{iter:BL}{scope:Cw}{Q:V->Prop}(xL:∀a∈Y,a∈F.X σ)(P:(scope.names.all λy=>y.2 !=.cell)=AO)(xE:JS scope F.env=Bz [])(k:scope.kind=.function)(wt:(scope.names.all λy=>y.2 !=.local||scope.names.lookup y.1==B .local)=AO)(hh:scope.names.lookup h=B .local)(hp:scope.names.lookup p=B .local)(xd:WE F σ (F.X σ) iter λd=>∃wg:U (U V),d=.list (wg.map V.list)/\wg.flatten.length<=Ay/\Q (.list wg.flatten))(L:∀env x,El iter env x=Bz x:=by intro M M;rfl)(xe:(h==("__debug__":BA))=AD:=by decide)(xf:(p==("__debug__":BA))=AD:=by decide):WE F σ Y (.ListComp (.Name p pe) [⟨.Name h ph,iter,[],0⟩,⟨.Name p pp,.Name h pi,[],0⟩] scope pos) Q:=by
 intro A E s N hS hR;have wu:=λy hy=>by have :=Bi.mp P y hy;simpa using this
 have wo:∀y∈scope.names,y.2=.local->scope.names.lookup y.1=B .local:=λy hy e=>by
    have :=Bi.mp wt y hy;rw[e]at this;simpa using this
 rewrite[eval_ListComp];refine iE rfl (L _) xE k wo (xd.bind N hS hR λv s₁ d l w t rd H=>?_);refine CF H λwg ed xv q=>?_;clear H;subst ed;induction rd using Rd.eL with|@list S a n e r=>
 have z:=(Al.mp e).2;have g:s₁.heap.IsList a S.toArray:=⟨_,z,rfl,n,rfl⟩;have xM:S.length=wg.length:=by refine CS r.length (J (AL _) ?_);rfl
 refine Nj g ?_;generalize xF:s₁.heap.push {cls:=.type "list_iterator",data:=.fields #[.ref a,.int 0 0]}=H1;have xw:H1.objs.size=s₁.heap.objs.size+1:=by refine CS xF (J (EO _ _) ?_);rfl
 have gI:H1.get? s₁.heap.objs.size=B {cls:=.type "list_iterator",data:=.fields #[.ref a,.int 0 0]}:=by refine CS xF (Ag _ rfl)
 have k1:∀b o,s₁.heap.get? b=B o->H1.get? b=B o:=λb o e=>xF▸AR _ e;generalize hI:s₁.heap.objs.size=I at*;refine GW (IK wu (by intro y hy;simp at hy) (λwi X wh=>?_) k);dsimp only at X wh⊢;generalize hD:H1.objs.size=D at*;generalize xG:H1.push {cls:=.type "list",dict:=AJ,data:=.seq ([]:U AF).toArray}=H2 at X wh⊢;have xx:H2.objs.size=D+1:=by refine CS xG (J (EO _ _) (J hD ?_));rfl
 have xg:H2.get? D=B (BM [] 0):=by refine CS xG (CS hD (Ag _ rfl))
 have k2:∀b o,H1.get? b=B o->H2.get? b=B o:=λb o e=>xG▸AR _ e;generalize hC:H2.objs.size=C at*;have xH:I≠D:=by exact tM ‹_›
 have wl:I≠C:=by exact z119 ‹_› ‹_›
 have wv:=by exact tM ‹_›
 have wm:∀(b:Z)o,s₁.heap.get? b=B o->b≠I/\b≠D/\b≠C:=λb o e=>by
    have :b<I:=hI▸Bg e;exact rH ‹_› ‹_› ‹_›
 have up:∀b o,b≠C->H2.get? b=B o->wi.get? b=B o:=λb o hb e=>(wh.2 b hb).trans (AR _ e);have xN:wi.IsListIter I a 0:=⟨_,up _ _ wl (k2 _ _ gI),rfl,rfl⟩;have xh:=up _ _ wv xg;have k3:=λb o e=>up b o (wm b o e).2.2 (k2 _ _ (k1 _ _ e));generalize wx:({newEnv scope C F.env.globals [] F.env.qual AJ IL (B F.env) CU with scope:=dQ scope F.env}:Nx)=cenv;have G:cenv.locals=C:=by refine CS wx rfl
 have xI:cenv.scope.kind=.function:=by refine CS wx k
 have xO:cenv.kindOf h=B .local:=by refine CS wx (Rz hh)
 have xi:cenv.kindOf p=B .local:=by refine CS wx (Rz hp)
 have x9:HZ F.M A (.compLoop (.ListComp (.Name p pe) [⟨.Name h ph,iter,[],0⟩,⟨.Name p pp,.Name h pi,[],0⟩] scope pos) 0 (.ref I) (.ref D) cenv) (compPost F.M A E AJ (Gr F Y s Q) (.ref D) C) {s₁ with heap:=wi,toks:=s₁.toks+([]:U (BA×AF)).length}:=by
    refine UU (λk' s'=>∃h' tk nn m i rs,s'={s₁ with heap:=h',toks:=tk}/\s₁.toks<=tk/\h'.IsListIter I a i/\h'.get? D=B (BM rs nn)/\C3 (fz (F.X σ) s₁.heap) ((wg.take i).flatten) rs/\h'.Ns C m/\(∀b o,s₁.heap.get? b=B o->h'.get? b=B o)/\i<=wg.length/\k'=wg.length+1-i) ?_ (wg.length+1) ⟨wi,_,0,_,0,[],rfl,As _ _,xN,xh,.nil,X,k3,Ao _,rfl⟩;intro k' s' xP;refine jC xP λh' tk nn m i rs xj c xA xQ wy xB wz hi xR=>?_;clear xP;subst xj;subst xR;have xS:h'.IsList a S.toArray:=⟨_,wz _ _ z,rfl,n,rfl⟩;by_cases u:i<wg.length;· refine AI (r.get (by refine J B3 (J (AP u) ?_);rfl)) λv hv rv=>kW xA xS (by simpa using hv) λh2 xC xT=>?_;clear hv;induction rv using Rd.eL with|@list ws lk n2 e2 r2=>
      have xU:=(Al.mp e2).2;have x8:=wm _ _ xU;refine GY (Hx xO (G▸xB.sameBut xT (G3 wl)) (λT wj wn=>?_) (by refine J xI rfl));refine Gn (GX xI xO wj (by refine J (Ap rfl) rfl) ?_) xe;rw[G]at wj wn;have kk:∀b o,b≠I->b≠C->h'.get? b=B o->T.get? b=B o:=λb o W h2 e=>(wn.2 b h2).trans ((xT.2 b W).trans e);have xJ:T.IsList lk ws.toArray:=⟨_,kk _ _ x8.1 x8.2.2 (wz _ _ xU),rfl,n2,rfl⟩;have xV:=kk _ _ (G3 xH) wv xQ;refine Nj xJ ?_;generalize hJ:T.objs.size=xy;have nJ:∀(b:Z)o,T.get? b=B o->b≠xy:=λb o e=>by
       have :b<xy:=hJ▸Bg e;exact qr ‹_›
      have xk:=G3 (nJ _ _ xV);have xl:=by refine H4 wj λo M M e M=>G3 (nJ _ _ e)
      have xm:=by refine AI xC λo e M=>G3 (nJ _ _ ((wn.2 I wl).trans e))
      have xW:=by refine AI xJ λo e M=>nJ _ _ e
      have xX:(T.push {cls:=.type "list_iterator",data:=.fields #[.ref lk,.int 0 0]}).IsListIter xy lk 0:=⟨_,hJ▸Ag _ rfl,rfl,rfl⟩;have xK:∀b o,T.get? b=B o->(T.push {cls:=.type "list_iterator",data:=.fields #[.ref lk,.int 0 0]}).get? b=B o:=λb o e=>AR _ e;have xn:rs.length+ws.toArray.size<=Ay:=by
       have W:=wy.length.symm;have h2:=by simpa using r2.length.symm
       have T:=by
        have h4:(wg.take (i+1)).flatten++(wg.drop (i+1)).flatten=wg.flatten:=by refine CS CP (J (Jg _ _) ?_);rfl
        have h5:=Aq DF h4;rw[AZ]at h5;exact qf ‹_›
       rw[DM,AP u]at T;simp only[iM,CP,Ba,DK,BW,AZ]at T;exact qd ‹_› ‹_› ‹_› ‹_›
      have wq:HZ F.M A (.compLoop (.ListComp (.Name p pe) [⟨.Name h ph,iter,[],0⟩,⟨.Name p pp,.Name h pi,[],0⟩] scope pos) 1 (.ref xy) (.ref D) cenv) (λr xY=>(match r with|.ok _=>∃m,m<wg.length+1-i/\(∃h' tk nn m' j rs,xY={s₁ with heap:=h',toks:=tk}/\s₁.toks<=tk/\h'.IsListIter I a j/\h'.get? D=B (BM rs nn)/\C3 (fz (F.X σ) s₁.heap) ((wg.take j).flatten) rs/\h'.Ns C m'/\(∀b o,s₁.heap.get? b=B o->h'.get? b=B o)/\j<=wg.length/\m=wg.length+1-j)|.error _=>Dp:Prop)) {s₁ with heap:=T.push {cls:=.type "list_iterator",data:=.fields #[.ref lk,.int 0 0]},toks:=tk+1}:=by
       refine Z2 N.handled xI xi xf xk (G▸xl) (G▸wv) x8.2.1 (G▸x8.2.2) xW xX (xJ.push _) (xK _ _ xV) (G▸wj.push _) xn λh4 xo xp m4 xZ xr xD wr=>?_;rw[G]at xD wr;refine⟨wg.length+1-(i+1),by exact lm ‹_›,h4,xo,xp,m4,i+1,rs++ws,rfl,AA (Cm c) xZ,(AI xC λo ho r=>AK o (wr _ _ (G3 xm) xH wl (xK _ _ ((wn.2 I wl).trans ho))) r),xr,?_,xD,λb o e=>?_,u,rfl⟩;· refine J DM (J (AP u) ?_);simp only[iM,CP,Ba,DK,BW];exact wy.append r2
       · have R:=wm b o e;have e3:=kk _ _ R.1 R.2.2 (wz _ _ e);exact wr b o (nJ _ _ e3) R.2.1 R.2.2 (xK _ _ e3)
      exact Rf wq (nZ xX wq)
    · have xt:=by exact iW ‹_› ‹_›
      clear hi u;subst xt;refine nY N.handled xA xS (by simp[xM]) λh2 xc=>AK m (xB.extBut xc (G3 wl)) (λT wn=>?_);have kk:=λb o W h2 e=>(wn.2 b h2).trans (xc b o W e);have kp:=λb o e=>kk b o (wm b o e).1 (wm b o e).2.2 (wz _ _ e);have xu:=λK=>by
       refine Aw (Bt.mp (t.live D (xL D K)).1) λo ho=>(wm _ _ ho).2.1 rfl
      refine⟨l.keep kp c,w.trans (.of_keep kp),.list wg.flatten,.list (Al.mpr ⟨xu,kk _ _ (G3 xH) wv xQ⟩) ?_,q⟩;rw[GZ]at wy;refine C3.sub ?_ wy;intro b R e f;rw[Al]at e⊢;exact⟨λK=>e.1 (xL b K),kp _ _ e.2⟩
 exact kf x9 (nZ xN x9)
end
section
variable{F:Fx}{h₀:BJ}{σ:AS}{Y:U AW}{c:Cx}
theorem bC(n:Z):Ut (EG AJ AJ (B (-1)) n).1 (EG AJ AJ (B (-1)) n).2.1 (EG AJ AJ (B (-1)) n).2.2=(Ar n).map λk=>n-1-k:=by
 have e:EG AJ AJ (B (-1)) n=((n:O)-1,-1,-1):=rfl;refine J e ?_;unfold Ut;dsimp only[show¬((-1:O)>0)by decide,KL];have f:(if((n:O)-1)>-1 then(((n:O)-1)-(-1)-(-1)-1)/(-(-1))else 0).toNat=n:=by
  split;·refine J (show(-(-1:O))=1 from rfl) (J (Kz _) qV)
  ·exact qT ‹_›
 refine J f (FO λk R=>qR)
theorem fI{X:Type}(l:U X):((Ar l.length).map λk=>l.length-1-k).filterMap (l[·]?)=l.reverse:=by
 have h:∀n,n<=l.length->((Ar n).map λk=>l.length-1-k).filterMap (l[·]?)=(l.drop (l.length-n)).reverse:=by
  intro n;induction n with|zero=>intro M;simp|succ n I=>
intro p;refine J HH (J DI (J dc (J (I (by exact z3 ‹_›)) ?_)));have u:=by exact qU ‹_›
have hd:l.drop (l.length-(n+1))=l[l.length-1-n]::l.drop (l.length-n):=by
 refine J (show l.length-(n+1)=l.length-1-n by exact qS) (J (Cu u) ?_);congr 2;exact qQ ‹_›
refine J hd (J Ly ?_);simp[u]
 have :=h l.length (AN _);rw[NO,LV]at this;exact this
theorem W7{u:BL}{e:BL}{p pos:EQ}{Q:V->Prop}(K:∀a∈Y,a∈F.X σ)(h:WE F σ Y u λo=>WE F σ F.Xo e λd=>d=.int (-1)/\∃xs,o=.list xs/\xs.length<=Ay/\Q (.list xs.reverse)):WE F σ Y (.Subscript u (.Slice AJ AJ (B e) p) pos) Q:=by
 intro A E s N j T;have hp:JR F σ AJ λa=>a=AJ:=rfl;refine dY (h.bind N j T λvo s₁ o l w t ro C=>oQ (hp.bind N l t λm y a f z g ea wg=>hp.bind N f g λvb W b wh R wi eb wj=>?_));have P:JR F σ (B e) λst=>st=B (-1)/\∃xs,o=.list xs/\xs.length<=Ay/\Q (.list xs.reverse):=WE.mono C λd X=>by refine Aa X λe q=>F8 (-1) e rfl q
 refine JR.bind P N wh wi λS c st D v wl es H=>Aa H λq4 G=>?_;clear H;refine CF G λxs eo H q=>?_;clear G;clear C P;subst ea eb es eo;have L:=Kp.push c {cls:=.type "slice",data:=.fields #[CD a,CD b,CD st]};have i:Bk F.c.hB c.heap (c.heap.push {cls:=.type "slice",data:=.fields #[CD a,CD b,CD st]}):=B4 L;have wm:=Rd.sub (DB (((z.trans R).trans v).trans i) Y) ro;have sl:(c.heap.push {cls:=.type "slice",data:=.fields #[CD a,CD b,CD st]}).IsSliceOf c.heap.objs.size (CD a) (CD b) (CD st):=⟨_,Ag _ rfl,rfl,rfl⟩;have M:=wl.grow i;have pa:∀p:AX (O×Jd),IsPart (CD p) (p.map (·.1)):=λp=>by
  cases p with|none=>exact .none|some x=>exact .int _ _
 clear ro;induction wm using Rd.eL with|@list us ad n r r5=>
 have e6:=(Al.mp r).2;have HL:Heap.IsList _ ad us.toArray:=⟨_,e6,rfl,n,rfl⟩;have I:Aj F.M A (WI (.ref ad) (.ref c.heap.objs.size)) (Gr F Y s Q) E {c with heap:=c.heap.push {cls:=.type "slice",data:=.fields #[CD a,CD b,CD st]}}:=by
  refine Nu HL sl (pa a) (pa b) (pa st) (by refine J q4 ?_;decide) ?_ (by refine J BN (CS r5.length H));refine Gr.of (D.keeps L) ((((w.trans z).trans R).trans v).trans i) (Kp.push _ _) (.list (n:=0) (Al.mpr ⟨((M.Ft K).size),?_⟩) (C3.sub (DB (B4 (hB:=F.c.hB) (Kp.push {c with heap:=c.heap.push {cls:=.type "slice",data:=.fields #[CD a,CD b,CD st]}} _)) _) r5.reverse)) q;refine J (Ag _ rfl) (J wg (J wj (J q4 ?_)));unfold YZ;refine J (bC _) (J BN ?_);have :((Ar us.length).map λk=>us.length-1-k).filterMap (us.toArray[·]?)=us.reverse:=by
   refine CS (fI us) ?_;simp
  refine J this rfl
 exact Xg HL.typeIs KP.lookup I rfl
noncomputable def Fx.mu(F:Fx)(M:U AW):Fx:={F with Mu:=M}
theorem YQ{c:U G1}{Q:Ha->AS->Prop}(M:U AW)(l:CT σ=[])(t:∀b∈M,b∈F.Mu)(h:WS (F.mu M) h₀ σ c λo σ'=>(∀d,o=.ret d->V5 d)/\Q o []):WS F h₀ σ c Q:=by
  intro A E s N T;have u:∀σ:AS,∀a∈(F.mu M).X σ,a∈F.X σ:=λσ a P=>by
    simp only[Fx.X,Fx.Xo,Fx.mu,Ai]at P⊢;rcases P with(h|h)|h;·exact .inl (.inl (t a h))
    ·exact .inl (.inr h)
    ·exact .inr h
  have W:FX (F.mu M) h₀ σ s:=by
    refine⟨T.st,⟨T.rep.ok,T.rep.ns,T.rep.cell,T.rep.inj,λy sl e=>?_,λa P=>T.rep.live a (u σ a P),T.rep.apart⟩,T.grow,T.base,λb hb=>T.fresh b (hb.imp (t b) id)⟩;refine AI (T.rep.slot y sl e) λv a r=>AK v a ?_;cases sl with|v d=>exact Rd.sub (Ed (u σ) _) r|own b xs=>refine B7 r λe1 K G=>Au G λS n ho r=>⟨e1,Ac _ (Cn e),S,n,ho,C3.sub (Ed (u σ) _) r⟩
  refine Ad (h A E s N W) (λL s' H=>?_) λD D x=>x;refine Jt H λC σ' j m r V q=>?_;clear H;have k:J9 F.c.hB (F.Mu++CT σ) s.heap s'.heap:=λb o hb e=>m.grow b o (λK=>hb (by
    refine AC (Ai.mp K) (λh=>(Ak _ (t b h))) λh=>(Ac _ h))) e;refine Dm C [] ⟨j.st,⟨j.rep.ok,j.rep.ns,j.rep.cell,j.rep.inj,λy sl e=>by simp at e,λa P=>?_,λx y a xs ys e=>by simp at e⟩,j.grow,T.base,λb hb=>T.fresh b (hb.imp id λh=>JZ h)⟩ ⟨k,λb hb=>JZ hb⟩ ?_ q
  · have w:a∈F.X σ:=by
      refine AC (Ai.mp P) (λh=>(Ak _ h)) λh=>(JZ h)
    by_cases K:a∈(F.mu M).X σ';·exact j.rep.live a K
    · by_cases p:a∈M++CT σ;· refine AC (Ai.mp p) (λh=>(B8 (Ak _ (Ak _ h)) K)) λh=>?_;·rw[l]at h;exact JZ h
      · refine Aa (T.rep.live a w) λl1 g=>Aw (Bt.mp l1) λo ho=>AC (m.grow a o p ho) (λz=>((T.rep.live a w).keep λo' q=>by rw[ho]at q;replace q:=EY q;induction q using EC;exact z)) λX=>?_;· refine B7 X λD f G=>Au G λS Y hd z=>⟨by refine J z rfl,λH=>?_⟩;refine Cj H λo2 R I i D=>?_;rw[z]at I;replace I:=EY I;induction I using EC;exact B8 (f.symm.trans i) (by decide)
  · clear q;cases(L)<;>cases(C)<;>simp only[Nh]at r⊢;exact Rd.flat r (V _ rfl)
end
theorem X4{M:eD}{A:BQ}{E:AF->AE->Prop}{s:AE}{scope:Cw}{i:AW}{wg:U (BA×AW)}{x y:BA}{q r:AF}{k:BA}{m:AX AW}{code:AF}{f:AW}{Q:Nx->AE->Prop}(R:scope.kind=.function)(j:∀n acc,E5 n scope.names acc=(y,n)::acc)(c:∀h,pushCells h scope.names=h.push {cls:=.type "cell",data:=.cell AJ})(D:scope.names.lookup x=B .local)(t:scope.names.lookup y=B .cell)(Y:∀h',h'.Ns s.heap.objs.size (λz=>if z=x then B q else AJ)->h'.IsCell (s.heap.objs.size+1) (B r)->(∀b o,s.heap.get? b=B o->h'.get? b=B o)->Q (newEnv scope s.heap.objs.size i ((y,s.heap.objs.size+1)::wg) k m code AJ f) {s with heap:=h',toks:=s.toks+1}):Aj M A (newFunctionEnv scope i wg [(x,q),(y,r)] k m code AJ f) Q E s:=by
 simp only[newFunctionEnv,AX.isSome_none,Fa,KL];refine AB (oP ?_);refine AB (wpAny_layCells _ (λname W v=>rfl) _ _ _ _ ?_);refine J (j _ _) (J (c _) (J (show({s with heap:=s.heap.push {cls:=.type "frame",data:=.dict #[]}}:AE).heap.objs.size=s.heap.objs.size+1 from EO ..) ?_));generalize K:s.heap.objs.size=L;have P:(s.heap.push {cls:=.type "frame",data:=.dict #[]}).objs.size=L+1:=by refine J (EO _ _) (J K ?_);rfl
 have C:=K▸Heap.Ns.new s.heap (.type "frame");generalize X:s.heap.push {cls:=.type "frame",data:=.dict #[]}=H at*;have a:∀b o,s.heap.get? b=B o->H.get? b=B o:=λb o e=>X▸AR _ e;have G:(H.push {cls:=.type "cell",data:=.cell AJ}).IsCell (L+1) AJ:=⟨_,P▸Ag _ rfl,rfl⟩;have I:=C.push {cls:=.type "cell",data:=.cell AJ};generalize g:H.push {cls:=.type "cell",data:=.cell AJ}=d at*;have k2:∀b o,H.get? b=B o->d.get? b=B o:=λb o e=>g▸AR _ e;have l:∀(b:Z)o,s.heap.get? b=B o->b≠L/\b≠L+1:=λb o e=>by
  have  :=K▸Bg e;exact lg ‹_›
 have w:L≠L+1:=by exact ln
 simp only[DJ,Ov];refine AB (AB (AB ?_));refine Hx D I (λT N S=>?_) (by refine J R rfl);refine AH (AB (AB ?_));have p:=S;refine oL R t (by refine J Am (J (FR _) ?_);rfl) (G.sameBut p (G3 w)) λF V u=>AH (AH (AH ?_));rw[K]at Y;exact Y F (N.sameBut u w) V λb o e=>(u.2 b (l b o e).2).trans ((p.2 b (l b o e).1).trans (k2 _ _ (a _ _ e)))
noncomputable def Fx.XA(c:Cx)(n:Z)(S:Cw)(y:BA)(L:AW)(z:U (BA×AW))(q:BA)(fa:AW)(cd:AF)(Y:U AW):Fx:={c:=c,n:=n,env:=cG S L ((y,L+1)::z) q fa cd,Mu:=[L,L+1],Yc:=Y}
theorem Zb{c:Cx}{n:Z}{wr:Dl}{body:BL}{S:Cw}{cv:U (BA×V)}(x y:BA){Y:U AW}{v:AF}{dx dy:V}{F:U AF}{s:AE}{A:BQ}{E:AF->AE->Prop}{Q:V->Prop}(hw:Wf c)(N:FD A (n+1))(j:St c s)(hL:Hf Y s.heap)(rv:Rd (fz Y s.heap) (YG wr (.expr body) S cv) v)(i:C3 (fz Y s.heap) [dx,dy] F)(R:S.kind=.function)(wx:S.isCoroutine=AD)(wt:S.isGenerator=AD)(wu:∀n acc,E5 n S.names acc=(y,n)::acc)(wy:∀h,pushCells h S.names=h.push {cls:=.type "cell",data:=.cell AJ})(D:S.names.lookup x=B .local)(hy:S.names.lookup y=B .cell)(wz:(y==x)=AD)(g:(cv.all λp=>S.names.lookup p.1==B .free&&!(p.1==("__classdict__":BA))&&!(p.1==x)&&!(p.1==y))=AO)(w:∀(fd:EA)(l:U AF),fd.params=wr->fd.defaults=.none->l.length=2->ES fd ⟨l,[]⟩=Bz ([x,y].zip l))(h:∀L wl q fa cd,(∀z d,cv.lookup z=B d->(wl.lookup z).isSome=AO)->WE (Fx.XA c n S y L wl q fa cd Y) ((x,.v dx)::(y,.v dy)::YN cv) (Fx.XA c n S y L wl q fa cd Y).Xo body Q):Aj (BF c.prog c.w) A (Hi v F) (λr s'=>St c s'/\Bk c.hB s.heap s'.heap/\∃d,Rd (fz Y s'.heap) d r/\Q d) E s:=by
 induction rv using Rd.eA with|abs _ rv=>refine QX rv λa o fd cd oc vs t x8 C h3 h4 h5 h6 h7 h8 h9 x9 xA xB xI xC xD wm=>?_;clear rv;subst x8;induction i using C3.eC with|@cons vx _ r1 i=>induction i using C3.eC with|@cons vy _ r2 i=>
 induction i using C3.eN;have wn:s.heap.CodeRec fd.code fd.qualname:=⟨cd,oc,vs,t,xA,(Al.mp xB).2,xC,xD⟩;refine Gm (kla_callFunE N.room (Al.mp C).2 h4 (h7▸wx) (h7▸wt) h6 wn ?_);refine J (w fd [vx,vy] h5 x9 rfl) (J h7 (J h8 (J h9 (AH (X4 R wu wy D hy λh' W P wg=>⟨(NoLimit.grow j.grow hw.lim).keeps wg,?_⟩)))));generalize xE:s.heap.objs.size=L at*;have wo:∀(b:Z)o,s.heap.get? b=B o->b≠L/\b≠L+1:=λb o e=>by
    have :b<L:=xE▸Bg e;exact lg ‹_›
 have nL:s.heap.get? L=AJ:=by
    cases e:s.heap.get? L with|none=>rfl|some o=>exact B8 rfl (wo _ _ e).1
 have nC:s.heap.get? (L+1)=AJ:=by
    cases e:s.heap.get? (L+1)with|none=>rfl|some o=>exact B8 rfl (wo _ _ e).2
 have g1:Bk c.hB s.heap h':=.of_keep wg;have wj:CT ((x,.v dx)::(y,.v dy)::YN cv)=[]:=YM cv;have hX:(Fx.XA c n S y L fd.closure (fd.qualname++".<locals>.") a fd.code Y).X ((x,.v dx)::(y,.v dy)::YN cv)=[L,L+1]++Y:=by
    simp[Fx.X,Fx.Xo,Fx.XA,wj]
 have Uj:MB (fz Y s.heap) (fz ([L,L+1]++Y) h'):=by
    intro b ob e f;rw[Al]at e⊢;refine⟨λK=>?_,wg b ob e.2⟩;have :=wo b ob e.2;simp only[Dw,Fz,Ae]at K;refine AC K (λh=>(this.1 h)) λX=>AC X (λh=>(this.2 h)) λh=>(e.1 h)
 have T:FX (Fx.XA c n S y L fd.closure (fd.qualname++".<locals>.") a fd.code Y) s.heap ((x,.v dx)::(y,.v dy)::YN cv) {s with heap:=h',toks:=s.toks+1}:=by
    have wv:∀z k,fd.closure.lookup z=B k->s.heap.get? k≠AJ:=λz k e q=>by
      refine Au (wm.cell z k e) λoc u e1 M=>?_;rw[(Al.mp e1).2]at q;exact jc q
    refine⟨j.keep wg (BH _),⟨⟨R,rfl,rfl⟩,⟨_,W⟩,λz k e=>?_,λz z' k e1 I=>?_,λz sl e=>?_,λb hb=>?_,λz z' b xs ys e1 M=>?_⟩,g1,j.grow,λb hb=>?_⟩;· have e:Iv z ((y,L+1)::fd.closure)=B k:=e;rw[Am]at e;cases wh:z==y with|true=>rw[wh]at e;replace e:=EY e;induction e using EC;exact⟨_,P⟩|false=>rw[wh]at e;refine Au (wm.cell z k e) λoc u e1 I=>FK u oc (wg _ _ (Al.mp e1).2) I
    · have e1:Iv z ((y,L+1)::fd.closure)=B k:=e1;have I:Iv z' ((y,L+1)::fd.closure)=B k:=I;rw[Am]at e1 I;cases wh:z==y with
      |true=>rw[wh]at e1;replace e1:=EY e1;induction e1 using EC;cases wi:z'==y with|true=>refine J (BG.mp wh) (J (BG.mp wi) ?_);rfl|false=>rw[wi]at I;exact B8 nC (wv _ _ I)
      |false=>rw[wh]at e1;cases wi:z'==y with|true=>rw[wi]at I;replace I:=EY I;induction I using EC;exact B8 nC (wv _ _ e1)|false=>rw[wi]at I;exact wm.inj z z' k e1 I
    · refine J hX ?_;rw[Am]at e;clear wu wz w h wj hX;cases wq:z==x with|true=>rw[wq]at e;replace e:=EY e;induction e using EC;have :=BG.mp wq;refine J this (AK vx (λM=>.inl ⟨D,_,W,by refine J (Ap rfl) rfl⟩) (Rd.sub Uj r1))|false=>rw[wq]at e;rw[Am]at e;cases wh:z==y with|true=>rw[wh]at e;clear g;replace e:=EY e;induction e using EC;have :=BG.mp wh;subst this;refine AK vy (λM=>.inr (.inl ⟨hy,L+1,?_,P⟩)) (Rd.sub Uj r2);refine(?_:Iv z ((z,L+1)::fd.closure)=_);refine J Am (J (FR _) ?_);rfl|false=>rw[wh]at e;refine AI (Rb e) λd H hd=>J H (Lc (wm.has z d hd) λk oc u xF xG xH m=>?_);have hf:=Bi.mp g (z,d) (Ea hd);simp only[Bs,BG,JH]at hf;refine AK u (λM=>.inr (.inr ⟨⟨hf.1.1.1,hf.1.1.2⟩,k,?_,oc,wg _ _ (Al.mp xG).2,xH⟩)) (Rd.sub Uj m);refine(?_:Iv z ((y,L+1)::fd.closure)=_);refine J Am (J wh xF)
    · rw[hX]at hb;simp only[Dw,Fz,Ae]at hb;refine AC hb (λh=>(J h (Lv.ns W))) λX=>AC X (λh=>(J h (Lv.cell P))) λh=>((hL b h).grow g1)
    · have :=Cn e1;rw[wj]at this;exact JZ this
    · refine AC hb (λh=>?_) λh=>?_;· simp only[Fx.XA,Ae,Dv,JA]at h;refine AC h (λh=>(J h nL)) λh=>(J h nC)
      ·rw[wj]at h;exact JZ h
 refine kla_codeExpr (Ad (h L fd.closure (fd.qualname++".<locals>.") a fd.code (λz d e=>by refine H4 (wm.has z d e) λk M M e1 M=>J e1 rfl) _ _ _ (N.deeper _) T.st T.rep) (λr s' H=>?_) λM M x=>x);refine B7 H λS' g' G=>AI G λd m q=>⟨S',T.grow.trans g',d,Rd.sub (Ed (λb hb=>Ac _ hb) _) m,q⟩
noncomputable def FE{X:Type}(b:Z->Z->BC):oY X->X|.ret a=>a|.ask i j k=>FE b (k (b i j))
theorem Ji{X c:Type}(b:Z->Z->BC)(f:X->oY c):∀t:oY X,FE b (t.bind f)=FE b (f (FE b t))|.ret a=>rfl|.ask i j k=>Ji b f (k (b i j))
noncomputable def II{X:Type}(N:Z)(c:X->Prop):oY X->Prop|.ret a=>c a|.ask i j k=>i<N/\j<N/\∀b,II N c (k b)
theorem II.bind{X c:Type}{N:Z}{P:X->Prop}{Q:c->Prop}{f:X->oY c}(V:∀a,P a->II N Q (f a)):∀{t:oY X},II N P t->II N Q (t.bind f)|.ret a,h=>V a h|.ask i j k,⟨W,C,T⟩=>⟨W,C,λb=>II.bind V (T b)⟩
theorem II.mono{X:Type}{N:Z}{P Q:X->Prop}(u:∀a,P a->Q a):∀{t:oY X},II N P t->II N Q t|.ret a,h=>u a h|.ask i j k,⟨W,C,T⟩=>⟨W,C,λb=>II.mono u (T b)⟩
theorem II.wp{X:Type}{N:Z}{P:X->Prop}{b:Z->Z->BC}{c:Z->Z->(BC->AE->Prop)->AE->Prop}{I:AE->Prop}{Q:X->AE->Prop}(f:∀i j(C:BC->AE->Prop)s,i<N->j<N->I s->(∀s',I s'->C (b i j) s')->c i j C s):∀{t:oY X},II N P t->∀s,I s->(∀s',I s'->Q (FE b t) s')->t.kasWp c Q s|.ret a,h,s,L,q=>q s L|.ask i j k,⟨W,d,T⟩,s,L,q=>f i j _ s W d L λs' l=>II.wp f (T _) s' l q
theorem II.post{X:Type}{N:Z}{P:X->Prop}(b:Z->Z->BC):∀(t:oY X),II N P t->P (FE b t)|.ret a,h=>h|.ask i j k,⟨_,_,T⟩=>II.post b (k (b i j)) (T _)
noncomputable def Bd(N:Z)(p:Bc Z):Prop:=∀i,p.getD i 0<N
theorem Bd.swap{N:Z}{p:Bc Z}(h:Bd N p)(i j:Z):Bd N (p.swapIfInBounds i j):=by
  intro k;by_cases hi:i<p.size
  · by_cases o:j<p.size
    · refine J Bf (J ((getElem?_swapIB hi o) _) ?_);have W:=h i;have C:=h j;have T:=h k;rw[Bf]at W C T;split;·first|exact W|(simp[hi]at W⊢;exact W)
      · split;·first|exact C|(simp[o]at C⊢;exact C)
        ·exact T
    ·refine J Ys ?_;have :=h k;simpa[hi,o]using this
  ·refine J Ys ?_;have :=h k;simpa[hi]using this
theorem Bd.gp{N:Z}(u v:Z->Z):∀(l:U Z){p:Bc Z},Bd N p->Bd N (l.foldl (λa k=>a.swapIfInBounds (u k) (v k)) p):=by
 intro l;induction l with|nil=>intro p h;exact h|cons k l I=>intro p h;exact I (h.swap (u k) (v k))
theorem Bd.rev{N:Z}{p:Bc Z}(h:Bd N p)(i j:Z):Bd N (Qc p i j):=h.gp _ _ _
theorem Bd.bubble{N:Z}{p:Bc Z}(h:Bd N p)(i j:Z):Bd N (bubble p i j):=h.gp _ _ _
theorem YP{N:Z}{p:Bc Z}(h:Bd N p):∀f n,II N (λM=>Nt) (Ll p f n):=by
 intro f;induction f with|zero=>intro n;exact Bl|succ f I=>intro n;exact Cf (h _) (h _) (λb=>by dsimp only;split;exact Bl;exact I (n+1))
theorem cj{N:Z}:∀f(p:Bc Z)n q,Bd N p->II N (λr:Bc Z×Z×Z=>Bd N r.1) (Ke f p n q):=by
 intro f;induction f with|zero=>intro p n q h;exact h|succ f I=>intro p n q h;exact Cf (h _) (h _) (λb=>by
      dsimp only;split
      · split;·exact I _ _ _ (h.rev _ _)
        ·exact I _ _ _ h
      ·exact Cf (h _) (h _) (λd=>by
dsimp only;split;·exact h
·exact I _ _ _ h))
theorem Sz{N:Z}{p:Bc Z}(n c:Z)(h:Bd N p):II N (λr:Z×Bc Z=>Bd N r.2) (aL n c p):=by
 unfold aL;exact(YP (h.rev 0 n) _ _).bind λa M=>show II N (λr:Z×Bc Z=>Bd N r.2) (.ret (a,Qc p 0 n))from h.rev 0 n
theorem OT{N:Z}{p:Bc Z}(n c:Z)(h:Bd N p):II N (λr:Z×Bc Z=>Bd N r.2) (Yd n c p):=(cj _ p _ _ h).bind λr hr=>by
 split;·exact Sz _ _ (hr.rev _ _)
 ·exact Sz _ _ hr
theorem Zp{N:Z}{p:Bc Z}(c:Z)(h:Bd N p):II N (λr:Z×Bc Z=>Bd N r.2) (aM c p):=(YP h _ _).bind λn M=>by
    split;·exact h
    · split;·exact Cf (h _) (h _) (λb=>by
dsimp only;split;·exact h
·exact OT _ _ (h.rev _ _))
      ·exact OT _ _ h
theorem ZL{N:Z}{p:Bc Z}(h:Bd N p)(k:Z):∀f l r,II N (λM=>Nt) (QC p k f l r):=by
 intro f;induction f with|zero=>intro l r;exact Bl|succ f I=>
intro l r;unfold QC;split;·trivial
·exact Cf (h _) (h _) (λb=>by dsimp only;split<;>exact I _ _)
theorem gO{N:Z}:∀f(p:Bc Z)k,Bd N p->II N (Bd N) (kas_bin f p k):=by
 intro f;induction f with|zero=>intro p k h;exact h|succ f I=>intro p k h;exact(ZL h k _ _ _).bind λl M=>I _ _ (h.bubble _ _)
theorem O6{n:Z}(p:0<n):II n (Bd n) (QB n):=by
 have h:Bd n (EW (Ar n)):=λi=>by
  refine J Bf (J HV ?_);by_cases hi:i<n;·refine J (FP hi) hi
  ·refine J (Fc (by refine J CW (nz ‹_›))) p
 exact(Zp n h).bind λr hr=>by
  split;·exact gO _ _ _ hr
  ·exact hr
noncomputable def FJ(n:Z)(b:Z->Z->BC):U Z:=(FE b (QB n)).toList
section
section
variable{prog:DH}{w:Em}{A:BQ}{E:AF->AE->Prop}{s:AE}
theorem So{r:AW}{a b c:O}{t u v:Jd}{n:Z}{Q:U AF->AE->Prop}(S:A.handled=AJ)(hr:IsRange s.heap r a b c t u v)(d:FY a b c=AO)(y:Br a b c=n)(p:n<=2^24)(h:∀h' tk acc,(∀b o,s.heap.get? b=B o->h'.get? b=B o)->kl (λi v=>∃t,v=.int (a+i*c) t) acc n->Q acc.toList {s with heap:=h',toks:=tk}):Aj (BF prog w) A (collect (.ref r)) Q E s:=by
 unfold collect;refine AB (wpAny_runValue (JQ entry_proto_collect' ?_));refine AB (Ug (AH ⟨Uw _ (by decide+kernel),JQ entry_list_iadd' ?_⟩));have k:(s.heap.push {cls:=.type "list",data:=.seq #[]}).get? s.heap.objs.size=B {cls:=.type "list",data:=.seq #[]}:=Ag _ rfl;have z:=wpAny_extend_range (prog:=prog) (w:=w) (s:={s with heap:=s.heap.push {cls:=.type "list",data:=.seq #[]}}) (R:=λG s'=>G=.ok (.ret (.ref s.heap.objs.size))/\∃h' tk m C,s'={s with heap:=h',toks:=tk}/\(∀b o,s.heap.get? b=B o->h'.get? b=B o)/\h'.get? s.heap.objs.size=B {cls:=.type "list",dict:=AJ,data:=.seq m C,slots:=#[]}/\kl (λi v=>∃t,v=.int (a+i*c) t) m n) S (AR _ hr) d y p s.heap.objs.size (.ref s.heap.objs.size) 0 k λh' tk m C R j g=>⟨rfl,h',tk,m,C,rfl,λb o e=>R b o (CQ (Bg e)) (AR _ e),j,g⟩;have I:∀s',(∃h' tk m C,s'={s with heap:=h',toks:=tk}/\(∀b o,s.heap.get? b=B o->h'.get? b=B o)/\h'.get? s.heap.objs.size=B {cls:=.type "list",dict:=AJ,data:=.seq m C,slots:=#[]}/\kl (λi v=>∃t,v=.int (a+i*c) t) m n)->Aj (BF prog w) A (do let o<-load s.heap.objs.size match o.data with|.seq xs _=>Bz xs.toList|_=>unsupported "internal:collect") Q E s':=by
  intro s' q;refine Km q λh' tk m C T R j g=>?_;clear q;subst T;refine AB (Gl j ?_);exact AH (h h' tk m R g)
 refine Ad z (λx s' V=>?_) (λe s' V=>by cases V.1);cases x with|done f=>refine Aa V ?_;clear V;intro e V;cases(e);exact I s' V|again C=>refine⟨V.1,MC V.2 λG N l=>?_⟩;refine Aa l λe V=>?_;clear l;subst e;exact I N V
end
structure SI(c:Cx)(s0:AE)(Y:U AW)(D kS:AW)(e1:Z)(ca:AW)(d:V)(is:U O)(s:AE)(ks:U AF):Prop where
st:St c s
gr:Bk c.hB s0.heap s.heap
oD:s.heap.get? D=B (Uk "list" #[] e1)oS:∃n,s.heap.get? kS=B (Uk "list" ks.toArray n)rd:C3 (fz (kS::D::Y) s.heap) (is.map (LC c d)) ks
cl:∀r∈ks,∃a dd x,r=.ref a/\s.heap.get? a=B (MX ca dd x)
variable{c:Cx}{s0:AE}{Y:U AW}{D kS ca:AW}{e1:Z}{d:V}{is:U O}{ks:U AF}
theorem SI.live{s:AE}(x:SI c s0 Y D kS e1 ca d is s ks)(K:Hf Y s0.heap):Hf (kS::D::Y) s.heap:=by
 intro a P;refine AC (Ae.mp P) (λX=>?_) λP=>?_;·subst X;refine Aw x.oS λn e=>.at e (.inl rfl)
 · refine AC (Ae.mp P) (λX=>?_) λP=>((K a P).grow x.gr);·subst X;exact .at x.oD (.inl rfl)
theorem SI.next{s s':AE}(x:SI c s0 Y D kS e1 ca d is s ks)(S:St c s')(g:Bk c.hB s.heap s'.heap):SI c s0 Y D kS e1 ca d is s' ks:=⟨S,x.gr.trans g,g.get x.oD (F7),x.oS.imp λn e=>g.get e (F7),C3.sub (DB g _) x.rd,λr hr=>by refine H4 (x.cl r hr) λa l v e1 I=>R8 a l v e1 (g.get I (F7))⟩
theorem SI.more{s:AE}{i:O}{r:AF}{h':BJ}{g:Z}(x:SI c s0 Y D kS e1 ca d is s ks)(V:s0.heap.get? D=AJ)(k:s0.heap.get? kS=AJ)(f:D≠kS)(Q:Bk c.hB c.hB s0.heap)(n:Rd (fz (kS::D::Y) s.heap) (LC c d i) r)(j:∃a l x,r=.ref a/\s.heap.get? a=B (MX ca l x))(p:∀b,b≠kS->h'.get? b=s.heap.get? b)(C:h'.get? kS=B (Uk "list" (ks++[r]).toArray g)):SI c s0 Y D kS e1 ca d (is++[i]) {s with heap:=h'} (ks++[r]):=by
 refine Aw x.oS λL t=>?_;have R:∀b o,b∉[kS]->s.heap.get? b=B o->h'.get? b=B o:=λb o hb e=>(p b λq=>hb (q▸AM.mpr rfl)).trans e;have Uj:MB (fz (kS::D::Y) s.heap) (fz (kS::D::Y) h'):=Qa (AQ) p;have G:∀r,(∃a l x,r=HD a/\s.heap.get? a=B (MX ca l x))->∃a l x,r=HD a/\h'.get? a=B (MX ca l x):=λr X=>by refine H4 X λa l v e1 I=>R8 a l v e1 ((p a λq=>by rw[q,t]at I;exact(by have W:=Aq Hk (Af I);cases(W))).trans I)
 refine⟨x.st.but [kS] (λb hb=>AM.mp hb▸Q.none k) (λb hb o S e m=>?_) R (AN _),x.gr.but [kS] (λb hb=>AM.mp hb▸k) R,(p D f).trans x.oD,⟨g,C⟩,(J DI ((C3.sub Uj x.rd).append (.cons (Rd.sub Uj n) .nil))),λq u=>?_⟩;·rw[AM.mp hb,t]at e;replace e:=EY e;induction e using EC;rfl
 ·refine AC (Ai.mp u) (λh=>(G q (x.cl q h))) λh=>(J (AM.mp h) (G r j))
end
section
noncomputable def jL:EJ:=λM=>AJ
theorem fR(G:EJ):MB jL G:=λb o e M=>Eb e
theorem lC{is:U O}{S:U AF}(h:C3 jL (zs is) S){i:Z}(hi:i<is.length):∃t,S.getD i .none=.int (is.getD i 0) t:=by
 refine AI (h.get (i:=i) (d:=.int (is.getD i 0)) (by simp[zs,B3,AP hi])) λv n m=>?_;induction m using Rd.eI with|int t=>exact⟨t,by refine J AG (J n ?_);rfl⟩
theorem YA{c:Cx}{G:EJ}{d:V}{is:U O}{ks:U AF}(h:C3 G (is.map (LC c d)) ks){i:Z}(hi:i<is.length):Rd G (LC c d (is.getD i 0)) (ks.getD i .none):=by
 refine AI (h.get (by simp[B3,AP hi])) λv n m=>J (AG (l:=ks)) (J n m)
variable{c:Cx}{s0:AE}{Y:U AW}{D kS ca:AW}{e1:Z}{d:V}{is:U O}{ks:U AF}
theorem TP{body:AF->ol->Sem (aF ol)}{A:BQ}{E:AF->AE->Prop}{Q:ol->AE->Prop}(V:s0.heap.get? D=AJ)(k:s0.heap.get? kS=AJ)(f:D≠kS)(u:Bk c.hB c.hB s0.heap)(hb:∀(i:O)t b a s(C:aF ol->AE->Prop),a.length<64->SI c s0 Y D kS e1 ca d b s a->(∀s' e l,SI c s0 Y D kS e1 ca d (b++[i]) s' e->l=i->C (.yield ⟨⟩) s')->Aj (BF c.prog c.w) A (body (.int i t) ⟨⟩) C E s):∀(m:U O)(S:U AF)(b:U O)(a:U AF)(s:AE),C3 jL (zs m) S->b.length+m.length<64->SI c s0 Y D kS e1 ca d b s a->(∀s' e,SI c s0 Y D kS e1 ca d (b++m) s' e->Q ⟨⟩ s')->Aj (BF c.prog c.w) A (WY S WQ body) Q E s
|[],S,b,a,s,n,g,x,q=>by
 induction n using C3.eN;refine J Ov ?_;rw[BW]at q;exact AH (q s a x)|j::m,S,b,a,s,n,g,x,q=>by
 induction n using C3.eC with|cons P z=>induction P using Rd.eI with|int t=>
 rewrite[DJ];have h:=by have :=x.rd.length;simpa using this.symm
 refine AB (hb j t b a s _ (by simp at g;exact sR ‹_› ‹_›) x λs' e M G M=>?_);dsimp only;exact TP V k f u hb m _ (b++[j]) e s' z (by simp at g⊢;exact sQ ‹_›) G λr p o=>q r p (by rw[Bw]at o;exact o)
theorem cI{m:Z}{lf:O->O->O}{x8:O->Prop}{A:BQ}{E:AF->AE->Prop}{s:AE}{S:U AF}{n0:Z}{P:aC->AE->Prop}(hw:Wf c)(N:FD A (m+2))(Q:Bk c.hB c.hB s0.heap)(hL:Hf Y s0.heap)(rk:Rd (fz Y s0.heap) (KV c d) (.ref ca))(R:GD d)(ok:QQ c m d lf x8)(hS:St c s)(g0:Bk c.hB s0.heap s.heap)(hD:s0.heap.get? D=AJ)(ho:s.heap.get? D=B (Uk "list" S.toArray n0))(n:C3 jL (zs is) S)(h2:2<=is.length)(xM:is.length<64)(xB:∀i∈is,x8 i)(q:∀s' nn xC,St c s'->Bk c.hB s0.heap s'.heap->s'.heap.get? D=B (Uk "list" (EW xC) nn)->C3 jL (zs ((FJ is.length λi j=>B9 (lf (is.getD i 0) (is.getD j 0)<0)).map λi=>is.getD i 0)) xC->P (.done (.ret .none)) s'):Aj (BF c.prog c.w) A (ksk_tree D (.ref ca) AD) P E s:=by
  have xD:=by have :=n.length;simpa[zs]using this.symm
  obtain⟨e1,wl⟩:∃e1,(s.heap.update D (CV λM=>(#[]:Bc AF))).get? D=B (Uk "list" #[] e1):=⟨_,ng ho λM=>#[]⟩;have wt:∀b,b≠D->(s.heap.update D (CV λM=>(#[]:Bc AF))).get? b=s.heap.get? b:=λb hb=>D0 _ _ _ _ hb;have wm:(s.heap.update D (CV λM=>(#[]:Bc AF))).objs.size=s.heap.objs.size:=Heap.size_update ..;unfold ksk_tree;refine AB (listItems_at ho rfl ?_);refine AB (aS ho rfl ?_ (by refine J BN (J Jb (pL ‹_› ‹_›))) (Ao _));refine AB (seqEpoch_at wl rfl ?_);refine AB (dj ?_ (by refine(?_:S.length<=_);refine J Jb (pL ‹_› ‹_›)));refine AB (Ug ?_ (Ao _));refine Co ?_;generalize s.heap.update D (CV λM=>(#[]:Bc AF))=W at wl wt wm⊢;have x9:∀b o,b∉[D]->s.heap.get? b=B o->W.get? b=B o:=λb o hb e=>(wt b λq=>hb (q▸AM.mpr rfl)).trans e;have xE:(W.push {cls:=.type "tuple",data:=.seq S.toArray}).objs.size=W.objs.size+1:=EO ..;have wn:=Bg ho;have wh:=g0.none (by
    cases e:s.heap.get? (W.push {cls:=.type "tuple",data:=.seq S.toArray}).objs.size with|none=>rfl|some o=>have :=Bg e;rw[xE,wm]at this;exact B8 this (LR.mpr (BH _)));have wj:D≠(W.push {cls:=.type "tuple",data:=.seq S.toArray}).objs.size:=λq=>by rw[xE,wm]at q;exact B8 (q▸wn) (LR.mpr (BH _))
  have wu:((W.push {cls:=.type "tuple",data:=.seq S.toArray}).push {cls:=.type "list",data:=.seq ([]:U AF).toArray}).get? (W.push {cls:=.type "tuple",data:=.seq S.toArray}).objs.size=B (Uk "list" #[] 0):=Ag _ rfl;have kk:∀b o,b∉[D]->s.heap.get? b=B o->((W.push {cls:=.type "tuple",data:=.seq S.toArray}).push {cls:=.type "list",data:=.seq ([]:U AF).toArray}).get? b=B o:=λb o hb e=>AR _ (AR _ (x9 b o hb e));have wv:((W.push {cls:=.type "tuple",data:=.seq S.toArray}).push {cls:=.type "list",data:=.seq ([]:U AF).toArray}).get? D=B (Uk "list" #[] e1):=AR _ (AR _ wl);generalize(W.push {cls:=.type "tuple",data:=.seq S.toArray}).objs.size=kS at wh wj wu⊢;generalize((W.push {cls:=.type "tuple",data:=.seq S.toArray}).push {cls:=.type "list",data:=.seq ([]:U AF).toArray})=T at wu kk wv⊢;have X0:SI c s0 Y D kS e1 ca d [] {s with heap:=T} []:=by
    refine⟨hS.but [D] (λb hb=>AM.mp hb▸Q.none hD) (λb hb o xN e ed=>?_) kk (AN _),g0.but [D] (λb hb=>AM.mp hb▸hD) kk,wv,⟨0,wu⟩,.nil,λr hr=>(by have xO:=hr;exact JZ xO)⟩;rw[AM.mp hb,ho]at e;replace e:=EY e;induction e using EC;cases(ed)
  have wx:∀{s:AE}{xF wo},SI c s0 Y D kS e1 ca d xF s wo->MB (fz Y s0.heap) (fz (kS::D::Y) s.heap):=λx b o e f=>by
    rw[Al]at e⊢;refine⟨λK=>?_,x.gr.Nc e.2 f⟩;clear ho q wl wt x9 wn wj wu kk wv X0 x;refine AC (Ae.mp K) ?_ λK=>?_;intro X;subst X;·rw[wh]at e;cases e.2
    · refine AC (Ae.mp K) (λX=>?_) λK=>(e.1 K);·subst X;rw[hD]at e;cases e.2
  unfold ksk_rest;refine AB (IJ ?_);first|rewrite[LU]|(rw[<-Bc.forIn_toList];simp only[U.toList_toArray])
  refine AB (TP hD wh wj Q (λi t xF wo s Q' xG x q'=>?_) is S [] [] _ n (by simpa using xM) X0 λs' wq x=>?_)
  · refine Aw x.oS λn1 oS=>?_;have xP:=x.live hL;refine AB (iF (Ve hw (N.less (by exact pM)) x.st xP (Rd.sub (wx x) rk) λr s' S' g' rr rc=>?_));have x':=x.next S' g';refine Aw x'.oS λn2 xH=>?_;have ea:(EW wo).push r=EW (wo++[r]):=by simp
    obtain⟨c2,xQ⟩:∃c2,(s'.heap.update kS (CV (·.push r))).get? kS=B (Uk "list" (EW (wo++[r])) c2):=⟨_,by refine CS ea (ng xH (·.push r))⟩;try dsimp only
    refine AB (aS xH rfl ?_ (by refine J BN (J Jb (z140 ‹_›))) (AA (B6 (Bc.size_push ..)) (by refine J BN (J Jb (sP ‹_›)))));exact AH (q' _ _ i (x'.more hD wh wj Q rr (rc ca rfl) (λb hb=>D0 _ _ _ _ hb) xQ) rfl)
  · simp only[Fz]at x;clear ho wl wt x9 wn kk wv X0 wx;refine Aw x.oS λn1 oS=>?_;have xG:=by have :=x.rd.length;simpa using this.symm
    refine AB (listItems_at oS rfl ?_);unfold ksk_end;dsimp only;refine J (Ab (show¬(AD=AO)by decide)) (J (Ab (by refine J BN (lx ‹_› ‹_›))) (J (Ab (by refine J BN (lx ‹_› ‹_›))) (AB (kas_kind (T:=.ref ca) (by exact pK ‹_› ‹_›) (λv n=>?_) rfl (by simp) ?_))));· refine H4 (x.cl v n) λa dd x0 xR e=>?_;subst xR;exact(Looks.ld e).andThen .now
    have wy:=by exact pJ ‹_›
    have u:∀i,i<is.length->x8 (is.getD i 0):=λi hi=>by
      refine J AG (J (AP hi) (xB _ (Gc hi)))
    have ask:(QB S.length).kasWp (kas_ask c.prog c.w A oneType' wq) (λp s2=>p=FE (λi j=>B9 (lf (is.getD i 0) (is.getD j 0)<0)) (QB is.length)/\SI c s0 Y D kS e1 ca d is s2 wq) s':=by
      refine J xD (II.wp (λi j C s2 hi hj x2 hC=>?_) (O6 wy) s' x λs2 x2=>⟨rfl,x2⟩);unfold kas_ask;refine J (keyLt'_oneType _ _) ?_;rewrite[oneLt'_eq];simp only[KH];refine AB (wpAny_cRoomFor N.unit ?_);refine AB (Ad (Vj hw (N.less (by exact sO)) x2.st (x2.live hL) R ok (u i hi) (u j hj) (YA x2.rd hi) (YA x2.rd hj)) (λr s3 H=>?_) λM M e=>e);refine B7 H λe S3 g3=>?_;clear H;subst e;exact KN (hC s3 (x2.next S3 g3))
    refine AB (Ad (kat_run (Q:=λZ6 s2=>∃p:Bc Z,p.size=S.length/\p=FE (λi j=>B9 (lf (is.getD i 0) (is.getD j 0)<0)) (QB is.length)/\arrOf Z6=p.map (kas_item (wq.toArray.zip S.toArray))/\failedOf Z6=AJ/\SI c s0 Y D kS e1 ca d is s2 wq) (by exact sN ‹_› ‹_›) (by exact pK ‹_› ‹_›) (by exact lw ‹_› ‹_›) (λp Z6 s2 z F w y=>⟨p,z,y.1,F,w,y.2⟩) ask) ?_ λM M x=>x);clear ask;intro xS;rcases xS with⟨⟨⟩,Z6⟩;intro s2 xI;refine ba xI λp g hp xT V x2=>?_;clear xI;dsimp only;have xU:=hp▸II.post _ _ (O6 wy);have xA:∀i,i<is.length->(kas_item (wq.toArray.zip S.toArray) i).2=S.getD i .none:=λi hi=>by
      unfold kas_item;simp[Bf,xG,xD,hi]
    have wz:∀i∈p.toList,i<is.length:=λi hi=>by
      refine Aw (Kv hi) λk G=>?_;rcases G with⟨R,rfl⟩;have :=xU k;rw[Bf]at this;simpa[QF▸R]using this
    have xJ:(arrOf Z6).map (·.2)=EW (p.toList.map λi=>S.getD i IL):=by
      apply Gd.mp;refine J xT (J Bc.map_map (J Bc.toList_map (FO λi hi=>xA i (wz i hi))))
    unfold ksk_tail;dsimp only;refine J xJ (Aw x2.oS λn2 xK=>?_);have xL:∀b,b≠kS->(s2.heap.update kS (CV λM=>(#[]:Bc AF))).get? b=s2.heap.get? b:=λb hb=>D0 _ _ _ _ hb;refine AB (aS xK rfl ?_ (by refine J BN (J Jb (pL ‹_› ‹_›))) (Ao _));have wr:=(xL D wj).trans x2.oD;refine AB (wpAny_letGo ?_);refine AB (seqEpoch_at wr rfl ?_);refine AB (aS wr rfl ?_ (Ao _) (by refine(?_:(EW _).size<=_);refine J BN (J (AL _) (J QF (J Jb (sM ‹_› ‹_› ‹_›))))));refine J V ?_;simp only[jt,Fa,KL];clear wj;obtain⟨c3,L⟩:∃c3,((s2.heap.update kS (CV λM=>(#[]:Bc AF))).update D (CV λM=>EW (p.toList.map λi=>S.getD i IL))).get? D=B (Uk "list" (EW (p.toList.map λi=>S.getD i IL)) c3):=⟨_,ng wr λM=>_⟩;have wg:∀b o,b∉[D,kS]->s2.heap.get? b=B o->((s2.heap.update kS (CV λM=>(#[]:Bc AF))).update D (CV λM=>EW (p.toList.map λi=>S.getD i IL))).get? b=B o:=λb o hb e=>by
      refine J (D0 _ _ _ _ (λq=>hb (by simp[q]))) (J (xL b λq=>hb (by simp[q])) e)
    have wi:∀b∈[D,kS],s0.heap.get? b=AJ:=λb hb=>by
      clear q x x2 wr L wg;refine AC (Ae.mp hb) ?_ λhb=>?_;intro X;subst X;·exact hD
      ·refine J (AM.mp hb) wh
    refine AH (q _ c3 _ (x2.st.but [D,kS] (λb hb=>Q.none (wi b hb)) (λb hb o xN e ed=>?_) wg (AN _)) (x2.gr.but [D,kS] wi wg) L ?_)
    · clear hD q x wr L wg wi;refine AC (Ae.mp hb) ?_ λhb=>?_;intro X;subst X;·rw[x2.oD]at e;replace e:=EY e;induction e using EC;cases(ed)
      ·rw[AM.mp hb,xK]at e;replace e:=EY e;induction e using EC;cases(ed)
    · unfold FJ;refine CS hp ?_;have go:∀l:U Z,(∀i∈l,i<is.length)->C3 jL (zs (l.map λi=>is.getD i 0)) (l.map λi=>S.getD i IL):=by
       intro l;induction l with|nil=>intro M;exact .nil|cons x l I=>intro h;refine Aw (lC n (h x AQ)) λt e=>.cons ?_ (I λi hi=>h i (AU _ hi));dsimp only;refine J e (.int _ _)
      exact go _ wz
end
section
variable{F:Fx}{h₀:BJ}{σ:AS}{Y:U AW}{c:Cx}
noncomputable def O1(n:Z):U O:=(Ar n).map I0
theorem bh(n:Z):(O1 n).length=n:=by simp[O1]
theorem UC(n i:Z)(h:i<n):(O1 n).getD i 0=i:=by simp[O1,h]
theorem UV{n m:Z}{lf:O->O->O}{wl:O->Prop}{d:V}{A:BQ}{E:AF->AE->Prop}{s:AE}{Q:AF->AE->Prop}{va y:AF}(p:Wf c)(N:FD A (m+4))(hS:St c s)(hL:Hf Y s.heap)(L:Rd (fz Y s.heap) (Kl 0 n) va)(rk:Rd (fz Y s.heap) (KV c d) y)(R:GD d)(ok:QQ c m d lf wl)(C:2<=n)(x8:n<64)(wm:∀i:Z,i<n->wl i)(q:∀r s',St c s'->Bk c.hB s.heap s'.heap->Rd (fz Y s'.heap) (.list (zs ((FJ n λi j=>B9 (lf i j<0)).map I0))) r->Q r s'):Aj (BF c.prog c.w) A (Hi (.builtin "sorted") [va] [("key",y)]) Q E s:=by
  have wq:=rk;induction L using Rd.eA with|abs _ L=>induction rk using Rd.eA with|abs _ rk=>
  refine Ge L λr t u w T er=>?_;clear L;subst T;refine AI rk λca z M=>?_;clear rk;subst z;have wr:=(Al.mp er).2;have wt:Br 0 (n:O) 1=(n:Z):=by
    simp only[Br,Nr,aA,KH,Kz];split<;>(first|exact sL|exact sK ‹_›|omega)
  have wu:=hS.grow;refine call_function_entry_kw kind_sorted plain_sorted entry_sorted (ksk_s1 _ _) ?_;unfold Builtin.«sorted»;refine AB (AH ?_);refine AB (Ad (CM (So (Q:=λS s'=>∃h' tk,s'={s with heap:=h',toks:=tk}/\(∀b o,s.heap.get? b=B o->h'.get? b=B o)/\∃acc:Bc AF,S=acc.toList/\kl (λi v=>∃t,v=.int (0+i*1) t) acc n) N.in1.handled wr (L4 0 n (by exact z28) (by exact z29) (by exact vp) (by exact sJ ‹_›)) wt (by exact lH ‹_›) λh' tk acc F g=>⟨h',tk,rfl,F,acc,rfl,g⟩)) (λS s1 H=>?_) λM M x=>x.2);refine Aa H λht G=>?_;clear H;refine Cj G λh' tk e F wn=>?_;clear G;refine AI wn λacc e2 g=>?_;clear wn;subst e e2;have f:C3 jL (zs (O1 n)) acc.toList:=C3.R3 (by refine J g.1 ?_;simp[zs,O1]) λj d v W C=>by
    refine Aw (g.2 j v C) λt z=>?_;subst z;simp only[zs,O1,B3]at W;refine AI (BK.mp W) λi hi wg=>?_;subst wg;clear W;refine AI (BK.mp hi) λi' wo wg=>?_;subst wg;have :=(Az.mp wo);clear wo hi;rcases this with⟨x9,e⟩;simp at e;subst e;simp;exact .int _ _
  have wv:acc.toList.length=n:=by have :=f.length;simpa[zs,O1]using this.symm
  refine AB (Ug ?_ (by refine J wv (J Jb (lH ‹_›))));have S2:St c {s with heap:=h'.push {cls:=.type "list",data:=.seq acc.toList.toArray},toks:=tk}:=hS.keep (λb o e=>AR _ (F b o e)) ht;have g2:Bk c.hB s.heap (h'.push {cls:=.type "list",data:=.seq acc.toList.toArray}):=.of_keep λb o e=>AR _ (F b o e);have wj:s.heap.get? h'.objs.size=AJ:=by
    cases e:s.heap.get? h'.objs.size with|none=>rfl|some o=>exact B8 (Bg (F _ _ e)) (CI _)
  have wh:(h'.push {cls:=.type "list",data:=.seq acc.toList.toArray}).get? h'.objs.size=B (Uk "list" acc.toList.toArray 0):=Ag _ rfl;generalize h'.push {cls:=.type "list",data:=.seq acc.toList.toArray}=xA at S2 g2 wh⊢;generalize h'.objs.size=D at wj wh⊢;refine AB (Co (wpAny_call_entry_kw slot_list_sort ⟨_,wh,rfl⟩ entry_list_sort ?_ (ksk_l1 _ _)));have wx:=bh n;refine J (show(("key":BA))=BR "key"from rfl) (J (ksk_t1 _ _) (cI p N.in1.in1 wu hL wq R ok S2 g2 wj wh f (by exact pK ‹_› ‹_›) (by exact lw ‹_› ‹_›) (λi hi=>?_) λs' nn xB S' g' oD wi=>⟨_,rfl,AH ⟨_,rfl,q _ s' S' g' ?_⟩⟩));· refine AI (BO.mp hi) λk R wg=>?_;subst wg;exact wm k (Cp.mp R)
  · refine .list (Al.mpr ⟨hL.fresh wj,oD⟩) (C3.sub (fR _) ?_);have hp:FJ (O1 n).length (λi j=>B9 (lf ((O1 n).getD i 0) ((O1 n).getD j 0)<0))=FJ n λi j=>B9 (lf i j<0):=by
     refine J wx ?_;unfold FJ;congr 1;have wy:∀{X:Type}{P:X->Prop}(t:oY X),II n P t->FE (λi j=>B9 (lf ((O1 n).getD i 0) ((O1 n).getD j 0)<0)) t=FE (λi j=>B9 (lf i j<0)) t:=by
      intro X P t;induction t with|ret a=>intro M;rfl|ask i j k I=>intro h;refine(?_:FE _ (k _)=FE _ (k _));dsimp only;refine J (UC n i h.1) (J (UC n j h.2.1) (I _ (h.2.2 _)))
     exact wy _ (O6 (by exact pJ ‹_›))
    have K:∀l:U Z,(∀x∈l,x<n)->(l.map λi=>(O1 n).getD i 0)=l.map I0:=λl h=>FO λx hx=>UC n x (h x hx);rw[hp,K]at wi;·exact wi
    · intro x hx;unfold FJ at hx;have wz:=II.post (λi j=>B9 (lf i j<0)) _ (O6 (by exact pJ ‹_›));refine Aw (Kv hx) λk G=>?_;rcases G with⟨R,rfl⟩;have :=wz k;rw[Bf]at this;simpa[QF▸R]using this
theorem Rl{n m:Z}{np L pos:EQ}{e v:BL}{Q:V->Prop}(hw:Wf F.c)(p:F.n=m+4)(R:F.env.kindOf "sorted"=B .globalImplicit)(D:Pn F.c "sorted" (.builtin "sorted"))(K:∀a∈Y,a∈F.X σ)(C:2<=n)(o:n<64)(h:WE F σ Y e λa=>a=Kl 0 n/\WE F σ Y v λkd=>∃d S k,kd=KV F.c d/\GD d/\QQ F.c m d S k/\(∀i:Z,i<n->k i)/\Q (.list (zs ((FJ n λi j=>B9 (S i j<0)).map I0))))(he:∀env,Bn [e] env=(AD,Gp e env)::Bn [] env:=by intro M;rfl):WE F σ Y (.Call (.Name "sorted" np) [e] [⟨B "key",v,L⟩] pos) Q:=by
 intro A E s N hS T;refine wpAny_Call_ofName (Ig hw hS T.ok R D.1 D.2 ?_);refine callWith_kw ?_ (by refine J (he _) ?_;rfl) (by refine J (he _) ?_;rfl);have hE:OV F σ Y [e] λu=>u=[Kl 0 n]/\WE F σ Y v λkd=>∃d S k,kd=KV F.c d/\GD d/\QQ F.c m d S k/\(∀i:Z,i<n->k i)/\Q (.list (zs ((FJ n λi j=>B9 (S i j<0)).map I0))):=Cz (h.mono λd X=>by refine Aa X λe1 q=>Er ⟨by refine J e1 ?_;rfl,q⟩) he;refine hE.bind N hS T λrs s₁ u l w t c H=>Aa H λe1 G=>?_;clear H;subst e1;induction c using C3.eC with|cons P c=>induction c using C3.eN;refine kws_cons (G.bind N l t λkv y kd f z g W H=>?_);refine UA H λd S k I wg ok b q=>?_;clear H;refine kws_nil ?_;subst I;exact UV hw (p▸N) f (g.Ft K) (Rd.sub (DB z _) P) W wg ok C o b λr s' x g' rr=>⟨x,(w.trans z).trans g',_,rr,q⟩
end
noncomputable def Df:BC->U It->U (U Cl)|_,[]=>[[]]|_,B c::r=>(c::(Df AD r).headD [])::(Df AD r).tail|AD,AJ::r=>[]::Df AO r|AO,AJ::r=>Df AO r
noncomputable def GO(items:U It):U (U Cl):=Df AD items
noncomputable def HK(w:Z):U (U Z):=[[],[42],[63],[97],[98],[91],[93],[91,33],[45],[33],[98,45,97],[97,45,98],[94],[92],[91,98,45,97,33],[w]]
noncomputable def JJ(w:Z):U (U Z):=[[],[97],[98],[45],[33],[93],[94],[92],[91],[42],[10],[97],[98],[97,98],[98,97],[w]]
noncomputable def Hs(x:O)(k:Z):Z:=((x.fdiv (256^k)).fmod 16).toNat
noncomputable def JL(x:O):U Z:=((Ar 4).map λk=>(HK (Ih (x.fdiv (16^7)))).getD (Hs x k) []).flatten
noncomputable def Jn(x:O):U Z:=((Ar 3).map λk=>(JJ (Ih (x.fdiv (16^7)))).getD (Hs (x.fdiv 16) k) []).flatten
noncomputable def Kj(f:U O):U (U Z):=(f.take 8).map JL
noncomputable def CA(f:U O):U (U Z):=Kj f++[[42,98]]
noncomputable def B2(f:U O):U (U Z):=[[],[97,98],[98]]++(f.take 8).map Jn
noncomputable def Bj(f:U O):U (U (U Cl)):=(CA f).map λr=>GO (CY r)
noncomputable def Kk(a:U (U (U Cl)))(name:U Z):Z:=(((Ar a.length).filter λk=>EI (a.getD k []) name)++[a.length]).headD 0
noncomputable def CG(f:U O):U Z:=(B2 f).map (Kk (Bj f))
noncomputable def IF(names:U (U Z))(st:U (U Z)×U Z)(it:U It):U (U Z)×U Z:=(st.1++[st.2.filter λp=>MI it (names.getD p [])],st.2.filter λp=>!(st.2.filter λp=>MI it (names.getD p [])).contains p)
noncomputable def Bb(f:U O):U (U Z)×U Z:=((CA f).map CY).foldl (IF (B2 f)) ([],Ar (B2 f).length)
noncomputable def Jz(names:U (U Z))(st:U (U Z)×U Z)(read:U (U Cl)):U (U Z)×U Z:=(st.1++[st.2.filter λp=>EI read (names.getD p [])],st.2.filter λp=>!EI read (names.getD p []))
noncomputable def rk(f:U O)(i:Z):Z:=(CG f).getD i 0
structure LJ(F6:U O):Prop where
ne:((Bb F6).1++[(Bb F6).2]).flatten≠[]c1:FJ (B2 F6).length (λi j=>B9 ((rk F6 i:O)-(rk F6 j:O)<0))=((Bb F6).1++[(Bb F6).2]).flatten
c2:FJ (B2 F6).length (λi j=>B9 ((rk F6 j:O)-(rk F6 i:O)<0))=([(Bb F6).2]++(Bb F6).1.reverse).flatten
c3:((Ar (B2 F6).length).drop 1).foldl (λone two=>if rk F6 two<rk F6 one then two else one) 0=(((Bb F6).1++[(Bb F6).2]).flatten).headD 0
c4:(Bj F6).foldl (Jz (B2 F6)) ([],Ar (B2 F6).length)=Bb F6
theorem Sw(i:O):Ih i<0x110000:=by
 unfold Ih;have h:0<=i.fmod 1112064/\i.fmod 1112064<1112064:=⟨JG _ (by decide),Qi _ (by decide)⟩;dsimp only;split<;>(first|exact wa ‹_›|exact wY ‹_›|omega)
theorem OS(x:O)(k:Z):Hs x k<16:=by
 unfold Hs;have h:0<=(x.fdiv (256^k)).fmod 16/\(x.fdiv (256^k)).fmod 16<16:=⟨JG _ (by decide),Qi _ (by decide)⟩;exact wZ ‹_›
theorem TZ(x:O)(k:Z):((x.fdiv (256^k)).fmod 16)=(Hs x k:O):=by
 unfold Hs;have h:0<=(x.fdiv (256^k)).fmod 16:=JG _ (by decide);exact wb ‹_›
theorem Y6{n w:Z}{P:U (U Z)}(a:w<0x110000)(p:1<=n)(h:(P.all λl=>B9 (l.length<=n)&&l.all λx=>B9 (x<0x110000))=AO):∀l∈P++[[w]],l.length<=n/\∀x∈l,x<0x110000:=by
 intro l g;refine AC (Ai.mp g) (λg=>?_) λg=>(J (AM.mp g) ⟨p,λx D=>by refine J (AM.mp D) a⟩);· have :=Bi.mp h l g;rw[Bs]at this;exact⟨Bq this.1,λx D=>Bq (Bi.mp this.2 x D)⟩
theorem ZM(w:Z)(p:w<0x110000):∀l∈HK w,l.length<=5/\∀x∈l,x<0x110000:=Y6 (P:=(HK 0).take 15) p (by decide) rfl
theorem b8(w:Z)(p:w<0x110000):∀l∈JJ w,l.length<=2/\∀x∈l,x<0x110000:=Y6 (P:=(JJ 0).take 15) p (by decide) rfl
theorem YE{P:U Z->Prop}(ls:U (U Z))(k:Z)(h:∀l∈ls,P l)(h0:P []):P (ls.getD k []):=by
 refine J AG ?_;cases e:ls[k]? with|none=>exact h0|some l=>exact h l (By e)
theorem YI(ls:U (U Z))(m:Z)(h:∀l∈ls,l.length<=m/\∀x∈l,x<0x110000):ls.flatten.length<=ls.length*m/\∀x∈ls.flatten,x<0x110000:=by
 induction ls with|nil=>simp|cons l r I=>
have W:=h l AQ;have C:=I λx D=>h x (AU _ D);refine⟨?_,λx D=>?_⟩;·simp only[Ba,AZ,Ah,SG];refine J (CK _ _) (CR C.1 W.1)
· rw[Ba,Ai]at D;exact D.elim (W.2 x) (C.2 x)
theorem T8(x:O):(JL x).length<=20/\∀y∈JL x,y<0x110000:=by
 have :=YI ((Ar 4).map λk=>(HK (Ih (x.fdiv (16^7)))).getD (Hs x k) []) 5 λl g=>by
  refine AI (BO.mp g) λk M H=>CS H (YE _ _ (ZM _ (Sw _)) (by decide))
 rw[AL,CW]at this;exact⟨AA this.1 (by decide),this.2⟩
theorem TL(x:O):(Jn x).length<=6/\∀y∈Jn x,y<0x110000:=by
 have :=YI ((Ar 3).map λk=>(JJ (Ih (x.fdiv (16^7)))).getD (Hs (x.fdiv 16) k) []) 2 λl g=>by
  refine AI (BO.mp g) λk M H=>CS H (YE _ _ (b8 _ (Sw _)) (by decide))
 rw[AL,CW]at this;exact⟨AA this.1 (by decide),this.2⟩
theorem Qs(f:U O):∀r∈CA f,r.length<=20/\∀y∈r,y<0x110000:=by
 intro r hr;refine AC (Ai.mp hr) (λh=>(AI (BO.mp h) λx M H=>CS H (T8 x))) λh=>?_;·refine J (AM.mp h) ?_;decide
theorem R6(f:U O):∀r∈B2 f,r.length<=6/\∀y∈r,y<0x110000:=by
 intro r hr;refine AC (Ai.mp hr) (λh=>?_) λh=>(AI (BO.mp h) λx M H=>CS H (TL x));· simp only[Ae,Dv,JA]at h;clear hr;focus(refine AC h ?_ ?_;rotate_left;(focus(clear h;intro X;focus(refine AC X ?_ ?_;rotate_left;(focus(clear X;intro X;subst X));rotate_right;(focus(clear X;intro X;subst X)))));rotate_right;(focus(clear h;intro X;subst X)))<;>simp
theorem L5(f:U O):(CA f).length<=9/\1<=(CA f).length:=by simp[CA,Kj];exact z92
theorem Fq(f:U O):(B2 f).length<=11/\3<=(B2 f).length:=by simp[B2];exact z92
section
theorem RD{L:Z}(d:Z)(h:d<11:=by decide):L+d∈J7 (E8 24).scope L:=by
 have e:J7 (E8 24).scope L=[0,10,9,8,7,6,5,4,3,2,1].map (L+·):=rfl;refine J e (Kt ((by decide:∀d,d<11->d∈([0,10,9,8,7,6,5,4,3,2,1]:U Z)) d h))
section
variable{F:Fx}{h₀:BJ}{σ:AS}
theorem LH{c:U G1}{Q:Ha->AS->Prop}(l:AS)(L:∀y sl,l.lookup y=B sl->σ.lookup y=B sl)(h:WS F h₀ l c Q)(ho:∀a∈CT l,a∈CT σ:=by intro a h;exact h):WS F h₀ σ c Q:=by
 intro A E s N T;refine Ad (h A E s N (T.forget L ho)) (λd s' H=>?_) λM M x=>x;refine Dg H λC σ' W m r q=>Dm C σ' W ⟨λb o hb e=>m.grow b o (λK=>hb ((Ai.mp K).elim (Ak _) λh=>Ac _ (ho b h))) e,λb hb=>(m.own b hb).imp (ho b) id⟩ r q
theorem jh{c:U G1}{Q:Ha->AS->Prop}{b:AS}(h:WS F h₀ σ c Q):WS F h₀ (σ++b) c Q:=LH σ (λy sl e=>by rewrite[Iw];refine J e rfl) h λa P=>by refine J (L7 _ _) (Ak _ P)
theorem X8{b:AS}:∀{σ:AS},(∀p∈σ,b.lookup p.1=B p.2)->∀y sl,σ.lookup y=B sl->b.lookup y=B sl:=by
 intro σ;induction σ with|nil=>exactλM M M e=>Eb e|cons p r I=>intro h y sl e;have h:=AT.mp h;rw[Am]at e;cases t:y==p.1 with|true=>rw[t]at e;refine J (Fe t) (J h.1 e)|false=>rw[t]at e;exact I h.2 y sl e
theorem fK{x:BA}{s:Sl}{b:AS}:∀{σ:AS},σ.lookup x=AJ->(σ++b).put x s=σ++b.put x s:=by
 intro σ;induction σ with|nil=>exactλM=>rfl|cons p r I=>intro h;rw[Am]at h;cases t:x==p.1 with|true=>rw[t]at h;exact jc h|false=>rw[t]at h;refine(?_:(if(p.1==x)=AO then _ else p::AS.put x s (r++b))=_);refine J (Ab (by refine J pB (J t (Dc)))) (J (I h) ?_);rfl
theorem UZ{x:BA}{d:V}{c:U G1}{Q:Ha->AS->Prop}{b:AS}(p:σ.lookup x=AJ)(h:WS F h₀ (σ++Dz x d) c Q):WS F h₀ ((σ++b).put x (.v d)) c Q:=by
 refine J (fK p) (LH (σ++Dz x d) (λy sl e=>?_) h λa P=>?_);· rw[Iw]at e⊢;cases L:σ.lookup y with|some v=>rw[L]at e;exact e|none=>rw[L]at e;rewrite[AS.DD];have e:(match y==x with|AO=>B (.v d)|AD=>AJ)=B sl:=e;cases t:y==x with|true=>rw[t]at e;refine J (Ap (Fe t)) e|false=>rw[t]at e;exact Eb e
 · rw[L7,Dz,CT,CT,BW]at P;refine J (L7 _ _) (Ak _ P)
end
section
variable{c:Cx}{m L:Z}{Y:U AW}{h₀:BJ}{Q:Ha->AS->Prop}
noncomputable abbrev IS(c:Cx)(n:Z)(L:AW)(Y:U AW)(a:U AW):Fx:=Fx.hG c n (E8 24).scope 147 L Y ("law"++".<locals>.") (.ref 146) a
theorem Ro{F:Fx}{σ:AS}{x:BA}{p pos k:EQ}{es:U BL}{Q:Ha->AS->Prop}(D:DG F x)(h:WE F σ (F.X σ) (.List es k) λd=>Q .next (σ.put x (.v d))):W1 F h₀ σ (.Assign [.Name x p] (.List es k) pos) Q:=EZ D h rfl
theorem eg{k:Z}(h:k<4):(256:O)^k≠0/\((256:O)^k).natAbs<1073741824:=by
 have  :=by exact sH ‹_›
 clear h;focus(refine AC this ?_ ?_;rotate_left;(focus(clear this;intro X;focus(refine AC X ?_ ?_;rotate_left;(focus(clear X;intro X;focus(refine AC X ?_ ?_;rotate_left;(focus(clear X;intro X;subst X));rotate_right;(focus(clear X;intro X;subst X)))));rotate_right;(focus(clear X;intro X;subst X)))));rotate_right;(focus(clear this;intro X;subst X)))<;>decide
theorem MK(ls:U (U Z))(k:Z)(h:k<ls.length):(CN ls)[k]?=B (.str (ls.getD k [])):=by
 rewrite[CN];refine J B3 (J AG (J (AP h) ?_));rfl
noncomputable def UL(f:U O)(z F:AW)(a ns:U (U Z)):AS:=[("script",.v (.list (zs f))),("rules",.own z (CN a)),("names",.own F (CN ns))]
theorem Y8{n:Z}(N:Nm c):VH (IS c n L Y (J7 (E8 24).scope L)) (E8 24).scope ["rules","names","x","wide","pieces","signs","reads","ranks","name","takers","heaps","left","rule","items"]:=⟨N,AT.mpr ⟨Z7 rfl rfl,AT.mpr ⟨ee rfl rfl (RD 9),AT.mpr ⟨ee rfl rfl (RD 1),AT.mpr ⟨Z7 rfl rfl,AT.mpr ⟨ee rfl rfl (RD 2),AT.mpr ⟨ee rfl rfl (RD 3),AT.mpr ⟨ee rfl rfl (RD 4),AT.mpr ⟨ee rfl rfl (RD 10),AT.mpr ⟨ee rfl rfl (RD 5),AT.mpr ⟨Z7 rfl rfl,AT.mpr ⟨ee rfl rfl (RD 6),AT.mpr ⟨Z7 rfl rfl,AT.mpr ⟨Z7 rfl rfl,AT.mpr ⟨ee rfl rfl (RD 7),De _⟩⟩⟩⟩⟩⟩⟩⟩⟩⟩⟩⟩⟩⟩,rfl,rfl⟩
theorem mz(N:Nm c)(f:U O)(p:f.length<=1000000)(k:∀z F v,z∉(IS c (m+6) L Y (J7 (E8 24).scope L)).Xo->F∉(IS c (m+6) L Y (J7 (E8 24).scope L)).Xo->CT v=[]->WS (IS c (m+6) L Y (J7 (E8 24).scope L)) h₀ (UL f z F (Kj f) (B2 f)++v) ((E8 24).body.drop 3) Q):WS (IS c (m+6) L Y (J7 (E8 24).scope L)) h₀ (Cv ["script"] [.list (zs f)]) (E8 24).body Q:=by
  have H:=Y8 (n:=m+6) (L:=L) (Y:=Y) N;refine FT H 3 _ _ _ (?_:W1 _ _ _ _ _);refine DN (H.st _ (by decide)) (N8.GH H ?_);refine AV (by decide) λz g r=>(?_:W1 _ _ _ _ _);refine DN (H.st _ (by decide)) (N8.GH H ?_);refine AV (show 3<=_ by decide) λF E S=>?_;let s:=λi=>UL f z F (((f.take 8).take i).map JL) ([[],[97,98],[98]]++((f.take 8).take i).map Jn);have wl:=(XI (zs f) 8).trans U.map_take.symm;refine(?_:W1 _ _ (s 0) _ _);refine W1.mono (Q:=λo σ'=>o=.next/\∃v,σ'=s (f.take 8).length++v/\CT v=[]) (Yz H 0 (λi σ'=>∃v,σ'=s i++v/\CT v=[]) (H.st _ (by decide)) ?_) ?_
  · refine AK _ (.list (by rewrite[zs];refine J (AL _) (AA p (by decide)))) ⟨zs (f.take 8),by refine J wl ?_;exact .list _,⟨[],rfl,rfl⟩,?_,?_⟩
    · intro I i σ' d K t a hd y;refine AI y λv wg A=>?_;clear y;subst wg;intro M M Du;obtain⟨x,D,rfl⟩:∃x,(f.take 8)[i]?=B x/\d=.int x:=by
       rw[zs,B3]at hd;cases D:(f.take 8)[i]? with|none=>rw[D]at hd;exact Eb hd|some x=>rw[D]at hd;replace hd:=EY hd;induction hd using EC;exact AK x rfl rfl
      refine UZ rfl (vS.ok t ?_);have l:∀b∈[z,F],c.hB.get? b=AJ:=AT.mpr ⟨g,AT.mpr ⟨E,De _⟩⟩;refine(?_:WE _ _ _ _ _);refine MJ t N.wide (fL N (m+5)) CX ?_;refine AK _ (.pow 16 7 (by decide) (by decide)) (AK _ (.fdiv _ _ (by decide) (by decide)) ⟨_,rfl,?_⟩);generalize hw:Ih (x.fdiv (16^7))=w;refine(?_:W1 _ _ (s i++(Dz "x" (.int x)++Dz "wide" (.str [w]))) _ _);refine Ro ?hst ?_;case hst=>exact t.st _ (by decide)
      refine vE.GH t ?_;refine AV (show 16<=_ by decide) ?_;refine(?_:W1 _ _ (s i++(Dz "x" (.int x)++(Dz "wide" (.str [w])++Dz "pieces" (.list (CN (HK w)))))) _ _);refine Ro ?hst ?_;case hst=>exact t.st _ (by decide)
      refine vE.GH t ?_;refine AV (show 16<=_ by decide) ?_;let G:U V->U V->AS:=λrs ns=>([("script",.v (.list (zs f))),("rules",.own z rs),("names",.own F ns)]:AS)++(Dz "x" (.int x)++(Dz "wide" (.str [w])++(Dz "pieces" (.list (CN (HK w)))++Dz "signs" (.list (CN (JJ w))))));have wi:(CN (((f.take 8).take i).map JL)).length<=8:=by rewrite[CN];refine J (AL _) ?_;refine J (AL _) ?_;exact AA (Ot _ _) (Ku _ _)
      have n:(CN ([[],[97,98],[98]]++((f.take 8).take i).map Jn)).length<=11:=by rewrite[CN];refine J (AL _) ?_;refine J AZ ?_;refine J (AL _) ?_;exact Av (AA (Ot _ _) (Ku _ _)) 3
      generalize u:CN (((f.take 8).take i).map JL)=rs at wi;generalize W:CN ([[],[97,98],[98]]++((f.take 8).take i).map Jn)=ns at n;refine Gx (σ':=G rs ns) (by refine CS u ?_;refine CS W ?_;rfl) ?_;refine(?_:W1 _ _ _ _ _);refine Ir (a:=z) (xs:=rs) rfl (AA wi (by decide)) (OZ rfl (F9 (λd=>match d with|.int k=>B (.str ((HK w).getD (Hs x k.toNat) []))|_=>AJ) Be rfl rfl rfl rfl rfl l (vE.GH t ?_)));refine AK _ (.JM _) ⟨_,.NX 4 (by decide),by decide,?_,?_⟩;· intro C X d hd M M;refine AI (BO.mp hd) λk R P=>?_;subst P;have R:k<4:=Cp.mp R;refine KE ⟨(λh=>NI h),λM=>vE.GH (VH.comp N) ?_⟩;refine AK _ (.pow 256 k (AA (BE R) (by decide)) (by decide)) (AK _ (.fdiv _ _ (eg R).1 (eg R).2) (AK _ (.mod _ 16 (by decide)) ?_));refine J (TZ _ _) ?_;have wh:Hs x k<(HK w).length:=OS x k;exact AK _ (.list (.nat (MK (HK w) (Hs x k) wh) (CC (OS x k) (by decide)))) rfl
      refine J (H8 _ (λk=>V.str ((HK w).getD (Hs x k) [])) _ λm M=>rfl) ?_;have e:((Ar 4).map λk=>(HK w).getD (Hs x k) []).flatten=JL x:=by unfold JL;refine J hw ?_;rfl
      refine F8 ((Ar 4).map λk=>(HK w).getD (Hs x k) []) (by rewrite[CN];refine J EE ?_;rfl) (by refine J e ?_;exact AA (T8 x).1 (by decide)) ?_;refine J e ?_;refine(?_:W1 _ _ (G (rs++[.str (JL x)]) ns) _ _);refine Ir (a:=F) (xs:=ns) rfl (AA n (by decide)) (OZ rfl (F9 (λd=>match d with|.int k=>B (.str ((JJ w).getD (Hs (x.fdiv 16) k.toNat) []))|_=>AJ) Be rfl rfl rfl rfl rfl l (vE.GH t ?_)));refine AK _ (.JM _) ⟨_,.NX 3 (by decide),by decide,?_,?_⟩;· intro C X d hd M M;refine AI (BO.mp hd) λk R P=>?_;subst P;have R:k<4:=Bm (Cp.mp R);refine KE ⟨(λh=>NI h),λM=>vE.GH (VH.comp N) ?_⟩;refine AK _ (.fdiv _ 16 (by decide) (by decide)) (AK _ (.pow 256 k (AA (BE R) (by decide)) (by decide)) (AK _ (.fdiv _ _ (eg R).1 (eg R).2) (AK _ (.mod _ 16 (by decide)) ?_)));refine J (TZ _ _) ?_;have wh:Hs (x.fdiv 16) k<(JJ w).length:=OS (x.fdiv 16) k;exact AK _ (.list (.nat (MK (JJ w) (Hs (x.fdiv 16) k) wh) (CC (OS (x.fdiv 16) k) (by decide)))) rfl
      refine J (H8 _ (λk=>V.str ((JJ w).getD (Hs (x.fdiv 16) k) [])) _ λm M=>rfl) ?_;have e:((Ar 3).map λk=>(JJ w).getD (Hs (x.fdiv 16) k) []).flatten=Jn x:=by unfold Jn;refine J hw ?_;rfl
      refine F8 ((Ar 3).map λk=>(JJ w).getD (Hs (x.fdiv 16) k) []) (by rewrite[CN];refine J EE ?_;rfl) (by refine J e ?_;exact AA (TL x).1 (by decide)) ?_;refine J e ?_;refine Du _ ⟨Dz "x" (.int x)++(Dz "wide" (.str [w])++(Dz "pieces" (.list (CN (HK w)))++Dz "signs" (.list (CN (JJ w))))),?_,rfl⟩;have T:(f.take 8).take (i+1)=(f.take 8).take i++[x]:=by refine J DM ?_;refine J D ?_;rfl
      refine(?_:G (rs++[.str (JL x)]) (ns++[.str (Jn x)])=G (CN (((f.take 8).take (i+1)).map JL)) (CN ([[],[97,98],[98]]++((f.take 8).take (i+1)).map Jn)));refine J T ?_;refine J DI ?_;refine J DI ?_;refine J (Ph _ _) ?_;rewrite[<-Bw];refine J (Ph _ _) ?_;refine J u ?_;refine J W ?_;rfl
    · intro σ' q;refine AI q λv wg A=>?_;clear q;subst wg;refine⟨rfl,v,?_,A⟩;rewrite[zs];refine J (AL _) ?_;rfl
  intro o σ' j;refine Aa j λwm wj=>?_;clear j;refine AI wj λv wg A=>?_;clear wj;subst wg;subst wm;have h:=k z F v r S A;refine(?_:WS _ _ (UL f z F (((f.take 8).take (f.take 8).length).map JL) ([[],[97,98],[98]]++((f.take 8).take (f.take 8).length).map Jn)++v) _ _);refine J GZ h
end
end
theorem bA(body:U Z)(g:body.length<=64)(f:∀x∈body,x<0x110000):(I7 body).Ok:=by
 have H:∀l:U Z,l=(if body.headD 0==33 then body.drop 1 else body)->l.length<=64/\∀x∈l,x<0x110000:=by
  intro l h;subst h;split;·exact⟨by simp;exact sF ‹_›,λx D=>f x (Hz _ _ D)⟩
  ·exact⟨g,f⟩
 refine Aa (H _ rfl) λe Q=>?_;have n:=Y2 (if body.headD 0==33 then body.drop 1 else body);have c:=AA (VW (if body.headD 0==33 then body.drop 1 else body)) e;have d:=RA (if body.headD 0==33 then body.drop 1 else body);have j:=RB _ (if body.headD 0==33 then body.drop 1 else body) Q;unfold I7;dsimp only;generalize Ho (if body.headD 0==33 then body.drop 1 else body)=A at n c d j;have z:∀b:BC,(⟨b,A⟩:Cl).Ok:=λb=>⟨n,by refine(?_:A.length<=1000);exact iV ‹_›,λm h=>by have :=d m h;exact lv ‹_›,j⟩;split;· rename_i h;clear z;refine B7 h λM C M=>?_;clear h;cases A with|nil=>exact B8 rfl C|cons m r=>
      have T:=d m AQ;have F:=j m AQ;have a:∀t,t∈(((m::r).headD []).drop 1).map (λx=>[x])++(m::r).drop 1->(∃x∈m,t=[x])\/t∈r:=λt i=>by
        refine AC (Ai.mp i) (λh=>?_) λh=>(.inr h);· clear i;refine AI (BO.mp h) λx D P=>?_;subst P;exact .inl ⟨x,Hz _ _ D,rfl⟩
      refine⟨λt i=>?_,?_,λt i=>?_,λt i x D=>?_⟩;· refine AC (a t i) (λX=>?_) λh=>(n t (AU _ h));·refine AI X λx M P=>?_;clear X;subst P;simp
      ·simp at c⊢;exact sD ‹_› ‹_›
      · refine AC (a t i) (λX=>?_) λh=>?_;·refine AI X λx M P=>?_;clear X;subst P;simp
        ·have :=d t (AU _ h);exact lv ‹_›
      · refine AC (a t i) (λX=>?_) λh=>(j t (AU _ h) x D);·refine AI X λy k P=>?_;clear X;subst P;refine J (AM.mp D) (F y k)
 ·exact z _
theorem RL:∀(n:Z)(l:U Z),l.length<=n->l.length<=64->(∀x∈l,x<0x110000)->∀t∈CY l,It.Ok t:=by
 intro n;induction n with
 |zero=>intro m;cases m with|nil=>intro M M M t i;rw[H7]at i;exact JZ i|cons _ _=>intro d;exact B8 d (F1 _)
 |succ n I=>intro m;cases m with|nil=>intro M M M t i;rw[H7]at i;exact JZ i|cons c R=>
      intro g o f t i;simp only[Ah]at g o;have hr:=λx D=>f x (AU _ D);have Dz:∀(b:BC)(A:U Mem),A=[]\/A=[[c]]->(⟨b,A⟩:Cl).Ok:=λb A h=>by
        refine AC h (λX=>?_) λX=>?_;·clear h;subst X;exact⟨by simp,by simp,by simp,by simp⟩
        ·clear h;subst X;exact⟨by simp,by simp,by simp,by simpa using f c AQ⟩
      by_cases W:c=42;· clear f Dz;subst W;rw[JV]at i;refine AC (Ae.mp i) (λX=>?_) λi=>(I R (by exact z0 ‹_›) (by exact gj ‹_›) hr t i);·subst X;trivial
      · by_cases C:c=63;· clear f W;subst C;rw[Ka]at i;refine AC (Ae.mp i) (λX=>?_) λi=>(I R (by exact z0 ‹_›) (by exact gj ‹_›) hr t i);·subst X;exact Dz _ _ (.inl rfl)
        ·cases G:(if c=91 then DL R else AJ)with
|some e=>
clear f Dz W C;split at G;· rename_i T;subst T;have :=Hp G;rw[KZ _ _ G]at i;refine AC (Ae.mp i) (λX=>?_) λi=>(I (R.drop (e+1)) (by simp;exact iU ‹_›) (by simp;exact lr ‹_›) (λx D=>hr x (Hz _ _ D)) t i);·subst X;exact bA _ (by simp;exact lu ‹_›) λx D=>hr x (Tk _ _ D)
·exact Eb G|none=>rw[HP c R W C (λT=>by rw[Ap T]at G;exact G)]at i;refine AC (Ae.mp i) (λX=>?_) λi=>(I R (by exact z0 ‹_›) (by exact gj ‹_›) hr t i);·subst X;exact Dz _ _ (.inr rfl)
theorem Z8:∀(items:U It),(∀t∈items,It.Ok t)->∀star,(∀r∈Df star items,(∀t∈r,t.Ok)/\r.length<=items.length)/\(Df star items).length<=items.length+1:=by
 intro items;induction items with|nil=>intro M star;refine(?_:(∀q∈[([]:U Cl)],(∀t∈q,t.Ok)/\q.length<=0)/\1<=1);simp|cons d r I=>cases d with
|none=>intro h star;cases star with|false=>
        have I:=I (λt i=>h t (AU _ i)) AO;refine(?_:(∀q∈[]::Df AO r,_)/\([]::Df AO r).length<=_);refine⟨λq u=>?_,Ax I.2⟩;refine AC (Ae.mp u) (λX=>?_) λu=>?_;·subst X;simp
        · have :=I.1 q u;exact⟨this.1,Cm this.2⟩|true=>have I:=I (λt i=>h t (AU _ i)) AO;refine(?_:(∀q∈Df AO r,_)/\(Df AO r).length<=_);exact⟨λq u=>⟨(I.1 q u).1,Cm (I.1 q u).2⟩,Cm I.2⟩
|some b=>
      intro h star;have I:=I (λt i=>h t (AU _ i)) AD;have e:Df star (B b::r)=(b::(Df AD r).headD [])::(Df AD r).tail:=by cases(star)<;>rfl
      refine J e ?_;have S:(∀t∈(Df AD r).headD [],t.Ok)/\((Df AD r).headD []).length<=r.length:=by
        cases L:Df AD r with|nil=>simp|cons x y=>rw[L]at I;exact I.1 x AQ
      refine⟨λq u=>?_,(Ax (AA (B6 U.length_tail) (AA (Cd _ 1) I.2)))⟩
      · clear e;refine AC (Ae.mp u) ?_ λu=>?_;intro X;subst X
        · refine⟨λt i=>?_,Ax S.2⟩;clear u;refine AC (Ae.mp i) ?_ λi=>?_;intro X;subst X;·exact h (B t) AQ
          ·exact S.1 t i
        · have :=I.1 q (U.mem_of_mem_tail u);exact⟨this.1,Cm this.2⟩
noncomputable def Dh(l:U Z):U V:=l.map λ(p:Z)=>V.int p
theorem ID(l:U Z)(P:Z->BC)(f:V->AX V)(b:∀p∈l,f (.int (p:Z))=if P p=AO then B (.int (p:Z))else AJ):(Dh l).filterMap f=Dh (l.filter P):=by
 induction l with|nil=>rfl|cons a r I=>have W:=b a AQ;have C:=I λp E=>b p (AU _ E);simp only[Dh,Bo,Kw]at C⊢;refine J W ?_;cases g:P a with|true=>simp only[KH,N7,g,Bo,C]|false=>simp only[Fa,KL,N7,g,C]
theorem OF(l:U Z):Dh l=zs (l.map I0):=by simp[Dh,zs]
theorem Xn{ls:U (U Z)}{i:Z}{d:V}(h:(CN ls)[i]?=B d):∃l,ls[i]?=B l/\d=.str l:=by
 rw[CN,B3]at h;cases e:ls[i]? with|none=>rw[e]at h;exact Eb h|some p=>rw[e]at h;replace h:=EY h;induction h using EC;exact AK p rfl rfl
section
section
variable{c:Cx}{m L:Z}{Y:U AW}{h₀:BJ}{Q:Ha->AS->Prop}
noncomputable def Jp(w:U (U Cl)):V:=.list (w.map JU)
noncomputable def lawC(f:U O):AS:=[("rules",.v (.list (CN (CA f)))),("names",.v (.list (CN (B2 f))))]
noncomputable def jU(f:U O):AS:=[("rules",.v (.list (CN (CA f)))),("names",.v (.list (CN (B2 f)))),("reads",.v (.list ((Bj f).map Jp)))]
theorem VF(f:U O):∀w∈Bj f,(∀r∈w,(∀t∈r,t.Ok)/\r.length<=1000)/\w.length<=1000:=by
 intro w h;refine AI (BO.mp h) λr hr P=>?_;subst P;have W:=Qs f r hr;have C:=Jw _ r (AN _);have T:=Z8 (CY r) (RL _ r (AN _) (AA W.1 (by decide)) W.2) AD;have F:(CY r).length+1<=1000:=AA (Ax (AA C W.1)) (by decide);exact⟨λq u=>⟨(T.1 q u).1,AA (T.1 q u).2 (E3 F)⟩,AA T.2 F⟩
theorem my(N:Nm c)(T:jp c)(f:U O)(j:∀r∈CA f,Oy (Ml r)=B (GO (CY r)))(z F:AW)(v:AS)(W:z∉(IS c (m+6) L Y (J7 (E8 24).scope L)).Xo)(l:F∉(IS c (m+6) L Y (J7 (E8 24).scope L)).Xo)(g:CT v=[])(k:WS (IS c (m+6) L Y (J7 (E8 24).scope L)) h₀ (jU f) ((E8 24).body.drop 5) Q):WS (IS c (m+6) L Y (J7 (E8 24).scope L)) h₀ (UL f z F (Kj f) (B2 f)++v) ((E8 24).body.drop 3) Q:=by
 have H:=Y8 (n:=m+6) (L:=L) (Y:=Y) N;have x:=L5 f;refine FT H 1 _ _ _ (?_:W1 _ _ _ _ _);refine Ir rfl (by rewrite[CN];refine J (AL _) ?_;rewrite[Kj];refine J (AL _) (AA (Ku _ _) (by decide))) (vE.GH H ?_);have e1:(UL f z F (Kj f) (B2 f)++v).put "rules" (.own z (CN (Kj f)++[.str [42,98]]))=UL f z F (CA f) (B2 f)++v:=Aq (λS=>([("script",.v (.list (zs f))),("rules",.own z S),("names",.own F (CN (B2 f)))]:AS)++v) (GS V.str (Kj f) [42,98]);refine(?_:WS _ _ ((UL f z F (Kj f) (B2 f)++v).put "rules" (.own z (CN (Kj f)++[.str [42,98]]))) _ _);refine J e1 (LG "rules" rfl W (λb hb=>?_) ?_);· have e:CT ((UL f z F (CA f) (B2 f)++v).put "rules" (.v (.list (CN (CA f)))))=F::CT v:=rfl;rw[e,g]at hb;refine J (AM.mp hb) (FK "names" _ (by decide) rfl)
 refine LG "names" rfl l (λb hb=>?_) ?_;· have e:CT (((UL f z F (CA f) (B2 f)++v).put "rules" (.v (.list (CN (CA f))))).put "names" (.v (.list (CN (B2 f)))))=CT v:=rfl;rw[e,g]at hb;exact JZ hb
 refine LH (lawC f) (X8 (AT.mpr ⟨rfl,AT.mpr ⟨rfl,De _⟩⟩)) (FT H 1 _ _ _ ?_) (λa h=>JZ h);refine(?_:W1 _ _ _ _ _);refine EZ (H.st _ (by decide)) (F9 (λd=>match d with|.str r=>B (Jp (GO (CY r)))|_=>AJ) CX rfl rfl rfl rfl rfl (λa h=>(by have i:=h;exact JZ i)) (vE.GH H ?_));refine IE _ (.list _) (by rewrite[CN];refine J (AL _) (AA x.1 (by decide))) ?_ ?_;· intro C X d hd M M;refine AI (BO.mp hd) λr hr P=>?_;subst P;have ho:=Qs f r hr;have o:=TR (AA ho.1 (by decide));refine KE ⟨(λh=>NI h),λM=>MJ (VH.comp N) N.read (fN N (m+3)) CX ?_⟩;refine(?_:WE _ _ _ _ _);refine MJ (VH.comp N) T.translate (U4 N T (m+2)) CX (IE r rfl (AA ho.1 (by decide)) ho.2 (Ju _ _ rfl (o.1) ?_ (j r hr) rfl));·unfold Ml Hc;refine J AZ (J AZ (Nz (AN 3)|>λh=>CR (As 4 _) h))
 have e1:(CN (CA f)).filterMap (λd=>match d with|.str r=>B (Jp (GO (CY r)))|_=>AJ)=(Bj f).map Jp:=by
  simp only[CN,Bj,U.filterMap_map,EE];refine CS U.filterMap_eq_map rfl
 refine J e1 k
end
end
section
variable{F:Fx}{h₀:BJ}{σ:AS}{Y:U AW}
theorem FX.fw{C:AW}{s s':AE}(T:FX F h₀ σ s)(p:s.heap.get? C=AJ)(S:St F.c s')(g:Bk F.c.hB s.heap s'.heap)(h:Lv s'.heap C):FX (F.hold C) h₀ σ s':=by
  have Y:=T.next S g;have I:MB (fz (F.X σ) s.heap) (fz ((F.hold C).X σ) s'.heap):=by
    intro b o' e f;rw[Al]at e⊢;refine⟨λK=>?_,g.Nc e.2 f⟩;clear h;refine AC (E7.mp K) ?_ λK=>?_;intro X;subst X;·rw[p]at e;cases e.2
    ·exact e.1 K
  refine⟨Y.st,⟨Y.rep.ok,Y.rep.ns,Y.rep.cell,Y.rep.inj,λy sl e=>?_,λa P=>?_,Y.rep.apart⟩,Y.grow,T.base,T.fresh⟩;· refine AI (T.rep.slot y sl e) λv a b=>AK v (a.grow g) ?_;clear e;cases sl with|v d=>exact Rd.sub I b|own c xs=>refine B7 b λe1 K G=>Au G λi n ho r=>⟨e1,E7.mpr (.inr K),i,n,g.get ho F7,C3.sub I r⟩
  · clear p I;refine AC (E7.mp P) ?_ λP=>?_;intro X;subst X;·exact h
    ·exact Y.rep.live a P
theorem FX.cT{I:AW}{s:AE}{h':BJ}{tk:Z}{o:Gq}(T:FX (F.hold I) h₀ σ s)(wg:h₀.get? I=AJ)(ho:s.heap.get? I=B o)(j:∀S,o.data≠.fields S)(M:I∉CT σ)(wh:I∉F.X σ)(L:∀b R,b∉[I]->s.heap.get? b=B R->h'.get? b=B R)(hL:F.env.locals≠I)(hC:∀y k,F.env.cells.lookup y=B k->k≠I)(wi:s.toks<=tk):FX F h₀ σ {s with heap:=h',toks:=tk}:=by
  have w:∀b,b≠I->b∉[I]:=λb h=>by simpa using h
  have l:∀(h:BJ),Bk F.c.hB h s.heap->h.get? I=AJ->Bk F.c.hB h h':=by
    intro h g p x R e;have D:x≠I:=λq=>by rw[q,p]at e;exact Eb e
    refine AC (g x R e) (λz=>(.inl (L x R (w x D) z))) λX=>(B7 X λa b G=>Au G λS Y hd z=>.inr ⟨a,b,S,Y,hd,L x _ (w x D) z⟩)
  have sb:MB (fz ((F.hold I).X σ) s.heap) (fz (F.X σ) h'):=by
    intro b R e f;rw[Al]at e⊢;exact⟨λK=>e.1 (E7.mpr (.inr K)),L b R (w b λq=>e.1 (q▸E7.mpr (.inl rfl))) e.2⟩
  have wj:=T.base.none wg;refine⟨⟨l _ T.st.grow wj,T.st.os,T.st.bare,T.st.tabs.H5 λx R S e ed ec=>?_,AA T.st.toks wi⟩,⟨T.rep.ok,(Ge T.rep.ns λm t es E i r=>MR m t es E (L _ _ (w _ hL) i) r),?_,T.rep.inj,?_,?_,T.rep.apart⟩,l _ T.grow wg,T.base,T.fresh⟩;· refine L x R (w x λq=>?_) e;rw[q,ho]at e;clear ec;replace e:=EY e;induction e using EC;exact j _ ed
  · intro y k e;refine Au (T.rep.cell y k e) λu N V r=>FK u N (L _ _ (w _ (hC y k e)) V) r
  · intro y sl e;refine AI (T.rep.slot y sl e) λv a b=>AK v ?_ ?_;· intro hg;refine AC (a hg) (λX=>(Aa X λH G=>AI G λm' Q A=>H4 Q λt es E i r=>.inl ⟨H,m',⟨t,es,E,L _ _ (w _ hL) i,r⟩,A⟩)) λX=>AC X (λX=>(Aa X λH G=>AI G λC z W=>AI W λN V r=>.inr (.inl ⟨H,C,z,N,L _ _ (w _ (hC _ _ z)) V,r⟩))) λX=>(Aa X λH G=>AI G λC z W=>AI W λN V r=>.inr (.inr ⟨H,C,z,N,L _ _ (w _ (hC _ _ z)) V,r⟩))
    ·cases sl with|v d=>exact Rd.sub sb b|own c xs=>refine B7 b λe1 K G=>Au G λS n hl r=>⟨e1,Ac _ (Cn e),S,n,L _ _ (w _ λq=>M (q▸Cn e)) hl,C3.sub sb r⟩
  · intro a P;exact(T.rep.live a (E7.mpr (.inr P))).keep λR wl=>L a R (w a λq=>wh (q▸P)) wl
theorem Mh{x y:BA}{px py pos wj:EQ}{iter elt:BL}{wn:U BL}{scope:Cw}{Q:Ha->AS->Prop}(f:V->AX V)(hy:DG F y)(P:(scope.names.all λy=>y.2 !=.cell)=AO)(wo:scope.kind=.function)(wi:(scope.names.all λy=>y.2 !=.local||scope.names.lookup y.1==B .local)=AO)(hx:scope.names.lookup x=B .local)(g:(scope.names.all λy=>y.2 !=.free||(F.env.cells.lookup y.1).isSome)=AO)(wu:∀a∈CT σ,F.c.hB.get? a=AJ)(h:WE F σ (F.X σ) iter λd=>∃xs,HX F.c d xs/\xs.length<=Ay/\(∀C xK d,d∈xs->(∀b∈CT (Ul scope F.env σ),b∉F.Xo->b∉(F.comp scope C xK).Xo)->F.c.hB.get? C=AJ->dD (F.comp scope C xK) ((Ul scope F.env σ).put x (.v d)) ((F.comp scope C xK).X (Ul scope F.env σ)) wn elt (f d))/\Q .next (σ.put y (.v (.list (xs.filterMap f)))))(x8:jx (.ListComp elt [⟨.Name x px,iter,wn,0⟩] scope pos) (B (.Name y py)) wj.line F.env=Bz AO:=by rfl)(L:∀env x,El iter env x=Bz x:=by intro M M;rfl):W1 F h₀ σ (.Assign [.Name y py] (.ListComp elt [⟨.Name x px,iter,wn,0⟩] scope pos) wj) Q:=by
 intro A E s N T;refine J (exec_Assign_Name_used _ _ _ _ x8) (AB (Dx (AB ?_)));refine AB (Ad (Ta f N T.st T.rep P wo wi hx g wu h (λs₁ s' D C m n rs xs l w t nC nD x9 q W S' g' xA xB=>?_) L) (λM s' hq=>AH (AH hq)) λM M e=>e);have j:=T.next l w;have xC:=Lv.ns W;have T':=j.fw nC S' g' xC;have wq:C∉F.X σ:=λK=>by have :=(t.live C K).1;rw[nC]at this;exact J2 this
 have xD:D∉F.X σ:=λK=>by have :=(t.live D K).1;rw[nD]at this;exact J2 this
 have xE:C∉F.Mu:=λK=>wq (Ak _ (Ak _ K));have hL:F.env.locals≠C:=λq=>by refine Ge t.ns λm om M M i M=>?_;rw[q,nC]at i;exact Eb i
 have hC:∀y k,F.env.cells.lookup y=B k->k≠C:=λy k e q=>by refine Au (t.cell y k e) λu oc wl M=>?_;rw[q,nC]at wl;exact Eb wl
 have xF:Rd (fz ((F.hold C).X σ) s'.heap) (.list (xs.filterMap f)) (.ref D):=by
  refine .list (Al.mpr ⟨λK=>(AC (E7.mp K) (λq=>(x9 q)) λq=>(xD q)),xA⟩) (C3.sub ?_ xB);· intro b R e hc;rw[Al]at e⊢;refine⟨λK=>e.1 ?_,e.2⟩;refine AC (E7.mp K) (λq=>(J q (AQ))) λq=>(AU _ q)
 refine GY (Ew (F:=F.hold C) (sl:=.v (.list (xs.filterMap f))) T' T'.rep hy xF λc wv v=>?_);refine Na W λom es ep i wr r=>?_;have wm:=by
  refine AC (v C om xE i) (λe=>e) λX=>?_;·refine B7 X λM M G=>Au G λS M hd M=>?_;rw[wr]at hd;cases(hd)
 refine AK m ⟨om,es,ep,wm,wr,r⟩ (λwx wy=>?_);have wh:C∉CT (σ.put y (.v (.list (xs.filterMap f)))):=λK=>wq (Ac _ (Js _ _ _ _ K));have xG:=λK=>by
  refine AC (Ai.mp K) (λh=>(wq (Ak _ h))) λh=>(wh h)
 have H:∀b o,b∉[C]->c.heap.get? b=B o->wx.get? b=B o:=λb R hb e=>(wy.2 b (λq=>hb (by refine J q (AM.mpr rfl)))).trans e;have gB:J9 F.c.hB (F.Mu++CT σ) s₁.heap wx:=by
  intro b R hb e;have xH:b≠C:=λq=>by rw[q,nC]at e;exact Eb e
  have wg:b∉[C]:=by simpa using xH
  have wz:=λK=>hb (Ak _ K);refine AC (g' b R e) (λz=>?_) λX=>?_;·refine AC (v b R wz z) (λI=>(.inl (H b R wg I))) λX=>(B7 X λp q G=>Au G λS Y hd I=>.inr ⟨p,q,S,Y,hd,H b _ wg I⟩)
  · refine B7 X λp q G=>Au G λS Y hd z=>AC (v b _ wz z) (λI=>(.inr ⟨p,q,S,Y,hd,H b _ wg I⟩)) λX=>?_;· refine B7 X λM M G=>Au G λxJ wt xI I=>?_;cases(xI);exact .inr ⟨p,q,S,Y++wt,hd,by refine J (H b _ wg I) ?_;simp⟩
 exact Dm .next _ (wv.cT (j.grow.none nC) wm (λS q=>by rw[wr]at q;cases(q)) wh xG (λb R hb e=>H b R hb e) hL hC (AN _)) ((CZ.DO w).trans j ⟨gB,λb hb=>.inl (Js _ _ _ b hb)⟩) Bl q
end
section
section
variable{c:Cx}{m L:Z}{Y:U AW}{h₀:BJ}{Q:Ha->AS->Prop}
noncomputable def cC(f:U O):AS:=[("rules",.v (.list (CN (CA f)))),("names",.v (.list (CN (B2 f)))),("reads",.v (.list ((Bj f).map Jp))),("ranks",.v (.list (Dh (CG f))))]
theorem Wt(f:U O){i:Z}{nm:U Z}(h:(B2 f)[i]?=B nm):(CG f).take (i+1)=(CG f).take i++[Kk (Bj f) nm]:=by
 refine J DM ?_;unfold CG;refine J B3 (J h ?_);rfl
theorem OG(a b:U Z):Dh (a++b)=Dh a++Dh b:=by simp[Dh]
theorem mx(N:Nm c)(f:U O)(k:WS (IS c (m+6) L Y (J7 (E8 24).scope L)) h₀ (cC f) ((E8 24).body.drop 7) Q):WS (IS c (m+6) L Y (J7 (E8 24).scope L)) h₀ (jU f) ((E8 24).body.drop 5) Q:=by
  have H:=Y8 (n:=m+6) (L:=L) (Y:=Y) N;have n:=Fq f;have x:(Bj f).length<=9:=by rewrite[Bj];refine J (AL _) ((L5 f).1)
  have E:((Bj f).map Jp).length=(Bj f).length:=AL ..;have u:(((Bj f).map Jp).length:O)<2^63:=by refine J E (WG (AA x (by decide)))
  refine FT H 2 _ _ _ (?_:W1 _ _ _ _ _);refine DN (H.st _ (by decide)) (N8.GH H ?_);refine AV (by decide) λa F w=>?_;let s:=λS=>jU f++VM "ranks" a S;let G:=λi=>s (Dh ((CG f).take i));refine(?_:W1 _ _ (G 0) _ _);refine W1.mono (Q:=λo σ'=>o=.next/\∃v,σ'=G (B2 f).length++v/\CT v=[]) (Yz H 0 (λi σ'=>∃v,σ'=G i++v/\CT v=[]) (H.st _ (by decide)) ?_) ?_
  · refine IE _ (.list _) ⟨[],rfl,rfl⟩ ?_ ?_
    · intro I i σ' d K t hI hd y;refine AI y λv z A=>?_;clear y;subst z;intro M M Du;refine AI (Xn hd) λnm W P=>?_;subst P;have wm:=R6 f nm (By W);refine UZ rfl (vS.ok t ?_);refine(?_:W1 _ _ _ _ _);refine Mh (λd=>match d with|.int k=>if EI ((Bj f).getD k.toNat []) nm=AO then B (.int k)else AJ|_=>AJ) (t.st _ (by decide)) rfl rfl rfl rfl rfl (λb hb=>by refine J (AM.mp (show b∈[a]from hb)) F) (vE.GH t (AK _ (.PP _ u) ?_));refine J E (AK _ (.JM _) ⟨_,.NX _ (AA x (by decide)),by refine J (AL _) (J CW (AA x (by decide))),?_,?_⟩)
      · intro C wn d hd M M;refine AI (BO.mp hd) λk R P=>?_;subst P;have R:=Cp.mp R;have wg:(Bj f).getD k []=(Bj f)[k]:=by refine J AG (J (AP R) ?_);rfl
        have wh:=VF f ((Bj f).getD k []) (by refine J wg (Gc R));have X:((Bj f).map Jp)[k]?=B (Jp ((Bj f).getD k [])):=by
         refine J B3 (J wg (J (AP R) ?_));rfl
        refine Me (H9 (MJ (VH.comp N) N.takes (R1 N (m+4)) Be ?_));refine AK _ (.list (.nat X (AY R (AA x (by decide))))) (Ju _ _ rfl wh.1 wh.2 (AA wm.1 (by decide)) (AK _ (.bool _) (AV (λhf=>?_) (λht=>vE.GH (VH.comp N) ?_))));· refine(?_:(if EI ((Bj f).getD ((k:O).toNat) []) nm=AO then _ else _)=_);refine J (Dj _) (J hf ?_);rfl
        · refine(?_:(if EI ((Bj f).getD ((k:O).toNat) []) nm=AO then _ else _)=_);refine J (Dj _) (J ht ?_);rfl
      have ef:=ID (Ar (Bj f).length) (λk=>EI ((Bj f).getD k []) nm) (λd=>match d with|.int k=>if EI ((Bj f).getD k.toNat []) nm=AO then B (.int k)else AJ|_=>AJ) λp M=>rfl;unfold Dh at ef;refine J ef ?_;have hr:Kk (Bj f) nm=(((Ar (Bj f).length).filter λk=>EI ((Bj f).getD k []) nm)++[(Bj f).length]).headD 0:=rfl;have g:=AA (HU (λk=>EI ((Bj f).getD k []) nm) (Ar (Bj f).length)) (B6 CW);generalize(Ar (Bj f).length).filter (λk=>EI ((Bj f).getD k []) nm)=T at hr g;have wi:(Dh T++[V.int (((Bj f).map Jp).length:Z)]).length<=10:=by refine J AZ ?_;rewrite[Dh];refine J (AL _) (Ax (AA g x))
      have r:(Dh ((CG f).take i)).length<=Ay:=by
        rewrite[Dh];refine J (AL _) (AA (Ku _ _) (AA (BE (Az.mp W).1) (AA n.1 (by decide))))
      refine(?_:W1 _ _ (G i++(Dz "name" (.str nm)++Dz "takers" (.list (Dh T)))) _ _);refine Ir rfl r (vE.GH t ?_);refine AK _ (.PP _ u) (AV (show 1<=_ by decide) (AK _ (.XS (Dh T) [V.int (((Bj f).map Jp).length:Z)] (by refine CS AZ (AA wi (by decide)))) ?_));have X:(Dh T++[V.int (((Bj f).map Jp).length:Z)])[0]?=B (.int ((Kk (Bj f) nm:Z):O)):=by
        refine J hr (J E ?_);clear g hr wi;cases(T)<;>rfl
      refine AK _ (.list (.nat X (by decide))) (Du _ ⟨Dz "name" (.str nm)++Dz "takers" (.list (Dh T)),?_,rfl⟩);exact Aq (λS=>s S++(Dz "name" (.str nm)++Dz "takers" (.list (Dh T)))) (by refine J (Wt f W) (J (OG _ _) ?_);rfl)
    · intro σ' q;refine AI q λv z A=>?_;clear q;subst z;refine⟨rfl,v,?_,A⟩;rewrite[CN];refine J (AL _) rfl
  intro o σ' j;refine Aa j λD wj=>?_;clear j;refine AI wj λv z A=>?_;clear wj;subst z;subst D;have wl:G (B2 f).length=s (Dh (CG f)):=Aq (λl=>s (Dh l)) (Ce (by rewrite[CG];refine J (AL _) (AN _)));refine J wl (?_:WS _ _ (s (Dh (CG f))++v) _ _);refine LG "ranks" rfl w (λb hb=>?_) ?_;· have e:CT ((s (Dh (CG f))++v).put "ranks" (.v (.list (Dh (CG f)))))=CT v:=rfl;rw[e,A]at hb;exact JZ hb
  exact LH (cC f) (X8 (AT.mpr ⟨rfl,AT.mpr ⟨rfl,AT.mpr ⟨rfl,AT.mpr ⟨rfl,De _⟩⟩⟩⟩)) k (λa h=>JZ h)
end
end
section
section
variable{c:Cx}{m L:Z}{Y:U AW}{h₀:BJ}{Q:Ha->AS->Prop}
noncomputable def hV(h:U Z):V:=.list (Dh h)
noncomputable def cA(f:U O):AS:=[("names",.v (.list (CN (B2 f)))),("reads",.v (.list ((Bj f).map Jp))),("ranks",.v (.list (Dh (CG f)))),("heaps",.v (.list ((Bb f).1.map hV))),("left",.v (hV (Bb f).2))]
noncomputable def GB(f:U O)(i:Z):U (U Z)×U Z:=(((CA f).map CY).take i).foldl (IF (B2 f)) ([],Ar (B2 f).length)
theorem MY(f:U O){i:Z}{r:U Z}(h:(CA f)[i]?=B r):GB f (i+1)=IF (B2 f) (GB f i) (CY r):=by
 unfold GB;refine J DM (J B3 (J h ?_));simp
theorem PS(f:U O):∀i,i<=(CA f).length->(∀p∈(GB f i).2,p<(B2 f).length)/\(GB f i).2.length<=(B2 f).length/\(GB f i).1.length=i:=by
 intro i;induction i with|zero=>intro M;simp[GB]|succ i I=>intro h;have I:=I (by exact z3 ‹_›);refine J (MY f (AP (show i<(CA f).length by exact gi ‹_›))) ?_;unfold IF;refine Cf (λp E=>I.1 p (C0.mp E).1) (AA (HU _ _) I.2.1) (by simp[I.2.2])
theorem US(h:U Z)(p:Z):(h.map I0).contains (p:O)=h.contains p:=by
 induction h with|nil=>rfl|cons a r I=>refine J Bo (J Gv (J Gv (J I ?_)));congr 1;refine Iz Dt (Iz BG (Iz BG (MH)))
theorem mw(N:Nm c)(f:U O)(k:WS (IS c (m+6) L Y (J7 (E8 24).scope L)) h₀ (cA f) ((E8 24).body.drop 10) Q):WS (IS c (m+6) L Y (J7 (E8 24).scope L)) h₀ (cC f) ((E8 24).body.drop 7) Q:=by
  have H:=Y8 (n:=m+6) (L:=L) (Y:=Y) N;have n:=Fq f;have x:=L5 f;have wg:(CN (B2 f)).length=(B2 f).length:=AL ..;have wi:((CN (B2 f)).length:O)<2^63:=by refine J wg (WG (AA n.1 (by decide)))
  have A:((B2 f).length:O)<=2^24:=Gw.mpr (AA n.1 (by decide));refine FT H 3 _ _ _ (?_:W1 _ _ _ _ _);refine DN (H.st _ (by decide)) (N8.GH H ?_);refine AV (by decide) λa F w=>?_;have wl:∀b∈[a],c.hB.get? b=AJ:=λb hb=>by refine J (AM.mp hb) F
  refine AK _ (.PP _ wi) (AK _ (.JM _) ?_);refine J wg (AK _ (.TM _ (L4 _ _ (by decide) (by decide) (DT (by decide) (BS _)) (DT A (by decide))) A) (J (GP _) ?_));let GV:=λhs lf=>cC f++(VM "heaps" a hs++Dz "left" (hV lf));let G:=λi=>GV ((GB f i).1.map hV) (GB f i).2;refine(?_:W1 _ _ (G 0) _ _);refine W1.mono (Q:=λo σ'=>o=.next/\∃v,σ'=G (CA f).length++v) (Yz H 0 (λi σ'=>∃v,σ'=G i++v) (H.st _ (by decide)) ?_) ?_
  · refine IE _ (.list _) ⟨[],rfl⟩ ?_ ?_
    · intro I i σ' d K t hI hd y;refine Aw y λv z=>?_;clear y;subst z;intro M M Du;refine AI (Xn hd) λr hr P=>?_;subst P;have wh:=Qs f r (By hr);have wm:=(Az.mp hr).1;have u:=PS f i (BE wm);have wj:=MY f hr;have wn:=RL _ r (AN _) (AA wh.1 (by decide)) wh.2;refine UZ rfl (vS.ok t ?_);refine(?_:WE _ _ _ _ _);refine MJ t N.items (bU N (m+4)) CX (IE r rfl (AA wh.1 (by decide)) wh.2 ?_);have wo:(CY r).length<=1000:=AA (Jw _ r (AN _)) (AA wh.1 (by decide));generalize T:GB f i=st at u wj;generalize g:CY r=it at wj wn wo;let K2:=λhs lf=>cC f++(VM "heaps" a hs++(Dz "left" (hV lf)++(Dz "rule" (.str r)++Dz "items" (.list (it.map It.val)))));have wr:(st.1.map hV).length<=Ay:=by refine J (AL _) (J u.2.2 (AA (BE wm) (AA x.1 (by decide))))
      have R:(Dh st.2).length<=Ay:=by rewrite[Dh];refine J (AL _) (AA u.2.1 (AA n.1 (by decide)))
      refine Gx (σ':=K2 (st.1.map hV) st.2) (by refine CS T rfl) (?_:W1 _ _ _ _ _);refine Ir rfl wr (F9 (λd=>match d with|.int p=>if MI it ((B2 f).getD p.toNat [])=AO then B (.int p)else AJ|_=>AJ) CX rfl rfl rfl rfl rfl wl (vE.GH t ?_));refine IE _ (.list _) R ?_ ?_
      · intro C X d hd M M;refine AI (BO.mp hd) λp E P=>?_;subst P;have l:=u.1 p E;have W:=R6 f ((B2 f).getD p []) (by refine J AG (J (AP l) (Gc l)));refine Me (H9 (MJ (VH.comp N) N.told (fM N (m+4)) Be ?_));refine AK _ (.list (.nat (MK _ p l) (AY l (AA n.1 (by decide))))) (Dm _ _ rfl wn (AA W.1 (by decide)) (AK _ (.bool _) (AV (λV=>?_) (λht=>vE.GH (VH.comp N) ?_))));· refine(?_:(if MI it ((B2 f).getD ((p:O).toNat) [])=AO then _ else _)=_);refine J (Dj _) (J V ?_);rfl
        · refine(?_:(if MI it ((B2 f).getD ((p:O).toNat) [])=AO then _ else _)=_);refine J (Dj _) (J ht ?_);rfl
      refine J (ID st.2 (λp=>MI it ((B2 f).getD p [])) _ λp M=>rfl) ?_;generalize S:st.2.filter (λp=>MI it ((B2 f).getD p []))=h;refine(?_:vS _ _ _ _ _ (K2 (st.1.map hV++[hV h]) st.2) _ _);refine(?_:W1 _ _ _ _ _);refine Mh (λd=>match d with|.int p=>if(!h.contains p.toNat)=AO then B (.int p)else AJ|_=>AJ) (t.st _ (by decide)) rfl rfl rfl rfl rfl wl (vE.GH t ?_);refine IE _ (.list _) R ?_ ?_
      · intro C X d hd M M;refine AI (BO.mp hd) λp E P=>?_;subst P;refine Me (Kq (vE.IB (VH.comp N) ?_));refine(?_:WE _ _ _ _ _);refine Ei rfl Be (vE.IB (VH.comp N) ?_);refine Fs (-1) (hV h) rfl (.last (eV ..)) (AK _ (by unfold hV;refine J (OF _) (.ZT _ _)) ?_);refine J (US _ _) (AV (λV=>?_) (λht=>vE.GH (VH.comp N) ?_));· refine(?_:(if(!h.contains ((p:O).toNat))=AO then _ else _)=_);refine J (Dj _) (J V ?_);rfl
        · refine(?_:(if(!h.contains ((p:O).toNat))=AO then _ else _)=_);refine J (Dj _) (J ht ?_);rfl
      refine J (ID st.2 (λp=>!h.contains p) _ λp M=>rfl) ?_;have e2:GB f (i+1)=(st.1++[h],st.2.filter λp=>!h.contains p):=by refine J wj ?_;rewrite[IF];refine J S rfl
      refine Du _ ⟨Dz "rule" (.str r)++Dz "items" (.list (it.map It.val)),?_⟩;refine oz ?_ (Aq (λs=>GV (s.1.map hV) s.2++(Dz "rule" (.str r)++Dz "items" (.list (it.map It.val)))) e2.symm);exact Aq (λhs=>K2 hs _) (FV hV st.1 h)
    · intro σ' q;refine Aw q λv z=>?_;clear q;subst z;refine⟨rfl,v,?_⟩;rewrite[CN];refine J (AL _) rfl
  intro o σ' j;refine Aa j λD wq=>?_;clear j;refine Aw wq λv z=>?_;clear wq;subst z;subst D;have e:GB f (CA f).length=Bb f:=by
    unfold GB Bb;refine J (Ce (by refine J (AL _) (AN _))) rfl
  refine(?_:WS _ _ (GV ((GB f (CA f).length).1.map hV) (GB f (CA f).length).2++v) _ _);refine J e (jh (LG "heaps" rfl w (λb hb=>?_) ?_));·cases(show b∈[]from hb)
  exact LH (cA f) (X8 (AT.mpr ⟨rfl,AT.mpr ⟨rfl,AT.mpr ⟨rfl,AT.mpr ⟨rfl,AT.mpr ⟨rfl,De _⟩⟩⟩⟩⟩)) k (λa h=>JZ h)
end
end
section
section
variable{c:Cx}
theorem Vw(p:Wf c)(R:U Z)(hR:R.length<=1000){x y:BA}{q1 u z F w b d r pos:EQ}{S:Cw}(e:x="one"/\y="two"\/x="two"/\y="one")(t:S.kind=.function)(h:S.isCoroutine=AD)(I:S.isGenerator=AD)(G:(S.names.all λx=>x.2 !=.cell)=AO)(W:S.names.lookup ("one":BA)=B .local)(C:S.names.lookup ("two":BA)=B .local)(T:S.names.lookup ("ranks":BA)=B .free):QQ c 1 (YG ⟨[],[⟨"one",AJ,q1⟩,⟨"two",AJ,u⟩],AJ,[],[],AJ,[]⟩ (.expr (.BinOp (.Subscript (.Name "ranks" z) (.Name x F) w) .Sub (.Subscript (.Name "ranks" b) (.Name y d) r) pos)) S [("ranks",.list (Dh R))]) (λi j=>if x=("one":BA)then(R.getD i.toNat 0:O)-R.getD j.toNat 0 else(R.getD j.toNat 0:O)-R.getD i.toNat 0) (λi=>0<=i/\i<R.length):=by
 intro A E s Y v k vs Q N H K V m a;refine Dg a λi j P hi o q=>?_;clear a;subst P;refine RI ["one","two"] p N H K V m rfl t h I G (by decide) (by simp[W,C]) ?_ (λfd l hp hd hl=>GU hp hd hl λM M=>by kernel_rfl) λL n qn fa cd=>?_;· refine(?_:((S.names.lookup ("ranks":BA)==B .free&&!(("ranks":BA)==("__classdict__":BA))&&!(["one","two"]:U BA).contains ("ranks":BA))&&AO)=AO);refine J T ?_;decide
 have g:∀i:O,0<=i->i<R.length->Hq i (Dh R) (.int (R.getD i.toNat 0:Z)):=λi h0 W=>by
  refine .int h0 ?_ (by exact sC ‹_› ‹_›);rewrite[Dh];refine J B3 (J AG (J (AP (by exact sA ‹_› ‹_›)) ?_));rfl
 refine AC e (λX=>?_) λX=>?_;· clear e;refine Aa X λD f=>?_;clear X;subst D;subst f;refine Lj Be (Oa (E9 rfl Be (E9 rfl Be ?_)) (λM M=>rfl));refine Fs _ _ rfl (.list (g i hi.1 hi.2)) (Oa (E9 rfl Be (E9 rfl Be ?_)) (λM M=>rfl));refine Fs _ _ rfl (.list (g j o.1 o.2)) (AK _ (.fB _ _) (by dsimp only at q;rw[Ap rfl]at q;exact q))
 · clear e;refine Aa X λD f=>?_;clear X;subst D;subst f;refine Lj Be (Oa (E9 rfl Be (E9 rfl Be ?_)) (λM M=>rfl));refine Fs _ _ rfl (.list (g j o.1 o.2)) (Oa (E9 rfl Be (E9 rfl Be ?_)) (λM M=>rfl));refine Fs _ _ rfl (.list (g i hi.1 hi.2)) (AK _ (.fB _ _) (by dsimp only at q;rw[Ab (by decide)]at q;exact q))
theorem d5(p:Wf c){n:Z}{d:V}{f:O->O->O}{k:O->Prop}(e:GD d)(ok:QQ c (n+1) d f k){q1 u z F w b b2 r c1 c2 H p2:EQ}{S:Cw}(R:S.kind=.function)(X:S.isCoroutine=AD)(I:S.isGenerator=AD)(G:(S.names.all λx=>x.2 !=.cell)=AO)(W:S.names.lookup ("one":BA)=B .local)(C:S.names.lookup ("two":BA)=B .local)(T:S.names.lookup ("key":BA)=B .free):Kc c (n+3) (YG ⟨[],[⟨"one",AJ,q1⟩,⟨"two",AJ,u⟩],AJ,[],[],AJ,[]⟩ (.expr (.IfExp (.Compare (.Call (.Name "key" z) [.Name "two" F] [] w) [.Lt] [.Call (.Name "key" b) [.Name "one" b2] [] r] H) (.Name "two" c1) (.Name "one" c2) p2)) S [("key",KV c d)]) (λt Q=>∃i j,t=[.int i,.int j]/\k i/\k j/\Q (.int (if f j i<0 then j else i))):=by
 intro A E s Y v y t Q N hS K D m a;refine Dg a λi j P hi o q=>?_;clear a;subst P;refine RI ["one","two"] p N hS K D m rfl R X I G (by decide) (by simp[W,C]) ?_ (λfd l hp hd g=>GU hp hd g λM M=>by kernel_rfl) λL wg qn fa cd=>?_;· refine(?_:((S.names.lookup ("key":BA)==B .free&&!(("key":BA)==("__classdict__":BA))&&!(["one","two"]:U BA).contains ("key":BA))&&AO)=AO);refine J T ?_;decide
 refine W8 (jg p rfl e ok ?_);refine OW rfl .key (Kc.key p n d) Be (Cz (E9 rfl Be (Er ?_)) (λM=>rfl));refine AK j rfl (OW rfl .key (Kc.key p n d) Be (Cz (E9 rfl Be (Er ?_)) (λM=>rfl)));refine⟨i,rfl,j,i,rfl,rfl,o,hi,λh=>?_,λh=>?_⟩;· refine E9 rfl Be ?_;rw[Ap (by simpa using h)]at q;exact q
 · refine E9 rfl Be ?_;rw[Ab (by simpa using h)]at q;exact q
noncomputable def mW(st:U (U Z)×U Z):V:=.list [.list (st.1.map hV),hV st.2]
theorem Zt(N:Nm c){n:Z}(names:U (U Z))(hn:names.length<=100)(W:∀l∈names,l.length<=1000){q1 q2 s0 s1 s2 e1 I t1 t2 w1 w2 w3 w4 w5 w6 l1 l2 l3 u0 u1 u2 u3 f1 f2 x1 o x3 x4 x5 x6 x7 pp:EQ}{k0 k1 k2:Z}{S S1 S2:Cw}{wg:U (BA×Const)}(j:S=⟨.function,[("state",.local),("read",.cell),("names",.free)],AD,AD,wg⟩)(wm:S1=⟨.function,[(".0",.local),("p",.local),("_law_takes",.globalImplicit),("names",.free),("read",.free)],AD,AD,[]⟩)(wn:S2=S1):Kc c (n+5) (YG ⟨[],[⟨"state",AJ,q1⟩,⟨"read",AJ,q2⟩],AJ,[],[],AJ,[]⟩ (.expr (.List [.BinOp (.Subscript (.Name "state" s0) (.Constant (.int 0) k0 s1) s2) .Add (.List [.ListComp (.Name "p" e1) [⟨.Name "p" t1,.Subscript (.Name "state" w1) (.Constant (.int 1) k1 w2) w3,[.Call (.Name "_law_takes" w4) [.Name "read" w5,.Subscript (.Name "names" w6) (.Name "p" l1) l2] [] l3],0⟩] S1 u0] u1) u2,.ListComp (.Name "p" I) [⟨.Name "p" t2,.Subscript (.Name "state" f1) (.Constant (.int 1) k2 f2) x1,[.UnaryOp .Not (.Call (.Name "_law_takes" o) [.Name "read" x3,.Subscript (.Name "names" x4) (.Name "p" x5) x6] [] x7) u3],0⟩] S2 u4] pp)) S [("names",.list (CN names))]) (λvs Q=>∃st w,vs=[mW st,Jp w]/\st.1.length<=100/\st.2.length<=100/\(∀p∈st.2,p<names.length)/\(∀r∈w,(∀t∈r,t.Ok)/\r.length<=1000)/\w.length<=1000/\Q (mW (Jz names st w))):=by
  subst wn;subst wm;subst j;intro A E s Y v F vs Q hA j K D m wj;refine X1 wj λst w P b wo u wl x q=>?_;clear wj;subst P;refine Zb "state" "read" N.wf hA j K D m rfl rfl rfl (λM M=>rfl) (λM=>rfl) rfl rfl (by decide) (rfl) (λfd wr hp hd g=>GU hp hd g λM M=>by kernel_rfl) λL z T fa cd f=>?_;have wq:=f ("names":BA) (.list (CN names)) rfl;have G:∀y:BA,y="names"\/y="read"->(Iv y ((("read":BA),L+1)::z)).isSome=AO:=by
    intro y hy;refine J Am (AC hy (λX=>?_) λX=>?_);·clear hy;subst X;refine J (show(("names":BA)==("read":BA))=AD by decide) wq
    ·clear hy;subst X;refine J (FR _) rfl
  have wh:∀env:Nx,env.cells=(("read":BA),L+1)::z->(([(".0",.local),("p",.local),("_law_takes",.globalImplicit),("names",.free),("read",.free)]:U (BA×G2)).all λy=>y.2 !=.free||(env.cells.lookup y.1).isSome)=AO:=by
    intro env he;simp only[Yo,U.all_nil,he];refine J (G "names" (.inl rfl)) (J (G "read" (.inr rfl)) ?_);rfl
  have wi:∀p,p<names.length->(names.getD p []).length<=1000:=λp hp=>W _ (by refine J AG (J (AP hp) (Gc hp)));have R:(Dh st.2).length<=Ay:=by rewrite[Dh];refine J (AL _) (AA wo (by decide))
  have k:∀p,p∈st.2->p<2^63:=λp h=>AY (u p h) (AA hn (by decide));have H:VH (Fx.XA c (n+4) ⟨.function,[("state",.local),("read",.cell),("names",.free)],AD,AD,wg⟩ "read" L z T fa cd Y) ⟨.function,[("state",.local),("read",.cell),("names",.free)],AD,AD,wg⟩ []:=⟨N,(by intro M W;exact JZ W),rfl,rfl⟩;refine vE.IB H (AK _ (.list (.nat rfl (by decide))) (?_:OV _ _ _ _ _));refine Cz (F9 (λd=>match d with|.int p=>if EI w (names.getD p.toNat [])=AO then B (.int p)else AJ|_=>AJ) Be rfl rfl rfl rfl (wh _ rfl) (λa h=>(by have W:=h;exact JZ W)) (vE.GH H ?_)) (λM=>rfl);refine AK _ (.list (.nat (j:=1) rfl (by decide))) ⟨Dh st.2,.list _,R,?_,?_⟩
  · intro C wt d hd M M;refine AI (BO.mp hd) λp hp P=>?_;subst P;refine Me (H9 (MJ (VH.comp N) N.takes (R1 N (n+2)) Be ?_));refine AK _ (.list (.nat (MK _ p (u p hp)) (k p hp))) (Ju w _ rfl wl x (wi p (u p hp)) (AK _ (.bool _) (AV (λhf=>?_) (λi=>vE.GH (VH.comp N) ?_))));· refine(?_:(if EI w (names.getD ((p:O).toNat) [])=AO then _ else _)=_);refine J (Dj _) (J hf ?_);rfl
    · refine(?_:(if EI w (names.getD ((p:O).toNat) [])=AO then _ else _)=_);refine J (Dj _) (J i ?_);rfl
  refine J (ID st.2 (λp=>EI w (names.getD p [])) (λd=>match d with|.int p=>if EI w (names.getD p.toNat [])=AO then B (.int p)else AJ|_=>AJ) λp M=>rfl) (Er (AV (show 1<=_ by decide) (AK _ (.XS (st.1.map hV) [hV (st.2.filter λp=>EI w (names.getD p []))] (by refine J (AL _) (AA (Ax b) (by decide)))) ?_)));refine(?_:OV _ _ _ _ _);refine Cz (F9 (λd=>match d with|.int p=>if(!EI w (names.getD p.toNat []))=AO then B (.int p)else AJ|_=>AJ) Be rfl rfl rfl rfl (wh _ rfl) (λa h=>(by have W:=h;exact JZ W)) (vE.GH H ?_)) (λM=>rfl);refine AK _ (.list (.nat (j:=1) rfl (by decide))) ⟨Dh st.2,.list _,R,?_,?_⟩
  · intro C wt d hd M M;refine AI (BO.mp hd) λp hp P=>?_;subst P;refine Me (UY (H9 (MJ (VH.comp N) N.takes (R1 N (n+2)) Be ?_)));refine AK _ (.list (.nat (MK _ p (u p hp)) (k p hp))) (Ju w _ rfl wl x (wi p (u p hp)) (AK _ (.bool _) (AV (λhf=>?_) (λi=>vE.GH (VH.comp N) ?_))));· refine(?_:(if(!EI w (names.getD ((p:O).toNat) []))=AO then _ else _)=_);refine J (Dj _) (J hf ?_);rfl
    · refine(?_:(if(!EI w (names.getD ((p:O).toNat) []))=AO then _ else _)=_);refine J (Dj _) (J i ?_);rfl
  refine J (ID st.2 (λp=>!EI w (names.getD p [])) (λd=>match d with|.int p=>if(!EI w (names.getD p.toNat []))=AO then B (.int p)else AJ|_=>AJ) λp M=>rfl) (Er (AV (show 2<=_ by decide) ?_));have e:mW (Jz names st w)=.list [.list (st.1.map hV++[hV (st.2.filter λp=>EI w (names.getD p []))]),hV (st.2.filter λp=>!EI w (names.getD p []))]:=Aq (λl=>V.list [.list l,hV (st.2.filter λp=>!EI w (names.getD p []))]) (FV hV st.1 _).symm;rw[e]at q;exact q
end
end
section
section
variable{c:Cx}{m L:Z}{Y:U AW}{h₀:BJ}{Q:V->Prop}
theorem jr.one{F:Fx}{σ:AS}{Y:U AW}{scope:Cw}{x:BA}{d:V}{k:AW}(a:∀y∈scope.names,y.2=.free->y.1=x)(D:scope.names.lookup x=B .free)(G:Lr F.env scope.names []=[(x,k)])(L:σ.lookup x=B (.v d))(R:F.env.kindOf x≠B .local)(hg:Hd x=AD)(f:F.env.cells.lookup x=B k)(K:k∉Y):jr F σ Y scope [(x,d)]:=by
 refine⟨λy t h=>by refine J (a y t h) (J f ?_);rfl,λy C e=>?_,λy h=>?_,λy w e=>?_⟩;· rw[G,Am]at e;cases h:y==x with|true=>refine J (BG.mp h) D|false=>rw[h]at e;exact Eb e
 · have :=a (y,.free) (Ea h) rfl;have :y=x:=this;clear a D G L R hg f;subst this;exact⟨d,by refine J Am (J (FR _) ?_);rfl⟩
 · rw[Am]at e;cases h:y==x with|false=>rw[h]at e;exact Eb e|true=>rw[h]at e;replace e:=EY e;induction e using EC;refine J (BG.mp h) (X5 D L R hg (λC z=>by rw[f]at z;replace z:=EY z;induction z using EC;exact K))
structure jq(c:Cx):Prop where sorted:Pn c "sorted" (.builtin "sorted")ctk:Dq c "cmp_to_key" 2 38 37 "cmp_to_key"bm:Oc c
theorem mR(L:U (U Z))(l:U Z):L.map hV++[hV l]=((L++[l]).map Dh).map V.list:=by simp[hV]
theorem O2(ls:U (U Z)):(ls.map Dh).flatten=Dh ls.flatten:=by
 induction ls with|nil=>rfl|cons a r I=>refine J Bo (J Ba (J Ba (J I (J (OG _ _) ?_))));rfl
noncomputable def Sh(f:U O)(kd:V):AS:=cA f++Dz "key" kd
noncomputable def rkd(f:U O):V:=.list (Dh (CG f))
theorem mv(N:Nm c)(a:jq c)(l:kR c)(f:U O)(u:∀y k,(E5 (L+1) (E8 24).scope.names []).lookup y=B k->k∉Y)(k:∀(d:V)(S:O->O->O),GD d->QQ c 1 d S (λi=>0<=i/\i<(CG f).length)->(∀i j,S i j=((CG f).getD i.toNat 0:O)-((CG f).getD j.toNat 0:O))->WS (IS c (m+6) L Y [L]) h₀ (Sh f (KV c d)) ((E8 24).body.drop 11) (J3 Q))(g:∀v,Q v->V5 v):WS (IS c (m+6) L Y (J7 (E8 24).scope L)) h₀ (cA f) ((E8 24).body.drop 10) (J3 Q):=by
  have I:∀(F:Fx)(o:Ha)(σ':AS),J3 Q o σ'->(∀d,o=.ret d->V5 d)/\J3 Q o []:=λF o σ' h=>by
    cases o with|ret d=>exact⟨λw e=>by cases(e);exact g _ h,h⟩|next=>exact⟨λw e=>(by cases(e)),h⟩|brk=>exact h.elim|cont=>exact h.elim
  refine YQ [L,L+8] rfl (λb hb=>?_) (WS.mono ?_ (I (IS c (m+6) L Y [L,L+8])))
  · simp only[Ae,Dv,JA]at hb;clear u k;focus(refine AC hb ?_ ?_;rotate_left;(focus(clear hb;intro X;subst X));rotate_right;(focus(clear hb;intro X;subst X)))
    ·exact RD 0
    ·exact RD 8
  refine(?_:WS (IS c (m+6) L Y [L,L+8]) h₀ (cA f) ((E8 24).body.drop 10) (J3 Q));have T:DG (IS c (m+6) L Y [L,L+8]) "key":=.inr ⟨rfl,L+8,rfl,by refine(?_:L+8∈[L,L+8]);simp⟩;refine FL (EZ T ?_);refine Aa a.ctk λr G=>Au G λn W p M=>Mt N.wf rfl r p.at_ p.data (bT N.wf l a.ctk (m+5)) CX ?_;have q:∀i j:O,(if("one":BA)=("one":BA)then((CG f).getD i.toNat 0:O)-((CG f).getD j.toNat 0:O)else((CG f).getD j.toNat 0:O)-((CG f).getD i.toNat 0:O))=((CG f).getD i.toNat 0:O)-((CG f).getD j.toNat 0:O):=λi j=>Ap rfl;have x:(CG f).length<=1000:=by have :=Fq f;simp[CG];exact z32 ‹_›
  refine Cz (LI (cv:=[("ranks",rkd f)]) N.wf a.bm (Tw _) rfl (rfl) (by intro M;rfl) CX ?_ ?_) (λM=>rfl)
  · refine jr.one (k:=L+10) (λy t h=>?_) rfl rfl rfl (show B Ej≠B .local by decide) rfl rfl ?_
    · simp only[Ae,Dv,JA]at t;refine AC t (λX=>?_) λX=>AC X (λX=>?_) λX=>?_;·clear t;subst X;cases(h)
      ·clear t;subst X;cases(h)
      ·clear t;subst X;rfl
    · have :=u "ranks" (L+10) rfl;intro K;have K:L+10∈([L,L+8]++Y)++[]:=K;simp only[BW,Ai,Ae,Dv,JA]at K;rcases K with(h|h)|h;·exact z157 ‹_›
      ·exact ry ‹_›
      ·exact this h
  refine Er ⟨_,rfl,?_⟩;refine YQ [L] rfl (λb hb=>?_) (WS.mono ?_ (I (IS c (m+6) L Y [L])));·refine J (AM.mp hb) (AQ)
  exact k _ _ .fn (Vw N.wf (CG f) x (.inl ⟨rfl,rfl⟩) rfl rfl rfl rfl rfl rfl rfl) q
end
end
section
section
variable{c:Cx}{m L:Z}{Y:U AW}{h₀:BJ}{Q:V->Prop}
noncomputable def Se(f:U O):U O:=((Bb f).1++[(Bb f).2]).flatten.map I0
noncomputable def hZ(f:U O):U O:=([(Bb f).2]++(Bb f).1.reverse).flatten.map I0
theorem OK(f:U O):∀i,i<=(CA f).length->∀h∈(GB f i).1,h.length<=(B2 f).length
|0,_,h,S=>by simp[GB]at S|i+1,hi,h,S=>by
 have I:=OK f i (by exact z3 ‹_›);have g:=PS f i (by exact z3 ‹_›);rw[MY f (AP (show i<(CA f).length by exact gi ‹_›))]at S;unfold IF at S;refine AC (Ai.mp S) (λS=>(I h S)) λS=>(J (AM.mp S) (AA (HU _ _) g.2.1))
theorem XE(f:U O):Bb f=GB f (CA f).length:=by
 unfold GB Bb;refine J (Ce (by simp)) rfl
theorem Zj(ls:U (U Z))(m:Z)(h:∀l∈ls,l.length<=m):ls.flatten.length<=ls.length*m:=by
 induction ls with|nil=>simp|cons l r I=>have W:=h l AQ;have C:=I λx D=>h x (AU _ D);simp only[Ba,AZ,Ah,SG];exact lq ‹_› ‹_›
theorem Vl(f:U O):(Bb f).1.length<=9/\(Bb f).2.length<=11/\(Bb f).1.flatten.length<=99/\(∀p∈(Bb f).2,p<(B2 f).length):=by
 have hr:=L5 f;have a:=Fq f;have g:=PS f _ (AN _);have L:=OK f _ (AN _);rw[<-XE]at g L;have V:=Zj _ _ L;have  :=Z.mul_le_mul (AA (B6 g.2.2) hr.1) a.1;exact Le (AA (B6 g.2.2) hr.1) (AA g.2.1 a.1) (AA V this) g.1
theorem mY(f:U O)(S:O->O->O)(h:∀i j,S i j=((CG f).getD i.toNat 0:O)-((CG f).getD j.toNat 0:O)):(λi j:Z=>B9 (S (i:O) (j:O)<0))=λi j:Z=>B9 ((rk f i:O)-(rk f j:O)<0):=by
 funext i j;refine J (h _ _) rfl
theorem Y9{n:Z}(N:Nm c):VH (IS c n L Y [L]) (E8 24).scope ["order","back","done"]:=⟨N,Z4 (by kernel_rfl) rfl,rfl,rfl⟩
theorem mr(N:Nm c)(a:jq c)(f:U O)(P:LJ f)(d:V)(S:O->O->O)(R:GD d)(ok:QQ c 1 d S (λi=>0<=i/\i<(CG f).length))(q:∀i j,S i j=((CG f).getD i.toNat 0:O)-((CG f).getD j.toNat 0:O))(k:WS (IS c (m+6) L Y [L]) h₀ (Sh f (KV c d)++Dz "order" (.list (zs (Se f)))) ((E8 24).body.drop 13) (J3 Q)):WS (IS c (m+6) L Y [L]) h₀ (Sh f (KV c d)) ((E8 24).body.drop 11) (J3 Q):=by
 have H:=Y9 (n:=m+6) (L:=L) (Y:=Y) N;have n:=Fq f;have l:=Vl f;have x:(CG f).length=(B2 f).length:=AL ..;have s:(CN (B2 f)).length=(B2 f).length:=AL ..;have E:((CN (B2 f)).length:O)<2^63:=by refine J s (WG (AA n.1 (by decide)))
 refine FT H 2 _ _ _ (?_:WE _ _ _ _ _);refine Rl N.wf rfl rfl a.sorted CX (AA (by decide) n.2) (An n.1 (by decide)) (vE.GH H (AK _ (.PP _ E) (AK _ (.JM _) ?_)));refine J s (AV rfl (vE.GH H ?_));refine bo d S _ rfl R (ok.less (Bp 1 _)) (λi hi=>⟨BS _,by refine J x (Bu.mpr hi)⟩) (J (mY f S q) (J P.c1 ((?_:W1 _ _ (Sh f (KV c d)++Dz "order" (.list (zs (Se f)))) _ _))));refine Pg H (?_:WT _ _ _ _);refine Kq (vE.IB H ?_);refine Q4 Be rfl rfl rfl rfl rfl rfl (vE.GH H ?_);refine AV (show 1<=_ by decide) ?_;have e:(((Bb f).1++[(Bb f).2]).map Dh).flatten.length<=Ay:=by
  refine J (O2 _) ?_;rewrite[Dh];refine J (AL _) (J CP (J AZ (J Ba (J DK (J (BW _) (AA (CR l.2.2.1 l.2.1) (by decide)))))))
 refine AK _ (.XS _ _ (by refine J (AL _) (AA (Ax l.1) (by decide)))) ⟨((Bb f).1++[(Bb f).2]).map Dh,by refine J (mR _ _) rfl,e,?_⟩;refine J (O2 _) (J (OF _) (AK _ (.bg _ _) (AV (λh=>?_) (λM=>k))));simp[Se]at h
theorem mq(N:Nm c)(a:jq c)(w:kR c)(f:U O)(u:∀y k,(E5 (L+1) (E8 24).scope.names []).lookup y=B k->k∉Y)(P:LJ f)(d:V)(k:∀b,WS (IS c (m+6) L Y [L]) h₀ (Sh f (KV c d)++(Dz "order" (.list (zs (Se f)))++Dz "back" b)) ((E8 24).body.drop 15) (J3 Q)):WS (IS c (m+6) L Y [L]) h₀ (Sh f (KV c d)++Dz "order" (.list (zs (Se f)))) ((E8 24).body.drop 13) (J3 Q):=by
  have H:=Y9 (n:=m+6) (L:=L) (Y:=Y) N;have n:=Fq f;have l:=Vl f;have x:(CG f).length=(B2 f).length:=AL ..;have s:(CN (B2 f)).length=(B2 f).length:=AL ..;have E:((CN (B2 f)).length:O)<2^63:=by refine J s (WG (AA n.1 (by decide)))
  refine FT H 2 _ _ _ (?_:WE _ _ _ _ _);refine Rl N.wf rfl rfl a.sorted CX (AA (by decide) n.2) (An n.1 (by decide)) (vE.GH H (AK _ (.PP _ E) (AK _ (.JM _) ?_)));refine J s (AV rfl (Aa a.ctk λr G=>Au G λv o p M=>Mt N.wf rfl r p.at_ p.data (bT N.wf w a.ctk (m+5)) CX (Cz (LI (cv:=[("ranks",rkd f)]) N.wf a.bm (Tw _) rfl (rfl) (by intro M;rfl) CX ?_ ?_) (λM=>rfl))))
  · refine jr.one (k:=L+10) (λy t h=>?_) rfl rfl rfl (show B Ej≠B .local by decide) rfl rfl ?_
    · simp only[Ae,Dv,JA]at t;refine AC t (λX=>?_) λX=>AC X (λX=>?_) λX=>?_;·clear t;subst X;cases(h)
      ·clear t;subst X;cases(h)
      ·clear t;subst X;rfl
    · have hr:=u "ranks" (L+10) rfl;intro K;have K:L+10∈([L]++Y)++[]:=K;rw[BW]at K;refine AC (Ai.mp K) (λh=>(B8 (AM.mp h) (DR (FG (by decide))))) λh=>(hr h)
  refine Er ⟨_,rfl,?_⟩;refine bo _ _ _ rfl .fn ((Vw N.wf (CG f) (by refine J x (AA n.1 (by decide))) (.inr ⟨rfl,rfl⟩) rfl rfl rfl rfl rfl rfl rfl).less (Bp 1 _)) (λi hi=>⟨BS _,by refine J x (Bu.mpr hi)⟩) ?_;have g:(λi j:Z=>B9 ((if("two":BA)=("one":BA)then((CG f).getD (i:O).toNat 0:O)-((CG f).getD (j:O).toNat 0:O)else((CG f).getD (j:O).toNat 0:O)-((CG f).getD (i:O).toNat 0:O))<0))=λi j:Z=>B9 ((rk f j:O)-(rk f i:O)<0):=by
    funext i j;refine J (Ab (by decide)) rfl
  refine J g (J P.c2 ((?_:W1 _ _ (Sh f (KV c d)++(Dz "order" (.list (zs (Se f)))++Dz "back" (.list (zs (hZ f))))) _ _)));refine Pg H (?_:WT _ _ _ _);refine Kq (vE.IB H ?_);refine Q4 Be rfl rfl rfl rfl rfl rfl (vE.GH H ?_);refine AV (show 1<=_ by decide) (?_:WE _ _ _ _ _);refine W7 CX (vE.GH H ?_);refine vE.IB H ⟨rfl,_,rfl,by refine J (AL _) (AA l.1 (by decide)),?_⟩;have e:(([(Bb f).2]++(Bb f).1.reverse).map Dh).flatten.length<=Ay:=by
    have W:∀ls:U (U Z),ls.reverse.flatten.length=ls.flatten.length:=λls=>by simp
    refine J (O2 _) ?_;rewrite[Dh];refine J (AL _) (J CP (J AZ (J (W _) (J Ba (J DK (J (BW _) (AA (CR l.2.1 l.2.2.1) (by decide))))))))
  refine AK _ (.XS _ _ (by refine J U.length_reverse (J (AL _) (AA (Av l.1 1) (by decide))))) ⟨([(Bb f).2]++(Bb f).1.reverse).map Dh,?_,e,?_⟩;·simp[hV]
  refine J (O2 _) (J (OF _) (AK _ (.bg _ _) (AV (λh=>?_) (λM=>k _))));simp[hZ]at h
end
end
section
section
variable{c:Cx}{m L:Z}{Y:U AW}{h₀:BJ}{Q:V->Prop}
noncomputable def mn(f:U O)(k:Z):Z:=((Ar k).drop 1).foldl (λDz two=>if rk f two<rk f Dz then two else Dz) 0
theorem Xy(f:U O)(k:Z)(R:1<=k):mn f (k+1)=if rk f k<rk f (mn f k)then k else mn f k:=by
 unfold mn;refine J HH (J (KR (by simp;exact sG ‹_›)) (J M0 ?_));rfl
theorem gv(f:U O):∀k,1<=k->mn f k<k
|1,_=>by refine(?_:(0:Z)<1);decide|k+2,_=>by
 have :=gv f (k+1) (by exact z5);refine J (Xy f (k+1) (by exact z5)) ?_;split<;>(first|exact mG|exact rx ‹_›|omega)
noncomputable def K0(f:U O)(k:Z):U (U Z)×U Z:=((Bj f).take k).foldl (Jz (B2 f)) ([],Ar (B2 f).length)
theorem Py(f:U O){k:Z}{r:U (U Cl)}(h:(Bj f)[k]?=B r):K0 f (k+1)=Jz (B2 f) (K0 f k) r:=by
 unfold K0;refine J DM (J h ?_);simp
theorem Zo(f:U O):∀k,k<=(Bj f).length->(∀p∈(K0 f k).2,p<(B2 f).length)/\(K0 f k).2.length<=(B2 f).length/\(K0 f k).1.length=k:=by
 intro k;induction k with|zero=>intro M;simp[K0]|succ k I=>intro h;have I:=I (by exact z3 ‹_›);refine J (Py f (AP (show k<(Bj f).length by exact gi ‹_›))) ?_;unfold Jz;refine Cf (λp E=>I.1 p (C0.mp E).1) (AA (HU _ _) I.2.1) (by simp[I.2.2])
theorem Y7(l:U Z):V.isData (hV l)/\(hV l).pd.canLay0=AO/\(hV l).pd.depth<=1:=by
 unfold hV;refine J (OF _) ((RH _).list)
theorem bz(st:U (U Z)×U Z):Ls (mW st):=by
 have W:Ee (st.1.map hV) 1:=.of λd hd=>by
  refine AI (BO.mp hd) λl M P=>?_;subst P;exact Y7 l
 have C:=W.list;have T:=Y7 st.2;have F:Ee [.list (st.1.map hV),hV st.2] 2:=.cons C (.cons ⟨T.1,T.2.1,Cm T.2.2⟩ (.nil _));refine B7 F.list λa b d=>Cf a b (AA d (by decide))
theorem ml(N:Nm c)(NL:jq c)(R:kQ c)(f:U O)(u:∀y k,(E5 (L+1) (E8 24).scope.names []).lookup y=B k->k∉Y)(P:LJ f)(d:V)(S:O->O->O)(hk:GD d)(ok:QQ c 1 d S (λi=>0<=i/\i<(CG f).length))(wh:∀i j,S i j=((CG f).getD i.toNat 0:O)-((CG f).getD j.toNat 0:O))(b:V)(k:WS (IS c (m+6) L Y [L]) h₀ (Sh f (KV c d)++(Dz "order" (.list (zs (Se f)))++Dz "back" b)) ((E8 24).body.drop 16) (J3 Q)):WS (IS c (m+6) L Y [L]) h₀ (Sh f (KV c d)++(Dz "order" (.list (zs (Se f)))++Dz "back" b)) ((E8 24).body.drop 15) (J3 Q):=by
  have H:=Y9 (n:=m+6) (L:=L) (Y:=Y) N;have n:=Fq f;have o:(CG f).length=(B2 f).length:=AL ..;have s:(CN (B2 f)).length=(B2 f).length:=AL ..;have E:((CN (B2 f)).length:O)<2^63:=by refine J s (WG (AA n.1 (by decide)))
  have A:((B2 f).length:O)<=2^24:=Gw.mpr (AA n.1 (by decide));have l:0<(B2 f).length:=AY (by decide) n.2;refine Au R.redAt λv W d2 M=>FT H 1 _ _ _ (?_:W1 _ _ _ _ _);refine Pg H (?_:WE _ _ _ _ _);refine Mt N.wf rfl R.red d2.at_ d2.data (TK N R (m+5)) Be (Cz (LI (cv:=[("key",KV c d)]) N.wf NL.bm (Tw _) rfl (by rfl) (by intro M;rfl) Be ?_ ?_) (λM=>rfl))
  · refine jr.one (k:=L+8) (λy t h=>?_) rfl rfl rfl (show B Ej≠B .local by decide) rfl rfl ?_
    · simp only[Ae,Dv,JA]at t;refine AC t (λX=>?_) λX=>AC X (λX=>?_) λX=>?_;·clear t;subst X;cases(h)
      ·clear t;subst X;cases(h)
      ·clear t;subst X;rfl
    · have hr:=u "key" (L+8) rfl;intro K;have K:=K;refine AC (Ai.mp K) (λh=>(B8 (AM.mp h) (DR (FG (by decide))))) λh=>(hr h)
  refine N8.IB H (AK _ (.PP _ E) (AK _ (.JM _) ?_));refine J s (R7 _ _ _ (Cq 0 ((B2 f).length:Z)) (λk acc=>1<=k/\acc=.int ((mn f k:Z):O)) .fn (d5 N.wf hk (ok.less (Bp 1 (m+2))) rfl rfl rfl rfl rfl rfl rfl) ?_ ?_ (.inl ⟨rfl,.range 0 _ (L4 _ _ (by decide) (by decide) (DT (by decide) (BS _)) (DT A (by decide))),.int 0,?_,AN _,rfl⟩))
  · intro C acc x Rr D I;refine Aa I λF z=>?_;clear I;subst z;intro hR;rw[GP,B3]at D;have G:=by
      refine AC (CJ C (B2 f).length) (λh=>h) λh=>?_;·rw[Fc (by simpa using h)]at D;exact Eb D
    rw[FP G]at D;replace D:=EY D;induction D using EC;have g:=gv f C F;refine Dm ((mn f C:Z):O) (C:O) rfl ⟨BS _,by refine J o (rt ‹_› ‹_›)⟩ ⟨BS _,by refine J o (rq ‹_›)⟩ (hR _ ⟨by exact z5,?_⟩);refine J (Xy f C F) (J (wh _ _) ?_);have e:=by
      refine(?_:((rk f C:O)-(rk f (mn f C):O)<0)↔_);exact Wh
    by_cases h:rk f C<rk f (mn f C);·refine J (Ap (e.mpr h)) (J (Ap h) ?_);rfl
    ·refine J (Ab λq=>h (e.mp q)) (J (Ab h) ?_);rfl
  · intro r wg;refine Aa wg λM z=>?_;clear wg;subst z;have p:(Cq 0 ((B2 f).length:Z)).length=(B2 f).length:=by refine J (GP _) (J (AL _) (J CW ?_));rfl
    refine J p ?_;have hz:(zs (Se f))[0]?=B (.int (((((Bb f).1++[(Bb f).2]).flatten).headD 0:Z):O)):=by
      have w:=P.ne;unfold Se zs;cases h:((Bb f).1++[(Bb f).2]).flatten with|nil=>exact B8 h w|cons a r=>rfl
    refine AK _ (.list (.nat (j:=0) hz (by decide))) (AV (λh=>?_) (λM=>k));have T:=P.c3;have T:mn f (B2 f).length=_:=T;rw[T,jt]at h;exact J2 h
  ·refine J (GP _) (J B3 (J (FP l) ?_));rfl
theorem mj(N:Nm c)(a:jq c)(R:kQ c)(f:U O)(u:∀y k,(E5 (L+1) (E8 24).scope.names []).lookup y=B k->k∉Y)(P:LJ f)(kd o b:V)(j:Q (.bool AO)):WS (IS c (m+6) L Y [L]) h₀ (Sh f kd++(Dz "order" o++Dz "back" b)) ((E8 24).body.drop 16) (J3 Q):=by
  have H:=Y9 (n:=m+6) (L:=L) (Y:=Y) N;have n:=Fq f;have w:(Bj f).length<=9:=by rewrite[Bj];refine J (AL _) ((L5 f).1)
  have s:(CN (B2 f)).length=(B2 f).length:=AL ..;have E:((CN (B2 f)).length:O)<2^63:=by refine J s (WG (AA n.1 (by decide)))
  have A:((B2 f).length:O)<=2^24:=Gw.mpr (AA n.1 (by decide));refine Au R.redAt λv W p M=>vS.ok H (?_:WE _ _ _ _ _);refine Mt N.wf rfl R.red p.at_ p.data (TK N R (m+5)) CX (Cz (LI (cv:=[("names",.list (CN (B2 f)))]) N.wf a.bm (Tw _) rfl (by rfl) (by intro M;rfl) CX ?_ ?_) (λM=>rfl))
  · refine jr.one (k:=L+9) (λy t h=>?_) rfl rfl rfl (show B Ej≠B .local by decide) rfl rfl ?_
    · simp only[Ae,Dv,JA]at t;refine AC t (λX=>?_) λX=>AC X (λX=>?_) λX=>?_;·clear t;subst X;cases(h)
      ·clear t;subst X;cases(h)
      ·clear t;subst X;rfl
    · have hr:=u "names" (L+9) rfl;intro K;have K:L+9∈[L]++Y++[]:=K;rw[BW]at K;refine AC (Ai.mp K) (λh=>(B8 (AM.mp h) (DR (FG (by decide))))) λh=>(hr h)
  refine N8.GH H (AV (by decide) (AK _ (.PP _ E) (AK _ (.JM _) ?_)));refine J s (AK _ (.TM _ (L4 _ _ (by decide) (by decide) (DT (by decide) (BS _)) (DT A (by decide))) A) (J (GP _) (AV (show 2<=_ by decide) (R7 _ _ _ ((Bj f).map Jp) (λk acc=>k<=(Bj f).length/\acc=mW (K0 f k)) .fn (Zt N (B2 f) (by exact rp ‹_›) (λl h=>by have :=(R6 f l h).1;exact rm ‹_›) rfl rfl rfl) ?_ ?_ (.inr ⟨_,rfl,.list _,Ao _,rfl⟩)))))
  · intro C acc x i D I;refine Aa I λF z=>?_;clear I;subst z;intro T;rw[B3]at D;have G:=by
      refine AC (CJ C (Bj f).length) (λh=>h) λh=>?_;·rw[Fc h]at D;exact Eb D
    rw[AP G]at D;replace D:=EY D;induction D using EC;have g:=Zo f C F;have d:=VF f _ (Gc G);refine jR (K0 f C) ((Bj f)[C]) rfl (by omega) (by omega) g.1 d.1 d.2 (T _ ⟨G,?_⟩);refine J (Py f (AP G)) rfl
  · intro r q;refine Aa q λM z=>?_;clear q;subst z;refine J (AL _) ?_;have e:K0 f (Bj f).length=Bb f:=by
      unfold K0;refine J GZ (P.c4)
    refine J e ?_;have g:=bz (Bb f);refine AV (show 2<=_ by decide) (AK _ (.eqD g g) ?_);have he:=PySem.SeqAt.eqv_refl _ g.2.1;refine J he j
end
end
structure lA(F6:U O):Prop where
facts:LJ F6
back:∀r∈CA F6,Oy (Ml r)=B (GO (CY r))
theorem j6{c:Cx}(N:Nm c)(T:jp c)(w:kR c)(a:jq c)(R:kQ c)(D:Dq c "law" 24 147 146 "law")(m:Z):Ef c (m+7) 147 (λS Q=>∃f,S=[.list (zs f)]/\f.length<=1000000/\lA f/\Q (.bool AO)):=by
 refine Aa D λM G=>Dg G λo fd D hd j r=>Ef.U6 (names:=["script"]) N.wf D j r rfl rfl rfl (by decide) hd (λfd l E hd g=>HQ E hd g λM=>by kernel_rfl) (by decide+kernel) (λL=>J7 (E8 24).scope L) (λL b hb=>hb) (λS Q X=>by refine AI X λs e M=>by refine J e rfl) λL Y S Q h₀ I i=>DU i λf t p P u=>?_;clear i;subst t;have n:=λy k e=>(I y k e).1;refine(?_:WS (IS c (m+6) L Y (J7 (E8 24).scope L)) h₀ (Cv ["script"] [.list (zs f)]) (E8 24).body (J3 Q));refine WS.mono (Q:=J3 (·=.bool AO)) ?_ λo σ' h=>?_;· refine mz N f p λz F K W C A=>my N T f P.back z F K W C A (mx N f (mw N f ?_));refine mv N a w f n (λd x H ok q=>?_) (λv e=>by refine J e ?_;trivial);refine mr N a f P.facts d x H ok q (mq N a w f n P.facts d λb=>ml N a R f n P.facts d x H ok q b (mj N a R f n P.facts _ _ b rfl))
 ·cases o with|ret d=>have  :=h;clear h;subst this;exact u|next=>cases(h)|brk=>exact h|cont=>exact h
section
set_option genInjectivity false
set_option genSizeOf false
noncomputable abbrev q0:DH:=view FH [0,24]
noncomputable abbrev X7:U BA:=["cmp_to_key","_initial_missing","reduce","_twin_re_1","translate","_special_chars_map","escape","_translate","_join_translated_parts","_law_set","_law_items","_law_hit","_law_told","_law_word","_law_class","_law_read","_law_takes","_law_wide"]
noncomputable def fnD:iK->AX EA|.func f=>B f|_=>AJ
theorem cY{d:iK}{f:EA}(e:fnD d=B f):d=.func f:=by cases(d)<;>(first|exact Eb e|(replace e:=EY e;induction e using EC));rfl
noncomputable def g5:iK->AX (Bc AF)|.fields v=>B v|_=>AJ
theorem Mr{d:iK}{f:Bc AF}(e:g5 d=B f):d=.fields f:=by cases(d)<;>(first|exact Eb e|(replace e:=EY e;induction e using EC));rfl
noncomputable def ci:iK->AX (Bc DX×Z)|.dict es n=>B (es,n)|_=>AJ
theorem PW{d:iK}{es:Bc DX}{n:Z}(e:ci d=B (es,n)):d=.dict es n:=by cases(d)<;>(first|exact Eb e|(replace e:=EY e;refine nQ e ?_;clear e;intro Q i;induction Q using EC;induction i using EC));rfl
noncomputable def mX:iK->AX (Bc AF×Z)|.seq es n=>B (es,n)|_=>AJ
theorem ZF{d:iK}{es:Bc AF}{n:Z}(e:mX d=B (es,n)):d=.seq es n:=by cases(d)<;>(first|exact Eb e|(replace e:=EY e;refine nQ e ?_;clear e;intro Q i;induction Q using EC;induction i using EC));rfl
noncomputable def nR:AF->AW|.ref a=>a|_=>0
noncomputable def im:AF->AX BA|.str s _=>B s|_=>AJ
theorem T5{v:AF}{s:BA}(e:im v=B s):∃t,v=.str s t:=by cases(v)<;>(first|exact Eb e|(replace e:=EY e;induction e using EC));exact⟨_,rfl⟩
noncomputable def at1(S:Bc AF):AX BA:=(S[1]?).bind im
theorem d9{S:Bc AF}{s:BA}(e:at1 S=B s):∃t,S[1]?=B (.str s t):=by
 unfold at1 at e;refine AI (B1.mp e) λv h k=>Aw (T5 k) λt z=>?_;subst z;exact⟨t,h⟩
structure Xd where
args:Dl
body:Mz
scope:Cw
clo:U (BA×AW)glob:AW
bi:AW
dflt:AF
code:AF
qn:BA
qn':AX BA
noncomputable def fnO(h:BJ)(fa:AW):AX Xd:=((h.get? fa).bind λo=>fnD o.data).bind λfd=>((h.get? (nR fd.code)).bind λN=>g5 N.data).map λS=>⟨fd.params,fd.body,fd.scope,fd.closure,fd.globals,fd.builtins,fd.defaults,fd.code,fd.qualname,at1 S⟩
noncomputable def pD(i ck:Z)(q:BA)(a:AF):AX Xd:=B ⟨(E8 i).args,.stmts (E8 i).body,(E8 i).scope,[],Cc,CU,a,.ref ck,q,B q⟩
noncomputable def cdO(h:BJ)(ck:AW):AX (AF×AF×AF×AF×AF×AF):=(h.get? ck).bind λo=>(g5 o.data).map λS=>(o.cls,S.getD 11 .none,S.getD 18 .none,S.getD 7 .none,S.getD 9 .none,S.getD 10 .none)
noncomputable def ik(h:BJ):BC:=((h.get? 61).bind λo=>(ci o.data).map λp=>(o.cls==.type "dict"&&(o.dict.isNone&&o.slots.size==0))&&((p.1.toList.all λe=>match e.key with|.int n _=>FU.any (λx=>((x:O)==n))&&e.hash==hashInt n|_=>AD)&&FU.all λx=>((findBy oe p.1 ((x:Z):O)).bind im)==B (tx [92,x]))).getD AD
structure Zz where
fns:U (AX Xd)globs:AX (U (AX AF))one:BC
op:AX (AX AF)miss:AX iK
deft:AX iK
cds:U (AX (AF×AF×AF×AF×AF×AF))tabs:U (AX Gq)tab:BC
pat:AX (AF×AX AW×AF×AF×AF)prog:AX (U Z)
noncomputable def gz:U (Z×Z×Z×BA):=[(19,116,115,"_law_word"),(17,104,103,"_law_hit"),(15,92,91,"_law_set"),(16,99,98,"_law_items"),(18,109,108,"_law_told"),(20,123,122,"_law_class"),(21,130,129,"_law_read"),(22,135,134,"_law_takes"),(23,142,141,"_law_wide"),(10,71,70,"escape"),(13,85,84,"_join_translated_parts"),(7,59,58,"translate"),(12,78,77,"_translate"),(2,38,37,"cmp_to_key"),(24,147,146,"law"),(4,47,46,"reduce")]
noncomputable def gL:U (BA×AX AF):=([("len",AJ),("range",AJ),("list",AJ),("chr",AJ),("sorted",AJ),("object",AJ),("iter",AJ),("next",AJ),("isinstance",AJ),("str",AJ),("_initial_missing",B (.ref 39)),("_special_chars_map",B (.ref 61)),("_twin_re_1",B (.ref 52)),("__name__",B (.str "law_in0230_02" 544))]:U (BA×AX AF))++gz.map λr=>(r.2.2.2,B (.ref r.2.1))
noncomputable def pC(s:AE):Zz where
 fns:=gz.map λp=>fnO s.heap p.2.1
 globs:=((s.heap.get? Cc).bind λo=>ci o.data).map λp=>gL.map λr=>nsFind p.1 r.1
 one:=(s.heap.get? 1).isSome
 op:=((s.heap.get? JB).bind λo=>ci o.data).map λp=>nsFind p.1 "thirdparty.any"
 miss:=(s.heap.get? 39).map (·.data)
 deft:=(s.heap.get? 40).map (·.data)
 cds:=[37,77,146].map (cdO s.heap)
 tabs:=[33,73,144].map s.heap.get?
 tab:=ik s.heap
 pat:=(s.heap.get? 52).bind λo=>(g5 o.data).map λY=>(o.cls,o.dict,Y.getD 6 .none,Y.getD 2 .none,Y.getD 5 .none)
 prog:=((s.heap.get? 51).bind λo=>mX o.data).map λp=>((p.1.map aQ).map (·.toNat)).toList
noncomputable def g6:Zz where
 fns:=gz.map λp=>pD p.1 p.2.2.1 p.2.2.2 (if p.1==4 then .ref 40 else .none)
 globs:=B (gL.map (·.2))
 one:=AO
 op:=B AJ
 miss:=B .plain
 deft:=B (.seq #[.ref 39])
 cds:=[B (.type "code",.ref 33,.str "/claim/cut.py" 291,.int 3 0,.bool AO,.int 276 0),B (.type "code",.ref 73,.str "/claim/cut.py" 529,.int 3 0,.bool AO,.int 276 0),B (.type "code",.ref 144,.str "/claim/cut.py" 630,.int 3 0,.bool AO,.int 276 0)]
 tabs:=[B (NM #[]),B (NM #[]),B (NM #[])]
 tab:=AO
 pat:=B (.type "re.Pattern",AJ,.int 0 0,.int 1 0,.ref 51)
 prog:=B Rx.code.toList
noncomputable abbrev LO(w:Em):Prop:=(openEnds treeTable FH w 4000).map (λs=>(openSeen q0 X7 (importedModules FH.main.body) (λM=>AO) AO s,pC s,s.toks))=B (openGood q0 X7,g6,nat_lit 632)
end
theorem lo00(w:Em):LO ((w.withFollow "special-get-raises" AD).withFollow "comprehension-iter-twice" AD):=by kernel_rfl
theorem lo01(w:Em):LO ((w.withFollow "special-get-raises" AO).withFollow "comprehension-iter-twice" AD):=by kernel_rfl
theorem lo10(w:Em):LO ((w.withFollow "special-get-raises" AD).withFollow "comprehension-iter-twice" AO):=by kernel_rfl
theorem lo11(w:Em):LO ((w.withFollow "special-get-raises" AO).withFollow "comprehension-iter-twice" AO):=by kernel_rfl
theorem lo(w:Em):LO w:=byRow2 "comprehension-iter-twice" (P:=LO) (byRow2 "special-get-raises" (P:=λw=>LO (w.withFollow "comprehension-iter-twice" AD)) lo00 lo01) (byRow2 "special-get-raises" (P:=λw=>LO (w.withFollow "comprehension-iter-twice" AO)) lo10 lo11) w
theorem iy:HE.wellSaid=AO:=by kernel_rfl
section
open PySem.W.X
theorem Xj{X c:Type}{f g:X->c}:∀{l:U X},l.map f=l.map g->∀x∈l,f x=g x:=by
 intro l;induction l with|nil=>intro M M h;exact JZ h|cons a l I=>intro e x h;rw[Bo,Bo]at e;injection e with e1 b;cases h with|head=>exact e1|tail _ h=>exact I b x h
structure lB(c:Cx):Prop where
left:∃s,pC s=g6/\∀b o,s.heap.get? b=B o->c.hB.get? b=B o
g:c.hB.Ns Cc c.mg
section
variable{c:Cx}(H:lB c)(hb:∀x:BA,x≠"__name__"->c.mb x=kg x)
include H
theorem gy{i fa ck:Z}{q:BA}(K:(i,fa,ck,q)∈gz):∃o fd,Xe c i fa o fd/\fd.defaults=(if i==4 then .ref 40 else .none)/\fd.code=.ref ck/\fd.qualname=q:=by
 refine AI H.left λs e k=>?_;have h0:gz.map (λp=>fnO s.heap p.2.1)=gz.map (λp=>pD p.1 p.2.2.1 p.2.2.2 (if p.1==4 then .ref 40 else .none)):=Aq Zz.fns e;have h:=Xj h0 _ K;unfold fnO pD at h;refine AI (B1.mp h) λfd W C=>AI (B1.mp W) λo ho hd=>AI (BK.mp C) λS n T=>AI (B1.mp n) λN j f=>?_;injection T with e1 I y G r b l d g a;refine Aw (d9 a) λt m=>Dm o fd ⟨k _ _ ho,cY hd,?_,e1,I,y,G,r,b⟩ l d g;rw[d]at j⊢;exact UD ck N S t rfl (k _ _ j) (Mr f) (by refine J g m)
theorem R9(n:Z){x:BA}{r:AX AF}(D:gL[n]?=B (x,r)):c.mg x=r:=by
 refine AI H.left λs e k=>AI (BK.mp ((Aq Zz.globs e:_):Es _ _=B _)) λp W C=>AI (B1.mp W) λo ho hd=>Lc H.g λo' es E t b M V=>?_;rw[k _ _ ho]at t;replace t:=EY t;induction t using EC;rw[PW hd]at b;cases(b);refine CS (V _) (Xj C _ (By D))
theorem YK{i fa ck:Z}{q:BA}(n:Z)(K:gz[n]?=B (i,fa,ck,q))(a:gL[14+n]?=B (q,B (.ref fa)))(hi:(i==4)=AD):Dq c q i fa ck q:=by
 refine Dg (gy H (By K)) λo fd D W C T=>?_;rw[hi]at W;exact⟨R9 H _ a,o,fd,D,W,C,T⟩
theorem Ln{i fa ck:Z}{q:BA}(n:Z)(K:gz[n]?=B (i,fa,ck,q))(D:gL[14+n]?=B (q,B (.ref fa)))(hi:(i==4)=AD):Dn c q i fa:=by refine Aa (YK H n K D hi) λm G=>Cj G λo fd d e M=>⟨m,o,fd,d,e⟩
theorem d3{ck P:Z}{f:BA}{t:Jd}{L tx:O}{h:BC}(n:Z)(K:[37,77,146][n]?=B ck)(E:[33,73,144][n]?=B P)(he:g6.cds[n]?=B (B (.type "code",.ref P,.str f t,.int L 0,.bool h,.int tx 0)))(i:ck≠P):oa c.hB ck P/\c.hB.get? P=B (NM #[])/\Vf c.hB P/\Ye []:=by
 refine AI H.left λs e k=>?_;have W:=(Aq (λx=>(Zz.cds x)[n]?) e).trans he;have C:=U.eq_of_mem_replicate ((show([33,73,144]:U Z).map s.heap.get?=Ga 3 (B (NM #[]))from Aq Zz.tabs e)▸Kt (By E));have W:(([37,77,146]:U Z).map (cdO s.heap))[n]?=_:=W;rw[B3,K]at W;have T:=Af W;have F:=k _ _ C;unfold cdO at T;refine AI (B1.mp T) λo ho y=>AI (BK.mp y) λS l m=>?_;simp only[Prod.mk.injEq]at m;refine jK m λa b d f g j=>?_;have b':S[11]?=B (.ref P):=by
  rw[Bf]at b;cases q:S[11]? with|none=>rw[q]at b;cases(b)|some v=>rw[q]at b;exact Aq B b
 exact Le ⟨o,S,_,_,_,_,_,_,_,k _ _ ho,a,Mr l,b',b,d,f,g,j,i⟩ F (.inr ⟨ck,o,S,k _ _ ho,a,Mr l,b'⟩) Bl
include hb
theorem MM(n:Z){x:BA}{v:AF}(D:gL[n]?=B (x,AJ))(h:(x=="__name__")=AD)(a:kg x=B v):Pn c x v:=⟨R9 H n D,(hb x (λe=>by rw[e]at h;exact NI h)).trans a⟩
theorem jM(b:c.hB.Ns CU c.mb)(a:c.hB.NoLimit):Nm c where
 wf:=⟨H.g,b,a⟩
 len:=MM H hb 0 rfl rfl (by kernel_rfl)
 range:=MM H hb 1 rfl rfl (by kernel_rfl)
 list:=MM H hb 2 rfl rfl (by kernel_rfl)
 chr:=MM H hb 3 rfl rfl (by kernel_rfl)
 word:=Ln H 0 rfl rfl rfl
 hit:=Ln H 1 rfl rfl rfl
 set:=Ln H 2 rfl rfl rfl
 items:=Ln H 3 rfl rfl rfl
 told:=Ln H 4 rfl rfl rfl
 cls:=Ln H 5 rfl rfl rfl
 read:=Ln H 6 rfl rfl rfl
 takes:=Ln H 7 rfl rfl rfl
 wide:=Ln H 8 rfl rfl rfl
theorem fV(I:Oc c)(u:∃z,c.hB.Ns JB z):kR c where
 nm:=⟨"law_in0230_02",544,R9 H 13 rfl⟩
 bm:=I
 op:=by
  refine AI H.left λs e k=>AI (BK.mp ((Aq Zz.op e:_):Es _ _=B _)) λp W C=>AI (B1.mp W) λo ho hd=>Aw u λz a=>AK z a (Lc a λo' es E t b M V=>?_);rw[k _ _ ho]at t;replace t:=EY t;induction t using EC;rw[PW hd]at b;cases(b);refine CS (V _) C
 one:=by
  refine AI H.left λs e k=>Aw (Bt.mp (Aq Zz.one e:_=AO)) λo ho=>J (k _ _ ho) rfl
 bc:=(hb "__build_class__" (by decide)).trans (by kernel_rfl)
 object:=MM H hb 5 rfl rfl (by kernel_rfl)
theorem fU(I:Oc c):jq c where
 sorted:=MM H hb 4 rfl rfl (by kernel_rfl)
 ctk:=YK H 13 rfl rfl rfl
 bm:=I
theorem fT:kQ c where
 iter:=MM H hb 6 rfl rfl (by kernel_rfl)
 next:=MM H hb 7 rfl rfl (by kernel_rfl)
 miss:=R9 H 10 rfl
 missAt:=by
  refine AI H.left λs e k=>AI (BK.mp ((Aq Zz.miss e:_):Es _ _=B _)) λo ho hd=>AK o (k _ _ ho) hd
 deft:=by
  refine AI H.left λs e k=>AI (BK.mp ((Aq Zz.deft e:_):Es _ _=B _)) λo ho hd=>FK o _ (k _ _ ho) hd
 red:=R9 H 29 rfl
 redAt:=gy H (By (i:=15) rfl)
theorem fS(I:Oc c):jp c where
 isin:=MM H hb 8 rfl rfl (by kernel_rfl)
 str:=MM H hb 9 rfl rfl (by kernel_rfl)
 smap:=R9 H 11 rfl
 tab:=by
  refine AI H.left λs e k=>?_;have h:ik s.heap=AO:=Aq Zz.tab e;unfold ik at h;cases W:s.heap.get? 61 with|none=>rw[W]at h;exact J2 h|some o=>rw[W]at h;cases C:ci o.data with|none=>rw[N3,C]at h;exact J2 h|some p=>
  rw[N3,C]at h;simp only[Fw,Et,Bs,BG,Bi]at h;refine B7 h λd R g=>B7 d λf hd L=>?_;have a:∀x∈p.1.toList,∃n∈FU,∃t,x.key=.int (n:Z) t/\x.hash=hashInt (n:Z):=λx D=>by
   have :=R x D;cases j:x.key with|int n t=>rw[j]at this;simp only[Bs,BG,U.any_eq_true]at this;refine Aa this λd T=>?_;clear this;refine AI d λm K P=>?_;clear d;subst P;exact⟨m,K,t,rfl,T⟩|_=>rw[j]at this;exact J2 this
  refine⟨by decide,λk=>findBy oe p.1 k,⟨o,p.1,p.2,k _ _ W,f,PW C,λx D=>(AI (a x (by simpa using D)) λn M G=>AI G λt W C=>FK _ t W C),λM=>rfl⟩,λo' ho=>?_,λx=>?_⟩;· rw[k _ _ W]at ho;replace ho:=EY ho;induction ho using EC;exact⟨AX.isNone_iff_eq_none.mp hd,Bc.eq_empty_of_size_eq_zero L⟩
  ·cases Q:FU.contains x with|true=>refine J (Ap rfl) (AI (B1.mp (g x (by simpa using Q))) λv T F=>Aw (T5 F) λt z=>?_);subst z;exact⟨t,T⟩|false=>
refine J (Ab (by decide)) ?_;have i:x∉FU:=λq=>by rw[Fd.mpr q]at Q;exact NI Q
refine(?_:findBy oe p.1 (x:O)=AJ);unfold findBy;refine CS Bc.find?_toList ?_;rewrite[U.find?_eq_none.mpr];·rfl
· intro y l;refine AI (a y l) λn W G=>AI G λt C M=>J C (?_:¬((n:O)==(x:O))=AO);intro q;exact i (I0.inj (BG.mp q)▸W)
 object:=MM H hb 5 rfl rfl (by kernel_rfl)
 esc:=Ln H 9 rfl rfl rfl
 trans:=YK H 12 rfl rfl rfl
 join:=Ln H 10 rfl rfl rfl
 translate:=Ln H 11 rfl rfl rfl
 pat:=R9 H 12 rfl
 patAt:=by
  refine AI H.left λs e k=>AI (B1.mp ((Aq Zz.pat e:_):AX.bind _ _=B _)) λo ho W=>AI (BK.mp W) λY V C=>AI (BK.mp ((Aq Zz.prog e:_):Es _ _=B _)) λp T F=>AI (B1.mp T) λr b u=>?_;simp only[Prod.mk.injEq]at C;exact Y0 o Y 51 r p.1 p.2 0 0 (k _ _ ho) C.1 C.2.1 (Mr V) C.2.2.1 C.2.2.2.1 C.2.2.2.2 (k _ _ b) (ZF u) (Gd.mp F)
 bm:=I
omit hb in
theorem ao:JP c.hB c.hB where
 key:=by refine Fb (d3 H 0 rfl rfl rfl (by decide)) λa b d e=>?_;exact AK (#[]) ⟨a,b,e,d,λpos cv e=>by exact Eb e⟩ (λpos C e=>by exact Eb e)
 tr:=by refine Fb (d3 H 1 rfl rfl rfl (by decide)) λa b d e=>?_;exact⟨#[],⟨a,b,e,d,λpos cv e=>by exact Eb e⟩⟩
 law:=by refine Fb (d3 H 2 rfl rfl rfl (by decide)) λa b d e=>?_;exact⟨#[],⟨a,b,e,d,λpos cv e=>by exact Eb e⟩⟩
end
end
section
noncomputable def gA(p:Bc Z)(i:Z):Z:=p.getD i 0
theorem Vs{p q:Bc Z}{i j:Z}(h:p[i]?=q[j]?):gA p i=gA q j:=by
 unfold gA;refine J Bf (J Bf (J h ?_));rfl
theorem UP{p:Bc Z}{i j:Z}(o:j<=p.size)(k:Z):gA (Qc p i j) k=if i<=k/\k<j then gA p (i+j-1-k)else gA p k:=by
 have :=getElem?_mirror_all (i:=i) o k;split;·rename_i h;rw[Ap h]at this;exact Vs this
 ·rename_i h;rw[Ab h]at this;exact Vs this
theorem Zk{p:Bc Z}{a d:Z}(L:a<p.size)(hd:d<=a)(k:Z):gA (bubble p a d) k=if k=a-d then gA p a else if a-d<k/\k<=a then gA p (k-1)else gA p k:=by
  have :=getElem?_bubble L d hd k;split;·rename_i h;rw[Ap h]at this;exact Vs this
  · rename_i h;rw[Ab h]at this;split;·rename_i C;rw[Ap C]at this;exact Vs this
    ·rename_i C;rw[Ab C]at this;exact Vs this
theorem Qt(p:Bc Z)(i j:Z):(Qc p i j).size=p.size:=mirror_size _ _ _ _
section
variable(f:Z->Z)(N:Z)
noncomputable def J5(i j:Z):BC:=B9 (f i<f j)
noncomputable def Qb(x y:Z):Prop:=f x<f y\/(f x=f y/\x<y)
theorem Qb.trans{x y z:Z}(a:Qb f x y)(b:Qb f y z):Qb f x z:=by unfold Qb at*;exact wd ‹_› ‹_›
structure Up(p:Bc Z)(n:Z):Prop where
sz:p.size=N
le:n<=N
lo:∀i,i<n->gA p i<n
hi:∀i,n<=i->i<N->gA p i=i
srt:∀i j,i<j->j<n->Qb f (gA p i) (gA p j)
theorem Up.more{p:Bc Z}{n:Z}(u:Up f N p n)(W:1<=n)(a:n<N)(h:¬f (gA p n)<f (gA p (n-1))):Up f N p (n+1):=by
  have l:=u.hi n (AN _) a;refine⟨u.sz,a,λi hi=>?_,λi W C=>u.hi i (by exact z3 ‹_›) C,λi j C T=>?_⟩
  · refine AC (CJ i n) (λh=>?_) λh=>?_;·have :=u.lo i h;exact z4 ‹_›
    · have  :=by exact kL ‹_› ‹_›
      refine J this (nv ‹_›)
  · clear a;refine AC (CJ j n) (λF=>(u.srt i j C F)) λF=>?_
    · have  :=by exact kL ‹_› ‹_›
      clear T F;subst this;have g:=u.lo (j-1) (by exact lV ‹_›);have hb:Qb f (gA p (j-1)) (gA p j):=by unfold Qb;exact wX ‹_› ‹_› ‹_›
      refine AC (CJ i (j-1)) (λy=>((u.srt i (j-1) y (by exact nu ‹_›)).trans f hb)) λy=>?_
      · have  :=by exact sB ‹_› ‹_›
        refine J this hb
theorem dA(p:Bc Z):∀(a n:Z),1<=n->n+a=N->Up f N p n->Up f N p (FE (J5 f) (Ll p a n))/\n<=FE (J5 f) (Ll p a n)/\(FE (J5 f) (Ll p a n)<N->f (gA p (FE (J5 f) (Ll p a n)))<f (gA p (FE (J5 f) (Ll p a n)-1))):=by
 intro a;induction a with|zero=>intro n W V u;exact Cf u (AN _) (λh=>B8 h (by refine(?_:¬n<N);exact wc ‹_›))|succ a I=>
intro n W V u;refine(?_:Up f N p (FE (J5 f) (if J5 f (gA p n) (gA p (n-1))=AO then iI n else Ll p a (n+1)))/\n<=FE (J5 f) (if J5 f (gA p n) (gA p (n-1))=AO then iI n else Ll p a (n+1))/\(FE (J5 f) (if J5 f (gA p n) (gA p (n-1))=AO then iI n else Ll p a (n+1))<N->f (gA p (FE (J5 f) (if J5 f (gA p n) (gA p (n-1))=AO then iI n else Ll p a (n+1))))<f (gA p (FE (J5 f) (if J5 f (gA p n) (gA p (n-1))=AO then iI n else Ll p a (n+1))-1))));by_cases h:f (gA p n)<f (gA p (n-1));·refine J (Ap (by simpa[J5]using h)) (Cf u (AN _) (λM=>h))
· refine J (Ab (by simpa[J5]using h)) ?_;have :=I (n+1) (by exact z5) (by exact ek ‹_›) (u.more f N W (by exact iT ‹_›) h);exact Cf this.1 (E3 this.2.1) this.2.2
structure iD(p:Bc Z)(n q:Z):Prop where
sz:p.size=N
le:n<=N
ql:q+1<=n
lo:∀i,i<n->gA p i<n
hi:∀i,n<=i->i<N->gA p i=i
fst:∀i j,i<j->j+(q+1)<n->Qb f (gA p j) (gA p i)mid:∀i j,i+(q+1)<n->n<=j+(q+1)->j<n->f (gA p j)<f (gA p i)lst:∀i j,n<=i+(q+1)->i<j->j<n->f (gA p i)=f (gA p j)/\gA p i<gA p j
structure Ts(p:Bc Z)(n:Z):Prop where
sz:p.size=N
le:n<=N
lo:∀i,i<n->gA p i<n
hi:∀i,n<=i->i<N->gA p i=i
srt:∀i j,i<j->j<n->Qb f (gA p j) (gA p i)
theorem iD.hU{p:Bc Z}{n:Z}(d:iD f N p n 0):Ts f N p n:=by
 refine⟨d.sz,d.le,d.lo,d.hi,λi j W C=>?_⟩;refine AC (CJ (j+1) n) (λh=>(d.fst i j W h)) λh=>(.inl (d.mid i j (by exact wW ‹_› ‹_›) (by exact wV ‹_›) C))
theorem iD.YL{p:Bc Z}{n q:Z}(d:iD f N p n q):Ts f N (Qc p (n-(q+1)) n) n:=by
  have hg:=λk=>UP (i:=n-(q+1)) (by refine J d.sz (d.le)) k;refine⟨by rewrite[Qt];exact d.sz,d.le,λi hi=>?_,λi W C=>(J (hg _) (J (Ab (by exact wT ‹_›)) (d.hi i W C))),λi j W C=>?_⟩;·refine J (hg _) ?_;split<;>exact d.lo _ (by(first|exact wU ‹_›|exact kK ‹_›|omega))
  · refine J (hg _) (J (hg _) ?_);by_cases hi:n-(q+1)<=i;· refine J (Ap ⟨by exact wS ‹_› ‹_›,C⟩) (J (Ap ⟨hi,by exact rh ‹_› ‹_›⟩) ?_);have :=d.lst (n-(q+1)+n-1-j) (n-(q+1)+n-1-i) (by exact z99 ‹_›) (by exact wF ‹_› ‹_›) (by exact lU ‹_› ‹_›);exact .inr this
    · refine J (Ab (show¬(n-(q+1)<=i/\i<n)by exact mP ‹_›)) ?_;by_cases o:n-(q+1)<=j;·refine J (Ap ⟨o,C⟩) (.inl (d.mid i _ (by exact mO ‹_›) (by exact z99 ‹_›) (by exact lU ‹_› ‹_›)))
      ·refine J (Ab (by exact mP ‹_›)) (d.fst i j W (by exact mO ‹_›))
theorem Ts.next{p:Bc Z}{n:Z}(d:Ts f N p n)(W:1<=n)(a:n<N)(h:f (gA p n)<f (gA p (n-1))):iD f N p (n+1) 0:=by
  have l:=d.hi n (AN _) a;refine⟨d.sz,a,by(first|exact z3 ‹_›|exact z5),λi hi=>?_,λi W C=>d.hi i (by exact z3 ‹_›) C,λi j C T=>d.srt i j C (by(first|exact kK ‹_›|exact wN ‹_›)),λi j C T F=>?_,λi j C T F=>by(first|exact(en ‹_› ‹_›).elim|with_reducible exact wI ‹_› ‹_› ‹_›)⟩
  · refine AC (CJ i n) (λh=>?_) λh=>?_;·have :=d.lo i h;exact z4 ‹_›
    · have  :=by exact kL ‹_› ‹_›
      refine J this (nv ‹_›)
  · have :j=n:=by exact wE ‹_› ‹_›
    subst this;refine AC (CJ i (j-1)) (λy=>?_) λy=>?_;· have :=d.srt i (j-1) y (by exact nu ‹_›);unfold Qb at this;exact mN ‹_› ‹_›
    · have  :=by exact wA ‹_› ‹_›
      refine J this h
theorem gE:∀(a:Z)(p:Bc Z)(n q:Z),n+a=N->iD f N p n q->iD f N (FE (J5 f) (Ke a p n q)).1 (FE (J5 f) (Ke a p n q)).2.1 (FE (J5 f) (Ke a p n q)).2.2:=by
 intro a;induction a with|zero=>intro p n q M d;exact d|succ a I=>
    intro p n q V d;have c:=d.ql;have e:FE (J5 f) (Ke (a+1) p n q)=FE (J5 f) (if J5 f (gA p n) (gA p (n-1))=AO then(if q>0 then Ke a (Qc p (n-(q+1)) n) (n+1) 0 else Ke a p (n+1) 0)else .ask (p.getD (n-1) 0) (p.getD n 0) λd=>if d=AO then .ret (p,n,q)else Ke a p (n+1) (q+1)):=rfl;refine J e ?_;clear e;by_cases h:f (gA p n)<f (gA p (n-1))
    · refine J (Ap (by simpa[J5]using h)) ?_;by_cases u:q>0;· refine J (Ap u) (I _ _ _ (by exact ek ‹_›) (d.YL.next f N (by exact lG ‹_›) (by exact iT ‹_›) ?_));have hg:=λk=>UP (i:=n-(q+1)) (by refine J d.sz (d.le)) k;refine J (hg _) (J (hg _) (J (Ab (by exact wG)) (J (Ap (by exact wD ‹_›)) ?_)));have :=d.lst (n-(q+1)) (n-1) (by exact wC) (by exact wB ‹_› ‹_›) (by exact lT ‹_›);refine J (show n-(q+1)+n-1-(n-1)=n-(q+1)by exact w8) (J this.1 h)
      · refine J (Ab u) ?_;have  :=by exact z97 ‹_›
        clear u;subst this;exact I _ _ _ (by exact ek ‹_›) (d.hU.next f N (by exact lG ‹_›) (by exact iT ‹_›) h)
    · refine J (Ab (by simpa[J5]using h)) ?_;have m:FE (J5 f) (.ask (p.getD (n-1) 0) (p.getD n 0) λd=>if d=AO then .ret (p,n,q)else Ke a p (n+1) (q+1))=FE (J5 f) (if J5 f (gA p (n-1)) (gA p n)=AO then .ret (p,n,q)else Ke a p (n+1) (q+1)):=rfl;refine J m ?_;clear m;by_cases C:f (gA p (n-1))<f (gA p n);·refine J (Ap (by simpa[J5]using C)) d
      · refine J (Ab (by simpa[J5]using C)) (I _ _ _ (by exact ek ‹_›) ?_);have l:=d.hi n (AN _) (by exact iT ‹_›);have b:f (gA p n)=f (gA p (n-1)):=by exact w0 ‹_› ‹_›
        refine⟨d.sz,by(first|exact ek ‹_›|exact z8 ‹_›),by(first|exact ek ‹_›|exact vw ‹_›),λi hi=>?_,λi W C=>d.hi i (by exact z3 ‹_›) C,λi j T F=>d.fst i j T (by exact rZ ‹_›),λi j T F y=>?_,λi j T F y=>?_⟩
        · refine AC (CJ i n) (λh=>?_) λh=>?_;·have :=d.lo i h;exact z4 ‹_›
          · have  :=by exact kL ‹_› ‹_›
            refine J this (nv ‹_›)
        · clear V h C l;refine AC (CJ j n) (λP=>(d.mid i j (by exact rZ ‹_›) (by exact rU ‹_›) P)) λP=>?_
          · have  :=by exact kL ‹_› ‹_›
            clear F y P;subst this;refine J b (d.mid i (j-1) (by exact rZ ‹_›) (by exact vv) (by exact lT ‹_›))
        · clear V c h C;refine AC (CJ j n) (λP=>(d.lst i j (by exact rU ‹_›) F P)) λP=>?_
          · have  :=by exact kL ‹_› ‹_›
            clear y P;subst this;have g:=d.lo i (by exact kK ‹_›);refine⟨?_,by exact vu ‹_› ‹_›⟩;refine J b (AC (CJ i (j-1)) (λo=>((d.lst i (j-1) (by exact rU ‹_›) o (by exact nu ‹_›)).1)) λo=>?_)
            · have  :=by exact sB ‹_› ‹_›
              refine J this rfl
theorem Ts.up{p:Bc Z}{n:Z}(d:Ts f N p n):Up f N (Qc p 0 n) n:=by
 have hg:=λk=>UP (i:=0) (by refine J d.sz (d.le)) k;refine⟨by rewrite[Qt];exact d.sz,d.le,λi hi=>(J (hg _) (J (Ap ⟨Ao _,hi⟩) (d.lo _ (by exact z94 ‹_›)))),λi W C=>(J (hg _) (J (Ab (by exact z95 ‹_›)) (d.hi i W C))),λi j W C=>(J (hg _) (J (hg _) (J (Ap ⟨Ao _,by exact rh ‹_› ‹_›⟩) (J (Ap ⟨Ao _,C⟩) (d.srt _ _ (by exact z96 ‹_› ‹_›) (by exact pG ‹_›))))))⟩
theorem VA{p:Bc Z}{n:Z}(W:1<=n)(d:Ts f N p n):Up f N (FE (J5 f) (aL n N p)).2 (FE (J5 f) (aL n N p)).1:=by
 unfold aL;rewrite[Ji];exact(dA f N (Qc p 0 n) (N-n) n W (by have :=d.le;exact gh ‹_›) (d.up f N)).1
theorem Pz{p:Bc Z}{n:Z}(a:n<N)(d:iD f N p (n+1) 0):Up f N (FE (J5 f) (Yd n N p)).2 (FE (J5 f) (Yd n N p)).1:=by
  unfold Yd;rewrite[Ji];have hd:=gE f N (N-(n+1)) p (n+1) 0 (by exact z36 ‹_›) d;generalize FE (J5 f) (Ke (N-(n+1)) p (n+1) 0)=r at hd;have u:=hd.ql;split;·exact VA f N (by exact lG ‹_›) (hd.YL f N)
  · have  :=by exact z97 ‹_›
    rw[this]at hd;exact VA f N (by exact lG ‹_›) (hd.hU f N)
theorem Vd{X:Type}(b:Z->Z->BC)(i j:Z)(k:BC->oY X):FE b (.ask i j k)=FE b (k (b i j)):=rfl
theorem ct(e:1<=N){p:Bc Z}(u:Up f N p 1)(a:∀i,i<N->gA p i=i):Up f N (FE (J5 f) (aM N p)).2 (FE (J5 f) (aM N p)).1:=by
  unfold aM;rewrite[Ji];have P:=dA f N p (N-1) 1 (AN _) (by exact gh ‹_›) u;generalize FE (J5 f) (Ll p (N-1) 1)=n at P;refine B7 P λY W c=>?_;clear P;have l:=Y.le;split;·exact Y
  · rename_i w;have g:=by
      have  :=by simpa using w
      exact wJ ‹_› ‹_›
    have L:=c g;split
    · rename_i d;rewrite[Vd];by_cases m:f (gA p 0)<f (gA p (n-1));·refine J (Ap (by simpa[J5,gA]using m)) Y
      · refine J (Ab (by simpa[J5,gA]using m)) ?_;have b:=λi hi=>by
         have z:f (gA p 0)<=f (gA p i):=by
            refine AC (IZ i) (λh=>(J h (AN _))) λh=>?_;·have :=Y.srt 0 i h hi;unfold Qb at this;exact mQ ‹_›
         have F:f (gA p i)<=f (gA p (n-1)):=by
            refine AC (CJ i (n-1)) (λh=>?_) λh=>?_;·have :=Y.srt i (n-1) h (by exact nu ‹_›);unfold Qb at this;exact mQ ‹_›
            · have  :=by exact sB ‹_› ‹_›
              refine J this (AN _)
         exact w9 ‹_› ‹_› ‹_›
        have hg:=λk=>UP (i:=0) (by refine J Y.sz l) k;have hd:Ts f N (Qc p 0 n) n:=by
         refine⟨by rewrite[Qt];exact Y.sz,l,λi hi=>(J (hg _) (J (Ap ⟨Ao _,hi⟩) (Y.lo _ (by exact z94 ‹_›)))),λi C T=>(J (hg _) (J (Ab (by exact z95 ‹_›)) (Y.hi i C T))),λi j C T=>(J (hg _) (J (hg _) (J (Ap ⟨Ao _,T⟩) (J (Ap ⟨Ao _,by exact rh ‹_› ‹_›⟩) (Y.srt _ _ (by exact z96 ‹_› ‹_›) (by exact pG ‹_›))))))⟩
        refine Pz f N g (hd.next f N (by exact lG ‹_›) g ?_);refine J (hg _) (J (hg _) (J (Ab (by exact w7)) (J (Ap ⟨Ao _,by exact lV ‹_›⟩) (J (b (0+n-1-(n-1)) (by exact pG ‹_›)) L))))
    · have o:=by exact vz ‹_› ‹_›
      subst o;have hd:Ts f N p 1:=⟨Y.sz,l,Y.lo,Y.hi,λi j C T=>by exact(en ‹_› ‹_›).elim⟩;exact Pz f N g (hd.next f N (AN _) g L)
end
end
section
section
variable(f:Z->Z)(N:Z)
theorem bP{p:Bc Z}{k:Z}(u:Up f N p k):∀(a l r:Z),l<=r->r<=k->r-l<=a->(∀i,i<l->f (gA p i)<=f (gA p k))->(∀i,r<=i->i<k->f (gA p k)<f (gA p i))->FE (J5 f) (QC p k a l r)<=k/\(∀i,i<FE (J5 f) (QC p k a l r)->f (gA p i)<=f (gA p k))/\(∀i,FE (J5 f) (QC p k a l r)<=i->i<k->f (gA p k)<f (gA p i)):=by
 intro a;induction a with|zero=>
    intro l r W C T F y;have  :=by exact vQ ‹_› ‹_›
    clear W T;subst this;exact Cf C F y|succ a I=>
    intro l r W C T F y;unfold QC;split
    · rename_i h;have :r=l:=by exact ia ‹_› ‹_›
      clear W T h;subst this;exact Cf C F y
    · rename_i h;rewrite[Vd];by_cases b:f (gA p k)<f (gA p ((l+r)/2))
      · refine J (Ap (by simpa[J5,gA]using b)) (I l ((l+r)/2) (by exact v1 ‹_›) (by exact uy ‹_› ‹_›) (by exact ux ‹_›) F λi P c=>AC (CJ ((l+r)/2) i) (λK=>?_) λK=>?_);·have :=u.srt _ i K c;unfold Qb at this;exact mN ‹_› ‹_›
        · have :i=(l+r)/2:=by exact ia ‹_› ‹_›
          refine J this b
      · refine J (Ab (by simpa[J5,gA]using b)) (I ((l+r)/2+1) r (by exact lN ‹_›) C (by exact uu ‹_›) (λi P=>?_) y);refine AC (CJ i ((l+r)/2)) (λK=>?_) λK=>?_;·have :=u.srt i _ K (by exact ut ‹_› ‹_›);unfold Qb at this;exact ur ‹_› ‹_›
        · have  :=by exact uo ‹_› ‹_›
          refine J this (nz ‹_›)
theorem je:∀(a:Z)(p:Bc Z)(k:Z),k+a=N->Up f N p k->Up f N (FE (J5 f) (kas_bin a p k)) N:=by
 intro a;induction a with|zero=>
    intro p k h u;have  :=by exact lO ‹_›
    clear h;subst this;exact u|succ a I=>
    intro p k h u;unfold kas_bin;rewrite[Ji];have E:=bP f N u k 0 k (Ao _) (AN _) (by exact vN) (λi h=>by exact vM ‹_›) (λi W C=>by with_reducible exact vK ‹_› ‹_›);generalize FE (J5 f) (QC p k k 0 k)=l at E;refine B7 E λm R c=>I _ _ (by exact ek ‹_›) ?_;have hg:=λi=>Zk (d:=k-l) (by refine J u.sz (iT ‹_›)) (by exact vA) i;have d:=u.hi k (AN _) (by exact iT ‹_›);have e:=by exact uz ‹_›
    simp only[e]at hg;refine⟨by rewrite[bubble_size];exact u.sz,by(first|exact iT ‹_›|exact z8 ‹_›),λi hi=>?_,λi W C=>(J (hg _) (J (Ab (by exact uw ‹_› ‹_›)) (J (Ab (by exact uv ‹_›)) (u.hi i (by exact z3 ‹_›) C)))),λi j W C=>?_⟩
    · refine J (hg _) ?_;split;·exact nv ‹_›
      · split;·have :=u.lo (i-1) (by exact mI ‹_›);exact z4 ‹_›
        ·have :=u.lo i (by exact mH ‹_› ‹_› ‹_› ‹_›);exact z4 ‹_›
    · refine J (hg _) (J (hg _) ?_);by_cases r:i=l;·refine J (Ap r) (J (Ab (by exact iS ‹_› ‹_›)) (J (Ap ⟨by exact lM ‹_› ‹_›,by exact rK ‹_›⟩) (.inl (c (j-1) (by exact uq ‹_› ‹_›) (by exact lL ‹_› ‹_›)))))
      · refine J (Ab r) ?_;by_cases q:l<i/\i<=k;·refine J (Ap q) (J (Ab (by exact ul ‹_› ‹_›)) (J (Ap ⟨by exact uk ‹_› ‹_›,by exact rK ‹_›⟩) (u.srt _ _ (by exact uj ‹_› ‹_›) (by exact lL ‹_› ‹_›))))
        · refine J (Ab q) ?_;by_cases K:j=l;· refine J (Ap K) ?_;have T:=R i (by exact ic ‹_› ‹_›);have F:=u.lo i (by exact ui ‹_› ‹_›);unfold Qb;exact uh ‹_› ‹_› ‹_›
          · refine J (Ab K) ?_;by_cases b:l<j/\j<=k;·refine J (Ap b) (u.srt _ _ (by exact ug ‹_› ‹_› ‹_› ‹_›) (by exact mI ‹_›))
            ·refine J (Ab b) (u.srt _ _ W (by exact mH ‹_› ‹_› ‹_› ‹_›))
theorem fD(e:1<=N):Up f N (FE (J5 f) (QB N)) N:=by
  unfold QB;rewrite[Ji];have a:∀i,i<N->gA (EW (Ar N)) i=i:=λi hi=>by
    unfold gA;refine J Bf (J HV (J (FP hi) ?_));rfl
  have u:Up f N (EW (Ar N)) 1:=⟨by simp,e,λi hi=>by refine J (a i (by exact vO ‹_› ‹_›)) hi,λi W C=>a i C,λi j W C=>by exact(en ‹_› ‹_›).elim⟩;have b:=ct f N e u a;generalize FE (J5 f) (aM N (EW (Ar N)))=r at b;split
  · rename_i h;have W:Up f N r.2 (Ru r.1 1):=by
     refine AC (IZ r.1) (λh0=>?_) λh0=>(J (Z.max_eq_left h0) b);· rw[h0]at b⊢;exact⟨b.sz,e,λi hi=>by refine J (b.hi i (Ao _) (by exact vI ‹_› ‹_›)) hi,λi W C=>b.hi i (Ao _) C,λi j W C=>by(first|exact(en ‹_› ‹_›).elim|exact(z283 ‹_› ‹_›).elim)⟩
    exact je f N _ _ _ (by exact v7 ‹_›) W
  · have  :=by have :=b.le;exact v6 ‹_› ‹_›
    rw[this]at b;exact b
theorem NV{R:Z->Z->Prop}(c:∀x,¬R x x)(i:∀x y z,R x y->R y z->R x z):∀(s A:U Z),A.Pairwise R->s.Pairwise R->(∀x∈A,x∈s)->A.Sublist s
|[],A,_,_,h=>by
    cases A with|nil=>exact .slnil|cons a A=>exact B8 (h a AQ) (by simp)
|b::s,[],_,_,_=>Tm _|b::s,a::A,N,hB,h=>by
    refine Aa (Gu.mp N) λd j=>Aa (Gu.mp hB) λf g=>?_;clear hB;by_cases Y:a=b;· clear N f;subst Y;refine .cons₂ _ (NV c i s A j g λx D=>?_);refine AC (Ae.mp (h x (AU _ D))) (λe=>?_) λe=>e;·clear h;subst e;exact B8 (d _ D) (c _)
    · have P:=by
       refine AC (Ae.mp (h a AQ)) (λe=>(B8 e Y)) λe=>e
      refine .cons _ (NV c i s (a::A) N g λx D=>?_);clear N Y;refine AC (Ae.mp (h x D)) (λe=>?_) λe=>e;· clear h;subst e;refine AC (Ae.mp D) (λe=>?_) λe=>(B8 (i _ _ _ (f _ P) (d _ e)) (c _));·clear d D;subst e;exact P
theorem fv(m:Z):∀K,((Ar K).map λk=>if m=k then 1 else 0).sum=if m<K then 1 else 0:=by
 intro K;induction K with|zero=>rfl|succ K I=>
refine J HH (J DI (J nj (J I ?_)));simp only[Bo,Ky,IQ,U.sum_nil];repeat' split
all_goals(first|exact vJ ‹_› ‹_›|exact vH|exact vF ‹_› ‹_›|exact z284|exact vB ‹_› ‹_›|exact v9 ‹_› ‹_› ‹_›|exact v8|omega)
theorem eZ(g h:Z->Z):∀l:U Z,(l.map λk=>g k+h k).sum=(l.map g).sum+(l.map h).sum:=by
 intro l;induction l with|nil=>exact rfl|cons a l I=>simp only[Bo,IQ,I];exact vR
theorem ZO(K:Z):∀l:U Z,(∀x∈l,f x<K)->((Ar K).map λk=>l.filter λp=>f p==k).flatten.length=l.length:=by
 intro l;induction l with
 |nil=>intro M;refine J QD (J EE ?_);induction K with|zero=>rfl|succ K I=>refine J HH (J DI (J nj (J (I (by intro x h;exact JZ h)) ?_)));rfl
 |cons x l I=>
intro h;have I:=I λy t=>h y (AU _ t);have D:=h x AQ;rw[QD,EE]at I⊢;have e:((Ar K).map (DF∘λk=>(x::l).filter λp=>f p==k))=(Ar K).map λk=>(if f x=k then 1 else 0)+(DF∘λk=>l.filter λp=>f p==k) k:=by
 refine FO λk M=>(?_:((x::l).filter λp=>f p==k).length=(if f x=k then 1 else 0)+(l.filter λp=>f p==k).length);refine J N7 ?_;by_cases h:f x=k;·refine J (Ap (by simpa using h)) (J (Ap h) (J Ah vL))
 ·refine J (Ab (by simpa using h)) (J (Ab h) vG)
refine J e ?_;rewrite[eZ];refine J (fv _ _) (J (Ap D) (J I (J Ah vC)))
theorem Pk(e:1<=N)(K:Z)(d:∀x,x<N->f x<K):FJ N (J5 f)=((Ar K).map λk=>(Ar N).filter λp=>f p==k).flatten:=by
 have u:=fD f N e;unfold FJ;generalize FE (J5 f) (QB N)=p at u;have X:∀i(h:i<p.toList.length),p.toList[i]=gA p i:=λi h=>by
  have h':=by simpa using h
  unfold gA;refine J Bf (J (Bc.getElem?_eq_getElem h') ?_);rfl
 have m:p.toList.length=N:=by simpa using u.sz
 have V:((Ar K).map λk=>(Ar N).filter λp=>f p==k).flatten.Pairwise (Qb f):=by
  refine Iz db ⟨λl g=>?_,?_⟩;· refine AI (BO.mp g) λk M H=>CS H ((KU _ FQ).imp_of_mem ?_);intro a b P hb Y;have W:=(C0.mp P).2;have C:=(C0.mp hb).2;simp only[BG]at W C;exact .inr ⟨by exact mJ ‹_› ‹_›,Y⟩
  · refine Iz SK (FQ.imp λY x D y t=>?_);have W:=(C0.mp D).2;have C:=(C0.mp t).2;simp only[BG]at W C;exact .inl (by exact ig ‹_› ‹_› ‹_›)
 refine(NV (R:=Qb f) (λx h=>by unfold Qb at h;exact vD ‹_›) (λx y z=>Qb.trans f) _ _ ?_ V λx D=>?_).eq_of_length ?_;·refine Iz U.pairwise_iff_getElem λi j hi o c=>J (X _ _) (J (X _ _) (u.srt i j c (by exact ic ‹_› ‹_›)))
 · refine Aw (Kv D) λi G=>?_;rcases G with⟨hi,H⟩;refine CS H (J (X _ _) ?_);have g:=u.lo i (by exact ic ‹_› ‹_›);exact Gb.mpr ⟨_,BO.mpr ⟨f (gA p i),Cp.mpr (d _ g),rfl⟩,C0.mpr ⟨Cp.mpr g,by simp⟩⟩
 ·refine J m (J (ZO f K _ λx D=>d x (Cp.mp D)) (J CW ?_));rfl
end
end
section
noncomputable def gZ:U It->U Z->Prop|[],l=>l=[]|B t::r,l=>∃x xs,l=x::xs/\t.hit x=AO/\gZ r xs|AJ::r,l=>∃k,k<=l.length/\gZ r (l.drop k)
theorem Sk(c:U BC)(k:Z):(c.take (k+1)).contains AO=AO↔∃j,j<=k/\c.getD j AD=AO:=by
  refine Iz Fd (Iz O0 ?_);constructor
  · intro s;refine Aw s λj h=>?_;rw[Ib]at h;split at h;·exact AK j (by exact rK ‹_›) (by refine J AG (J h ?_);rfl)
    ·exact Eb h
  · intro s;refine AI s λj W C=>⟨j,?_⟩;refine J Ib (J (Ap (by exact nt ‹_›)) ?_);rw[AG]at C;cases h:c[j]? with|none=>rw[h]at C;exact J2 C|some b=>rw[h]at C;refine J (show b=AO from C) ?_;rfl
theorem am(name:U Z):∀(items:U It)(c:U BC),c.length=name.length+1->((I8 name c items).getLastD AD=AO↔∃k,k<=name.length/\c.getD k AD=AO/\gZ items (name.drop k)):=by
 intro items
 induction items with|nil=>
    intro c g;have e:(I8 name c []).getLastD AD=c.getD name.length AD:=by
      refine(?_:c.getLastD AD=_);refine J Fm (J AG (J Lq (J g ?_)));rfl
    refine J e ?_;constructor;· intro h;exact F8 name.length (AN _) h (by refine(?_:name.drop name.length=[]);simp)
    · intro s;refine CF s λk W C T=>?_;have  :=by
        have :=Aq DF T;simp at this;exact lR ‹_› ‹_›
      refine CS this C|cons d r I=>cases d with|none=>
      intro c g;have e:I8 name c (AJ::r)=I8 name (GF name c AJ) r:=rfl;refine J e (Iz (I _ (JI name c AJ g)) ?_);have hg:∀k,k<=name.length->((GF name c AJ).getD k AD=AO↔∃j,j<=k/\c.getD j AD=AO):=by
        intro k R;have :(GF name c AJ).getD k AD=(c.take (k+1)).contains AO:=by
          refine(?_:((Ar c.length).map λk=>(c.take (k+1)).contains AO).getD k AD=_);refine J AG (J B3 (J (FP (by exact vY ‹_› ‹_›)) ?_));rfl
        refine J this (Iz (Sk _ _) ?_);rfl
      constructor;·intro s;refine CF s λk W C T=>AI ((hg k W).mp C) λj F y=>⟨j,by(first|exact gh ‹_›|exact lP ‹_› ‹_›),y,k-j,by simp;exact mK ‹_›,by refine J EB (J (show j+(k-j)=k by exact gh ‹_›) T)⟩
      · intro s;refine CF s λj W C G=>AI G λk T F=>?_;rw[EB]at F;simp at T;exact F8 (j+k) (by exact rA ‹_› ‹_›) ((hg _ (by exact rA ‹_› ‹_›)).mpr ⟨j,by exact nr,C⟩) F|some t=>
      intro c g;have e:I8 name c (B t::r)=I8 name (GF name c (B t)) r:=rfl;refine J e (Iz (I _ (JI name c (B t) g)) ?_);have hg:∀k,(GF name c (B t)).getD k AD=AO↔∃j,k=j+1/\j<name.length/\c.getD j AD=AO/\t.hit (name.getD j 0)=AO:=by
        intro k;cases k with|zero=>
          constructor;·intro h;exact J2 h
          ·intro s;refine AI s λj h M=>(vn ‹_›).elim|succ k=>
          have :(GF name c (B t)).getD (k+1) AD=((Ar name.length).map λk=>c.getD k AD&&t.hit (name.getD k 0)).getD k AD:=rfl;refine J this (J AG (J B3 ?_));by_cases R:k<name.length
          · refine J (FP R) (J (Bs _ _) ?_);constructor;·intro s;refine Aa s λa b=>IE k rfl R a b
            · intro s;refine DU s λj e M a b=>?_;have  :=by exact vm ‹_›
              refine J this ⟨a,b⟩
          · refine J (Fc (by simp;exact nz ‹_›)) ?_;constructor;·intro h;exact J2 h
            ·intro s;refine CF s λj e h M=>(vk ‹_› ‹_› ‹_›).elim
      constructor;· intro s;refine CF s λk W C T=>DU ((hg k).mp C) λj z o F y=>?_;subst z;refine⟨j,by(first|exact gh ‹_›|exact z3 ‹_›),F,name.getD j 0,name.drop (j+1),?_,y,T⟩;refine J (Cu o) (J AG (J (AP o) ?_));rfl
      · intro s;refine CF s λk W C G=>Cj G λx xs T F y=>?_;have R:=by
          refine AC (CJ k name.length) (λh=>h) λh=>?_;·rw[BY h]at T;exact cNC T
        rw[Cu R]at T;refine kO T ?_;clear T;intro Q i;induction Q using EC;induction i using EC;refine F8 (k+1) R ((hg (k+1)).mpr ⟨k,rfl,R,C,?_⟩) y;refine J AG (J (AP R) F)
theorem al(items:U It)(name:U Z):MI items name=AO↔gZ items name:=by
 unfold MI;refine Iz (am name items _ (by simp)) ?_;constructor;·intro s;refine CF s λk W C T=>?_;clear W;cases k with|zero=>exact T|succ k=>rw[I5,AG,U.getElem?_replicate]at C;split at C<;>exact J2 C
 · intro h;exact F8 0 (Ao _) rfl h
noncomputable def Ex(name:U Z):U (U Cl)->Z->Prop|[],_=>Nt|r::z,a=>a+r.length<=name.length/\TW name r a=AO/\(z=[]->a+r.length=name.length)/\(z=[]\/∃p,a+r.length<=p/\Ex name z p)
theorem Mn(star:BC)(items:U It):Df star items≠[]:=by
 induction items generalizing star with|nil=>exactλh=>di (show[[]]=[]from h)|cons t r I=>cases t with|some c=>exact(by intro W;exact di W)|none=>cases star with|false=>exactλh=>di (show[]::Df AO r=[]from h)|true=>exact I AO
theorem RR(name:U Z)(t:Cl)(h:U Cl)(a:Z):TW name (t::h) a=AO↔t.hit (name.getD a 0)=AO/\TW name h (a+1)=AO:=by
 unfold TW;refine J Ah (J U.range_succ_eq_map (J Yo (J (Bs _ _) (J U.all_map ?_))));constructor;· intro s;refine Aa s λW C=>⟨W,?_⟩;rw[Bi]at C⊢;intro i hi;have :=C i hi;simp only[Kx,I5]at this;refine J (show a+1+i=a+(i+1)by exact vt) this
 · intro s;refine Aa s λW C=>⟨W,?_⟩;rw[Bi]at C⊢;intro i hi;have :=C i hi;simp only[Kx,I5];refine J (show a+(i+1)=a+1+i by exact lS) this
theorem cZ(name:U Z):∀(items:U It),(∀a,a<=name.length->(gZ items (name.drop a)↔Ex name (Df AD items) a))/\(∀a,a<=name.length->((∃k,a<=k/\k<=name.length/\gZ items (name.drop k))↔∃p,a<=p/\Ex name (Df AO items) p)):=by
 intro items;induction items with
 |nil=>
have e:∀star,Df star []=[[]]:=λstar=>rfl;have j:∀a,a<=name.length->(gZ [] (name.drop a)↔a=name.length):=λa P=>by
      refine(?_:name.drop a=[]↔_);refine Iz U.drop_eq_nil_iff ⟨λh=>Cy P h,λh=>B6 h.symm⟩
have g:∀a,Ex name [[]] a↔a=name.length:=λa=>by
      constructor;·intro s;refine Fb s λM M h M=>?_;simpa using h rfl
      ·intro s;subst s;exact Le (AN _) rfl (λM=>rfl) (.inl rfl)
refine⟨λa P=>by refine J (e _) (Iz (j a P) (Iz (g _) ?_));rfl,λa P=>?_⟩;constructor;·intro s;refine CF s λk W C T=>AK k W ((g k).mpr ((j k C).mp T))
· intro s;refine AI s λp W C=>?_;have :=(g p).mp C;subst this;exact F8 _ W (AN _) ((j _ (AN _)).mpr rfl)
 |cons d r I=>cases d with|none=>
      have I:=(I).2;have j:∀a,a<=name.length->(gZ (AJ::r) (name.drop a)↔∃p,a<=p/\Ex name (Df AO r) p):=λa P=>by
        refine rwj (I a P) ?_;constructor;· intro s;refine AI s λk W C=>?_;rw[EB]at C;simp at W;exact F8 (a+k) (by exact nr) (by exact rA ‹_› ‹_›) C
        ·intro s;refine CF s λk W C T=>AK (k-a) (by simp;exact mK ‹_›) (by refine J EB (J (show a+(k-a)=k by exact gh ‹_›) T))
      refine⟨λa P=>?_,λa P=>?_⟩
      · refine Iz (j a P) ?_;constructor;· intro h;exact Le P rfl (λq=>B8 q (Mn _ _)) (.inr h)
        ·intro s;refine Fb s λM M M h=>AC h (λh=>(B8 h (Mn _ _))) λh=>h
      · refine(?_:_↔∃p,a<=p/\Ex name (Df AO r) p);refine rwj (I a P) ?_;constructor;·intro s;refine CF s λk W C T=>AI ((j k C).mp T) λp F y=>CF ((I k C).mpr ⟨p,F,y⟩) λq n m K=>F8 q (by exact lP ‹_› ‹_›) m K
        ·intro s;refine CF s λk W C T=>⟨k,W,C,0,Ao _,by simpa using T⟩|some t=>
      have I:=(I).1;obtain⟨h,v,L⟩:∃h v,Df AD r=h::v:=by
        cases L:Df AD r with|nil=>exact B8 L (Mn _ _)|cons h v=>exact Io h v rfl
      have e:∀star,Df star (B t::r)=(t::h)::v:=λstar=>by
        have :Df star (B t::r)=(t::(Df AD r).headD [])::(Df AD r).tail:=rfl;refine J this (J L ?_);rfl
      have j:∀a,a<=name.length->(gZ (B t::r) (name.drop a)↔Ex name ((t::h)::v) a):=λa P=>by
        constructor
        · intro s;refine Cj s λx xs T F y=>?_;have R:=by
           refine AC (CJ a name.length) (λh=>h) λh=>?_;·rw[BY h]at T;exact cNC T
          rw[Cu R]at T;refine kO T ?_;clear T;intro Q i;induction Q using EC;induction i using EC;have :=(I (a+1) R).mp y;rw[L]at this;refine Fb this λi1 i2 l f=>Le (by simp;exact mM ‹_›) ((RR _ _ _ _).mpr ⟨?_,i2⟩) (λq=>by have :=l q;simp;exact vg ‹_›) (f.imp id λX=>by refine AI X λp q1 u=>AK p (by simp;exact mM ‹_›) u);refine J AG (J (AP R) F)
        · intro s;refine Fb s λi1 i2 l f=>?_;simp only[Ah]at i1 l f;refine Aa ((RR _ _ _ _).mp i2) λb c=>?_;have R:=by exact vZ ‹_›
          refine Fs (name[a]) (name.drop (a+1)) (Cu R) ?_ ((I (a+1) R).mpr (J L (Le (by exact mL ‹_›) c (λq=>by have :=l q;exact ek ‹_›) (f.imp id λX=>by refine AI X λp q1 u=>AK p (by exact mL ‹_›) u))));·rw[AG,AP R]at b;exact b
      refine⟨λa P=>by refine J (e _) (j a P),λa P=>?_⟩;refine J (e _) ?_;constructor;·intro s;refine CF s λk W C T=>AK k W ((j k C).mp T)
      · intro s;refine AI s λp W C=>?_;have E:=by have :=C.1;exact vW ‹_›
        exact F8 p W E ((j p E).mpr C)
theorem Wx(name:U Z)(a:U Cl)(g p:Z):p∈Qk name a g↔g<=p/\p+a.length<=name.length:=by
 unfold Qk;refine Iz BO ?_;constructor;· intro s;refine AI s λi hi P=>?_;clear s;subst P;have :=Cp.mp hi;exact vq ‹_›
 ·intro s;refine Aa s λW C=>AK (p-g) (Cp.mpr (by(first|exact nt ‹_›|exact lQ ‹_› ‹_›))) (by(first|exact lQ ‹_› ‹_›|exact gh ‹_›))
theorem an(name:U Z)(n:Z):∀(z:U (U Cl))(k g:Z),k+z.length=n->(Jh name n z k g=AO↔(z=[]\/∃p,g<=p/\(k=0->p=0)/\Ex name z p)):=by
 intro z;induction z with|nil=>intro k g M;exact⟨λM=>.inl rfl,λM=>rfl⟩|cons r z I=>
intro k g l;simp only[Ah]at l;have f:∀p,p∈MZ name r k n g↔g<=p/\p+r.length<=name.length/\(k=0->p=0)/\(z=[]->p+r.length=name.length)/\TW name r p=AO:=λp=>by
      unfold MZ;refine Iz C0 ?_;rewrite[Wx];unfold Lm;simp only[Bs,FI,HY,BG];constructor;· intro s;refine B7 s λd Q y=>Aa d λW C=>Aa Q λT F=>X5 W C (λq=>by(first|exact lR ‹_› ‹_›|exact vl ‹_› ‹_›)) (λq=>?_) y;subst q;dsimp at l;exact vj ‹_› ‹_›
      · intro s;refine UB s λW C T F y=>?_;clear s;refine Cf ⟨W,C⟩ ⟨?_,?_⟩ y
        · by_cases m:k=0;·exact .inr (T m)
          ·exact .inl (by exact vh ‹_›)
        ·cases z with|nil=>exact .inr (F rfl)|cons a b=>exact .inl (by simp at l;exact ve ‹_›)
have j:(MZ name r k n g).Pairwise (·<·):=by
      refine KU _ (Iz SK (FQ.imp λh=>by exact vd ‹_›))
unfold Jh;cases V:MZ name r k n g with|nil=>
      constructor;·intro h;exact J2 h
      · rintro(h|⟨p,W,C,T,F,y,P⟩);·exact di h
        · have :=(f p).mpr ⟨W,T,C,y,F⟩;rw[V]at this;exact JZ this|cons c R=>
      refine Iz (I (k+1) (c+r.length) (by exact ek ‹_›)) ?_;rw[V]at j;have i:=(f c).mp (by refine J V (AQ));constructor;· intro h;refine .inr ⟨c,i.1,i.2.2.1,i.2.1,i.2.2.2.2,i.2.2.2.1,?_⟩;refine AC h (λh=>(.inl h)) λX=>(CF X λp W M C=>.inr ⟨p,W,C⟩)
      · rintro(h|⟨p,W,C,T,F,y,P⟩);·exact di h
        · have E:=(f p).mpr ⟨W,T,C,y,F⟩;rw[V]at E;have o:=by
           refine AC (Ae.mp E) (λe=>(vX ‹_›)) λe=>?_;·have :=(Gu.mp j).1 p e;exact tR ‹_›
          refine AC P (λP=>(.inl P)) λX=>(AI X λq t K=>.inr ⟨q,by exact vV ‹_› ‹_›,λe=>by exact vU ‹_›,K⟩)
theorem Qr(items:U It)(name:U Z):EI (GO items) name=MI items name:=by
  refine Iz Dt (Iz (al _ _) ?_);unfold EI GO;refine Iz (an name _ _ 0 0 (by simp)) ?_;have :=(cZ name items).1 0 (Ao _);refine Iz this ?_;constructor
  · rintro(h|⟨p,_,C,T⟩);·exact B8 h (Mn _ _)
    ·rw[C rfl]at T;exact T
  · intro h;exact .inr ⟨0,AN _,λM=>rfl,h⟩
end
theorem TE(a:U (U (U Cl)))(name:U Z):Kk a name<=a.length/\(∀j,j<Kk a name->EI (a.getD j []) name=AD)/\(Kk a name<a.length->EI (a.getD (Kk a name) []) name=AO):=by
 unfold Kk;have L:((Ar a.length).filter λk=>EI (a.getD k []) name).Pairwise (·<·):=KU _ FQ;have K:∀k,k∈((Ar a.length).filter λk=>EI (a.getD k []) name)↔k<a.length/\EI (a.getD k []) name=AO:=λk=>by refine Iz C0 (Iz Cp ?_);rfl
 generalize((Ar a.length).filter λk=>EI (a.getD k []) name)=l at L K;cases l with
 |nil=>refine Cf (AN _) (λj o=>?_) (λh=>B8 h (CI _));cases h:EI (a.getD j []) name with|false=>rfl|true=>have :=(K j).mpr ⟨o,h⟩;exact JZ this
 |cons k r=>have R:=(K k).mp AQ;refine Cf (BE R.1) (λj o=>?_) (λM=>R.2);have o:j<k:=o;cases h:EI (a.getD j []) name with|false=>rfl|true=>have :=(K j).mpr ⟨CC o R.1,h⟩;refine AC (Ae.mp this) (λe=>((lK ‹_› ‹_›).elim)) λe=>?_;·have :=(Gu.mp L).1 j e;exact(lJ ‹_› ‹_›).elim
theorem TC(f:U O):(Bj f).length=(CA f).length:=by simp[Bj]
theorem T9(f:U O)(p:Z):rk f p<=(CA f).length:=by
 unfold rk CG;refine J AG (J B3 ?_);cases h:(B2 f)[p]? with|none=>exact Ao _|some nm=>refine CS (TC _) ((TE (Bj f) nm).1)
theorem fH(f:U O){p i:Z}(E:p<(B2 f).length)(hi:i<(CA f).length)(h:i<=rk f p):MI (CY ((CA f).getD i [])) ((B2 f).getD p [])=(rk f p==i):=by
  have e:rk f p=Kk (Bj f) ((B2 f).getD p []):=by
    unfold rk CG;refine J AG (J B3 (J AG (J (AP E) ?_)));rfl
  have L:=TE (Bj f) ((B2 f).getD p []);rw[<-e]at L;have a:EI ((Bj f).getD i []) ((B2 f).getD p [])=MI (CY ((CA f).getD i [])) ((B2 f).getD p []):=by
    refine CS (Qr _ _) ?_;unfold Bj;refine J AG (J B3 (J (AG (l:=CA f)) (J (AP hi) ?_)));rfl
  refine CS a (AC (CJ i (rk f p)) (λW=>(J (L.2.1 i W) ((BD.mpr (by exact ue ‹_›)).symm))) λW=>?_)
  · have :rk f p=i:=by exact ia ‹_› ‹_›
    refine J (BG.mpr this) (CS this (L.2.2 (by refine J (TC _) (ub ‹_› ‹_›))))
noncomputable def Px(f:U O)(k:Z):U Z:=(Ar (B2 f).length).filter λp=>rk f p==k
theorem Vm(f:U O){i:Z}(hi:i<(CA f).length):IF (B2 f) ((Ar i).map (Px f),(Ar (B2 f).length).filter λp=>B9 (i<=rk f p)) (CY ((CA f).getD i []))=((Ar (i+1)).map (Px f),(Ar (B2 f).length).filter λp=>B9 (i+1<=rk f p)):=by
 have W:((Ar (B2 f).length).filter λp=>B9 (i<=rk f p)).filter (λp=>MI (CY ((CA f).getD i [])) ((B2 f).getD p []))=Px f i:=by
  refine J iP (JF λp E=>?_);have E:=Cp.mp E;by_cases h:i<=rk f p;·refine J (fH f E hi h) (J (DW h) (J (KJ _) ?_));rfl
  ·refine J (Kd h) (J (pA _) ((BD.mpr (by exact uf ‹_›)).symm))
 unfold IF;rw[W,HH,DI];congr 1;refine J iP (JF λp E=>?_);have a:(Px f i).contains p=(rk f p==i):=by
  refine Iz Dt (Iz Fd ?_);unfold Px;refine Iz C0 ⟨λh=>h.2,λh=>⟨E,h⟩⟩
 refine J a (Iz Dt ?_);simp only[Bs,JH,BD,HY];exact⟨λh=>IY h.2 (G3 h.1),λh=>⟨DR h,BE h⟩⟩
theorem cW{X c:Type}(g:c->X->c)(b:c)(l:U X)(d:X)(S:Z->c)(h0:S 0=b)(h:∀i,i<l.length->g (S i) (l.getD i d)=S (i+1)):l.foldl g b=S l.length:=by
 have :∀i,i<=l.length->(l.take i).foldl g b=S i:=by
  intro i;induction i with|zero=>intro M;simp[h0]|succ i I=>intro hi;refine J DM (J (AP (show i<l.length by exact gi ‹_›)) (J M0 (J (I (by exact z3 ‹_›)) ?_)));have :=h i (by exact gi ‹_›);rw[AG,AP (show i<l.length by exact gi ‹_›)]at this;exact this
 have :=this l.length (AN _);rwa[GZ]at this
theorem cU(f:U O):Bb f=((Ar (CA f).length).map (Px f),(Ar (B2 f).length).filter λp=>B9 ((CA f).length<=rk f p)):=by
 unfold Bb;refine J WU (cW _ _ (CA f) [] (λi=>((Ar i).map (Px f),(Ar (B2 f).length).filter λp=>B9 (i<=rk f p))) ?_ λi hi=>Vm f hi);simp
theorem Tq(f:U O):(Bb f).1++[(Bb f).2]=(Ar ((CA f).length+1)).map (Px f):=by
 rw[cU,HH,DI];congr 1;refine(?_:[_]=[_]);congr 1;refine JF λp M=>?_;have :=T9 f p;refine Iz Dt (J HY (Iz BG ⟨λh=>Cy this h,λh=>B6 h.symm⟩))
theorem fE(f:U O):FJ (B2 f).length (λi j=>B9 ((rk f i:O)-(rk f j:O)<0))=((Bb f).1++[(Bb f).2]).flatten:=by
 have e:(λi j:Z=>B9 ((rk f i:O)-(rk f j:O)<0))=J5 (rk f):=by
  funext i j;refine Iz EN Wh
 refine J e (J (Tq _) (J (Pk (rk f) _ (by have :=Fq f;exact qe ‹_›) ((CA f).length+1) λx M=>by have :=T9 f x;exact nt ‹_›) ?_));rfl
theorem Z9(f:U O):FJ (B2 f).length (λi j=>B9 ((rk f j:O)-(rk f i:O)<0))=([(Bb f).2]++(Bb f).1.reverse).flatten:=by
  have e:(λi j:Z=>B9 ((rk f j:O)-(rk f i:O)<0))=J5 (λp=>(CA f).length-rk f p):=by
    funext i j;have W:=T9 f i;have C:=T9 f j;refine Iz EN (?_:_↔(CA f).length-rk f i<(CA f).length-rk f j);exact Wh.trans ⟨λh=>BX (AY h W) h,λh=>EP λq=>Jm (I4 q _) h⟩
  have I:[(Bb f).2]++(Bb f).1.reverse=((Bb f).1++[(Bb f).2]).reverse:=by simp
  refine J e (J I (J (Tq _) (J (Pk _ _ (by have :=Fq f;exact qe ‹_›) ((CA f).length+1) λx M=>by exact lI) ?_)));congr 1;apply U.ext_getElem;·simp
  · intro i W C;have hi:=by simpa using W
    refine J (l6 _) (J (iO _) (J (U.getElem_reverse _) (J (l6 _) (J (iO _) (JF λp M=>?_)))));have :=T9 f p;simp only[AL,CW];refine Iz Dt (Iz BG (Iz BG ⟨λh=>h▸(Ti this).symm,λh=>h▸Ti (BZ hi)⟩))
theorem ay(f:U O):(((Bb f).1++[(Bb f).2]).flatten).Pairwise (Qb (rk f))/\∀p,p<(B2 f).length->p∈((Bb f).1++[(Bb f).2]).flatten:=by
  refine J (Tq _) ?_;constructor
  · refine Iz db ⟨λl g=>?_,?_⟩;· refine AI (BO.mp g) λk M H=>CS H ((KU _ FQ).imp_of_mem ?_);intro a b P hb Y;have W:=(C0.mp P).2;have C:=(C0.mp hb).2;simp only[BG]at W C;exact .inr ⟨by exact mJ ‹_› ‹_›,Y⟩
    · refine Iz SK (FQ.imp λY x D y t=>?_);have W:=(C0.mp D).2;have C:=(C0.mp t).2;simp only[BG]at W C;exact .inl (by exact ig ‹_› ‹_› ‹_›)
  · intro p E;have :=T9 f p;exact Gb.mpr ⟨_,BO.mpr ⟨rk f p,Cp.mpr (by exact nt ‹_›),rfl⟩,C0.mpr ⟨Cp.mpr E,by simp⟩⟩
noncomputable def fW(f:U O)(k:Z):Z:=((Ar k).drop 1).foldl (λone two=>if rk f two<rk f one then two else one) 0
theorem bl(f:U O)(k:Z)(R:1<=k):fW f (k+1)=if rk f k<rk f (fW f k)then k else fW f k:=by
 unfold fW;refine J HH (J (KR (by simp;exact sG ‹_›)) (J M0 ?_));rfl
theorem Xz(f:U O):∀k,1<=k->fW f k<k/\∀q,q<k->q=fW f k\/Qb (rk f) (fW f k) q
|1,_=>by
    have e:fW f 1=0:=rfl;refine J e ⟨by exact gi ‹_›,λq u=>.inl (by exact ud ‹_›)⟩|k+2,_=>by
    have I:=Xz f (k+1) (by exact z5);refine J (bl f (k+1) (by exact z5)) ?_;split;· rename_i h;refine⟨by exact mG,λq u=>?_⟩;refine AC (CJ q (k+1)) (λW=>?_) λW=>(.inl (by exact mF ‹_› ‹_›));· refine AC (I.2 q W) (λe=>(J e (.inr (.inl h)))) λe=>?_;·right;unfold Qb at*;exact ua ‹_› ‹_›
    · rename_i h;refine⟨Bm I.1,λq u=>?_⟩;refine AC (CJ q (k+1)) (λW=>(I.2 q W)) λW=>?_
      · have  :=by exact mF ‹_› ‹_›
        clear u W;subst this;right;exact(LS (Bx h)).imp_right λe=>⟨e,I.1⟩
theorem cB(f:U O):LJ f:=by
  have b:=Fq f;refine Aa (ay f) λL K=>?_;have w:((Bb f).1++[(Bb f).2]).flatten≠[]:=λe=>by
    have :=K 0 (by exact z116 ‹_›);rw[e]at this;exact JZ this
  refine⟨w,fE f,Z9 f,?_,?_⟩
  · refine(?_:fW f (B2 f).length=_);have W:=Xz f (B2 f).length (by exact qe ‹_›);have C:=K _ W.1;have u:∀x∈((Bb f).1++[(Bb f).2]).flatten,x<(B2 f).length:=λx D=>by
     rw[Tq]at D;refine AI (Gb.mp D) λl g D=>AI (BO.mp g) λk M P=>?_;subst P;exact Cp.mp (C0.mp D).1
    generalize((Bb f).1++[(Bb f).2]).flatten=l at L C w u;cases l with|nil=>exact B8 rfl w|cons a r=>refine(?_:_=a);refine AC (Ae.mp C) (λe=>e) λe=>?_;· have T:=(Gu.mp L).1 _ e;refine AC (W.2 a (u a AQ)) (λF=>(F.symm)) λF=>?_;·unfold Qb at*;exact uc ‹_› ‹_›
  · unfold Bj Bb;refine J WU (J WU ?_);congr 1;funext st r;unfold Jz IF;have e:∀p,EI (GO (CY r)) ((B2 f).getD p [])=MI (CY r) ((B2 f).getD p []):=λp=>Qr _ _;simp only[e];congr 1;refine JF λp E=>?_;congr 1;refine Iz Dt (Iz Fd (Iz C0 ⟨λh=>⟨E,h⟩,λh=>h.2⟩))
section
noncomputable def PU(x:Z):U Z:=if x=92 then[92,92]else if x=45 then[92,45]else[x]
theorem VD(x:Z)(w a b:U Z):Fh x w (a++b)=Fh x w a++Fh x w b:=by simp[Fh]
theorem RT(a b:U Z):IG (a++b)=IG a++IG b:=by unfold IG;rewrite[VD];rewrite[VD];rfl
theorem Jy(x:Z):IG [x]=PU x:=by
  unfold IG PU Fh;by_cases h:x=92;·subst h;rfl
  · by_cases C:x=45;·clear h;subst C;rfl
    ·simp[h,C]
theorem Zn(x:Z)(l:U Z):IG (x::l)=PU x++IG l:=by
 refine J (show x::l=[x]++l from rfl) (J (RT _ _) (J (Jy _) ?_));rfl
noncomputable def cc(m:Mem):U Z:=m.casesOn [] λa r=>r.casesOn (PU a) λb r=>if b=45 then r.casesOn [] λc r=>r.casesOn (PU a++[45]++PU c) λM M=>[]else[]
theorem TY(a:Z):cc [a]=PU a:=rfl
theorem PV(a b:Z):cc [a,45,b]=PU a++[45]++PU b:=rfl
noncomputable def SR(A:U Mem):U Z:=A.flatMap cc
noncomputable def cF(x:U Z×Z)(g:U Z×Z->U (U Z)):U (U Z):=(E6 x.1 45 x.2 x.1.length).casesOn [x.1] λk=>if k+1=x.1.length then[x.1]else x.1.take k::g (x.1.drop (k+1),2)
noncomputable def ch(l:U Z)(s:Z):U (U Z):=Si (λx=>x.1.length) cF [] (l.length+1) (l,s)
theorem hW(l:U Z)(s:Z):ch l s=cF (l,s) λx=>ch x.1 x.2:=OL (m:=λ(x:U Z×Z)=>x.1.length) (F:=cF) (d:=[]) (λa f g h=>mZ λk e=>Aq (λz=>if k+1=a.1.length then[a.1]else a.1.take k::z) (h _ (cq e))) (l,s)
theorem JY{l:U Z}{s k:Z}(h:E6 l 45 s l.length=B k):ch l s=if k+1=l.length then[l]else l.take k::ch (l.drop (k+1)) 2:=by
 refine(hW _ _).trans (?_:D1 (motive:=λM=>U (U Z)) (E6 l 45 s l.length) _ _=_);rw[h]
theorem J1{l:U Z}{s:Z}(h:E6 l 45 s l.length=AJ):ch l s=[l]:=by
 refine(hW _ _).trans (?_:D1 (motive:=λM=>U (U Z)) (E6 l 45 s l.length) _ _=_);rw[h]
theorem XM:∀(n:Z)(l:U Z),l.length<=n->l≠[]->∀v s,DV v l s=v++ch l s:=by
 intro n;induction n with|zero=>intro l g w M M;exact B8 (F4 (by exact z50 ‹_›)) w|succ n I=>intro l g w v s;cases h:E6 l 45 s l.length with
|none=>refine J (IH h) (J (J1 h) ?_);rewrite[Ap];rfl;clear g h;cases l with|nil=>exact B8 rfl w|cons a b=>rfl
|some k=>
      have E:=GQ h;refine J (JX h) (J (JY h) ?_);split
      · rename_i R;have hd:=BY (by exact qB ‹_›);have p:E6 ([]:U Z) 45 2 0=AJ:=rfl;refine J hd (J (IH p) (J (Ab (by simp)) ?_));have e:l=l.take k++[45]:=by
         conv=>lhs;rw[<-Jg k l]
         congr 1;refine J (Cu E.2.1) (J hd ?_);have :=E.2.2;rw[AP E.2.1]at this;refine J (Af this) rfl
        simp only[U.dropLast_concat,U.getLastD_concat];refine CS e rfl
      · rename_i R;have hd:(l.drop (k+1)).length=l.length-(k+1):=by simp
        refine J (I (l.drop (k+1)) (by exact pI ‹_› ‹_›) (λe=>by rw[e]at hd;exact R (Cy E.2.1 (Z.sub_eq_zero_iff_le.mp hd.symm))) _ 2) ?_;simp
noncomputable def LD(b:Z):U (U Z)->U (U Z)|[]=>[]|c::r=>(b::c)::r
theorem Qv(x:Z)(l:U Z)(s hi:Z):E6 (x::l) 45 (s+1) (hi+1)=(E6 l 45 s hi).map (·+1):=by
 unfold E6;rewrite[Z.add_sub_add_right];refine J IR (J IR (J WV (J WV ?_)));rewrite[AX.map_map];have e:((λi=>(x::l)[i]?==B 45)∘λx=>s+1+x)=((λi=>l[i]?==B 45)∘λx=>s+x):=by
  funext i;simp only[Kx];refine J (show s+1+i=(s+i)+1 by exact lj) (J U.getElem?_cons_succ ?_);rfl
 refine J e ?_;congr 1;funext i;simp only[Kx];exact lj
theorem YO(b:Z)(r:U Z):ch (b::r) 2=LD b (ch r 1):=by
 have E:=Qv b r 1 r.length;cases h:E6 r 45 1 r.length with|none=>rw[h]at E;refine J (J1 E) (J (J1 h) ?_);rfl|some k=>
rw[h]at E;refine J (JY E) (J (JY h) ?_);by_cases R:k+1=r.length;·refine J (Ap (by simp;exact qE ‹_›)) (J (Ap R) ?_);rfl
·refine J (Ab (by simp;exact qD ‹_›)) (J (Ab R) ?_);rfl
noncomputable def mg(v:U (U Z)):U (U Z):=Ec v (v.length-1)
theorem UG(c:U Z)(v:U (U Z))(k:Z):ER (c::v) (k+2)=c::ER v (k+1):=by
 unfold ER;refine J (show k+2-1=k+1 from rfl) (J (show k+1-1=k from rfl) (J I5 ?_));rewrite[I5];split<;>rfl
theorem UF(c:U Z):∀(k:Z)(v:U (U Z)),Ec (c::v) (k+1)=ER (c::Ec v k) 1:=by
 intro k;induction k with|zero=>intro v;exact rfl|succ k I=>intro v;refine(?_:Ec (ER (c::v) (k+2)) (k+1)=_);rewrite[UG];refine J (I _) rfl
theorem QY(c:U Z)(v:U (U Z))(h:v≠[]):mg (c::v)=ER (c::mg v) 1:=by
 cases v with|nil=>exact B8 rfl h|cons d r=>exact UF c r.length (d::r)
theorem KY(c d:U Z)(r:U (U Z)):ER (c::d::r) 1=if d.headD 0<c.getLastD 0 then(c.dropLast++d.drop 1)::r else c::d::r:=by
 have :=Kn [] c d r;simpa using this
noncomputable def NF(v:U (U Z)):U Z:=H6 [45] (v.map IG)
theorem Nb(x h:U Z)(t:U (U Z)):NF ((x++h)::t)=IG x++NF (h::t):=by
 unfold NF;cases t with|nil=>exact RT x h|cons d r=>refine(?_:IG (x++h)++[45]++H6 [45] ((d::r).map IG)=IG x++(IG h++[45]++H6 [45] ((d::r).map IG)));refine J (RT _ _) ?_;simp only[Bw]
theorem Ze(c d:U Z)(t:U (U Z)):NF (c::d::t)=IG c++[45]++NF (d::t):=rfl
theorem VT:∀(c:U Z)(r:U (U Z)),∃h t,mg (c::r)=h::t
|c,[]=>⟨c,[],rfl⟩|c,d::r=>by
 refine Eh (VT d r) λh t e=>J (QY c (d::r) (by simp)) (J e ?_);rewrite[KY];split<;>exact Io _ _ rfl
theorem MS(b:Z):∀v:U (U Z),(v.length=1\/v.headD []≠[])->mg (LD b v)=LD b (mg v)
|[],_=>rfl|[c],_=>rfl|c::d::r,h=>by
 have f:c≠[]:=by
  refine AC h (λh=>?_) λh=>h;·simp only[Ah]at h;exact(qC ‹_›).elim
 clear h;refine Eh (VT d r) λe t K=>(?_:mg ((b::c)::d::r)=_);refine J (QY (b::c) (d::r) (by simp)) (J (QY c (d::r) (by simp)) (J K ?_));rewrite[KY];rewrite[KY];have W:(b::c).getLastD 0=c.getLastD 0:=by cases(c)<;>simp at f⊢
 have C:(b::c).dropLast=b::c.dropLast:=by clear W;cases(c)<;>simp at f⊢
 refine J W ?_;split;·refine J C rfl
 ·rfl
theorem gM(r:U Z)(hr:r≠[]):(ch r 1).headD []≠[]:=by
 cases h:E6 r 45 1 r.length with|none=>refine J (J1 h) hr|some k=>
have E:=GQ h;refine J (JY h) ?_;split;·exact hr
· intro e;have :=Aq DF (show r.take k=[]from e);rw[Ci,BU]at this;exact DR E.1 ((Ck (BE E.2.1)).symm.trans this)
theorem d0:ch [] 1=[[]]:=J1 rfl
theorem cy(r:U Z):(ch r 1).length=1\/(ch r 1).headD []≠[]:=by
 cases r with|nil=>refine J d0 (.inl rfl)|cons a b=>exact .inr (gM _ (by simp))
theorem d1(l:U Z)(s:Z):∃c r,ch l s=c::r:=by
 cases h:E6 l 45 s l.length with|none=>refine J (J1 h) (Io _ _ rfl)|some k=>refine J (JY h) ?_;split<;>exact Io _ _ rfl
theorem MW(t:U Z):Gj t=AO↔∃b r,t=45::b::r:=by
 match t with
 |[]=>simp[Vh]|[x]=>simp[Vg]|x::y::r=>
    by_cases h:x=45;·simp[Pw,h]
    · constructor;·intro q;simp[Pw,h]at q
      ·intro s;refine Eh s λb G e=>?_;clear s;refine kO e ?_;clear e;intro Q i;induction Q using Tb;refine kO i ?_;clear i;intro Q i;induction Q using EC;induction i using EC;exact B8 rfl h
theorem gN(a x:Z)(t:U Z)(D:x≠45):ch (a::x::t) 1=LD a (ch (x::t) 1):=by
 have E:E6 (a::x::t) 45 1 (a::x::t).length=(E6 (x::t) 45 1 (x::t).length).map (·+1):=by
  refine J (Mp (by simpa using D)) (Qv a (x::t) 1 (x::t).length)
 cases h:E6 (x::t) 45 1 (x::t).length with|none=>rw[h]at E;refine J (J1 E) (J (J1 h) ?_);rfl|some k=>
  rw[h]at E;refine J (JY E) (J (JY h) ?_);by_cases R:k+1=(x::t).length;·refine J (Ap (by simp at R⊢;exact qA ‹_›)) (J (Ap R) ?_);rfl
  ·refine J (Ab (by simp at R⊢;exact q9 ‹_›)) (J (Ab R) ?_);rfl
theorem cx(a b:Z)(r:U Z):ch (a::45::b::r) 1=[a]::LD b (ch r 1):=by
 have E:E6 (a::45::b::r) 45 1 (a::45::b::r).length=B 1:=PF (by simp) rfl;refine J (JY E) (J (Ab (by simp)) (CS (YO _ _) ?_));rfl
theorem Mm:∀(n:Z)(l:U Z),l.length<=n->NF (mg (ch l 1))=SR (Ho l)
|_,[],_=>by refine J d0 rfl|_,[a],_=>by
    have :ch [a] 1=[[a]]:=J1 (OD (by simp));refine J this (?_:IG [a]=SR [[a]]);refine J (Jy _) ?_;simp[SR,TY,PV]|0,a::x::t,h=>by simp at h|n+1,a::x::t,h=>by
    simp only[Ah]at h;by_cases D:x=45;· subst D;cases t with|nil=>
       have E:E6 [a,45] 45 1 [a,45].length=B 1:=PF (by simp) rfl;refine J (JY E) (J (Ap (show 1+1=[a,45].length from rfl)) ?_);have e:Ho [a,45]=[[a],[45]]:=by rfl
       refine(?_:IG [a,45]=SR [[a],[45]]);refine J (Zn _ _) (J (Jy _) ?_);rfl|cons b r=>
       have I:=Mm n r (by simp at h;exact pH ‹_›);refine Eh (d1 r 1) λc v f=>Eh (VT c v) λS z K=>?_;rw[<-f]at K;have w:LD b (ch r 1)≠[]:=by refine J f (by intro W;exact di W)
       rw[K]at I;rewrite[cx];refine J (QY _ _ w) (J (MS b _ (cy r)) (J K ?_));rewrite[Ip];refine(?_:NF (ER ([a]::(b::S)::z) 1)=_);rewrite[KY];by_cases Y:a<=b;· refine J (Ab (by simp;exact z2 ‹_›)) (J (Ap Y) ?_);rewrite[Ze];refine J (show b::S=[b]++S from rfl) ?_;rewrite[Nb];refine J I (J (Jy _) (J (Jy _) ?_));simp[SR,TY,PV]
       ·refine J (Ap (by simp;exact q8 ‹_›)) (J (Ab Y) I)
    · have I:=Mm n (x::t) (by simp;exact lh ‹_›);have hr:Gj (x::t)=AD:=by
       refine Iz G6 λq=>?_;clear h I;refine Eh ((MW _).mp q) λb r e=>?_;clear q;refine kO e ?_;clear e;intro Q i;induction Q using Tb;induction i using Tb;exact D rfl
      refine Eh (d1 (x::t) 1) λc v f=>Eh (VT c v) λS z K=>?_;rw[<-f]at K;rw[K]at I;refine J (gN a x t D) (J (MS a _ (cy _)) (J K (J (L9 a _ hr) (?_:NF (([a]++S)::z)=_))));rewrite[Nb];refine J I (J (Jy _) ?_);rfl
theorem ZI(w l:U Z)(h:45∉l):Fh 45 w l=l:=by
 induction l with|nil=>rfl|cons a r I=>have W:a≠45:=λe=>h (e▸AQ);have C:=I λq=>h (AU _ q);refine(?_:(if a=45 then w else[a])++Fh 45 w r=a::r);refine J (Ab W) (J C ?_);rfl
noncomputable def Oz(b:U Z):U Z:=if b.headD 0==33 then b.drop 1 else b
noncomputable def Ox(b:U Z):U Z:=if b.headD 0==33 then[33]else[]
theorem ZD(b:U Z)(hb:b≠[]):Fo b=Ox b++SR (Ho (Oz b)):=by
 have W:Fo b=NF (mg (ch b (CO b))):=by
    unfold Fo;split
    · rename_i h;have p:45∉b:=λq=>by rw[MF]at h;have :=SN.mp h 45 q;simp at this
      have E:E6 b 45 (CO b) b.length=AJ:=by
       cases E:E6 b 45 (CO b) b.length with|none=>rfl|some k=>exact B8 (By (GQ E).2.2) p
      refine J (J1 E) (?_:_=IG b);unfold IG;rewrite[ZI];rfl;intro q;refine AC (OA _ _ _ _ q) (λq=>(p q)) λq=>?_;·simp at q
    ·refine J ((XM _ b (AN _) hb) _ _) rfl
 refine J W ?_;unfold Ox Oz CO;clear W;cases b with|nil=>exact B8 rfl hb|cons a t=>
    by_cases h:a=33;· refine J h ?_;have e:((33::t).headD 0==33)=AO:=rfl;refine J (Ap e) (J (Ap e) (J (Ap e) (J (YO _ _) (J (MS _ _ (cy t)) (Eh (d1 t 1) λc v f=>Eh (VT c v) λS z K=>?_)))));rw[<-f]at K;have I:=Mm _ t (AN _);rw[K]at I⊢;refine(?_:NF (([33]++S)::z)=_);rewrite[Nb];refine J I (J (Jy _) ?_);rfl
    · have e:((a::t).headD 0==33)=AD:=by simpa using h
      refine J (Ab (by refine J e ?_;decide)) (J (Ab (by refine J e ?_;decide)) (J (Ab (by refine J e ?_;decide)) (Mm _ _ (AN _))))
end
section
noncomputable def ga(x:Z)(t:U Z):Prop:=(t=[x]/\x≠92)\/(t=[92,x]/\QG x=AD)
theorem Qz{x:Z}{t:U Z}(h:ga x t)(r:U Z):NA (t++r)=B (x,AD,r):=by
 refine AC h (λX=>?_) λX=>?_;·clear h;refine Aa X λe h=>?_;clear X;subst e;exact KX h r
 ·clear h;refine Aa X λe h=>?_;clear X;subst e;refine(?_:B (x,QG x,r)=_);refine J h rfl
theorem RZ{x:Z}{t:U Z}(h:ga x t):t≠[]:=by focus(refine AC h ?_ ?_;rotate_left;(focus(clear h;intro X;refine Aa X λD M=>?_;clear X;subst D));rotate_right;(focus(clear h;intro X;refine Aa X λD M=>?_;clear X;subst D)))<;>simp
inductive MT:BC->U Mem->U Z->Prop|nil:MT AD [] []|one{first:BC}{a:Z}{ta:U Z}{ms:U Mem}{t:U Z}:ga a ta->(first=AD->ta.headD 0≠45/\ta.headD 0≠93)->MT AD ms t->MT first ([a]::ms) (ta++t)|two{first:BC}{a b:Z}{ta tb:U Z}{ms:U Mem}{t:U Z}:ga a ta->(first=AD->ta.headD 0≠45/\ta.headD 0≠93)->ga b tb->tb.headD 0≠45->tb.headD 0≠93->a<=b->MT AD ms t->MT first ([a,45,b]::ms) (ta++45::(tb++t))
theorem MT.up{A:U Mem}{t:U Z}(h:MT AD A t)(w:A≠[]):MT AO A t:=by
 cases h with|nil=>exact B8 rfl w|one W C T=>exact .one W (λh=>NI h) T|two W C T F y P k=>exact .two W (λh=>NI h) T F y P k
theorem PT{t r:U Z}(h:t≠[]):(t++r).headD 0=t.headD 0:=by cases(t)<;>simp at h⊢
theorem MT.head{A:U Mem}{t:U Z}(h:MT AD A t)(R:U Z):(t++93::R).headD 0≠45:=by
 cases h with|nil=>refine(?_:(93:Z)≠45);decide|one W C T=>rewrite[Bw];refine J (PT (RZ W)) ((C rfl).1)|two W C T F y P k=>rewrite[Bw];refine J (PT (RZ W)) ((C rfl).1)
theorem RE{l:U Z}{x:Z}{o:BC}{r:U Z}(h:NA l=B (x,o,r)):NC l=Y3 x o r:=by unfold NC;refine J h rfl
theorem ZV{a:Z}{m R:U Z}(h:ga a m)(w:R≠[])(T:R.headD 0≠45):NC (m++R)=B ([a],AD,R):=by
 refine(RE (Qz h R)).trans ?_;cases R with|nil=>exact B8 rfl w|cons y t=>exact Ab λq=>T q.1
theorem ZU{a b:Z}{m G R:U Z}(h:ga a m)(C:ga b G)(hb:G.headD 0≠93)(Y:a<=b):NC (m++45::(G++R))=B ([a,45,b],AD,R):=by
 have u:(G++R).head?≠B 93:=λq=>by
  cases G with|nil=>exact RZ C rfl|cons z t=>exact hb (Af q)
 refine(RE (Qz h _)).trans ((Ap ⟨rfl,u⟩).trans ?_);refine J (Qz C R) (?_:B ([a,45,b],B9 (b<a),R)=_);refine J (Kd (LR.mpr Y)) rfl
theorem OI(R:U Z):∀{d:BC}{A:U Mem}{t:U Z},MT d A t->GR d (t++93::R)=B (A,AD,R):=by
 intro d A t h;induction h with
 |nil=>exact NB _ _ rfl|@one d a m A t W C T I=>
rewrite[Bw];obtain⟨z,j,rfl⟩:∃z j,m=z::j:=by
 clear C;cases m with|nil=>exact B8 rfl (RZ W)|cons z j=>exact Io z j rfl
have K:=ZV W (by simp) (T.head R);rw[Dw]at K⊢;rewrite[Jv];refine J K ?_;· refine(?_:Es _ _=_);refine J I ?_;rfl
·cases d with|true=>exact .inl rfl|false=>exact .inr (C rfl).2
 |@two d a b m G A t W C T F y P k I=>
rewrite[Bw];refine J Dw ?_;rewrite[Bw];obtain⟨z,j,rfl⟩:∃z j,m=z::j:=by
 clear C;cases m with|nil=>exact B8 rfl (RZ W)|cons z j=>exact Io z j rfl
have K:=ZU (R:=t++93::R) W T y P;rw[Dw]at K⊢;rewrite[Jv];refine J K ?_;· refine(?_:Es _ _=_);refine J I ?_;rfl
·cases d with|true=>exact .inl rfl|false=>exact .inr (C rfl).2
theorem MT.empty{A:U Mem}{t:U Z}{d:BC}(h:MT d A t)(e:t=[]):A=[]:=by
 cases h with|nil=>rfl|one W _ _=>exact B8 (aW.mp e).1 (RZ W)|two W _ _ _ _ _ _=>exact B8 (aW.mp e).1 (RZ W)
noncomputable def em(x:Z):U Z:=Gg (PU x)
theorem Vu(x:Z):ga x (em x)/\(em x).headD 0≠45/\(x≠93->(em x).headD 0≠93):=by
  unfold em PU;by_cases h:x=92;·subst h;exact Cf (.inr ⟨rfl,rfl⟩) (by decide) (by decide)
  · refine J (Ab h) ?_;by_cases C:x=45;·subst C;exact Cf (.inr ⟨rfl,rfl⟩) (by decide) (by decide)
    · refine J (Ab C) ?_;have e:Gg [x]=if Rx.sp x=AO then[92,x]else[x]:=by simp[Gg]
      refine J e ?_;clear e;split;· rename_i L;refine Cf (.inr ⟨rfl,?_⟩) (show(92:Z)≠45 by decide) (λM=>(show(92:Z)≠93 by decide));unfold Rx.sp at L;simp only[FI,BG]at L;clear h C;rcases L with(rfl|rfl)|rfl<;>rfl
      ·exact Cf (.inl ⟨rfl,h⟩) C (λq=>q)
noncomputable def Gy(A:U Mem):U Z:=Gg (SR A)
theorem QU(a:Z)(A:U Mem):Gy ([a]::A)=em a++Gy A:=by
 refine CS (G9 _ _) rfl
theorem Tv(a b:Z)(A:U Mem):Gy ([a,45,b]::A)=em a++45::(em b++Gy A):=by
 have e:SR ([a,45,b]::A)=PU a++([45]++(PU b++SR A)):=by simp[SR,PV]
 unfold Gy em;refine J e (J (G9 _ _) (J (G9 _ _) (J (G9 _ _) ?_)));rfl
theorem QZ:∀(n:Z)(l:U Z),l.length<=n->(∀x∈l,x≠93)->MT AD (Ho l) (Gy (Ho l))
|_,[],_,_=>.nil|_,[a],_,h=>by
    have P:=Vu a;refine J (show Ho [a]=[[a]]from rfl) (J (QU _ _) (.one P.1 (λM=>⟨P.2.1,P.2.2 (h a AQ)⟩) .nil))|0,a::x::t,g,_=>by simp at g|n+1,a::x::t,g,h=>by
    simp only[Ah]at g;have P:=Vu a;by_cases hr:Gj (x::t)=AO
    · refine Eh ((MW _).mp hr) λb r e=>?_;clear hr;refine kO e ?_;clear e;intro Q i;induction Q using Tb;induction i using Tb;have I:=QZ n r (by simp at g;exact pH ‹_›) λy c=>h y (by simp[c]);have hb:=Vu b;rewrite[Ip];split;· rename_i Y;rewrite[Tv];exact .two P.1 (λM=>⟨P.2.1,P.2.2 (h a AQ)⟩) hb.1 hb.2.1 (hb.2.2 (h b (by simp))) Y I
      ·exact I
    · have I:=QZ n (x::t) (by simp;exact lh ‹_›) λy c=>h y (AU _ c);refine J (L9 a _ (by simpa using hr)) (J (QU _ _) (.one P.1 (λM=>⟨P.2.1,P.2.2 (h a AQ)⟩) I))
theorem bq(a:Z)(t:U Z)(h:∀x∈t,x≠93)(w:Ho (a::t)≠[]):MT AO (Ho (a::t)) (Gy (Ho (a::t))):=by
  have c:=Vu a;by_cases hr:Gj t=AO
  · refine Eh ((MW _).mp hr) λb r P=>?_;subst P;have I:=QZ _ r (AN _) λy d=>h y (by simp[d]);have hb:=Vu b;rw[Ip]at w⊢;by_cases Y:a<=b;· refine J (Ap Y) ?_;rewrite[Tv];exact .two c.1 (λq=>NI q) hb.1 hb.2.1 (hb.2.2 (h b (by simp))) Y I
    · rw[Ab Y]at w⊢;exact I.up w
  · have I:=QZ _ t (AN _) h;refine J (L9 a _ (by simpa using hr)) (J (QU _ _) (.one c.1 (λq=>NI q) I))
end
section
theorem Wn(b:U Z)(hb:b≠[]):Gf b=JK (Ox b++Gy (Ho (Oz b))):=by
 unfold Gf;refine J (ZD b hb) (J (G9 _ _) ?_);congr 2;unfold Ox;split<;>rfl
theorem Md{A:U Mem}{T:U Z}(h:MT AO A T)(R:U Z):HJ (94::(T++93::R))=B (⟨AO,A⟩,AD,R):=by
 refine(?_:Es _ (GR AO (T++93::R))=_);refine J (OI R h) rfl
theorem Rh{A:U Mem}{T:U Z}(h:MT AO A T)(w:T≠[])(a:T.headD 0≠94)(R:U Z):HJ (T++93::R)=B (⟨AD,A⟩,AD,R):=by
 have K:=OI R h;clear h;cases T with|nil=>exact B8 rfl w|cons c t=>have f:c≠94:=a;refine(?_:Es _ (GR AO (oJ (c=94) _ _))=_);refine J (Ab f) ((Aq _ K).trans (?_:B (Cl.mk (c==94) A,_)=_));refine J (BD.mpr f) rfl
inductive YW(b:U Z):Prop|never:Gf b=[40,63,33,41]->I7 b=⟨AD,[]⟩->YW b|any:Gf b=[46]->I7 b=⟨AO,[]⟩->YW b|cls(u:U Z):Gf b=91::(u++[93])->(∀rest,HJ (u++93::rest)=B (I7 b,AD,rest))->YW b
theorem Wd{A:U Mem}{d:BC}{t:U Z}(h:MT d A t)(w:A≠[]):t≠[]:=λe=>w (h.empty e)
theorem iw(b:U Z)(a:Z)(t:U Z)(hb:b≠[])(r:Oz b=a::t)(i:∀x∈t,x≠93):YW b:=by
  have V:=Wn b hb;rw[r]at V;have u:=bq a t i;have j:I7 b=if(b.headD 0==33)=AD/\Ho (a::t)≠[]/\((Ho (a::t)).headD []).headD 0=33 then⟨AO,(((Ho (a::t)).headD []).drop 1).map (λx=>[x])++(Ho (a::t)).drop 1⟩else⟨b.headD 0==33,Ho (a::t)⟩:=by
    refine CS r ?_;rfl
  generalize Ho (a::t)=A at V u j;by_cases v:(b.headD 0==33)=AO;·
    have L:Ox b=[33]:=Ap v;have f:I7 b=⟨AO,A⟩:=by refine J j (J (Ab (by refine J v ?_;simp)) (J v ?_));rfl
    rw[L]at V;clear j;by_cases Y:A=[];· clear u;subst Y;have e:Gy []=[]:=rfl;exact .any V f
    · have K:=u Y;have w:=Wd K Y;refine .cls (94::Gy A) ?_ λR=>?_;· refine J V ?_;unfold JK;refine J (Ab (by simp)) (J (Ab (by simpa using w)) (J (Ap (by rfl)) ?_));rfl
      ·refine J Dw (J (Md K R) (J f ?_));rfl
  · have v:(b.headD 0==33)=AD:=by simpa using v
    have L:Ox b=[]:=Ab (by refine J v ?_;decide);rw[L,Fz]at V;by_cases Y:A=[]
    · clear u;subst Y;have f:I7 b=⟨AD,[]⟩:=by refine J j (J (Ab (λh=>B8 rfl h.2.1)) (J v ?_));rfl
      have e:Gy []=[]:=rfl;exact .never V f
    · have K:=u Y;have w:=Wd K Y;clear u Y;by_cases I:(Gy A).headD 0=33;·
        generalize s:Gy A=tx at K w I V
        clear s w;cases K with|@one _ g m c n W C T=>
          have o:m=[33]/\g=33:=by
            clear C V;focus(refine AC W ?_ ?_;rotate_left;(focus(clear W;intro X;refine Aa X λD M=>?_;clear X;subst D));rotate_right;(focus(clear W;intro X;refine Aa X λD M=>?_;clear X;subst D)))
            · have :g=33:=I;refine J this ⟨rfl,rfl⟩
            · have :(92:Z)=33:=I;exact(lc ‹_›).elim
          clear W C I;refine Aa o λD z=>?_;clear o;subst D;subst z;have f:I7 b=⟨AO,c⟩:=by
            refine J j (J (Ap ⟨v,by simp,rfl⟩) ?_);rfl
          clear j;by_cases d:c=[]
          · subst d;have :n=[]:=by
              clear V;cases T with|nil=>rfl
            clear T;subst this;refine .any ?_ f;refine J V rfl
          · have l:=T.up d;have S:=Wd l d;refine .cls (94::n) ?_ λR=>?_;· refine J V ?_;unfold JK;refine J (Ab (by simp)) (J (Ab (by simpa using S)) (J (Ap (by rfl)) ?_));rfl
            ·refine J Dw (J (Md l R) (J f ?_));rfl|@two _ g b' m G c n W C T F y P k=>
          have o:m=[33]/\g=33:=by
            clear C V;focus(refine AC W ?_ ?_;rotate_left;(focus(clear W;intro X;refine Aa X λD M=>?_;clear X;subst D));rotate_right;(focus(clear W;intro X;refine Aa X λD M=>?_;clear X;subst D)))
            · have :g=33:=I;refine J this ⟨rfl,rfl⟩
            · have :(92:Z)=33:=I;exact(lc ‹_›).elim
          clear W P C I;refine Aa o λD z=>?_;clear o;subst D;subst z;have f:I7 b=⟨AO,[45]::[b']::c⟩:=by
            refine J j (J (Ap ⟨v,by simp,rfl⟩) ?_);rfl
          have l:MT AO ([45]::[b']::c) ([45]++(G++n)):=.one (.inl ⟨rfl,by decide⟩) (λh=>NI h) (.one T (λM=>⟨F,y⟩) k);refine .cls (94::([45]++(G++n))) ?_ λR=>?_;· refine J V ?_;unfold JK;refine J (Ab (by simp)) (J (Ab (by simp)) (J (Ap (by rfl)) ?_));rfl
          ·refine J Dw (J (Md l R) (J f ?_));rfl
      · have E:¬((A.headD []).headD 0=33):=by
          intro q;apply I;generalize s:Gy A=tx at K;clear V j w I;cases K with|@one _ g m c n W C T=>have :g=33:=q;clear W q;subst this;refine CS s (J (QU _ _) ?_);rfl|@two _ g b' m G c n W C T F y P k=>have :g=33:=q;clear W P q;subst this;refine CS s ?_;rewrite[Tv];rfl
        have f:I7 b=⟨AD,A⟩:=by refine J j (J (Ab (λq=>E q.2.2)) (J v ?_));rfl
        have he:(Gy A).isEmpty=AD:=by cases h:Gy A<;>simp[h]at w⊢
        have H:¬((Gy A==[33])=AO):=by
          intro q;rw[BG.mp q]at I;exact I rfl
        have N:=BD.mpr I;clear j I E;by_cases Q:(Gy A).headD 0=94\/(Gy A).headD 0=91
        · have l:MT AO A (92::Gy A):=by
            generalize Gy A=tx at K Q
            clear V w f he H N;cases K with|@one _ g m c n W C T=>
              clear C;focus(refine AC W ?_ ?_;rotate_left;(focus(clear W;intro X;refine Aa X λD M=>?_;clear X;subst D));rotate_right;(focus(clear W;intro X;refine Aa X λD M=>?_;clear X;subst D)))
              · have p:QG g=AD:=by
                 refine AC Q (λh=>?_) λh=>?_;· clear Q;have  :=h;clear h;subst this;rfl
                 · clear Q;have  :=h;clear h;subst this;rfl
                exact .one (.inr ⟨rfl,p⟩) (λh=>NI h) T
              · refine AC Q (λh=>?_) λh=>?_;· have  :=h;exact(lb ‹_›).elim
                · have  :=h;exact(la ‹_›).elim|@two _ g b' m G c n W C T F y P k=>
              clear C;focus(refine AC W ?_ ?_;rotate_left;(focus(clear W;intro X;refine Aa X λD M=>?_;clear X;subst D));rotate_right;(focus(clear W;intro X;refine Aa X λD M=>?_;clear X;subst D)))
              · have p:QG g=AD:=by
                 clear P;focus(refine AC Q ?_ ?_;rotate_left;(focus(clear Q;intro h));rotate_right;(focus(clear Q;intro h)))
                 · have  :=h;clear h;subst this;rfl
                 · have  :=h;clear h;subst this;rfl
                exact .two (.inr ⟨rfl,p⟩) (λh=>NI h) T F y P k
              · refine AC Q (λh=>?_) λh=>?_;· have  :=h;exact(lb ‹_›).elim
                · have  :=h;exact(la ‹_›).elim
          refine .cls (92::Gy A) ?_ λR=>?_;· refine J V ?_;unfold JK;refine J (Ab (by refine J he ?_;decide)) (J (Ab H) (J (Ab (by refine J N ?_;decide)) (J (Ap (by focus(refine AC Q ?_ ?_;rotate_left;(focus(intro h));rotate_right;(focus(intro h)))<;>(refine J h ?_;rfl))) ?_)));rfl
          ·refine J (Rh l (by simp) (show(92:Z)≠94 by decide) R) (J f ?_);rfl
        · refine .cls (Gy A) ?_ λR=>?_;· refine J V ?_;unfold JK;refine J (Ab (by refine J he ?_;decide)) (J (Ab H) (J (Ab (by refine J N ?_;decide)) (J (Ab (by
              intro q;apply Q;simpa using q)) ?_)));simp
          ·refine J (Rh K w (λq=>Q (.inl q)) R) (J f ?_);rfl
end
section
noncomputable def kP(t:U Z)(b:Cl):Prop:=t≠[]/\t.headD 0≠42/\∀R done j s i,3<=R.length->R.headD 0≠42->Cs (t++R) done j s i=Cs R done (j++[b]) s i
theorem bF{c:Z}(h:FU.contains c=AD):kP [c] ⟨AD,[[c]]⟩:=by
 have p:∀x,x∈FU->c≠x:=λx D e=>by
  rw[e]at h;rw[MF]at h;have :=SN.mp h x D;simp at this
 have t:=p 40 (by decide);have g:=p 41 (by decide);have a:=p 46 (by decide);have l:=p 91 (by decide);have m:=p 92 (by decide);have k:VO.contains c=AD:=by
  refine J MF (Iz SN ?_);intro x D;have :x∈FU:=by
   simp only[VO,Ae,Dv,JA]at D;focus(refine AC D ?_ ?_;rotate_left;(focus(clear D;intro X;focus(refine AC X ?_ ?_;rotate_left;(focus(clear X;intro X;focus(refine AC X ?_ ?_;rotate_left;(focus(clear X;intro X;focus(refine AC X ?_ ?_;rotate_left;(focus(clear X;intro X;focus(refine AC X ?_ ?_;rotate_left;(focus(clear X;intro X;focus(refine AC X ?_ ?_;rotate_left;(focus(clear X;intro X;focus(refine AC X ?_ ?_;rotate_left;(focus(clear X;intro X;focus(refine AC X ?_ ?_;rotate_left;(focus(clear X;intro X;focus(refine AC X ?_ ?_;rotate_left;(focus(clear X;intro X;subst X));rotate_right;(focus(clear X;intro X;subst X)))));rotate_right;(focus(clear X;intro X;subst X)))));rotate_right;(focus(clear X;intro X;subst X)))));rotate_right;(focus(clear X;intro X;subst X)))));rotate_right;(focus(clear X;intro X;subst X)))));rotate_right;(focus(clear X;intro X;subst X)))));rotate_right;(focus(clear X;intro X;subst X)))));rotate_right;(focus(clear X;intro X;subst X)))));rotate_right;(focus(clear D;intro X;subst X)))<;>decide
  have :=p x this;simp[this]
 refine Cf (by simp) (p 42 (by decide)) (λR done j s i hr d=>?_);refine(?_:Cs (c::R) done j s i=_);have f:∀{x:Z}(b:BC),c≠x->¬(c==x&&b)=AO:=λb h=>by refine J (nX h) λW=>J2 W
 refine(GA hr done j s i).trans ((Ab (f _ t)).trans ((Ab (f _ g)).trans ((Ab (f _ a)).trans ((Ab (f _ t)).trans ((Ab λq=>a (Fe q)).trans ((Ab λq=>l (Fe q)).trans ((Ab (f _ m)).trans ?_)))))));refine J k (J BC.not_false (J (KJ _) ?_));rfl
theorem bH{c:Z}(h:FU.contains c=AO):kP [92,c] ⟨AD,[[c]]⟩:=by
 have p:=by
  have :∀x∈FU,QG x=AD:=by decide
  exact this c (by simpa using h)
 refine Cf (by simp) (show(92:Z)≠42 by decide) (λR done j s i hr d=>?_);have a:=p;refine(GA (t:=c::R) (Cm hr) done j s i).trans (?_:rf7 92 (c::R) done j s i=_);exact Ap (by refine J a ?_;rfl)
theorem bI:kP [46] ⟨AO,[]⟩:=by
 refine Cf (by decide) (show(46:Z)≠42 by decide) (λR done j s i hr d=>?_);refine(GA hr done j s i).trans (?_:rf3 46 R done j s i=_);exact(Ab (by refine J (nX d) λW=>J2 W)).trans rfl
theorem bG:kP [40,63,33,41] ⟨AD,[]⟩:=by
 refine Cf (by decide) (show(40:Z)≠42 by decide) (λR done j s i hr d=>?_);exact GA (t:=63::33::41::R) (Bp 3 R.length) done j s i
theorem iz{u:U Z}{b:Cl}(h:∀R,HJ (u++93::R)=B (b,AD,R)):kP (91::(u++[93])) b:=by
 refine Cf (by simp) (show(91:Z)≠42 by decide) (λR done j s i hr d=>?_);have e:(91::(u++[93]))++R=91::(u++93::R):=by refine J Dw ?_;rewrite[Bw];rfl
 refine J e ((GA (by refine J AZ (J Ah (pP ‹_›))) done j s i).trans (?_:(HJ (u++93::R)).bind _=_));refine J (h R) (?_:Cs R done (j++[b]) (s&&AO) i=_);refine J (KJ _) ?_;rfl
inductive PR:U (AX (U Z))->U It->Prop|nil:PR [] []|star{ps:U (AX (U Z))}{is:U It}:PR ps is->PR (AJ::ps) (AJ::is)|item{t:U Z}{cl:Cl}{ps:U (AX (U Z))}{is:U It}:kP t cl->PR ps is->PR (B t::ps) (B cl::is)
noncomputable def cz:BC->U It->U It|_,[]=>[]|_,B c::r=>B c::cz AD r|AD,AJ::r=>AJ::cz AO r|AO,AJ::r=>cz AO r
noncomputable def sp:U It->U (U Cl)|[]=>[[]]|B c::r=>(c::(sp r).headD [])::(sp r).tail|AJ::r=>[]::sp r
theorem Mo:∀(items:U It)(star:BC),Df star items=sp (cz star items)
|[],star=>by rfl|B c::r,star=>by
 have e:cz star (B c::r)=B c::cz AD r:=by rfl
 have I:Df star (B c::r)=(c::(Df AD r).headD [])::(Df AD r).tail:=by rfl
 refine J e (J I (J (Mo r AD) ?_));rfl|AJ::r,AD=>by
 refine(?_:[]::Df AO r=_);refine J (Mo r AO) ?_;rfl|AJ::r,AO=>Mo r AO
theorem XJ{R:U Z}{e:Z}(h:DL R=B e):∃a t,Oz (R.take e)=a::t/\∀x∈t,x≠93:=by
 have u:=Hp h;unfold DL at h;have E:=GQ h;have j:∀i,(if R.headD 0==33 then 2 else 1)<=i->i<e->R[i]?≠B 93:=by
    intro i W C q;unfold E6 at h;rw[U.find?_eq_some_iff_append]at h;refine Aa h λM G=>Au G λg l T F=>?_;have b:=JD.mpr ⟨W,by exact sf ‹_› ‹_›⟩;have L:(Lz (if R.headD 0==33 then 2 else 1) (R.length-if R.headD 0==33 then 2 else 1)).Pairwise (·<·):=U.pairwise_lt_range';rw[T]at b L;refine AC (Ai.mp b) (λy=>?_) λy=>?_;· have :=F i y;simp[q]at this
    · refine AC (Ae.mp y) (λP=>(se ‹_› ‹_›)) λP=>?_;·have :=(Gu.mp (U.pairwise_append.mp L).2.1).1 i P;exact sd ‹_› ‹_›
 cases R with|nil=>simp at u|cons c r=>
    have k:((c::r).take e).headD 0=c:=by
      clear h E j;cases e with|zero=>exact z139 ‹_›|succ e=>rfl
    unfold Oz;refine J k ?_;by_cases f:(c==33)=AO;· have d:((c::r).headD 0==33)=AO:=f;refine J (Ap f) ?_;rw[Ap d]at E j;clear h k d;obtain⟨I,rfl⟩:∃I,e=I+2:=⟨e-2,(Eu E.1).symm⟩;clear E;cases r with|nil=>simp at u|cons a t=>
     refine FK a (t.take I) rfl (λx D q=>?_);subst q;refine Aw (O0.mp D) λi hi=>?_;rw[Ib]at hi;split at hi;·exact j (i+2) (by exact pM) (by exact sa ‹_›) hi
     ·exact Eb hi
    · have d:¬((c::r).headD 0==33)=AO:=f;refine J (Ab f) ?_;rw[Ab d]at E j;obtain⟨I,rfl⟩:∃I,e=I+1:=⟨e-1,by exact sZ ‹_›⟩;refine FK c (r.take I) rfl (λx D q=>?_);subst q;refine Aw (O0.mp D) λi hi=>?_;rw[Ib]at hi;split at hi;·exact j (i+1) (by exact z5) (by exact sY ‹_›) hi
      ·exact Eb hi
theorem bR:∀(n:Z)(l:U Z),l.length<=n->∀star,PR (Cb star l) (cz star (CY l)):=by
 intro n;induction n with
 |zero=>intro m;cases m with|nil=>intro M star;rewrite[Eg];rewrite[H7];cases(star)<;>exact .nil|cons _ _=>intro d;exact B8 d (F1 _)
 |succ n I=>intro m;cases m with|nil=>intro M star;rewrite[Eg];rewrite[H7];cases(star)<;>exact .nil|cons c R=>
      intro g star;simp only[Ah]at g;by_cases W:c=42;· subst W;refine J (HM _ _) (J (JV _) ?_);have I:=I R (by exact z0 ‹_›) AO;cases star with|true=>exact I|false=>exact .star I
      · have h:∀(b:Cl)(r:U It),cz star (B b::r)=B b::cz AD r:=λb r=>rfl;by_cases C:c=63;· subst C;refine J (Hu _ _) (J (Ka _) (J (h _ _) (.item bI (I R (by exact z0 ‹_›) AD))))
        · by_cases T:c=91;· clear W C;subst T;cases f:DL R with
    |some e=>
have j:=Hp f;refine J (Ht _ _ _ f) (J (KZ _ _ f) (J (h _ _) (.item ?_ (I (R.drop (e+1)) (by simp;exact iU ‹_›) AD))));refine Au (XJ f) λa t hb i=>?_;have w:R.take e≠[]:=λq=>by
 have :=Aq DF q;rw[Ci,BU]at this;exact z73 ‹_› ‹_›
cases iw (R.take e) a t w hb i with|never p q=>refine J p (J q bG)|any p q=>refine J p (J q bI)|cls u p q=>refine J p (iz q)
    |none=>refine J (HN _ _ f) (J (HP 91 R (by decide) (by decide) (λM=>f)) (J (h _ _) (.item (bH (rfl)) (I R (by exact z0 ‹_›) AD))))
          · refine J (HO _ _ _ W C T) (J (HP c R W C (λq=>B8 q T)) (J (h _ _) (.item ?_ (I R (by exact z0 ‹_›) AD))));unfold Hh;cases L:FU.contains c with|true=>exact bH L|false=>exact bF L
end
section
noncomputable def kM(is:U It):U Cl:=eR (motive:=λM=>U Cl) [] (λo M I=>D1 o [] λl=>l::I) is
noncomputable def W5(is:U It):U It:=eR (motive:=λM=>U It) [] (λo r I=>D1 o (AJ::r) λM=>I) is
theorem V9(r:U It):kM (AJ::r)=[]:=rfl
theorem ah(l:Cl)(r:U It):kM (B l::r)=l::kM r:=rfl
theorem Xl:kM []=[]:=rfl
theorem ax:∀is:U It,sp is=kM is::(match W5 is with|AJ::r=>sp r|_=>[])
|[]=>rfl|B c::r=>by
 have I:=ax r;refine(?_:(c::(sp r).headD [])::(sp r).tail=_);refine J I rfl|AJ::r=>rfl
theorem PR.behind{ps:U (AX (U Z))}{is:U It}(h:PR ps is):PR (DC ps) (W5 is):=by
 induction h with|nil=>exact .nil|star h _=>exact .star h|item _ _ I=>exact I
theorem fy{ps:U (AX (U Z))}{is:U It}(h:PR ps is)(R:U Z)(T:R.headD 0≠42):((F5 ps).flatten++R).headD 0≠42:=by
 cases h with|nil=>exact T|star _=>exact T|@item t b ps is W C=>refine(?_:(((t::F5 ps).flatten)++R).headD 0≠42);refine J Ba ?_;rewrite[Bw];refine J (PT W.1) (W.2.1)
theorem QV{ps:U (AX (U Z))}{is:U It}(h:PR ps is):∀(R:U Z)done j s i,3<=R.length->R.headD 0≠42->Cs ((F5 ps).flatten++R) done j s i=Cs R done (j++kM is) s i:=by
 induction h with|nil=>intro R done j s i M M;simp[PA,Qp,V9,Xl]|star _ _=>intro R done j s i M M;simp[PA,Qp,V9,Xl]|@item t b ps is W C I=>intro R done j s i g d;refine(?_:Cs ((t::F5 ps).flatten++R) done j s i=_);refine J Ba ?_;rewrite[Bw];refine J (W.2.2 _ _ _ _ _ (by simp;exact sX ‹_›) (fy C R d)) (J (I R _ _ _ _ g d) ?_);simp[ah]
noncomputable def HW:U Z:=[41,92,90]
theorem VG(done:U (U Cl))(j:U Cl)(s i:BC):Cs HW done j s i=B (done++[j],s,i):=OC (by decide) done j s i
theorem T6(r:U (AX (U Z))):((CL (AJ::r)).take 2=[46,42]\/(CL (AJ::r)).take 3=[40,63,62])/\3<=(CL (AJ::r)++HW).length:=by
 rewrite[GN];split;·exact⟨.inl rfl,by simp[HW]⟩
 ·exact⟨.inr rfl,by simp[HW]⟩
theorem TD:∀(n:Z)(ps:U (AX (U Z)))(is:U It),ps.length<=n->PR ps is->∀done j s,Cs (CL (AJ::ps)++HW) done j s AD=B (done++[j]++sp is,s,AD)
|n,ps,is,p,h,done,j,s=>by
    rewrite[GN];refine J (ax _) ?_;have hb:=h.behind;have x:=Nd ps;refine AC (J8 ps) (λm=>?_) λX=>?_
    · refine J (Ap (by refine J m ?_;rfl)) ?_;rw[m]at hb;have hi:W5 is=[]:=by cases u:W5 is<;>rw[u]at hb<;>cases(hb)
      refine J hi (?_:Cs (46::42::((F5 ps).flatten++HW)) done j s AD=_);refine(GA (by simp[HW]) done j s AD).trans (?_:Cs ((F5 ps).flatten++HW) _ _ _ _=_);refine J (QV h HW _ _ _ _ (by decide) (by decide)) ?_;rewrite[VG];simp
    · refine Aw X λr m=>?_;have w:(DC ps).isEmpty=AD:=by refine J m ?_;rfl
      refine J (Ab (by refine J w ?_;decide)) (J m ?_);rw[m]at hb x;cases u:W5 is with|nil=>rw[u]at hb;cases(hb)|cons a c=>rw[u]at hb;clear u;cases hb with|star hb=>
      have l:=T6 r;have e:([40,63,62,46,42,63]++(F5 ps).flatten++[41]++CL (AJ::r))++HW=40::63::62::46::42::63::((F5 ps).flatten++41::(CL (AJ::r)++HW)):=by simp
      refine J e ((GA (Bp 3 _) done j s AD).trans (?_:Cs ((F5 ps).flatten++41::(CL (AJ::r)++HW)) _ _ _ _=_));refine J (QV h (41::(CL (AJ::r)++HW)) _ _ _ _ (Cm l.2) (show(41:Z)≠42 by decide)) ?_;have f:((CL (AJ::r)++HW).take 2==[46,42]||(CL (AJ::r)++HW).take 3==[40,63,62])=AO:=by
       rewrite[GN];split;·rfl
       ·rfl
      refine(GA l.2 _ _ _ _).trans (?_:rf2 41 _ _ _ _ _=_);refine(Ap (by refine J f ?_;rfl)).trans ?_;match n,p with|0,p=>simp only[Ah]at x;exact(sU ‹_› ‹_›).elim|n+1,p=>simp only[Ah]at x;rewrite[TD n r c (by exact sS ‹_› ‹_›) hb];simp
theorem U1(A:U Z):Oy (Ml A)=B (GO (CY A)):=by
 have E:=bR _ A (AN _) AD;unfold GO;refine J (Mo _ _) ?_;generalize cz AD (CY A)=is at E;unfold Ml;generalize Cb AD A=ps at E;have e:Hc ps=[40,63,115,58]++(((F5 ps).flatten++CL (DC ps))++HW):=by unfold Hc HW;simp
 unfold Oy;refine J e ?_;have hd:aE 4 ([40,63,115,58]++(((F5 ps).flatten++CL (DC ps))++HW))=(F5 ps).flatten++(CL (DC ps)++HW):=by
    refine(?_:((F5 ps).flatten++CL (DC ps))++HW=_);rewrite[Bw];rfl
 have i:(U.take 4 ([40,63,115,58]++(((F5 ps).flatten++CL (DC ps))++HW))++aE (([40,63,115,58]++(((F5 ps).flatten++CL (DC ps))++HW)).length-3) ([40,63,115,58]++(((F5 ps).flatten++CL (DC ps))++HW))==[40,63,115,58,41,92,90])=AO:=by
    have W:aE (([40,63,115,58]++(((F5 ps).flatten++CL (DC ps))++HW)).length-3) ([40,63,115,58]++(((F5 ps).flatten++CL (DC ps))++HW))=HW:=by
      rewrite[<-Bw];refine J (KR (by simp[HW];exact sW)) ?_;have :(([40,63,115,58]++((F5 ps).flatten++CL (DC ps)))++HW).length-3=([40,63,115,58]++((F5 ps).flatten++CL (DC ps))).length:=by simp[HW];exact sV
      refine J this (J U.drop_length ?_);rfl
    refine J W ?_;have C:U.take 4 ([40,63,115,58]++(((F5 ps).flatten++CL (DC ps))++HW))=[40,63,115,58]:=rfl;refine J C ?_;rfl
 refine J hd (J i ?_);have hb:=E.behind;have b:Cs ((F5 ps).flatten++(CL (DC ps)++HW)) [] [] AO AD=B (sp is,AO,AD):=by
    refine J (ax is) (AC (J8 ps) (λm=>?_) λX=>?_)
    · rw[m]at hb⊢;have hi:W5 is=[]:=by cases u:W5 is<;>rw[u]at hb<;>cases(hb)
      have L:CL []=[]:=by exact JT
      refine J hi (J L (J (Fz _) (J (QV E HW _ _ _ _ (by decide) (by decide)) ?_)));rewrite[VG];simp
    · refine Aw X λr m=>?_;rw[m]at hb⊢;cases u:W5 is with|nil=>rw[u]at hb;cases(hb)|cons a c=>rw[u]at hb;clear u;cases hb with|star hb=>
      have l:=T6 r;have d:(CL (AJ::r)++HW).headD 0≠42:=by
       rewrite[GN];split;·exact(show(46:Z)≠42 by decide)
       ·exact(show(40:Z)≠42 by decide)
      refine J (QV E _ _ _ _ _ l.2 d) ?_;rewrite[TD _ r c (AN _) hb];simp
 refine J b rfl
end
section
open PySem.W.X
theorem fJ{G:EJ}{vs:U AF}{ns:U O}(h:IntsAre vs ns):C3 G (zs ns) vs:=IntsAre.rec (motive:=λvs ns _=>C3 G (zs ns) vs) .nil (λn t{_ _}_ ih=>.cons (.int n t) ih) h
theorem bL(ns:U O):HE.row.claim.post [ofPy (.list (ns.map .int))] (.bool AO) [ofPy (.list (ns.map .int))]=AO:=by
 refine' postW_of ?s ?v ?e;case s=>rfl
 case v=>wtm_val
 case e=>w_fin
theorem final:HE.Holds:=holds_law iy λiy=>holds_openX (q:=q0) (loose:=X7) (Xt:=λ_=>AO) (XP:=λ_ _=>Nt) (Yf:=λs=>(pC s,s.toks)) (Ya:=λ_=>(g6,nat_lit 632)) (N:=4000) (d:=⟨"law",(E8 24).args,(E8 24).body,(E8 24).scope,⟨263,0,294,32⟩⟩) (kwd:=[]) lo (λ_ _=>Bl) (λ_ _ _ _ _=>Bl) (by kernel_rfl) (by kernel_rfl) (by kernel_rfl) (λ_ _=>recFacts_nil rfl) (by rfl) iy (by decide+kernel) ⟨rfl,rfl,rfl,rfl,rfl,by decide+kernel⟩ ⟨[.list (ofPys [])],by decide+kernel,by decide+kernel⟩ (by
  intro w s₀ s₁ mg mb G y fa o pm cd doc dV kV ho hd hcd hD hmg hg args vals as L hpre hlay hrd hwl hlo;wrow_args hpre hlay hrd hwl hlo;rename_i ns hs1 hlay0 hL1 hr1 hl2 as1 as2 a vs as3 hL ra ww r0 hI hr hc1 hc2;have hobj:=script_obj L hL;have htk1:nat_lit 632<=s₁.toks:=script_toks L (Aq Prod.snd y);have hT:=G.T;let c:Cx:={prog:=HE.row.prog,w:=w,hB:=s₁.heap,os:=s₁.os,mg:=mg,mb:=mb};have H:lB c:=⟨⟨s₀,Aq Prod.fst y,L.keeps⟩,hT.g⟩;have hbi:∀x:BA,x≠"__name__"->c.mb x=kg x:=hT.builtins;have bm:Oc c:=hT.bmain;have N:=jM H hbi hT.b hT.nolimit;have TT:=fS H hbi bm;have NK:=fV H hbi bm (let⟨mc,h,_⟩:=hT.nodigits;⟨mc,h⟩);have NL:=fU H hbi bm;have R:=fT H hbi;have hS:St c s₁:=⟨.refl _ _,rfl,.of_eq hg,ao H,AA (by decide) htk1⟩;have D:Dq c "law" 24 147 146 "law":=YK H 14 rfl rfl rfl;have hfa:fa=147:=by
    have h2:c.mg "law"=B (.ref fa):=hmg;rw[D.1]at h2;cases h2;rfl
  subst hfa;have ok:=j6 N TT NK NL R D 0;have hA:FD callerA 7:=⟨rfl,by decide+kernel,by decide+kernel⟩;have hlen:ns.length<=1000000:=by omega
  have rd:C3 (fz [] s₁.heap) [.list (zs ns)] [.ref a]:=.cons (.list (Al.mpr ⟨by simp,hobj⟩) (fJ hI)) .nil;refine Gm (MC (ok callerA s₁ [] [.ref a] [.list (zs ns)] (·=.bool AO) hA hS (λb hb=>by cases hb) rd ⟨ns,rfl,hlen,⟨cB ns,λr _=>U1 r⟩,rfl⟩) λr s' hz=>?_);obtain⟨v,d,e,S',g',rv,ed⟩:=hz;subst e ed;cases rv;refine⟨.inl ⟨.bool AO,.bool AO,[],rfl,λcls=>rfl,.bool AO,?_,λ_=>⟨U.nodup_nil,λa ha=>by cases ha⟩⟩,?_,S'.os,S'.bare⟩;·exact bL ns
  · refine⟨λb o e=>?_,λb o e=>?_⟩
    · rcases g' b o e with e'|⟨ht,hcl,vs',more,hd',e'⟩;·exact .inl e'
      · rcases ht with ht|ht;· have :s₁.heap.get? b=AJ:=ht;rw[this]at e;cases e
        ·exact .inr (.inl ⟨ht,hcl,vs',more,hd',e'⟩)
    · rcases g' b o e with e'|⟨ht,hcl,vs',more,hd',e'⟩;·exact⟨_,e'⟩
      ·exact⟨_,e'⟩)
end
end Mine
theorem PySem.Challenge.cw_in0230_02_holds : PySem.Challenge.rw_in0230_02.Holds :=
  Mine.final
